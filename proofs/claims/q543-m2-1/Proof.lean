import JvmDerived
import JvmDerived.Pilot.@@N@@Statement
import JvmDerived.Pilot.@@N@@Code
set_option linter.unusedVariables false
set_option linter.unusedSimpArgs false
namespace Jvm.Pilot.@@N@@
open Jvm Jvm.ClassFile Sem Op Lib Jvm.Free Jvm.Stand Jvm.LawKit Jvm.RoadKit Bundle Jvm.Pilot.@@N@@.Jvm.D
/-- a boolean as an int -/
def own_b (P : Prop) [Decidable P] : Int32 := if P then 1 else 0
theorem own_b1 {P : Prop} [Decidable P] (h : P) : own_b P = 1 := if_pos h
theorem own_b0 {P : Prop} [Decidable P] (h : ¬ P) : own_b P = 0 := if_neg h
theorem own_b0_eq_f {P : Prop} [Decidable P] (h : P) : ifCond.holds .eq (own_b P) = false := by rw [own_b1 h]; rfl
theorem own_b0_eq_t {P : Prop} [Decidable P] (h : ¬ P) : ifCond.holds .eq (own_b P) = true := by rw [own_b0 h]; rfl
theorem own_b0_ne_t {P : Prop} [Decidable P] (h : P) : ifCond.holds .ne (own_b P) = true := by rw [own_b1 h]; rfl
theorem own_b0_ne_f {P : Prop} [Decidable P] (h : ¬ P) : ifCond.holds .ne (own_b P) = false := by rw [own_b0 h]; rfl
theorem own_bnar (P : Prop) [Decidable P] : nar .boolean (own_b P) = own_b P := by by_cases h : P <;> simp [own_b, h, nar]
theorem own_biff {P Q : Prop} [Decidable P] [Decidable Q] (h : P ↔ Q) : own_b P = own_b Q := by by_cases q : Q <;> simp [own_b, h, q]
/-! own_Go: from T with the frame g on top the method's run comes to an end of which P holds. One rule a plain instruction, so that a walk may fork anywhere. -/
def own_Go (p : Program) (e : Env) (below : List Frame) (P : State → Outcome → Prop) (T : State) (g : JFrame) : Prop :=
  ∃ s₂ o, Steps p.tables e below (T.setTop g) s₂ ∧ s₂.status = .running ∧ Ended s₂ below o ∧ P s₂ o
section OwnGo
variable {p : Program} {l : Launch} {e : Env} {R : Room} {s : State} {m : MethodId} {args : Array Value} {below : List Frame} {meth : Method} {c : Code} {T T' : State} {locs : List Loc} {cells slots : Nat} {P : State → Outcome → Prop} {Ls Ls' : Array Slot} {st : List Value} {pc pc' : Nat} {g g' : JFrame}
theorem own_st (h : ∀ t, Steps p.tables e below (T'.setTop g') t → Steps p.tables e below (T.setTop g) t) (k : own_Go p e below P T' g') : own_Go p e below P T g := by
  obtain ⟨s₂, o, h1, h2⟩ := k; exact ⟨s₂, o, h _ h1, h2⟩
theorem own_tr (h : Steps p.tables e below (T.setTop g) (T'.setTop g')) (k : own_Go p e below P T' g') : own_Go p e below P T g := by
  obtain ⟨s₂, o, h1, h2⟩ := k; exact ⟨s₂, o, h.trans h1, h2⟩
theorem own_aloadN (X : Stand p l e R s m args below meth c T locs cells slots) (hx : p.tables.exec = Jvm.exec) {k : Fin 4} {v : Value} (hd : decode c.code pc = .ok (.aload_n k, 1)) (hp : pc + 1 = pc') (hl : Ls[k.val]? = some (.val v)) (hv : v.isRef = true) (h : own_Go p e below P T (mkF m pc' Ls (v :: st))) : own_Go p e below P T (mkF m pc Ls st) := by
  subst hp; exact own_st (fun t k => XS.aloadN X.here hx rfl hd hl hv k) h
theorem own_aload (X : Stand p l e R s m args below meth c T locs cells slots) (hx : p.tables.exec = Jvm.exec) {k : Nat} {v : Value} (hd : decode c.code pc = .ok (.aload k, 2)) (hp : pc + 2 = pc') (hl : Ls[k]? = some (.val v)) (hv : v.isRef = true) (h : own_Go p e below P T (mkF m pc' Ls (v :: st))) : own_Go p e below P T (mkF m pc Ls st) := by
  subst hp; exact own_st (fun t k => XS.aload X.here hx rfl hd hl hv k) h
theorem own_iloadN (X : Stand p l e R s m args below meth c T locs cells slots) (hx : p.tables.exec = Jvm.exec) {k : Fin 4} {v : Int32} (hd : decode c.code pc = .ok (.iload_n k, 1)) (hp : pc + 1 = pc') (hl : Ls[k.val]? = some (.val (.int v))) (h : own_Go p e below P T (mkF m pc' Ls (.int v :: st))) : own_Go p e below P T (mkF m pc Ls st) := by
  subst hp; exact own_st (fun t k => XS.iloadN X.here hx rfl hd hl k) h
theorem own_iload (X : Stand p l e R s m args below meth c T locs cells slots) (hx : p.tables.exec = Jvm.exec) {k : Nat} {v : Int32} (hd : decode c.code pc = .ok (.iload k, 2)) (hp : pc + 2 = pc') (hl : Ls[k]? = some (.val (.int v))) (h : own_Go p e below P T (mkF m pc' Ls (.int v :: st))) : own_Go p e below P T (mkF m pc Ls st) := by
  subst hp; exact own_st (fun t k => XS.iload X.here hx rfl hd hl k) h
theorem own_lloadN (X : Stand p l e R s m args below meth c T locs cells slots) (hx : p.tables.exec = Jvm.exec) {k : Fin 4} {v : Int64} (hd : decode c.code pc = .ok (.lload_n k, 1)) (hp : pc + 1 = pc') (hl : Ls[k.val]? = some (.val (.long v))) (h : own_Go p e below P T (mkF m pc' Ls (.long v :: st))) : own_Go p e below P T (mkF m pc Ls st) := by
  subst hp; exact own_st (fun t k => XT.lloadN X.here hx rfl hd hl k) h
theorem own_lload (X : Stand p l e R s m args below meth c T locs cells slots) (hx : p.tables.exec = Jvm.exec) {k : Nat} {v : Int64} (hd : decode c.code pc = .ok (.lload k, 2)) (hp : pc + 2 = pc') (hl : Ls[k]? = some (.val (.long v))) (h : own_Go p e below P T (mkF m pc' Ls (.long v :: st))) : own_Go p e below P T (mkF m pc Ls st) := by
  subst hp; exact own_st (fun t k => XT.lload X.here hx rfl hd hl k) h
theorem own_iconst (X : Stand p l e R s m args below meth c T locs cells slots) (hx : p.tables.exec = Jvm.exec) {i : Int} (v : Int32) (hd : decode c.code pc = .ok (.iconst i, 1)) (hp : pc + 1 = pc') (hv : Int32.ofInt i = v) (h : own_Go p e below P T (mkF m pc' Ls (.int v :: st))) : own_Go p e below P T (mkF m pc Ls st) := by
  subst hp hv; exact own_st (fun t k => XS.iconst X.here hx rfl hd k) h
theorem own_bipush (X : Stand p l e R s m args below meth c T locs cells slots) (hx : p.tables.exec = Jvm.exec) {i : Int} (v : Int32) (hd : decode c.code pc = .ok (.bipush i, 2)) (hp : pc + 2 = pc') (hv : (Int8.ofInt i).toInt32 = v) (h : own_Go p e below P T (mkF m pc' Ls (.int v :: st))) : own_Go p e below P T (mkF m pc Ls st) := by
  subst hp hv; exact own_st (fun t k => XS.bipush X.here hx rfl hd k) h
theorem own_sipush (X : Stand p l e R s m args below meth c T locs cells slots) (hx : p.tables.exec = Jvm.exec) {i : Int} (v : Int32) (hd : decode c.code pc = .ok (.sipush i, 3)) (hp : pc + 3 = pc') (hv : (Int16.ofInt i).toInt32 = v) (h : own_Go p e below P T (mkF m pc' Ls (.int v :: st))) : own_Go p e below P T (mkF m pc Ls st) := by
  subst hp hv; exact own_st (fun t k => XS.sipush X.here hx rfl hd k) h
theorem own_lconst (X : Stand p l e R s m args below meth c T locs cells slots) (hx : p.tables.exec = Jvm.exec) {i : Fin 2} (v : Int64) (hd : decode c.code pc = .ok (.lconst i, 1)) (hp : pc + 1 = pc') (hv : Int64.ofNat i = v) (h : own_Go p e below P T (mkF m pc' Ls (.long v :: st))) : own_Go p e below P T (mkF m pc Ls st) := by
  subst hp hv; exact own_st (fun t k => XT.lconst X.here hx rfl hd k) h
theorem own_ldcI (X : Stand p l e R s m args below meth c T locs cells slots) (hx : p.tables.exec = Jvm.exec) {own : String} {index : Nat} {v : Int32} (hown : s.vm.findClass own = some m.cls) (hc : (Cond.constant own index v).before args s = true) (hd : decode c.code pc = .ok (.ldc index, 2)) (hp : pc + 2 = pc') (h : own_Go p e below P T (mkF m pc' Ls (.int v :: st))) : own_Go p e below P T (mkF m pc Ls st) := by
  subst hp; exact own_st (fun t k => X.ldcI hx hown hc rfl hd k) h
theorem own_ldcJ (X : Stand p l e R s m args below meth c T locs cells slots) (hx : p.tables.exec = Jvm.exec) {own : String} {index : Nat} {v : Int64} (hown : s.vm.findClass own = some m.cls) (hc : (Cond.constantLong own index v).before args s = true) (hd : decode c.code pc = .ok (.ldc2_w index, 3)) (hp : pc + 3 = pc') (h : own_Go p e below P T (mkF m pc' Ls (.long v :: st))) : own_Go p e below P T (mkF m pc Ls st) := by
  subst hp; exact own_st (fun t k => X.ldc2J hx hown hc rfl hd k) h
theorem own_null (X : Stand p l e R s m args below meth c T locs cells slots) (hx : p.tables.exec = Jvm.exec) (hd : decode c.code pc = .ok (.aconst_null, 1)) (hp : pc + 1 = pc') (h : own_Go p e below P T (mkF m pc' Ls (.null :: st))) : own_Go p e below P T (mkF m pc Ls st) := by
  subst hp; exact own_st (fun t k => XS.aconstNull X.here hx rfl hd k) h
theorem own_iadd (X : Stand p l e R s m args below meth c T locs cells slots) (hx : p.tables.exec = Jvm.exec) {x y : Int32} (hd : decode c.code pc = .ok (.iadd, 1)) (hp : pc + 1 = pc') (h : own_Go p e below P T (mkF m pc' Ls (.int (x + y) :: st))) : own_Go p e below P T (mkF m pc Ls (.int y :: .int x :: st)) := by
  subst hp; exact own_st (fun t k => XS.iadd X.here hx rfl hd rfl k) h
theorem own_isub (X : Stand p l e R s m args below meth c T locs cells slots) (hx : p.tables.exec = Jvm.exec) {x y : Int32} (hd : decode c.code pc = .ok (.isub, 1)) (hp : pc + 1 = pc') (h : own_Go p e below P T (mkF m pc' Ls (.int (x - y) :: st))) : own_Go p e below P T (mkF m pc Ls (.int y :: .int x :: st)) := by
  subst hp; exact own_st (fun t k => XS.isub X.here hx rfl hd rfl k) h
theorem own_iand (X : Stand p l e R s m args below meth c T locs cells slots) (hx : p.tables.exec = Jvm.exec) {x y : Int32} (hd : decode c.code pc = .ok (.iand, 1)) (hp : pc + 1 = pc') (h : own_Go p e below P T (mkF m pc' Ls (.int (x &&& y) :: st))) : own_Go p e below P T (mkF m pc Ls (.int y :: .int x :: st)) := by
  subst hp; exact own_st (fun t k => XS.iand X.here hx rfl hd rfl k) h
theorem own_imul (X : Stand p l e R s m args below meth c T locs cells slots) (hx : p.tables.exec = Jvm.exec) {x y : Int32} (hd : decode c.code pc = .ok (.imul, 1)) (hp : pc + 1 = pc') (h : own_Go p e below P T (mkF m pc' Ls (.int (x * y) :: st))) : own_Go p e below P T (mkF m pc Ls (.int y :: .int x :: st)) := by
  subst hp; exact own_st (fun t k => XS.imul X.here hx rfl hd rfl k) h
theorem own_irem (X : Stand p l e R s m args below meth c T locs cells slots) (hx : p.tables.exec = Jvm.exec) {x y : Int32} (hd : decode c.code pc = .ok (.irem, 1)) (hp : pc + 1 = pc') (hy : y ≠ 0) (h : own_Go p e below P T (mkF m pc' Ls (.int (x % y) :: st))) : own_Go p e below P T (mkF m pc Ls (.int y :: .int x :: st)) := by
  subst hp; exact own_st (fun t k => iremM X hx rfl hd rfl hy k) h
theorem own_ishr (X : Stand p l e R s m args below meth c T locs cells slots) (hx : p.tables.exec = Jvm.exec) {x y : Int32} (hd : decode c.code pc = .ok (.ishr, 1)) (hp : pc + 1 = pc') (h : own_Go p e below P T (mkF m pc' Ls (.int (x >>> (y &&& 31)) :: st))) : own_Go p e below P T (mkF m pc Ls (.int y :: .int x :: st)) := by
  subst hp; exact own_st (fun t k => XT.ishr X.here hx rfl hd rfl k) h
theorem own_iushr (X : Stand p l e R s m args below meth c T locs cells slots) (hx : p.tables.exec = Jvm.exec) {x y : Int32} (hd : decode c.code pc = .ok (.iushr, 1)) (hp : pc + 1 = pc') (h : own_Go p e below P T (mkF m pc' Ls (.int (XT.ushr x y) :: st))) : own_Go p e below P T (mkF m pc Ls (.int y :: .int x :: st)) := by
  subst hp; exact own_st (fun t k => XT.iushr X.here hx rfl hd rfl k) h
theorem own_i2b (X : Stand p l e R s m args below meth c T locs cells slots) (hx : p.tables.exec = Jvm.exec) {x : Int32} (hd : decode c.code pc = .ok (.i2b, 1)) (hp : pc + 1 = pc') (h : own_Go p e below P T (mkF m pc' Ls (.int (nar .byte x) :: st))) : own_Go p e below P T (mkF m pc Ls (.int x :: st)) := by
  subst hp; exact own_st (fun t k => XT.i2b X.here hx rfl hd rfl k) h
theorem own_i2c (X : Stand p l e R s m args below meth c T locs cells slots) (hx : p.tables.exec = Jvm.exec) {x : Int32} (hd : decode c.code pc = .ok (.i2c, 1)) (hp : pc + 1 = pc') (h : own_Go p e below P T (mkF m pc' Ls (.int (nar .char x) :: st))) : own_Go p e below P T (mkF m pc Ls (.int x :: st)) := by
  subst hp; exact own_st (fun t k => XT.i2c X.here hx rfl hd rfl k) h
theorem own_i2l (X : Stand p l e R s m args below meth c T locs cells slots) (hx : p.tables.exec = Jvm.exec) {x : Int32} (hd : decode c.code pc = .ok (.i2l, 1)) (hp : pc + 1 = pc') (h : own_Go p e below P T (mkF m pc' Ls (.long x.toInt64 :: st))) : own_Go p e below P T (mkF m pc Ls (.int x :: st)) := by
  subst hp; exact own_st (fun t k => XT.i2l X.here hx rfl hd rfl k) h
theorem own_l2i (X : Stand p l e R s m args below meth c T locs cells slots) (hx : p.tables.exec = Jvm.exec) {x : Int64} (hd : decode c.code pc = .ok (.l2i, 1)) (hp : pc + 1 = pc') (h : own_Go p e below P T (mkF m pc' Ls (.int x.toInt32 :: st))) : own_Go p e below P T (mkF m pc Ls (.long x :: st)) := by
  subst hp; exact own_st (fun t k => XT.l2i X.here hx rfl hd rfl k) h
theorem own_lushr (X : Stand p l e R s m args below meth c T locs cells slots) (hx : p.tables.exec = Jvm.exec) {x : Int64} {y : Int32} (hd : decode c.code pc = .ok (.lushr, 1)) (hp : pc + 1 = pc') (h : own_Go p e below P T (mkF m pc' Ls (.long (XT.ushrL x y) :: st))) : own_Go p e below P T (mkF m pc Ls (.int y :: .long x :: st)) := by
  subst hp; exact own_st (fun t k => XT.lushr X.here hx rfl hd rfl k) h
theorem own_lcmp (X : Stand p l e R s m args below meth c T locs cells slots) (hx : p.tables.exec = Jvm.exec) {x y : Int64} (hd : decode c.code pc = .ok (.lcmp, 1)) (hp : pc + 1 = pc') (h : own_Go p e below P T (mkF m pc' Ls (.int (XT.cmpL x y) :: st))) : own_Go p e below P T (mkF m pc Ls (.long y :: .long x :: st)) := by
  subst hp; exact own_st (fun t k => XT.lcmp X.here hx rfl hd rfl k) h
theorem own_dup (X : Stand p l e R s m args below meth c T locs cells slots) (hx : p.tables.exec = Jvm.exec) {x : Value} (hd : decode c.code pc = .ok (.dup, 1)) (hp : pc + 1 = pc') (hc : x.category = 1) (h : own_Go p e below P T (mkF m pc' Ls (x :: x :: st))) : own_Go p e below P T (mkF m pc Ls (x :: st)) := by
  subst hp; exact own_st (fun t k => XS.dup X.here hx rfl hd rfl hc k) h
theorem own_dupX1 (X : Stand p l e R s m args below meth c T locs cells slots) (hx : p.tables.exec = Jvm.exec) {x y : Value} (hd : decode c.code pc = .ok (.dup_x1, 1)) (hp : pc + 1 = pc') (hc : x.category = 1) (hc' : y.category = 1) (h : own_Go p e below P T (mkF m pc' Ls (x :: y :: x :: st))) : own_Go p e below P T (mkF m pc Ls (x :: y :: st)) := by
  subst hp; exact own_st (fun t k => XT.dupX1 X.here hx rfl hd rfl hc hc' k) h
theorem own_pop (X : Stand p l e R s m args below meth c T locs cells slots) (hx : p.tables.exec = Jvm.exec) {x : Value} (hd : decode c.code pc = .ok (.pop, 1)) (hp : pc + 1 = pc') (hc : x.category = 1) (h : own_Go p e below P T (mkF m pc' Ls st)) : own_Go p e below P T (mkF m pc Ls (x :: st)) := by
  subst hp; exact own_st (fun t k => XT.pop X.here hx rfl hd rfl hc k) h
theorem own_istoreN (X : Stand p l e R s m args below meth c T locs cells slots) (hx : p.tables.exec = Jvm.exec) {k : Fin 4} {x : Int32} (hd : decode c.code pc = .ok (.istore_n k, 1)) (hp : pc + 1 = pc') (hl : storeLocals Ls k.val (.int x) = some Ls') (h : own_Go p e below P T (mkF m pc' Ls' st)) : own_Go p e below P T (mkF m pc Ls (.int x :: st)) := by
  subst hp; exact own_st (fun t k => XS.istoreN X.here hx rfl hd rfl hl k) h
theorem own_istore (X : Stand p l e R s m args below meth c T locs cells slots) (hx : p.tables.exec = Jvm.exec) {k : Nat} {x : Int32} (hd : decode c.code pc = .ok (.istore k, 2)) (hp : pc + 2 = pc') (hl : storeLocals Ls k (.int x) = some Ls') (h : own_Go p e below P T (mkF m pc' Ls' st)) : own_Go p e below P T (mkF m pc Ls (.int x :: st)) := by
  subst hp; exact own_st (fun t k => XS.istore X.here hx rfl hd rfl hl k) h
theorem own_lstoreN (X : Stand p l e R s m args below meth c T locs cells slots) (hx : p.tables.exec = Jvm.exec) {k : Fin 4} {x : Int64} (hd : decode c.code pc = .ok (.lstore_n k, 1)) (hp : pc + 1 = pc') (hl : storeLocals Ls k.val (.long x) = some Ls') (h : own_Go p e below P T (mkF m pc' Ls' st)) : own_Go p e below P T (mkF m pc Ls (.long x :: st)) := by
  subst hp; exact own_st (fun t k => XT.lstoreN X.here hx rfl hd rfl hl k) h
theorem own_lstore (X : Stand p l e R s m args below meth c T locs cells slots) (hx : p.tables.exec = Jvm.exec) {k : Nat} {x : Int64} (hd : decode c.code pc = .ok (.lstore k, 2)) (hp : pc + 2 = pc') (hl : storeLocals Ls k (.long x) = some Ls') (h : own_Go p e below P T (mkF m pc' Ls' st)) : own_Go p e below P T (mkF m pc Ls (.long x :: st)) := by
  subst hp; exact own_st (fun t k => XT.lstore X.here hx rfl hd rfl hl k) h
theorem own_astoreN (X : Stand p l e R s m args below meth c T locs cells slots) (hx : p.tables.exec = Jvm.exec) {k : Fin 4} {x : Value} (hd : decode c.code pc = .ok (.astore_n k, 1)) (hp : pc + 1 = pc') (hv : x.isRef = true) (hl : storeLocals Ls k.val x = some Ls') (h : own_Go p e below P T (mkF m pc' Ls' st)) : own_Go p e below P T (mkF m pc Ls (x :: st)) := by
  subst hp; exact own_st (fun t k => XS.astoreN X.here hx rfl hd rfl hv hl k) h
theorem own_astore (X : Stand p l e R s m args below meth c T locs cells slots) (hx : p.tables.exec = Jvm.exec) {k : Nat} {x : Value} (hd : decode c.code pc = .ok (.astore k, 2)) (hp : pc + 2 = pc') (hv : x.isRef = true) (hl : storeLocals Ls k x = some Ls') (h : own_Go p e below P T (mkF m pc' Ls' st)) : own_Go p e below P T (mkF m pc Ls (x :: st)) := by
  subst hp; exact own_st (fun t k => XS.astore X.here hx rfl hd rfl hv hl k) h
theorem own_goto (X : Stand p l e R s m args below meth c T locs cells slots) (hx : p.tables.exec = Jvm.exec) {o : Int} (hd : decode c.code pc = .ok (.goto o, 3)) (ho : 0 ≤ (pc : Int) + o) (hp : ((pc : Int) + o).toNat = pc') (h : own_Go p e below P T (mkF m pc' Ls st)) : own_Go p e below P T (mkF m pc Ls st) := by
  exact own_st (fun t k => XS.goto X.here hx rfl (pc0 := pc) rfl hd ho hp k) h
theorem own_ifY (X : Stand p l e R s m args below meth c T locs cells slots) (hx : p.tables.exec = Jvm.exec) {cd : ClassFile.Cond} {x : Int32} {o : Int} (hd : decode c.code pc = .ok (.ifCond cd o, 3)) (hc : ifCond.holds cd x = true) (ho : 0 ≤ (pc : Int) + o) (hp : ((pc : Int) + o).toNat = pc') (h : own_Go p e below P T (mkF m pc' Ls st)) : own_Go p e below P T (mkF m pc Ls (.int x :: st)) := by
  exact own_st (fun t k => XS.ifYes X.here hx rfl (pc0 := pc) rfl hd rfl hc ho hp k) h
theorem own_ifN (X : Stand p l e R s m args below meth c T locs cells slots) (hx : p.tables.exec = Jvm.exec) {cd : ClassFile.Cond} {x : Int32} {o : Int} (hd : decode c.code pc = .ok (.ifCond cd o, 3)) (hc : ifCond.holds cd x = false) (hp : pc + 3 = pc') (h : own_Go p e below P T (mkF m pc' Ls st)) : own_Go p e below P T (mkF m pc Ls (.int x :: st)) := by
  subst hp; exact own_st (fun t k => XS.ifNo X.here hx rfl hd rfl hc k) h
theorem own_icmpY (X : Stand p l e R s m args below meth c T locs cells slots) (hx : p.tables.exec = Jvm.exec) {cd : ClassFile.Cond} {x y : Int32} {o : Int} (hd : decode c.code pc = .ok (.if_icmp cd o, 3)) (hc : if_icmp.holds cd x y = true) (ho : 0 ≤ (pc : Int) + o) (hp : ((pc : Int) + o).toNat = pc') (h : own_Go p e below P T (mkF m pc' Ls st)) : own_Go p e below P T (mkF m pc Ls (.int y :: .int x :: st)) := by
  exact own_st (fun t k => XS.icmpYes X.here hx rfl (pc0 := pc) rfl hd rfl hc ho hp k) h
theorem own_icmpN (X : Stand p l e R s m args below meth c T locs cells slots) (hx : p.tables.exec = Jvm.exec) {cd : ClassFile.Cond} {x y : Int32} {o : Int} (hd : decode c.code pc = .ok (.if_icmp cd o, 3)) (hc : if_icmp.holds cd x y = false) (hp : pc + 3 = pc') (h : own_Go p e below P T (mkF m pc' Ls st)) : own_Go p e below P T (mkF m pc Ls (.int y :: .int x :: st)) := by
  subst hp; exact own_st (fun t k => XS.icmpNo X.here hx rfl hd rfl hc k) h
theorem own_ifnullY (X : Stand p l e R s m args below meth c T locs cells slots) (hx : p.tables.exec = Jvm.exec) {o : Int} (hd : decode c.code pc = .ok (.ifnull o, 3)) (ho : 0 ≤ (pc : Int) + o) (hp : ((pc : Int) + o).toNat = pc') (h : own_Go p e below P T (mkF m pc' Ls st)) : own_Go p e below P T (mkF m pc Ls (.null :: st)) := by
  exact own_st (fun t k => XS.ifnullYes X.here hx rfl (pc0 := pc) rfl hd rfl ho hp k) h
theorem own_ifnullN (X : Stand p l e R s m args below meth c T locs cells slots) (hx : p.tables.exec = Jvm.exec) {a : Addr} {o : Int} (hd : decode c.code pc = .ok (.ifnull o, 3)) (hp : pc + 3 = pc') (h : own_Go p e below P T (mkF m pc' Ls st)) : own_Go p e below P T (mkF m pc Ls (.ref a :: st)) := by
  subst hp; exact own_st (fun t k => XS.ifnullNo X.here hx rfl hd rfl k) h
theorem own_ifnonnullY (X : Stand p l e R s m args below meth c T locs cells slots) (hx : p.tables.exec = Jvm.exec) {a : Addr} {o : Int} (hd : decode c.code pc = .ok (.ifnonnull o, 3)) (ho : 0 ≤ (pc : Int) + o) (hp : ((pc : Int) + o).toNat = pc') (h : own_Go p e below P T (mkF m pc' Ls st)) : own_Go p e below P T (mkF m pc Ls (.ref a :: st)) := by
  exact own_st (fun t k => XT.ifnonnullYes X.here hx rfl (pc0 := pc) rfl hd rfl ho hp k) h
theorem own_ifnonnullN (X : Stand p l e R s m args below meth c T locs cells slots) (hx : p.tables.exec = Jvm.exec) {o : Int} (hd : decode c.code pc = .ok (.ifnonnull o, 3)) (hp : pc + 3 = pc') (h : own_Go p e below P T (mkF m pc' Ls st)) : own_Go p e below P T (mkF m pc Ls (.null :: st)) := by
  subst hp; exact own_st (fun t k => XT.ifnonnullNo X.here hx rfl hd rfl k) h
theorem own_acmpY (X : Stand p l e R s m args below meth c T locs cells slots) (hx : p.tables.exec = Jvm.exec) {cd : ACond} {x y : Value} {o : Int} (h1 : x.isRef = true) (h2 : y.isRef = true) (hd : decode c.code pc = .ok (.if_acmp cd o, 3)) (hc : XT.acmp cd x y = true) (ho : 0 ≤ (pc : Int) + o) (hp : ((pc : Int) + o).toNat = pc') (h : own_Go p e below P T (mkF m pc' Ls st)) : own_Go p e below P T (mkF m pc Ls (y :: x :: st)) := by
  exact own_st (fun t k => XT.acmpYes X.here hx rfl (pc0 := pc) rfl hd rfl h1 h2 hc ho hp k) h
theorem own_acmpN (X : Stand p l e R s m args below meth c T locs cells slots) (hx : p.tables.exec = Jvm.exec) {cd : ACond} {x y : Value} {o : Int} (h1 : x.isRef = true) (h2 : y.isRef = true) (hd : decode c.code pc = .ok (.if_acmp cd o, 3)) (hc : XT.acmp cd x y = false) (hp : pc + 3 = pc') (h : own_Go p e below P T (mkF m pc' Ls st)) : own_Go p e below P T (mkF m pc Ls (y :: x :: st)) := by
  subst hp; exact own_st (fun t k => XT.acmpNo X.here hx rfl hd rfl h1 h2 hc k) h
theorem own_cut (h1 : own_Go p e below P T g' → own_Go p e below P T g) (h2 : own_Go p e below P T g') : own_Go p e below P T g := h1 h2
theorem own_iinc (X : Stand p l e R s m args below meth c T locs cells slots) (hx : p.tables.exec = Jvm.exec) {k : Nat} {cst : Int} {x : Int32} (v : Int32) (hd : decode c.code pc = .ok (.iinc k cst, 3)) (hp : pc + 3 = pc') (hl : Ls[k]? = some (.val (.int x))) (hv : x + Int32.ofInt cst = v) (hs : storeLocals Ls k (.int v) = some Ls') (h : own_Go p e below P T (mkF m pc' Ls' st)) : own_Go p e below P T (mkF m pc Ls st) := by
  subst hp hv; exact own_st (fun t k => XS.iinc X.here hx rfl hd hl hs k) h
abbrev own_End (s : State) (Q : Option Value → Heap → List Loc → Prop) (k n : Nat) : State → Outcome → Prop := fun u o => ∃ v L, o = .returned v ∧ Q v u.heap L ∧ FrameEnd s o u L k n
variable {Q : Option Value → Heap → List Loc → Prop} {ck sn : Nat}
theorem own_retZ (X : Stand p l e R s m args below meth c T locs cells slots) (hx : p.tables.exec = Jvm.exec) (hk : meth.locks = false) {t : FieldType} (hret : meth.sig.returnType = some t) (ht : t = .boolean ∨ t = .byte ∨ t = .char ∨ t = .short) {z : Int32} (hd : decode c.code pc = .ok (.ireturn, 1)) (hc : cells ≤ ck) (hs : slots ≤ sn) (hQ : Q (some (.int (nar t z))) T.heap locs) :
    own_Go p e below (own_End s Q ck sn) T (mkF m pc Ls (.int z :: st)) := by
  obtain ⟨fs, hr, hrun, hended, hW, hsame⟩ := X.leave (v := some (.int (nar t z))) (fun h => by rw [hret] at h; cases h) hk
  exact ⟨_, _, retN X hx hret ht hd hr, hrun, hended, _, _, rfl, hQ, ⟨_, rfl⟩, hW, hsame.mono hc hs⟩
theorem own_retI (X : Stand p l e R s m args below meth c T locs cells slots) (hx : p.tables.exec = Jvm.exec) (hk : meth.locks = false) (hret : meth.sig.returnType = some .int) {z : Int32} (hd : decode c.code pc = .ok (.ireturn, 1)) (hc : cells ≤ ck) (hs : slots ≤ sn) (hQ : Q (some (.int z)) T.heap locs) :
    own_Go p e below (own_End s Q ck sn) T (mkF m pc Ls (.int z :: st)) := by
  obtain ⟨fs, hr, hrun, hended, hW, hsame⟩ := X.leave (v := some (.int z)) (fun h => by rw [hret] at h; cases h) hk
  exact ⟨_, _, retOut X hx hret rfl (Or.inl ⟨rfl, Or.inl rfl, z, rfl⟩) hd hr, hrun, hended, _, _, rfl, hQ, ⟨_, rfl⟩, hW, hsame.mono hc hs⟩
theorem own_retL (X : Stand p l e R s m args below meth c T locs cells slots) (hx : p.tables.exec = Jvm.exec) (hk : meth.locks = false) (hret : meth.sig.returnType = some .long) {z : Int64} (hd : decode c.code pc = .ok (.lreturn, 1)) (hc : cells ≤ ck) (hs : slots ≤ sn) (hQ : Q (some (.long z)) T.heap locs) :
    own_Go p e below (own_End s Q ck sn) T (mkF m pc Ls (.long z :: st)) := by
  obtain ⟨fs, hr, hrun, hended, hW, hsame⟩ := X.leave (v := some (.long z)) (fun h => by rw [hret] at h; cases h) hk
  exact ⟨_, _, retOut X hx hret rfl (Or.inr (Or.inl ⟨rfl, rfl, z, rfl⟩)) hd hr, hrun, hended, _, _, rfl, hQ, ⟨_, rfl⟩, hW, hsame.mono hc hs⟩
theorem own_narR {t : FieldType} {w : Value} (ht : t.isReference = true) (hw : w.isRef = true) : narrow t w = w := by
  rcases ref_cases hw with rfl | ⟨a, rfl⟩ <;> cases t <;> first | rfl | (cases ht; done)
theorem own_retA (X : Stand p l e R s m args below meth c T locs cells slots) (hx : p.tables.exec = Jvm.exec) (hk : meth.locks = false) {t : FieldType} (hret : meth.sig.returnType = some t) (ht : t.isReference = true) {w : Value} (hw : w.isRef = true) (hd : decode c.code pc = .ok (.areturn, 1)) (hc : cells ≤ ck) (hs : slots ≤ sn) (hQ : Q (some w) T.heap locs) :
    own_Go p e below (own_End s Q ck sn) T (mkF m pc Ls (w :: st)) := by
  obtain ⟨fs, hr, hrun, hended, hW, hsame⟩ := X.leave (v := some w) (fun h => by rw [hret] at h; cases h) hk
  exact ⟨_, _, retOut X hx hret (own_narR ht hw) (Or.inr (Or.inr (Or.inr (Or.inr ⟨rfl, ht, hw⟩)))) hd hr, hrun, hended, _, _, rfl, hQ, ⟨_, rfl⟩, hW, hsame.mono hc hs⟩
theorem own_retV (X : Stand p l e R s m args below meth c T locs cells slots) (hx : p.tables.exec = Jvm.exec) (hk : meth.locks = false) (hret : meth.sig.returnType = none) (hd : decode c.code pc = .ok (.return_, 1)) (hc : cells ≤ ck) (hs : slots ≤ sn) (hQ : Q none T.heap locs) :
    own_Go p e below (own_End s Q ck sn) T (mkF m pc Ls []) := by
  obtain ⟨fs, hr, hrun, hended, hW, hsame⟩ := X.leave (v := none) (fun _ => rfl) hk
  exact ⟨_, _, X.returnOut hx hret hd hr, hrun, hended, _, _, rfl, hQ, ⟨_, rfl⟩, hW, hsame.mono hc hs⟩
end OwnGo
section OwnArr
variable {p : Program} {l : Launch} {e : Env} {R : Room} {s : State} {m : MethodId} {args : Array Value} {below : List Frame} {meth : Method} {c : Code} {T : State} {locs : List Loc} {cells slots : Nat} {P : State → Outcome → Prop} {Ls : Array Slot} {st : List Value} {pc pc' : Nat} {Z : State} {h : Heap} {a : Addr} {k : ClassId} {ty : FieldType} {n j : Int32} {vs : List Value} {dv : Value}
theorem own_alen (X : Stand p l e R s m args below meth c T locs cells slots) (hx : p.tables.exec = Jvm.exec) (hZ : Z.Warmed39 s.vm) (eT : T.heap = h) (V : Arv Z h a k ty n vs dv) (hd : decode c.code pc = .ok (.arraylength, 1)) (hp : pc + 1 = pc') (hk : own_Go p e below P T (mkF m pc' Ls (.int n :: st))) : own_Go p e below P T (mkF m pc Ls (.ref a :: st)) := by
  subst hp
  obtain ⟨cl, A, -, S, q, -, -⟩ := V
  have w := X.arraylength hx (by rw [eT]; exact A.1) (State.isArrayOf_alike hZ.alike A.2.1) (g := mkF m pc Ls (.ref a :: st)) rfl rfl hd
  rw [len_of S q] at w
  exact own_st w hk
theorem own_baload (X : Stand p l e R s m args below meth c T locs cells slots) (hx : p.tables.exec = Jvm.exec) (hZ : Z.Warmed39 s.vm) (eT : T.heap = h) (V : Arv Z h a k .byte n vs dv) {x : Int32} (hj : ¬ j < 0 ∧ j < n) (hv : vs.getD j.toNatClampNeg dv = .int x) (hd : decode c.code pc = .ok (.baload, 1)) (hp : pc + 1 = pc') (hk : own_Go p e below P T (mkF m pc' Ls (.int x :: st))) : own_Go p e below P T (mkF m pc Ls (.int j :: .ref a :: st)) := by
  subst hp
  obtain ⟨cl, A, -, S, q, H, -⟩ := V
  exact own_st (X.baloadBytes hx (j := j) (v := .int x) (by rw [eT]; exact A.1) (State.isArrayOf_alike hZ.alike A.2.1) A.2.2 (inb_of S hj) (H.at (inb_of S hj) hv) (g := mkF m pc Ls (.int j :: .ref a :: st)) rfl rfl hd) hk
theorem own_aaload (X : Stand p l e R s m args below meth c T locs cells slots) (hx : p.tables.exec = Jvm.exec) (hZ : Z.Warmed39 s.vm) (eT : T.heap = h) (V : Arv Z h a k ty n vs dv) (ht : ty.isReference = true) {x : Value} (hj : ¬ j < 0 ∧ j < n) (hv : vs.getD j.toNatClampNeg dv = x) (hd : decode c.code pc = .ok (.aaload, 1)) (hp : pc + 1 = pc') (hk : own_Go p e below P T (mkF m pc' Ls (x :: st))) : own_Go p e below P T (mkF m pc Ls (.int j :: .ref a :: st)) := by
  subst hp
  obtain ⟨cl, A, -, S, q, H, -⟩ := V
  exact own_st (X.aaload hx (j := j) (v := x) (by rw [eT]; exact A.1) (State.isArrayOf_alike hZ.alike A.2.1) ht A.2.2 (inb_of S hj) (H.at (inb_of S hj) hv) (g := mkF m pc Ls (.int j :: .ref a :: st)) rfl rfl hd) hk
/-- a byte stored: the list with that place set -/
theorem own_bastore (X : Stand p l e R s m args below meth c T locs cells slots) (hx : p.tables.exec = Jvm.exec) (hZ : Z.Warmed39 s.vm) (eT : T.heap = h) (V : Arv Z h a k .byte n vs dv) (i : Nat) {x : Int32} (hj : ¬ j < 0 ∧ j < n) (hi : j.toNatClampNeg = i) (hl : i < vs.length) (hd : decode c.code pc = .ok (.bastore, 1)) :
    ∃ T' h', Stand p l e R s m args below meth c T' (locs ++ [⟨a, j.toNatClampNeg⟩]) cells slots ∧ T'.heap = h' ∧ Wr h h' a j.toNatClampNeg (.int (nar .byte x)) ∧ Arv Z h' a k .byte n (vs.set i (.int (nar .byte x))) dv ∧ ∀ target, Steps p.tables e below (T'.setTop (mkF m (pc + 1) Ls st)) target → Steps p.tables e below (T.setTop (mkF m pc Ls (.int x :: .int j :: .ref a :: st))) target := by
  obtain ⟨cl, A, q1, S, q, H, G⟩ := V
  obtain ⟨T', h', X', e', W, st'⟩ := stB X hx hZ eT A (j := j) (x := x) (inb_of S hj) (g := mkF m pc Ls (.int x :: .int j :: .ref a :: st)) rfl rfl hd
  exact ⟨T', h', X', e', W, Arv.set A q1 S q H G (fits_nar_byte x) W i hi hl, st'⟩
end OwnArr
/-- an array of n places, whatever they hold -/
def own_Len (Z : State) (h : Heap) (a : Addr) (ty : FieldType) (n : Int32) : Prop := ∃ c : Cell, Arr Z h a c ty ∧ c.slots.size = n.toNatClampNeg ∧ ¬ n < 0
section OwnLen
variable {p : Program} {l : Launch} {e : Env} {R : Room} {s : State} {m : MethodId} {args : Array Value} {below : List Frame} {meth : Method} {c : Code} {T : State} {locs : List Loc} {cells slots : Nat} {P : State → Outcome → Prop} {Ls : Array Slot} {st : List Value} {pc pc' : Nat} {Z : State} {h h' : Heap} {a b : Addr} {ty : FieldType} {n j : Int32} {sl : Nat} {v : Value}
theorem own_Len.lt (F : own_Len Z h a ty n) : a < h.size := by obtain ⟨c, A, -⟩ := F; exact A.lt
theorem own_Len.ext (F : own_Len Z h a ty n) (E : Ext h h') : own_Len Z h' a ty n := by obtain ⟨c, A, r⟩ := F; exact ⟨c, A.ext E, r⟩
theorem own_Len.wr (F : own_Len Z h b ty n) (W : Wr h h' a sl v) : own_Len Z h' b ty n := by
  obtain ⟨c, A, S, q⟩ := F
  by_cases g : b = a
  · subst g; exact ⟨_, A.same W, by rw [sz_set]; exact S, q⟩
  · exact ⟨c, A.other W g, S, q⟩
theorem own_Len.keep {ws : List Addr} (F : own_Len Z h a ty n) (K : Keep h h' ws) : own_Len Z h' a ty n := by
  obtain ⟨c, ⟨A1, A2, A3⟩, S, q⟩ := F
  obtain ⟨c', h1, h2, h3, h4⟩ := K.2.2 a c A1
  refine ⟨c', ⟨h1, ?_, by rw [h3]; exact A3⟩, by rw [h4]; exact S, q⟩
  obtain ⟨B1, k, B2, B3⟩ := A2
  exact ⟨by rw [h3]; exact B1, k, by rw [h2]; exact B2, B3⟩
theorem own_alenL (X : Stand p l e R s m args below meth c T locs cells slots) (hx : p.tables.exec = Jvm.exec) (hZ : Z.Warmed39 s.vm) (eT : T.heap = h) (V : own_Len Z h a ty n) (hd : decode c.code pc = .ok (.arraylength, 1)) (hp : pc + 1 = pc') (hk : own_Go p e below P T (mkF m pc' Ls (.int n :: st))) : own_Go p e below P T (mkF m pc Ls (.ref a :: st)) := by
  subst hp
  obtain ⟨cl, A, S, q⟩ := V
  have w := X.arraylength hx (by rw [eT]; exact A.1) (State.isArrayOf_alike hZ.alike A.2.1) (g := mkF m pc Ls (.ref a :: st)) rfl rfl hd
  rw [len_of S q] at w
  exact own_st w hk
theorem own_aastoreNull (X : Stand p l e R s m args below meth c T locs cells slots) (hx : p.tables.exec = Jvm.exec) (hZ : Z.Warmed39 s.vm) (eT : T.heap = h) (V : own_Len Z h a ty n) (ht : ty.isReference = true) (hj : ¬ j < 0 ∧ j < n) (hd : decode c.code pc = .ok (.aastore, 1)) :
    ∃ T' h', Stand p l e R s m args below meth c T' (locs ++ [⟨a, j.toNatClampNeg⟩]) cells slots ∧ T'.heap = h' ∧ Wr h h' a j.toNatClampNeg .null ∧ ∀ target, Steps p.tables e below (T'.setTop (mkF m (pc + 1) Ls st)) target → Steps p.tables e below (T.setTop (mkF m pc Ls (.null :: .int j :: .ref a :: st))) target := by
  obtain ⟨cl, A, S, q⟩ := V
  exact stR X hx hZ eT A (inb_of S hj) ht (Or.inl rfl) (g := mkF m pc Ls (.null :: .int j :: .ref a :: st)) rfl rfl hd
theorem own_aastoreRef (X : Stand p l e R s m args below meth c T locs cells slots) (hx : p.tables.exec = Jvm.exec) (hZ : Z.Warmed39 s.vm) (eT : T.heap = h) (V : own_Len Z h a ty n) (ht : ty.isReference = true) (hj : ¬ j < 0 ∧ j < n) (F : Sto Z h a v) (hd : decode c.code pc = .ok (.aastore, 1)) :
    ∃ T' h', Stand p l e R s m args below meth c T' (locs ++ [⟨a, j.toNatClampNeg⟩]) cells slots ∧ T'.heap = h' ∧ Wr h h' a j.toNatClampNeg v ∧ ∀ target, Steps p.tables e below (T'.setTop (mkF m (pc + 1) Ls st)) target → Steps p.tables e below (T.setTop (mkF m pc Ls (v :: .int j :: .ref a :: st))) target := by
  obtain ⟨cl, A, S, q⟩ := V
  exact stR X hx hZ eT A (inb_of S hj) ht F (g := mkF m pc Ls (v :: .int j :: .ref a :: st)) rfl rfl hd
theorem own_lastore (X : Stand p l e R s m args below meth c T locs cells slots) (hx : p.tables.exec = Jvm.exec) (hZ : Z.Warmed39 s.vm) (eT : T.heap = h) (V : own_Len Z h a .long n) {x : Int64} (hj : ¬ j < 0 ∧ j < n) (hd : decode c.code pc = .ok (.lastore, 1)) :
    ∃ T' h', Stand p l e R s m args below meth c T' (locs ++ [⟨a, j.toNatClampNeg⟩]) cells slots ∧ T'.heap = h' ∧ Wr h h' a j.toNatClampNeg (.long x) ∧ ∀ target, Steps p.tables e below (T'.setTop (mkF m (pc + 1) Ls st)) target → Steps p.tables e below (T.setTop (mkF m pc Ls (.long x :: .int j :: .ref a :: st))) target := by
  obtain ⟨cl, A, S, q⟩ := V
  exact stJ X hx hZ eT A (inb_of S hj) (g := mkF m pc Ls (.long x :: .int j :: .ref a :: st)) rfl rfl hd
/-- an array of references to C, of n places -/
def own_LenO (Z : State) (h : Heap) (a : Addr) (C : String) (n : Int32) : Prop := ∃ c : Cell, Arr Z h a c (.object C) ∧ c.slots.size = n.toNatClampNeg ∧ ¬ n < 0 ∧ Ovr Z c.cls C
theorem own_LenO.len {C : String} (F : own_LenO Z h a C n) : own_Len Z h a (.object C) n := by obtain ⟨c, A, S, q, -⟩ := F; exact ⟨c, A, S, q⟩
theorem own_LenO.lt {C : String} (F : own_LenO Z h a C n) : a < h.size := by obtain ⟨c, A, -⟩ := F; exact A.lt
theorem own_LenO.ext {C : String} (F : own_LenO Z h a C n) (E : Ext h h') : own_LenO Z h' a C n := by obtain ⟨c, A, r⟩ := F; exact ⟨c, A.ext E, r⟩
theorem own_LenO.wr {C : String} (F : own_LenO Z h b C n) (W : Wr h h' a sl v) : own_LenO Z h' b C n := by
  obtain ⟨c, A, S, q, O⟩ := F
  by_cases g : b = a
  · subst g; exact ⟨_, A.same W, by rw [sz_set]; exact S, q, O⟩
  · exact ⟨c, A.other W g, S, q, O⟩
theorem own_LenO.keep {C : String} {ws : List Addr} (F : own_LenO Z h a C n) (K : Keep h h' ws) : own_LenO Z h' a C n := by
  obtain ⟨c, ⟨A1, A2, A3⟩, S, q, O⟩ := F
  obtain ⟨c', h1, h2, h3, h4⟩ := K.2.2 a c A1
  refine ⟨c', ⟨h1, ?_, by rw [h3]; exact A3⟩, by rw [h4]; exact S, q, by rw [h2]; exact O⟩
  obtain ⟨B1, k, B2, B3⟩ := A2
  exact ⟨by rw [h3]; exact B1, k, by rw [h2]; exact B2, B3⟩
theorem own_LenO.sto {C : String} {y : Addr} (F : own_LenO Z h a C n) (I : Ins Z h y C true) : Sto Z h a (.ref y) := by obtain ⟨c, A, S, q, O⟩ := F; exact Sto.of A O I
end OwnLen
def own_min (x y : Int32) : Int32 := if y < x then y else x
theorem own_ltm {x a b : Int32} (h : x < a) (g : a < b) : x < b := by rw [Int32.lt_iff_toInt_lt] at *; omega
theorem own_cc (x : Int32) : ∃ c : Int32, c = 1 + (x &&& 15) ∧ ¬ c < 0 ∧ c.toNatClampNeg ≤ 16 ∧ ¬ ((0 : Int32) = c) := by
  refine ⟨_, rfl, ?_⟩
  have h1 := c_and x 15 (by decide)
  have h2 := c_iadd 1 (x &&& 15)
  have h3 := rng32 (1 + (x &&& 15))
  have e1 : (1 : Int32).toInt = 1 := rfl
  have e2 : (15 : Int32).toInt = 15 := rfl
  have e3 : (0 : Int32).toInt = 0 := rfl
  rw [e2] at h1; rw [e1] at h2
  generalize 1 + (x &&& 15) = c at *
  simp only [Int32.lt_iff_toInt_lt, ← Int32.toInt_inj, Int32.toNatClampNeg, e3]
  refine ⟨by omega, by omega, by omega⟩
theorem own_minge {c r k : Int32} (h : ¬ own_min c r < k) : ¬ c < k := fun q => h (by
  unfold own_min; split
  · rename_i g; rw [Int32.lt_iff_toInt_lt] at *; omega
  · exact q)
theorem own_in0 {c r : Int32} (h : ¬ own_min c r < 1) : (0 : Int32) < c := by have q := own_minge h; rw [Int32.lt_iff_toInt_lt] at *; have e0 : (0 : Int32).toInt = 0 := rfl; have e1 : (1 : Int32).toInt = 1 := rfl; omega
theorem own_in1 {c r : Int32} (h : ¬ own_min c r < 2) : (1 : Int32) < c := by have q := own_minge h; rw [Int32.lt_iff_toInt_lt] at *; have e0 : (1 : Int32).toInt = 1 := rfl; have e1 : (2 : Int32).toInt = 2 := rfl; omega
theorem own_in2 {c r : Int32} (h : ¬ own_min c r < 3) : (2 : Int32) < c := by have q := own_minge h; rw [Int32.lt_iff_toInt_lt] at *; have e0 : (2 : Int32).toInt = 2 := rfl; have e1 : (3 : Int32).toInt = 3 := rfl; omega
theorem own_in3 {c r : Int32} (h : ¬ own_min c r < 4) : (3 : Int32) < c := by have q := own_minge h; rw [Int32.lt_iff_toInt_lt] at *; have e0 : (3 : Int32).toInt = 3 := rfl; have e1 : (4 : Int32).toInt = 4 := rfl; omega
theorem d1_0 : decode jdk_29_method_69_code 0 = .ok (.iload_n 0, 1) := by decide +kernel
theorem d1_1 : decode jdk_29_method_69_code 1 = .ok (.iload_n 1, 1) := by decide +kernel
theorem d1_2 : decode jdk_29_method_69_code 2 = .ok (.if_icmp .gt 7, 3) := by decide +kernel
theorem d1_9 : decode jdk_29_method_69_code 9 = .ok (.iload_n 1, 1) := by decide +kernel
theorem d1_10 : decode jdk_29_method_69_code 10 = .ok (.ireturn, 1) := by decide +kernel
theorem d1_5 : decode jdk_29_method_69_code 5 = .ok (.iload_n 0, 1) := by decide +kernel
theorem d1_6 : decode jdk_29_method_69_code 6 = .ok (.goto 4, 3) := by decide +kernel
theorem pn1 : plainFor (⟨"java/lang/Math", "min", "(II)I"⟩ : MethodName) = true := by first | exact plainFor_of_name (by first | (simp [plainName, overriddenIn]; done) | decide +kernel) | decide +kernel
theorem ef1 (m : MethodId) (x1 : Int32) (x2 : Int32) : entryFrame m #[(.int x1), (.int x2)] 2 = mkF m 0 #[.val (.int x1), .val (.int x2)] [] := by first | (simp [entryFrame, mkF, argsToLocals, Value.category]; done) | rfl
def Q1 (Z : State) (x1 : Int32) (x2 : Int32) (h0 : Heap) (n0 : Nat) (v : Option Value) (h : Heap) (L : List Loc) : Prop := v = some (.int (own_min x1 x2)) ∧ Fr n0 L ∧ h = h0
set_option maxRecDepth 65536 in
set_option maxHeartbeats 40000000 in
theorem rm1 (l : Launch) (Z : State) (a0 : Array Value) (hw : ∀ d ∈ tables_1, d.before a0 Z = true) (ws : List Jvm.Cond) (x1 : Int32) (x2 : Int32) (h0 : Heap) (n0 : Nat) (Z0 : n0 ≤ h0.size) :
    MetFree l (⟨"java/lang/Math", "min", "(II)I"⟩ : MethodName) (head1 (Jvm.Cond.code (⟨"java/lang/Math", "min", "(II)I"⟩ : MethodName) jdk_29_method_69_code 2 (some .int) :: ws) ({ frames := 0, cells := 0, slots := 0, locals := 0 } : Room)) (fun a U => a = #[(.int x1), (.int x2)] ∧ Z.Warmed39 U.vm ∧ U.heap = h0) (fun _ _ _ _ _ => True) (fun _ U o U' => ∃ v L, o = .returned v ∧ Q1 Z x1 x2 h0 n0 v U'.heap L ∧ FrameEnd U o U' L ({ frames := 0, cells := 0, slots := 0, locals := 0 } : Room).cells ({ frames := 0, cells := 0, slots := 0, locals := 0 } : Room).slots) := by
  refine MetFree.of_bodySF pn1 hisR ?_
  intro p e s m args below meth c s₁ Bd hml0 hP hK
  obtain ⟨rfl, hZ, hh⟩ := hP
  have hx := Bd.exec
  have hby := Bd.bytes
  have hlk : meth.locks = false := BodyLoose.notSynchronized Bd
  have hml : c.maxLocals = 2 := hml0
  have hown : s.vm.findClass "java/lang/Math" = some m.cls := findClass_of_methodNamed Bd.named
  have hnm := (name_of_methodNamed Bd.named Bd.method).1
  have X0 : Stand p l e ({ frames := 0, cells := 0, slots := 0, locals := 0 } : Room) s m #[(.int x1), (.int x2)] below meth c s₁ [] 0 0 := Stand.of_body Bd
  have e0 : s₁.heap = h0 := by rw [← hh, Bd.state]; rfl
  have N0 := Fr.nil n0
  rw [ef1 m x1 x2]
  show own_Go p e below (own_End s (Q1 Z x1 x2 h0 n0) ({ frames := 0, cells := 0, slots := 0, locals := 0 } : Room).cells ({ frames := 0, cells := 0, slots := 0, locals := 0 } : Room).slots) s₁ (mkF m 0 #[.val (.int x1), .val (.int x2)] [])
  refine own_iloadN X0 hx (hb hby d1_0) (pc' := 1) rfl rfl ?_
  refine own_iloadN X0 hx (hb hby d1_1) (pc' := 2) rfl rfl ?_
  by_cases c_1 : x2 < x1
  · skip
    refine own_icmpY X0 hx (hb hby d1_2) (XT.ii_gt_t c_1) (pc' := 9) (by decide) (by decide) ?_
    refine own_iloadN X0 hx (hb hby d1_9) (pc' := 10) rfl rfl ?_
    refine own_retI X0 hx hlk Bd.returns (hb hby d1_10) (by decide) (by decide) ?_
    rw [e0]
    exact ⟨by simp [own_min, c_1], N0, rfl⟩
  · skip
    refine own_icmpN X0 hx (hb hby d1_2) (XT.ii_gt_f c_1) (pc' := 5) rfl ?_
    refine own_iloadN X0 hx (hb hby d1_5) (pc' := 6) rfl rfl ?_
    refine own_goto X0 hx (hb hby d1_6) (pc' := 10) (by decide) (by decide) ?_
    refine own_retI X0 hx hlk Bd.returns (hb hby d1_10) (by decide) (by decide) ?_
    rw [e0]
    exact ⟨by simp [own_min, c_1], N0, rfl⟩
theorem d2_0 : decode prog_46_method_1_code 0 = .ok (.aload_n 0, 1) := by decide +kernel
theorem d2_1 : decode prog_46_method_1_code 1 = .ok (.invokespecial 1, 3) := by decide +kernel
theorem d2_4 : decode prog_46_method_1_code 4 = .ok (.aload_n 0, 1) := by decide +kernel
theorem d2_5 : decode prog_46_method_1_code 5 = .ok (.iload_n 1, 1) := by decide +kernel
theorem d2_6 : decode prog_46_method_1_code 6 = .ok (.anewarray 7, 3) := by decide +kernel
theorem d2_9 : decode prog_46_method_1_code 9 = .ok (.putfield 9, 3) := by decide +kernel
theorem d2_12 : decode prog_46_method_1_code 12 = .ok (.aload_n 0, 1) := by decide +kernel
theorem d2_13 : decode prog_46_method_1_code 13 = .ok (.iload_n 1, 1) := by decide +kernel
theorem d2_14 : decode prog_46_method_1_code 14 = .ok (.newarray .long, 2) := by decide +kernel
theorem d2_16 : decode prog_46_method_1_code 16 = .ok (.putfield 15, 3) := by decide +kernel
theorem d2_19 : decode prog_46_method_1_code 19 = .ok (.return_, 1) := by decide +kernel
theorem pn2 : plainFor (⟨"com/example/sluicegate/sluicegate/Instance$Shipment", "<init>", "(I)V"⟩ : MethodName) = true := by first | exact plainFor_of_name (by first | (simp [plainName, overriddenIn]; done) | decide +kernel) | decide +kernel
theorem ef2 (m : MethodId) (a1 : Addr) (c1 : Int32) : entryFrame m #[(.ref a1), (.int c1)] 2 = mkF m 0 #[.val (.ref a1), .val (.int c1)] [] := by first | (simp [entryFrame, mkF, argsToLocals, Value.category]; done) | rfl
def Q2 (Z : State) (a1 : Addr) (c1 : Int32) (h0 : Heap) (n0 : Nat) (v : Option Value) (h : Heap) (L : List Loc) : Prop := v = none ∧ Fr n0 L ∧ Keep h0 h [a1] ∧ ∃ ev rl : Addr, Fld Z h a1 "com/example/sluicegate/sluicegate/Instance$Shipment" "events" "[Lcom/example/sluicegate/sluicegate/Event;" (.ref ev) ∧ Fld Z h a1 "com/example/sluicegate/sluicegate/Instance$Shipment" "released" "[J" (.ref rl) ∧ Fld Z h a1 "com/example/sluicegate/sluicegate/Instance$Shipment" "size" "I" (.int (0 : Int32)) ∧ own_Len Z h ev (.object "com/example/sluicegate/sluicegate/Event") c1 ∧ own_Len Z h rl .long c1 ∧ n0 ≤ ev ∧ n0 ≤ rl ∧ a1 ≠ ev ∧ a1 ≠ rl
set_option maxRecDepth 65536 in
set_option maxHeartbeats 40000000 in
theorem rm2 (l : Launch) (Z : State) (a0 : Array Value) (hw : ∀ d ∈ tables_1, d.before a0 Z = true) (ws : List Jvm.Cond) (a1 : Addr) (c1 : Int32) (h0 : Heap) (n0 : Nat) (Z0 : n0 ≤ h0.size) (A_a : Exa Z h0 a1 "com/example/sluicegate/sluicegate/Instance$Shipment") (F_e : Fld Z h0 a1 "com/example/sluicegate/sluicegate/Instance$Shipment" "events" "[Lcom/example/sluicegate/sluicegate/Event;" (.null)) (F_r : Fld Z h0 a1 "com/example/sluicegate/sluicegate/Instance$Shipment" "released" "[J" (.null)) (F_s : Fld Z h0 a1 "com/example/sluicegate/sluicegate/Instance$Shipment" "size" "I" (.int (0 : Int32))) (ga : n0 ≤ a1) (hc0 : ¬ c1 < 0) (hc1 : c1.toNatClampNeg ≤ 16) :
    MetFree l (⟨"com/example/sluicegate/sluicegate/Instance$Shipment", "<init>", "(I)V"⟩ : MethodName) (head1 (Jvm.Cond.code (⟨"com/example/sluicegate/sluicegate/Instance$Shipment", "<init>", "(I)V"⟩ : MethodName) prog_46_method_1_code 2 none :: ws) ({ frames := 1, cells := 2, slots := 32, locals := 12 } : Room)) (fun a U => a = #[(.ref a1), (.int c1)] ∧ Z.Warmed39 U.vm ∧ U.heap = h0) (fun _ _ _ _ _ => True) (fun _ U o U' => ∃ v L, o = .returned v ∧ Q2 Z a1 c1 h0 n0 v U'.heap L ∧ FrameEnd U o U' L ({ frames := 1, cells := 2, slots := 32, locals := 12 } : Room).cells ({ frames := 1, cells := 2, slots := 32, locals := 12 } : Room).slots) := by
  refine MetFree.of_bodySF pn2 hisR ?_
  intro p e s m args below meth c s₁ Bd hml0 hP hK
  obtain ⟨rfl, hZ, hh⟩ := hP
  have hx := Bd.exec
  have hby := Bd.bytes
  have hlk : meth.locks = false := BodyLoose.notSynchronized Bd
  have hml : c.maxLocals = 2 := hml0
  have hown : s.vm.findClass "com/example/sluicegate/sluicegate/Instance$Shipment" = some m.cls := findClass_of_methodNamed Bd.named
  have hnm := (name_of_methodNamed Bd.named Bd.method).1
  have X0 : Stand p l e ({ frames := 1, cells := 2, slots := 32, locals := 12 } : Room) s m #[(.ref a1), (.int c1)] below meth c s₁ [] 0 0 := Stand.of_body Bd
  have e0 : s₁.heap = h0 := by rw [← hh, Bd.state]; rfl
  have N0 := Fr.nil n0
  have K0 : Keep h0 h0 [a1] := Keep.refl _ _
  rw [ef2 m a1 c1]
  show own_Go p e below (own_End s (Q2 Z a1 c1 h0 n0) ({ frames := 1, cells := 2, slots := 32, locals := 12 } : Room).cells ({ frames := 1, cells := 2, slots := 32, locals := 12 } : Room).slots) s₁ (mkF m 0 #[.val (.ref a1), .val (.int c1)] [])
  refine own_aloadN X0 hx (hb hby d2_0) (pc' := 1) rfl rfl rfl ?_
  obtain ⟨T_1, X_1, e_1, st_1⟩ := initO X0 hx hZ hown (hw _ (List.mem_of_getElem? (i := 11) rfl)) (hw _ (List.mem_of_getElem? (i := 12) rfl)) (hw _ (List.mem_of_getElem? (i := 13) rfl)) e0 (g := (mkF m 1 #[.val (.ref a1), .val (.int c1)] [(.ref a1)])) rfl (by rw [hml]; rfl) rfl (hb hby d2_1) (by decide) (W := 0) (by show 2 * 0 + _ ≤ _; exact Nat.le_of_eq rfl) (by decide)
  refine own_st st_1 ?_
  show own_Go p e below _ T_1 (mkF m 4 #[.val (.ref a1), .val (.int c1)] [])
  refine own_aloadN X_1 hx (hb hby d2_4) (pc' := 5) rfl rfl rfl ?_
  refine own_iloadN X_1 hx (hb hby d2_5) (pc' := 6) rfl rfl ?_
  obtain ⟨T_2, h_2, kc_2, X_2, e_2, E_2, A_2, O_2, st_2⟩ := newR X_1 hx hZ hown (hw _ (List.mem_of_getElem? (i := 14) rfl)) (hw _ (List.mem_of_getElem? (i := 15) rfl)) e_1 (g := (mkF m 6 #[.val (.ref a1), .val (.int c1)] [(.int c1), (.ref a1)])) rfl (hb hby d2_6) rfl hc0 (cap := 16) hc1 (by decide) (by decide) (by decide)
  obtain ⟨a_2, g_2⟩ : ∃ z, z = h0.size := ⟨_, rfl⟩
  rw [← g_2] at A_2 st_2
  have ge_2 : n0 ≤ a_2 := Nat.le_trans Z0 (Nat.le_of_eq g_2.symm)
  have nw_2 : h0.size ≤ a_2 := Nat.le_trans K0.1 (Nat.le_of_eq g_2.symm)
  have ne_2_a1 : a1 ≠ a_2 := Nat.ne_of_lt (Nat.lt_of_lt_of_eq A_a.lt g_2.symm)
  have A_4 : Exa Z h_2 a1 "com/example/sluicegate/sluicegate/Instance$Shipment" := A_a.ext E_2
  have F_5 : Fld Z h_2 a1 "com/example/sluicegate/sluicegate/Instance$Shipment" "events" "[Lcom/example/sluicegate/sluicegate/Event;" (.null) := F_e.ext E_2
  have F_6 : Fld Z h_2 a1 "com/example/sluicegate/sluicegate/Instance$Shipment" "released" "[J" (.null) := F_r.ext E_2
  have F_7 : Fld Z h_2 a1 "com/example/sluicegate/sluicegate/Instance$Shipment" "size" "I" (.int (0 : Int32)) := F_s.ext E_2
  have Z_3 : n0 ≤ h_2.size := Nat.le_trans Z0 E_2.1
  have K_3 : Keep h0 h_2 [a1] := K0.ext E_2
  have V_8 : own_Len Z h_2 a_2 (.object "com/example/sluicegate/sluicegate/Event") c1 := ⟨_, A_2, sz_new _ _ _, hc0⟩
  refine own_st st_2 ?_
  show own_Go p e below _ T_2 (mkF m 9 #[.val (.ref a1), .val (.int c1)] [(.ref a_2), (.ref a1)])
  obtain ⟨T_9, h_9, X_9, e_9, W_9, st_9⟩ := putF X_2 hx hZ hown (host := "") (Or.inl (hw _ (List.mem_of_getElem? (i := 16) rfl))) Via.refl e_2 F_5 A_4 (Or.inr ⟨(hw _ (List.mem_of_getElem? (i := 17) rfl)), rfl, hnm⟩) (hw _ (List.mem_of_getElem? (i := 6) rfl)) (ty := (.array (.object "com/example/sluicegate/sluicegate/Event"))) (by decide) rfl rfl (g := (mkF m 9 #[.val (.ref a1), .val (.int c1)] [(.ref a_2), (.ref a1)])) rfl rfl (hb hby d2_9)
  have F_10 : Fld Z h_9 a1 "com/example/sluicegate/sluicegate/Instance$Shipment" "events" "[Lcom/example/sluicegate/sluicegate/Event;" (.ref a_2) := F_5.same W_9
  have A_12 : Exa Z h_9 a1 "com/example/sluicegate/sluicegate/Instance$Shipment" := A_4.wr W_9
  have F_13 : Fld Z h_9 a1 "com/example/sluicegate/sluicegate/Instance$Shipment" "released" "[J" (.null) := F_6.other W_9 (Or.inr (RoadKit.slot_ne (Or.inr (hw _ (List.mem_of_getElem? (i := 20) rfl))) (Or.inr (hw _ (List.mem_of_getElem? (i := 17) rfl))) (by decide) (t := (.array .long)) (t' := (.array (.object "com/example/sluicegate/sluicegate/Event"))) (by decide) (by decide)))
  have F_14 : Fld Z h_9 a1 "com/example/sluicegate/sluicegate/Instance$Shipment" "size" "I" (.int (0 : Int32)) := F_7.other W_9 (Or.inr (RoadKit.slot_ne (Or.inl (hw _ (List.mem_of_getElem? (i := 27) rfl))) (Or.inr (hw _ (List.mem_of_getElem? (i := 17) rfl))) (by decide) (t := .int) (t' := (.array (.object "com/example/sluicegate/sluicegate/Event"))) (by decide) (by decide)))
  have V_15 : own_Len Z h_9 a_2 (.object "com/example/sluicegate/sluicegate/Event") c1 := V_8.wr W_9
  have Z_11 : n0 ≤ h_9.size := by rw [W_9.size]; exact Z_3
  have K_11 : Keep h0 h_9 [a1] := K_3.wr W_9 (Or.inl (List.mem_of_getElem? (i := 0) rfl))
  have N_9 := Fr.snoc X_9 N0 ga
  refine own_st st_9 ?_
  show own_Go p e below _ T_9 (mkF m 12 #[.val (.ref a1), .val (.int c1)] [])
  refine own_aloadN X_9 hx (hb hby d2_12) (pc' := 13) rfl rfl rfl ?_
  refine own_iloadN X_9 hx (hb hby d2_13) (pc' := 14) rfl rfl ?_
  obtain ⟨T_16, h_16, kc_16, X_16, e_16, E_16, A_16, st_16⟩ := newP X_9 hx hZ (hw _ (List.mem_of_getElem? (i := 18) rfl)) e_9 (g := (mkF m 14 #[.val (.ref a1), .val (.int c1)] [(.int c1), (.ref a1)])) rfl (hb hby d2_14) rfl hc0 (cap := 16) hc1 (by decide) (by decide) (by decide)
  obtain ⟨a_16, g_16⟩ : ∃ z, z = h_9.size := ⟨_, rfl⟩
  rw [← g_16] at A_16 st_16
  have ge_16 : n0 ≤ a_16 := Nat.le_trans Z_11 (Nat.le_of_eq g_16.symm)
  have nw_16 : h0.size ≤ a_16 := Nat.le_trans K_11.1 (Nat.le_of_eq g_16.symm)
  have ne_16_a1 : a1 ≠ a_16 := Nat.ne_of_lt (Nat.lt_of_lt_of_eq F_10.lt g_16.symm)
  have ne_16_a_2 : a_2 ≠ a_16 := Nat.ne_of_lt (Nat.lt_of_lt_of_eq V_15.lt g_16.symm)
  have F_18 : Fld Z h_16 a1 "com/example/sluicegate/sluicegate/Instance$Shipment" "events" "[Lcom/example/sluicegate/sluicegate/Event;" (.ref a_2) := F_10.ext E_16
  have A_19 : Exa Z h_16 a1 "com/example/sluicegate/sluicegate/Instance$Shipment" := A_12.ext E_16
  have F_20 : Fld Z h_16 a1 "com/example/sluicegate/sluicegate/Instance$Shipment" "released" "[J" (.null) := F_13.ext E_16
  have F_21 : Fld Z h_16 a1 "com/example/sluicegate/sluicegate/Instance$Shipment" "size" "I" (.int (0 : Int32)) := F_14.ext E_16
  have V_22 : own_Len Z h_16 a_2 (.object "com/example/sluicegate/sluicegate/Event") c1 := V_15.ext E_16
  have Z_17 : n0 ≤ h_16.size := Nat.le_trans Z_11 E_16.1
  have K_17 : Keep h0 h_16 [a1] := K_11.ext E_16
  have V_23 : own_Len Z h_16 a_16 .long c1 := ⟨_, A_16, sz_new _ _ _, hc0⟩
  refine own_st st_16 ?_
  show own_Go p e below _ T_16 (mkF m 16 #[.val (.ref a1), .val (.int c1)] [(.ref a_16), (.ref a1)])
  obtain ⟨T_24, h_24, X_24, e_24, W_24, st_24⟩ := putF X_16 hx hZ hown (host := "") (Or.inl (hw _ (List.mem_of_getElem? (i := 19) rfl))) Via.refl e_16 F_20 A_19 (Or.inr ⟨(hw _ (List.mem_of_getElem? (i := 20) rfl)), rfl, hnm⟩) (hw _ (List.mem_of_getElem? (i := 6) rfl)) (ty := (.array .long)) (by decide) rfl rfl (g := (mkF m 16 #[.val (.ref a1), .val (.int c1)] [(.ref a_16), (.ref a1)])) rfl rfl (hb hby d2_16)
  have F_25 : Fld Z h_24 a1 "com/example/sluicegate/sluicegate/Instance$Shipment" "released" "[J" (.ref a_16) := F_20.same W_24
  have F_27 : Fld Z h_24 a1 "com/example/sluicegate/sluicegate/Instance$Shipment" "events" "[Lcom/example/sluicegate/sluicegate/Event;" (.ref a_2) := F_18.other W_24 (Or.inr (RoadKit.slot_ne (Or.inr (hw _ (List.mem_of_getElem? (i := 17) rfl))) (Or.inr (hw _ (List.mem_of_getElem? (i := 20) rfl))) (by decide) (t := (.array (.object "com/example/sluicegate/sluicegate/Event"))) (t' := (.array .long)) (by decide) (by decide)))
  have A_28 : Exa Z h_24 a1 "com/example/sluicegate/sluicegate/Instance$Shipment" := A_19.wr W_24
  have F_29 : Fld Z h_24 a1 "com/example/sluicegate/sluicegate/Instance$Shipment" "size" "I" (.int (0 : Int32)) := F_21.other W_24 (Or.inr (RoadKit.slot_ne (Or.inl (hw _ (List.mem_of_getElem? (i := 27) rfl))) (Or.inr (hw _ (List.mem_of_getElem? (i := 20) rfl))) (by decide) (t := .int) (t' := (.array .long)) (by decide) (by decide)))
  have V_30 : own_Len Z h_24 a_2 (.object "com/example/sluicegate/sluicegate/Event") c1 := V_22.wr W_24
  have V_31 : own_Len Z h_24 a_16 .long c1 := V_23.wr W_24
  have Z_26 : n0 ≤ h_24.size := by rw [W_24.size]; exact Z_17
  have K_26 : Keep h0 h_24 [a1] := K_17.wr W_24 (Or.inl (List.mem_of_getElem? (i := 0) rfl))
  have N_24 := Fr.snoc X_24 N_9 ga
  refine own_st st_24 ?_
  show own_Go p e below _ T_24 (mkF m 19 #[.val (.ref a1), .val (.int c1)] [])
  refine own_retV X_24 hx hlk Bd.returns (hb hby d2_19) (by decide) (by decide) ?_
  rw [e_24]
  exact ⟨rfl, N_24, K_26, a_2, a_16, F_27, F_25, F_29, V_30, V_31, ge_2, ge_16, ne_2_a1, ne_16_a1⟩
theorem d3_0 : decode prog_46_method_4_code 0 = .ok (.aload_n 0, 1) := by decide +kernel
theorem d3_1 : decode prog_46_method_4_code 1 = .ok (.getfield 19, 3) := by decide +kernel
theorem d3_4 : decode prog_46_method_4_code 4 = .ok (.aload_n 0, 1) := by decide +kernel
theorem d3_5 : decode prog_46_method_4_code 5 = .ok (.getfield 9, 3) := by decide +kernel
theorem d3_8 : decode prog_46_method_4_code 8 = .ok (.arraylength, 1) := by decide +kernel
theorem d3_9 : decode prog_46_method_4_code 9 = .ok (.if_icmp .ne 7, 3) := by decide +kernel
theorem d3_12 : decode prog_46_method_4_code 12 = .ok (.iconst 1, 1) := by decide +kernel
theorem d3_13 : decode prog_46_method_4_code 13 = .ok (.goto 4, 3) := by decide +kernel
theorem d3_17 : decode prog_46_method_4_code 17 = .ok (.ireturn, 1) := by decide +kernel
theorem d3_16 : decode prog_46_method_4_code 16 = .ok (.iconst 0, 1) := by decide +kernel
theorem pn3 : plainFor (⟨"com/example/sluicegate/sluicegate/Instance$Shipment", "full", "()Z"⟩ : MethodName) = true := by first | exact plainFor_of_name (by first | (simp [plainName, overriddenIn]; done) | decide +kernel) | decide +kernel
theorem ef3 (m : MethodId) (a1 : Addr) : entryFrame m #[(.ref a1)] 1 = mkF m 0 #[.val (.ref a1)] [] := by first | (simp [entryFrame, mkF, argsToLocals, Value.category]; done) | rfl
def Q3 (Z : State) (a1 : Addr) (ev : Addr) (sz : Int32) (n1 : Int32) (h0 : Heap) (n0 : Nat) (v : Option Value) (h : Heap) (L : List Loc) : Prop := v = some (.int (own_b (sz = n1))) ∧ Fr n0 L ∧ h = h0
set_option maxRecDepth 65536 in
set_option maxHeartbeats 40000000 in
theorem rm3 (l : Launch) (Z : State) (a0 : Array Value) (hw : ∀ d ∈ tables_1, d.before a0 Z = true) (ws : List Jvm.Cond) (a1 : Addr) (ev : Addr) (sz : Int32) (n1 : Int32) (h0 : Heap) (n0 : Nat) (Z0 : n0 ≤ h0.size) (F_e : Fld Z h0 a1 "com/example/sluicegate/sluicegate/Instance$Shipment" "events" "[Lcom/example/sluicegate/sluicegate/Event;" (.ref ev)) (F_s : Fld Z h0 a1 "com/example/sluicegate/sluicegate/Instance$Shipment" "size" "I" (.int sz)) (V_e : own_Len Z h0 ev (.object "com/example/sluicegate/sluicegate/Event") n1) :
    MetFree l (⟨"com/example/sluicegate/sluicegate/Instance$Shipment", "full", "()Z"⟩ : MethodName) (head1 (Jvm.Cond.code (⟨"com/example/sluicegate/sluicegate/Instance$Shipment", "full", "()Z"⟩ : MethodName) prog_46_method_4_code 1 (some .boolean) :: ws) ({ frames := 0, cells := 0, slots := 0, locals := 0 } : Room)) (fun a U => a = #[(.ref a1)] ∧ Z.Warmed39 U.vm ∧ U.heap = h0) (fun _ _ _ _ _ => True) (fun _ U o U' => ∃ v L, o = .returned v ∧ Q3 Z a1 ev sz n1 h0 n0 v U'.heap L ∧ FrameEnd U o U' L ({ frames := 0, cells := 0, slots := 0, locals := 0 } : Room).cells ({ frames := 0, cells := 0, slots := 0, locals := 0 } : Room).slots) := by
  refine MetFree.of_bodySF pn3 hisR ?_
  intro p e s m args below meth c s₁ Bd hml0 hP hK
  obtain ⟨rfl, hZ, hh⟩ := hP
  have hx := Bd.exec
  have hby := Bd.bytes
  have hlk : meth.locks = false := BodyLoose.notSynchronized Bd
  have hml : c.maxLocals = 1 := hml0
  have hown : s.vm.findClass "com/example/sluicegate/sluicegate/Instance$Shipment" = some m.cls := findClass_of_methodNamed Bd.named
  have hnm := (name_of_methodNamed Bd.named Bd.method).1
  have X0 : Stand p l e ({ frames := 0, cells := 0, slots := 0, locals := 0 } : Room) s m #[(.ref a1)] below meth c s₁ [] 0 0 := Stand.of_body Bd
  have e0 : s₁.heap = h0 := by rw [← hh, Bd.state]; rfl
  have N0 := Fr.nil n0
  rw [ef3 m a1]
  show own_Go p e below (own_End s (Q3 Z a1 ev sz n1 h0 n0) ({ frames := 0, cells := 0, slots := 0, locals := 0 } : Room).cells ({ frames := 0, cells := 0, slots := 0, locals := 0 } : Room).slots) s₁ (mkF m 0 #[.val (.ref a1)] [])
  refine own_aloadN X0 hx (hb hby d3_0) (pc' := 1) rfl rfl rfl ?_
  obtain ⟨T_1, X_1, e_1, st_1⟩ := getF X0 hx hZ hown (host := "") (Or.inl (hw _ (List.mem_of_getElem? (i := 26) rfl))) Via.refl e0 F_s (g := (mkF m 1 #[.val (.ref a1)] [(.ref a1)])) rfl rfl (hb hby d3_1)
  refine own_st st_1 ?_
  show own_Go p e below _ T_1 (mkF m 4 #[.val (.ref a1)] [(.int sz)])
  refine own_aloadN X_1 hx (hb hby d3_4) (pc' := 5) rfl rfl rfl ?_
  obtain ⟨T_2, X_2, e_2, st_2⟩ := getF X_1 hx hZ hown (host := "") (Or.inl (hw _ (List.mem_of_getElem? (i := 16) rfl))) Via.refl e_1 F_e (g := (mkF m 5 #[.val (.ref a1)] [(.ref a1), (.int sz)])) rfl rfl (hb hby d3_5)
  refine own_st st_2 ?_
  show own_Go p e below _ T_2 (mkF m 8 #[.val (.ref a1)] [(.ref ev), (.int sz)])
  refine own_alenL X_2 hx hZ e_2 V_e (hb hby d3_8) (pc' := 9) rfl ?_
  by_cases c_3 : sz = n1
  · skip
    refine own_icmpN X_2 hx (hb hby d3_9) (XT.ii_ne_f c_3) (pc' := 12) rfl ?_
    refine own_iconst X_2 hx (1) (hb hby d3_12) (pc' := 13) rfl rfl ?_
    refine own_goto X_2 hx (hb hby d3_13) (pc' := 17) (by decide) (by decide) ?_
    refine own_retZ X_2 hx hlk Bd.returns (by simp) (hb hby d3_17) (by decide) (by decide) ?_
    rw [e_2]
    exact ⟨by simp [own_b, nar, c_3], N0, rfl⟩
  · skip
    refine own_icmpY X_2 hx (hb hby d3_9) (XT.ii_ne_t c_3) (pc' := 16) (by decide) (by decide) ?_
    refine own_iconst X_2 hx (0) (hb hby d3_16) (pc' := 17) rfl rfl ?_
    refine own_retZ X_2 hx hlk Bd.returns (by simp) (hb hby d3_17) (by decide) (by decide) ?_
    rw [e_2]
    exact ⟨by simp [own_b, nar, c_3], N0, rfl⟩
theorem d4_0 : decode prog_46_method_2_code 0 = .ok (.aload_n 0, 1) := by decide +kernel
theorem d4_1 : decode prog_46_method_2_code 1 = .ok (.getfield 9, 3) := by decide +kernel
theorem d4_4 : decode prog_46_method_2_code 4 = .ok (.aload_n 0, 1) := by decide +kernel
theorem d4_5 : decode prog_46_method_2_code 5 = .ok (.getfield 19, 3) := by decide +kernel
theorem d4_8 : decode prog_46_method_2_code 8 = .ok (.aload_n 1, 1) := by decide +kernel
theorem d4_9 : decode prog_46_method_2_code 9 = .ok (.aastore, 1) := by decide +kernel
theorem d4_10 : decode prog_46_method_2_code 10 = .ok (.aload_n 0, 1) := by decide +kernel
theorem d4_11 : decode prog_46_method_2_code 11 = .ok (.getfield 15, 3) := by decide +kernel
theorem d4_14 : decode prog_46_method_2_code 14 = .ok (.aload_n 0, 1) := by decide +kernel
theorem d4_15 : decode prog_46_method_2_code 15 = .ok (.getfield 19, 3) := by decide +kernel
theorem d4_18 : decode prog_46_method_2_code 18 = .ok (.lload_n 2, 1) := by decide +kernel
theorem d4_19 : decode prog_46_method_2_code 19 = .ok (.lastore, 1) := by decide +kernel
theorem d4_20 : decode prog_46_method_2_code 20 = .ok (.aload_n 0, 1) := by decide +kernel
theorem d4_21 : decode prog_46_method_2_code 21 = .ok (.dup, 1) := by decide +kernel
theorem d4_22 : decode prog_46_method_2_code 22 = .ok (.getfield 19, 3) := by decide +kernel
theorem d4_25 : decode prog_46_method_2_code 25 = .ok (.dup_x1, 1) := by decide +kernel
theorem d4_26 : decode prog_46_method_2_code 26 = .ok (.iconst 1, 1) := by decide +kernel
theorem d4_27 : decode prog_46_method_2_code 27 = .ok (.iadd, 1) := by decide +kernel
theorem d4_28 : decode prog_46_method_2_code 28 = .ok (.putfield 19, 3) := by decide +kernel
theorem d4_31 : decode prog_46_method_2_code 31 = .ok (.ireturn, 1) := by decide +kernel
theorem pn4 : plainFor (⟨"com/example/sluicegate/sluicegate/Instance$Shipment", "add", "(Lcom/example/sluicegate/sluicegate/Event;J)I"⟩ : MethodName) = true := by first | exact plainFor_of_name (by first | (simp [plainName, overriddenIn]; done) | decide +kernel) | decide +kernel
theorem ef4 (m : MethodId) (a1 : Addr) (x2 : Int64) : entryFrame m #[(.ref a1), (.null), (.long x2)] 4 = mkF m 0 #[.val (.ref a1), .val (.null), .val (.long x2), .second] [] := by first | (simp [entryFrame, mkF, argsToLocals, Value.category]; done) | rfl
def Q4 (Z : State) (a1 : Addr) (x2 : Int64) (ev : Addr) (rl : Addr) (sz : Int32) (n1 : Int32) (h0 : Heap) (n0 : Nat) (v : Option Value) (h : Heap) (L : List Loc) : Prop := v = some (.int sz) ∧ Fr n0 L ∧ Keep h0 h [a1, ev, rl] ∧ Fld Z h a1 "com/example/sluicegate/sluicegate/Instance$Shipment" "events" "[Lcom/example/sluicegate/sluicegate/Event;" (.ref ev) ∧ Fld Z h a1 "com/example/sluicegate/sluicegate/Instance$Shipment" "released" "[J" (.ref rl) ∧ Fld Z h a1 "com/example/sluicegate/sluicegate/Instance$Shipment" "size" "I" (.int (sz + (1 : Int32)))
set_option maxRecDepth 65536 in
set_option maxHeartbeats 40000000 in
theorem rm4 (l : Launch) (Z : State) (a0 : Array Value) (hw : ∀ d ∈ tables_1, d.before a0 Z = true) (ws : List Jvm.Cond) (a1 : Addr) (x2 : Int64) (ev : Addr) (rl : Addr) (sz : Int32) (n1 : Int32) (h0 : Heap) (n0 : Nat) (Z0 : n0 ≤ h0.size) (A_a : Exa Z h0 a1 "com/example/sluicegate/sluicegate/Instance$Shipment") (F_e : Fld Z h0 a1 "com/example/sluicegate/sluicegate/Instance$Shipment" "events" "[Lcom/example/sluicegate/sluicegate/Event;" (.ref ev)) (F_r : Fld Z h0 a1 "com/example/sluicegate/sluicegate/Instance$Shipment" "released" "[J" (.ref rl)) (F_s : Fld Z h0 a1 "com/example/sluicegate/sluicegate/Instance$Shipment" "size" "I" (.int sz)) (V_e : own_Len Z h0 ev (.object "com/example/sluicegate/sluicegate/Event") n1) (V_r : own_Len Z h0 rl .long n1) (ga : n0 ≤ a1) (gev : n0 ≤ ev) (grl : n0 ≤ rl) (nev : a1 ≠ ev) (nrl : a1 ≠ rl) (hin : ¬ sz < 0 ∧ sz < n1) :
    MetFree l (⟨"com/example/sluicegate/sluicegate/Instance$Shipment", "add", "(Lcom/example/sluicegate/sluicegate/Event;J)I"⟩ : MethodName) (head1 (Jvm.Cond.code (⟨"com/example/sluicegate/sluicegate/Instance$Shipment", "add", "(Lcom/example/sluicegate/sluicegate/Event;J)I"⟩ : MethodName) prog_46_method_2_code 4 (some .int) :: ws) ({ frames := 0, cells := 0, slots := 0, locals := 0 } : Room)) (fun a U => a = #[(.ref a1), (.null), (.long x2)] ∧ Z.Warmed39 U.vm ∧ U.heap = h0) (fun _ _ _ _ _ => True) (fun _ U o U' => ∃ v L, o = .returned v ∧ Q4 Z a1 x2 ev rl sz n1 h0 n0 v U'.heap L ∧ FrameEnd U o U' L ({ frames := 0, cells := 0, slots := 0, locals := 0 } : Room).cells ({ frames := 0, cells := 0, slots := 0, locals := 0 } : Room).slots) := by
  refine MetFree.of_bodySF pn4 hisR ?_
  intro p e s m args below meth c s₁ Bd hml0 hP hK
  obtain ⟨rfl, hZ, hh⟩ := hP
  have hx := Bd.exec
  have hby := Bd.bytes
  have hlk : meth.locks = false := BodyLoose.notSynchronized Bd
  have hml : c.maxLocals = 4 := hml0
  have hown : s.vm.findClass "com/example/sluicegate/sluicegate/Instance$Shipment" = some m.cls := findClass_of_methodNamed Bd.named
  have hnm := (name_of_methodNamed Bd.named Bd.method).1
  have X0 : Stand p l e ({ frames := 0, cells := 0, slots := 0, locals := 0 } : Room) s m #[(.ref a1), (.null), (.long x2)] below meth c s₁ [] 0 0 := Stand.of_body Bd
  have e0 : s₁.heap = h0 := by rw [← hh, Bd.state]; rfl
  have N0 := Fr.nil n0
  have K0 : Keep h0 h0 [a1, ev, rl] := Keep.refl _ _
  rw [ef4 m a1 x2]
  show own_Go p e below (own_End s (Q4 Z a1 x2 ev rl sz n1 h0 n0) ({ frames := 0, cells := 0, slots := 0, locals := 0 } : Room).cells ({ frames := 0, cells := 0, slots := 0, locals := 0 } : Room).slots) s₁ (mkF m 0 #[.val (.ref a1), .val (.null), .val (.long x2), .second] [])
  refine own_aloadN X0 hx (hb hby d4_0) (pc' := 1) rfl rfl rfl ?_
  obtain ⟨T_1, X_1, e_1, st_1⟩ := getF X0 hx hZ hown (host := "") (Or.inl (hw _ (List.mem_of_getElem? (i := 16) rfl))) Via.refl e0 F_e (g := (mkF m 1 #[.val (.ref a1), .val (.null), .val (.long x2), .second] [(.ref a1)])) rfl rfl (hb hby d4_1)
  refine own_st st_1 ?_
  show own_Go p e below _ T_1 (mkF m 4 #[.val (.ref a1), .val (.null), .val (.long x2), .second] [(.ref ev)])
  refine own_aloadN X_1 hx (hb hby d4_4) (pc' := 5) rfl rfl rfl ?_
  obtain ⟨T_2, X_2, e_2, st_2⟩ := getF X_1 hx hZ hown (host := "") (Or.inl (hw _ (List.mem_of_getElem? (i := 26) rfl))) Via.refl e_1 F_s (g := (mkF m 5 #[.val (.ref a1), .val (.null), .val (.long x2), .second] [(.ref a1), (.ref ev)])) rfl rfl (hb hby d4_5)
  refine own_st st_2 ?_
  show own_Go p e below _ T_2 (mkF m 8 #[.val (.ref a1), .val (.null), .val (.long x2), .second] [(.int sz), (.ref ev)])
  refine own_aloadN X_2 hx (hb hby d4_8) (pc' := 9) rfl rfl rfl ?_
  obtain ⟨T_3, h_3, X_3, e_3, W_3, st_3⟩ := own_aastoreNull X_2 hx hZ e_2 V_e rfl (j := sz) (Ls := #[.val (.ref a1), .val (.null), .val (.long x2), .second]) (st := []) hin (hb hby d4_9)
  have A_5 : Exa Z h_3 a1 "com/example/sluicegate/sluicegate/Instance$Shipment" := A_a.wr W_3
  have F_6 : Fld Z h_3 a1 "com/example/sluicegate/sluicegate/Instance$Shipment" "events" "[Lcom/example/sluicegate/sluicegate/Event;" (.ref ev) := F_e.other W_3 (Or.inl nev)
  have F_7 : Fld Z h_3 a1 "com/example/sluicegate/sluicegate/Instance$Shipment" "released" "[J" (.ref rl) := F_r.other W_3 (Or.inl nev)
  have F_8 : Fld Z h_3 a1 "com/example/sluicegate/sluicegate/Instance$Shipment" "size" "I" (.int sz) := F_s.other W_3 (Or.inl nev)
  have V_9 : own_Len Z h_3 ev (.object "com/example/sluicegate/sluicegate/Event") n1 := V_e.wr W_3
  have V_10 : own_Len Z h_3 rl .long n1 := V_r.wr W_3
  have Z_4 : n0 ≤ h_3.size := by rw [W_3.size]; exact Z0
  have K_4 : Keep h0 h_3 [a1, ev, rl] := K0.wr W_3 (Or.inl (List.mem_of_getElem? (i := 1) rfl))
  have N_3 := Fr.snoc X_3 N0 gev
  refine own_st st_3 ?_
  show own_Go p e below _ T_3 (mkF m 10 #[.val (.ref a1), .val (.null), .val (.long x2), .second] [])
  refine own_aloadN X_3 hx (hb hby d4_10) (pc' := 11) rfl rfl rfl ?_
  obtain ⟨T_11, X_11, e_11, st_11⟩ := getF X_3 hx hZ hown (host := "") (Or.inl (hw _ (List.mem_of_getElem? (i := 19) rfl))) Via.refl e_3 F_7 (g := (mkF m 11 #[.val (.ref a1), .val (.null), .val (.long x2), .second] [(.ref a1)])) rfl rfl (hb hby d4_11)
  refine own_st st_11 ?_
  show own_Go p e below _ T_11 (mkF m 14 #[.val (.ref a1), .val (.null), .val (.long x2), .second] [(.ref rl)])
  refine own_aloadN X_11 hx (hb hby d4_14) (pc' := 15) rfl rfl rfl ?_
  obtain ⟨T_12, X_12, e_12, st_12⟩ := getF X_11 hx hZ hown (host := "") (Or.inl (hw _ (List.mem_of_getElem? (i := 26) rfl))) Via.refl e_11 F_8 (g := (mkF m 15 #[.val (.ref a1), .val (.null), .val (.long x2), .second] [(.ref a1), (.ref rl)])) rfl rfl (hb hby d4_15)
  refine own_st st_12 ?_
  show own_Go p e below _ T_12 (mkF m 18 #[.val (.ref a1), .val (.null), .val (.long x2), .second] [(.int sz), (.ref rl)])
  refine own_lloadN X_12 hx (hb hby d4_18) (pc' := 19) rfl rfl ?_
  obtain ⟨T_13, h_13, X_13, e_13, W_13, st_13⟩ := own_lastore X_12 hx hZ e_12 V_10 (x := x2) (j := sz) (Ls := #[.val (.ref a1), .val (.null), .val (.long x2), .second]) (st := []) hin (hb hby d4_19)
  have A_15 : Exa Z h_13 a1 "com/example/sluicegate/sluicegate/Instance$Shipment" := A_5.wr W_13
  have F_16 : Fld Z h_13 a1 "com/example/sluicegate/sluicegate/Instance$Shipment" "events" "[Lcom/example/sluicegate/sluicegate/Event;" (.ref ev) := F_6.other W_13 (Or.inl nrl)
  have F_17 : Fld Z h_13 a1 "com/example/sluicegate/sluicegate/Instance$Shipment" "released" "[J" (.ref rl) := F_7.other W_13 (Or.inl nrl)
  have F_18 : Fld Z h_13 a1 "com/example/sluicegate/sluicegate/Instance$Shipment" "size" "I" (.int sz) := F_8.other W_13 (Or.inl nrl)
  have V_19 : own_Len Z h_13 ev (.object "com/example/sluicegate/sluicegate/Event") n1 := V_9.wr W_13
  have V_20 : own_Len Z h_13 rl .long n1 := V_10.wr W_13
  have Z_14 : n0 ≤ h_13.size := by rw [W_13.size]; exact Z_4
  have K_14 : Keep h0 h_13 [a1, ev, rl] := K_4.wr W_13 (Or.inl (List.mem_of_getElem? (i := 2) rfl))
  have N_13 := Fr.snoc X_13 N_3 grl
  refine own_st st_13 ?_
  show own_Go p e below _ T_13 (mkF m 20 #[.val (.ref a1), .val (.null), .val (.long x2), .second] [])
  refine own_aloadN X_13 hx (hb hby d4_20) (pc' := 21) rfl rfl rfl ?_
  refine own_dup X_13 hx (hb hby d4_21) (pc' := 22) rfl rfl ?_
  obtain ⟨T_21, X_21, e_21, st_21⟩ := getF X_13 hx hZ hown (host := "") (Or.inl (hw _ (List.mem_of_getElem? (i := 26) rfl))) Via.refl e_13 F_18 (g := (mkF m 22 #[.val (.ref a1), .val (.null), .val (.long x2), .second] [(.ref a1), (.ref a1)])) rfl rfl (hb hby d4_22)
  refine own_st st_21 ?_
  show own_Go p e below _ T_21 (mkF m 25 #[.val (.ref a1), .val (.null), .val (.long x2), .second] [(.int sz), (.ref a1)])
  refine own_dupX1 X_21 hx (hb hby d4_25) (pc' := 26) rfl rfl rfl ?_
  refine own_iconst X_21 hx (1) (hb hby d4_26) (pc' := 27) rfl rfl ?_
  refine own_iadd X_21 hx (hb hby d4_27) (pc' := 28) rfl ?_
  obtain ⟨T_22, h_22, X_22, e_22, W_22, st_22⟩ := putF X_21 hx hZ hown (host := "") (Or.inl (hw _ (List.mem_of_getElem? (i := 26) rfl))) Via.refl e_21 F_18 A_15 (Or.inl (hw _ (List.mem_of_getElem? (i := 27) rfl))) (hw _ (List.mem_of_getElem? (i := 6) rfl)) (ty := .int) (by decide) rfl rfl (g := (mkF m 28 #[.val (.ref a1), .val (.null), .val (.long x2), .second] [(.int (sz + (1 : Int32))), (.ref a1), (.int sz)])) rfl rfl (hb hby d4_28)
  have F_23 : Fld Z h_22 a1 "com/example/sluicegate/sluicegate/Instance$Shipment" "size" "I" (.int (sz + (1 : Int32))) := F_18.same W_22
  have A_25 : Exa Z h_22 a1 "com/example/sluicegate/sluicegate/Instance$Shipment" := A_15.wr W_22
  have F_26 : Fld Z h_22 a1 "com/example/sluicegate/sluicegate/Instance$Shipment" "events" "[Lcom/example/sluicegate/sluicegate/Event;" (.ref ev) := F_16.other W_22 (Or.inr (RoadKit.slot_ne (Or.inr (hw _ (List.mem_of_getElem? (i := 17) rfl))) (Or.inl (hw _ (List.mem_of_getElem? (i := 27) rfl))) (by decide) (t := (.array (.object "com/example/sluicegate/sluicegate/Event"))) (t' := .int) (by decide) (by decide)))
  have F_27 : Fld Z h_22 a1 "com/example/sluicegate/sluicegate/Instance$Shipment" "released" "[J" (.ref rl) := F_17.other W_22 (Or.inr (RoadKit.slot_ne (Or.inr (hw _ (List.mem_of_getElem? (i := 20) rfl))) (Or.inl (hw _ (List.mem_of_getElem? (i := 27) rfl))) (by decide) (t := (.array .long)) (t' := .int) (by decide) (by decide)))
  have V_28 : own_Len Z h_22 ev (.object "com/example/sluicegate/sluicegate/Event") n1 := V_19.wr W_22
  have V_29 : own_Len Z h_22 rl .long n1 := V_20.wr W_22
  have Z_24 : n0 ≤ h_22.size := by rw [W_22.size]; exact Z_14
  have K_24 : Keep h0 h_22 [a1, ev, rl] := K_14.wr W_22 (Or.inl (List.mem_of_getElem? (i := 0) rfl))
  have N_22 := Fr.snoc X_22 N_13 ga
  refine own_st st_22 ?_
  show own_Go p e below _ T_22 (mkF m 31 #[.val (.ref a1), .val (.null), .val (.long x2), .second] [(.int sz)])
  refine own_retI X_22 hx hlk Bd.returns (hb hby d4_31) (by decide) (by decide) ?_
  rw [e_22]
  exact ⟨rfl, N_22, K_24, F_26, F_27, F_23⟩
theorem pd0_0 : parseMethodDescriptor "(II)I" = some ⟨[.int, .int], some .int⟩ := by decide +kernel
theorem pd0_1 : parseMethodDescriptor "(I)V" = some ⟨[.int], none⟩ := by decide +kernel
theorem pd0_2 : parseMethodDescriptor "()Z" = some ⟨[], some .boolean⟩ := by decide +kernel
theorem pd0_3 : parseMethodDescriptor "(Lcom/example/sluicegate/sluicegate/Event;J)I" = some ⟨[(.object "com/example/sluicegate/sluicegate/Event"), .long], some .int⟩ := by decide +kernel
theorem pn0 : plainFor x = true := by first | exact plainFor_of_name (by first | (simp [plainName, overriddenIn]; done) | decide +kernel) | decide +kernel
theorem ef0 (m : MethodId) (x0 : Int32) (x1 : Int32) (x2 : Int64) : entryFrame m #[(.int x0), (.int x1), (.long x2)] maxLocals = mkF m 0 #[.val (.int x0), .val (.int x1), .val (.long x2), .second, .unset, .unset, .unset, .unset] [] := by first | (simp [entryFrame, mkF, argsToLocals, Value.category, maxLocals]; done) | rfl
def Q0 (Z : State) (x0 : Int32) (x1 : Int32) (x2 : Int64) (h0 : Heap) (n0 : Nat) (v : Option Value) (h : Heap) (L : List Loc) : Prop := v = some (.int 1) ∧ Fr n0 L
set_option maxRecDepth 65536 in
set_option maxHeartbeats 40000000 in
theorem rm0 (l : Launch) (Z : State) (a0 : Array Value) (hw : ∀ d ∈ tables_1, d.before a0 Z = true) (ws : List Jvm.Cond) (x0 : Int32) (x1 : Int32) (x2 : Int64) (h0 : Heap) (n0 : Nat) (Z0 : n0 ≤ h0.size) :
    MetFree l x (head1 (Jvm.Cond.code x code maxLocals ret :: ws) room_1) (fun a U => a = #[(.int x0), (.int x1), (.long x2)] ∧ Z.Warmed39 U.vm ∧ U.heap = h0) (fun _ _ _ _ _ => True) (fun _ U o U' => ∃ v L, o = .returned v ∧ Q0 Z x0 x1 x2 h0 n0 v U'.heap L ∧ FrameEnd U o U' L 3 35) := by
  refine MetFree.of_bodySF pn0 hisR ?_
  intro p e s m args below meth c s₁ Bd hml0 hP hK
  obtain ⟨rfl, hZ, hh⟩ := hP
  have hx := Bd.exec
  have hby := Bd.bytes
  have hlk : meth.locks = false := BodyLoose.notSynchronized Bd
  have hml : c.maxLocals = 8 := hml0
  have hown : s.vm.findClass "com/example/sluicegate/sluicegate/ShipmentFullPinLaw" = some m.cls := findClass_of_methodNamed Bd.named
  have hnm := (name_of_methodNamed Bd.named Bd.method).1
  have X0 : Stand p l e room_1 s m #[(.int x0), (.int x1), (.long x2)] below meth c s₁ [] 0 0 := Stand.of_body Bd
  have e0 : s₁.heap = h0 := by rw [← hh, Bd.state]; rfl
  have N0 := Fr.nil n0
  rw [ef0 m x0 x1 x2]
  show own_Go p e below (own_End s (Q0 Z x0 x1 x2 h0 n0) 3 35) s₁ (mkF m 0 #[.val (.int x0), .val (.int x1), .val (.long x2), .second, .unset, .unset, .unset, .unset] [])
  refine own_iconst X0 hx (1) (hb hby at_0) (pc' := 1) rfl rfl ?_
  refine own_iloadN X0 hx (hb hby at_1) (pc' := 2) rfl rfl ?_
  refine own_bipush X0 hx (15) (hb hby at_2) (pc' := 4) rfl (by decide) ?_
  refine own_iand X0 hx (hb hby at_4) (pc' := 5) rfl ?_
  refine own_iadd X0 hx (hb hby at_5) (pc' := 6) rfl ?_
  obtain ⟨cc, ecc, hc0, hc1, hcz⟩ := own_cc x0
  rw [← ecc]
  refine own_istore X0 hx (hb hby at_6) (pc' := 8) (Ls' := #[.val (.int x0), .val (.int x1), .val (.long x2), .second, .val (.int cc), .unset, .unset, .unset]) rfl rfl ?_
  refine own_iload X0 hx (hb hby at_8) (pc' := 10) rfl rfl ?_
  refine own_iloadN X0 hx (hb hby at_10) (pc' := 11) rfl rfl ?_
  refine own_ldcI X0 hx hown (mvT hZ (hw _ (List.mem_of_getElem? (i := 0) rfl))) (hb hby at_11) (pc' := 13) rfl ?_
  refine own_iand X0 hx (hb hby at_13) (pc' := 14) rfl ?_
  refine own_iconst X0 hx (5) (hb hby at_14) (pc' := 15) rfl rfl ?_
  refine own_irem X0 hx (hb hby at_15) (pc' := 16) rfl (by decide) ?_
  obtain ⟨_, _, ⟨T_1, L_1, k_1, n_1⟩, -, X_1, ⟨Lc_1, hQ_1, l_1, y_1, z_1⟩, st_1⟩ := Jvm.LawKit.callS X0 hx (y := (⟨"java/lang/Math", "min", "(II)I"⟩ : MethodName)) hown (mvT hZ (hw _ (List.mem_of_getElem? (i := 1) rfl))) (mvT hZ (hw _ (List.mem_of_getElem? (i := 2) rfl))) (mvT hZ (hw _ (List.mem_of_getElem? (i := 3) rfl))) (mvT hZ (hw _ (List.mem_of_getElem? (i := 4) rfl))) (by decide) (backOf (W := 0) (rm1 l Z a0 hw [] cc ((x1 &&& (2147483647 : Int32)) % (5 : Int32)) h0 n0 Z0) hZ (hw _ (List.mem_of_getElem? (i := 4) rfl)) (hw _ (List.mem_of_getElem? (i := 3) rfl)) (by decide) (by decide)) (g := (mkF m 16 #[.val (.int x0), .val (.int x1), .val (.long x2), .second, .val (.int cc), .unset, .unset, .unset] [(.int ((x1 &&& (2147483647 : Int32)) % (5 : Int32))), (.int cc)])) rfl (by rw [hml]; rfl) (argsL := [(.int cc), (.int ((x1 &&& (2147483647 : Int32)) % (5 : Int32)))]) (rest := []) (lenOf pd0_0 rfl) rfl (by show 2 * 0 + _ ≤ _; exact Nat.le_of_eq rfl) (hb hby at_16) (fun _ _ => ⟨rfl, e0, (by decide : 0 + 0 ≤ _), (by decide : 0 + 0 ≤ _)⟩)
  dsimp only [Pt.U, Pt.locs, Pt.cells, Pt.slots] at X_1 l_1 y_1 z_1 st_1 hQ_1
  subst l_1 y_1 z_1
  refine own_st st_1 ?_
  obtain ⟨rfl, Nq_1, eq_1⟩ := hQ_1
  have N_1 := Fr.app N0 Nq_1
  show own_Go p e below _ T_1 (mkF m 19 #[.val (.int x0), .val (.int x1), .val (.long x2), .second, .val (.int cc), .unset, .unset, .unset] [(.int (own_min cc ((x1 &&& (2147483647 : Int32)) % (5 : Int32))))])
  refine own_istore X_1 hx (hb hby at_19) (pc' := 21) (Ls' := #[.val (.int x0), .val (.int x1), .val (.long x2), .second, .val (.int cc), .val (.int (own_min cc ((x1 &&& (2147483647 : Int32)) % (5 : Int32)))), .unset, .unset]) rfl rfl ?_
  obtain ⟨T_2, h_2, X_2, e_2, E_2, A_2, D_2, -, st_2⟩ := newO X_1 hx hZ hown (hw _ (List.mem_of_getElem? (i := 5) rfl)) (hw _ (List.mem_of_getElem? (i := 6) rfl)) (hw _ (List.mem_of_getElem? (i := 7) rfl)) eq_1 (g := (mkF m 21 #[.val (.int x0), .val (.int x1), .val (.long x2), .second, .val (.int cc), .val (.int (own_min cc ((x1 &&& (2147483647 : Int32)) % (5 : Int32)))), .unset, .unset] [])) rfl (hb hby at_21) (by decide) (by decide)
  obtain ⟨a_2, g_2⟩ : ∃ z, z = h0.size := ⟨_, rfl⟩
  rw [← g_2] at A_2 D_2 st_2
  have ge_2 : n0 ≤ a_2 := Nat.le_trans Z0 (Nat.le_of_eq g_2.symm)
  have Z_3 : n0 ≤ h_2.size := Nat.le_trans Z0 E_2.1
  have F_4 : Fld Z h_2 a_2 "com/example/sluicegate/sluicegate/Instance$Shipment" "events" "[Lcom/example/sluicegate/sluicegate/Event;" (.null) := D_2 (Or.inr (hw _ (List.mem_of_getElem? (i := 17) rfl))) (ty := (.array (.object "com/example/sluicegate/sluicegate/Event"))) (by decide)
  have F_5 : Fld Z h_2 a_2 "com/example/sluicegate/sluicegate/Instance$Shipment" "released" "[J" (.null) := D_2 (Or.inr (hw _ (List.mem_of_getElem? (i := 20) rfl))) (ty := (.array .long)) (by decide)
  have F_6 : Fld Z h_2 a_2 "com/example/sluicegate/sluicegate/Instance$Shipment" "size" "I" (.int (0 : Int32)) := D_2 (Or.inl (hw _ (List.mem_of_getElem? (i := 27) rfl))) (ty := .int) (by decide)
  refine own_st st_2 ?_
  show own_Go p e below _ T_2 (mkF m 24 #[.val (.int x0), .val (.int x1), .val (.long x2), .second, .val (.int cc), .val (.int (own_min cc ((x1 &&& (2147483647 : Int32)) % (5 : Int32)))), .unset, .unset] [(.ref a_2)])
  refine own_dup X_2 hx (hb hby at_24) (pc' := 25) rfl rfl ?_
  refine own_iload X_2 hx (hb hby at_25) (pc' := 27) rfl rfl ?_
  obtain ⟨_, _, ⟨T_7, L_7, k_7, n_7⟩, -, X_7, ⟨Lc_7, hQ_7, l_7, y_7, z_7⟩, st_7⟩ := X_2.specialBack hx  (y := (⟨"com/example/sluicegate/sluicegate/Instance$Shipment", "<init>", "(I)V"⟩ : MethodName)) rfl hown (mvT hZ (hw _ (List.mem_of_getElem? (i := 8) rfl))) (mvT hZ (hw _ (List.mem_of_getElem? (i := 9) rfl))) (mvT hZ (hw _ (List.mem_of_getElem? (i := 10) rfl))) (by decide) (backOf (W := 1) (rm2 l Z a0 hw [] a_2 cc h_2 n0 Z_3 A_2 F_4 F_5 F_6 ge_2 hc0 hc1) hZ (hw _ (List.mem_of_getElem? (i := 10) rfl)) (hw _ (List.mem_of_getElem? (i := 7) rfl)) (by decide) (by decide)) (g := (mkF m 27 #[.val (.int x0), .val (.int x1), .val (.long x2), .second, .val (.int cc), .val (.int (own_min cc ((x1 &&& (2147483647 : Int32)) % (5 : Int32)))), .unset, .unset] [(.int cc), (.ref a_2), (.ref a_2)])) rfl (by rw [hml]; rfl) (Steps.refl _) (a := a_2) (argsL := [(.int cc)]) (rest := [(.ref a_2)]) (lenOf pd0_1 rfl) rfl (by show 2 * 0 + _ ≤ _; exact Nat.le_of_eq rfl) (hb hby at_27) (fun _ _ => ⟨rfl, e_2, (by decide : 1 + 2 ≤ _), (by decide : 3 + 32 ≤ _)⟩)
  dsimp only [Pt.U, Pt.locs, Pt.cells, Pt.slots] at X_7 l_7 y_7 z_7 st_7 hQ_7
  subst l_7 y_7 z_7
  refine own_tr st_7 ?_
  obtain ⟨rfl, Nq_7, Kq_7, ev, rl, q1, q2, q3, q4, q5, gev, grl, nev, nrl⟩ := hQ_7
  have N_7 := Fr.app N_1 Nq_7
  have A_9 : Exa Z T_7.heap a_2 "com/example/sluicegate/sluicegate/Instance$Shipment" := A_2.keep Kq_7
  have Z_8 : n0 ≤ T_7.heap.size := Nat.le_trans Z_3 Kq_7.1
  show own_Go p e below _ T_7 (mkF m 30 #[.val (.int x0), .val (.int x1), .val (.long x2), .second, .val (.int cc), .val (.int (own_min cc ((x1 &&& (2147483647 : Int32)) % (5 : Int32)))), .unset, .unset] [(.ref a_2)])
  refine own_astore X_7 hx (hb hby at_30) (pc' := 32) (Ls' := #[.val (.int x0), .val (.int x1), .val (.long x2), .second, .val (.int cc), .val (.int (own_min cc ((x1 &&& (2147483647 : Int32)) % (5 : Int32)))), .val (.ref a_2), .unset]) rfl rfl rfl ?_
  refine own_aload X_7 hx (hb hby at_32) (pc' := 34) rfl rfl rfl ?_
  obtain ⟨cq_10, kq_10, qa_10, qb_10, qc_10⟩ := isOf hZ rfl A_9
  obtain ⟨_, _, ⟨T_10, L_10, k_10, n_10⟩, -, X_10, ⟨Lc_10, hQ_10, l_10, y_10, z_10⟩, st_10⟩ := X_7.virtualBack hx  (y := (⟨"com/example/sluicegate/sluicegate/Instance$Shipment", "full", "()Z"⟩ : MethodName)) (z := (⟨"com/example/sluicegate/sluicegate/Instance$Shipment", "full", "()Z"⟩ : MethodName)) hown (mvT hZ (hw _ (List.mem_of_getElem? (i := 21) rfl))) (mvT hZ (hw _ (List.mem_of_getElem? (i := 22) rfl))) (notFace_of_selects (args := #[]) (mvT hZ (hw _ (List.mem_of_getElem? (i := 24) rfl)))) (mvT hZ (hw _ (List.mem_of_getElem? (i := 24) rfl))) (mvT hZ (hw _ (List.mem_of_getElem? (i := 23) rfl))) (by decide) (backOf (W := 0) (rm3 l Z a0 hw [] a_2 ev (0 : Int32) cc T_7.heap n0 Z_8 q1 q3 q4) hZ (hw _ (List.mem_of_getElem? (i := 25) rfl)) (hw _ (List.mem_of_getElem? (i := 7) rfl)) (by decide) (by decide)) qa_10 qc_10 (g := (mkF m 34 #[.val (.int x0), .val (.int x1), .val (.long x2), .second, .val (.int cc), .val (.int (own_min cc ((x1 &&& (2147483647 : Int32)) % (5 : Int32)))), .val (.ref a_2), .unset] [(.ref a_2)])) rfl (by rw [hml]; rfl) (Steps.refl _) (argsL := []) (rest := []) (lenOf pd0_2 rfl) rfl (by show 2 * 0 + _ ≤ _; exact Nat.le_of_eq rfl) (hb hby at_34) (fun _ _ => ⟨rfl, rfl, (by decide : 3 + 0 ≤ _), (by decide : 35 + 0 ≤ _)⟩)
  dsimp only [Pt.U, Pt.locs, Pt.cells, Pt.slots] at X_10 l_10 y_10 z_10 st_10 hQ_10
  subst l_10 y_10 z_10
  refine own_tr st_10 ?_
  obtain ⟨rfl, Nq_10, eq_10⟩ := hQ_10
  have N_10 := Fr.app N_7 Nq_10
  show own_Go p e below _ T_10 (mkF m 37 #[.val (.int x0), .val (.int x1), .val (.long x2), .second, .val (.int cc), .val (.int (own_min cc ((x1 &&& (2147483647 : Int32)) % (5 : Int32)))), .val (.ref a_2), .unset] [(.int (own_b ((0 : Int32) = cc)))])
  refine own_ifN X_10 hx (hb hby at_37) (own_b0_ne_f hcz) (pc' := 40) rfl ?_
  refine own_iconst X_10 hx (1) (hb hby at_40) (pc' := 41) rfl rfl ?_
  refine own_goto X_10 hx (hb hby at_41) (pc' := 45) (by decide) (by decide) ?_
  refine own_istore X_10 hx (hb hby at_45) (pc' := 47) (Ls' := #[.val (.int x0), .val (.int x1), .val (.long x2), .second, .val (.int cc), .val (.int (own_min cc ((x1 &&& (2147483647 : Int32)) % (5 : Int32)))), .val (.ref a_2), .val (.int (1 : Int32))]) rfl rfl ?_
  refine own_iload X_10 hx (hb hby at_47) (pc' := 49) rfl rfl ?_
  refine own_iconst X_10 hx (1) (hb hby at_49) (pc' := 50) rfl rfl ?_
  by_cases c_11 : (own_min cc ((x1 &&& (2147483647 : Int32)) % (5 : Int32))) < (1 : Int32)
  · skip
    refine own_icmpY X_10 hx (hb hby at_50) (XT.ii_lt_t c_11) (pc' := 90) (by decide) (by decide) ?_
    refine own_iload X_10 hx (hb hby at_90) (pc' := 92) rfl rfl ?_
    refine own_iconst X_10 hx (2) (hb hby at_92) (pc' := 93) rfl rfl ?_
    by_cases c_12 : (own_min cc ((x1 &&& (2147483647 : Int32)) % (5 : Int32))) < (2 : Int32)
    · skip
      refine own_icmpY X_10 hx (hb hby at_93) (XT.ii_lt_t c_12) (pc' := 133) (by decide) (by decide) ?_
      refine own_iload X_10 hx (hb hby at_133) (pc' := 135) rfl rfl ?_
      refine own_iconst X_10 hx (3) (hb hby at_135) (pc' := 136) rfl rfl ?_
      by_cases c_13 : (own_min cc ((x1 &&& (2147483647 : Int32)) % (5 : Int32))) < (3 : Int32)
      · skip
        refine own_icmpY X_10 hx (hb hby at_136) (XT.ii_lt_t c_13) (pc' := 176) (by decide) (by decide) ?_
        refine own_iload X_10 hx (hb hby at_176) (pc' := 178) rfl rfl ?_
        refine own_iconst X_10 hx (4) (hb hby at_178) (pc' := 179) rfl rfl ?_
        by_cases c_14 : (own_min cc ((x1 &&& (2147483647 : Int32)) % (5 : Int32))) < (4 : Int32)
        · skip
          refine own_icmpY X_10 hx (hb hby at_179) (XT.ii_lt_t c_14) (pc' := 219) (by decide) (by decide) ?_
          refine own_iload X_10 hx (hb hby at_219) (pc' := 221) rfl rfl ?_
          refine own_retZ X_10 hx hlk Bd.returns (by simp) (hb hby at_221) (by decide) (by decide) ?_
          exact ⟨rfl, N_10⟩
        · skip
          exact absurd (own_ltm c_11 (by decide)) c_14
      · skip
        exact absurd (own_ltm c_11 (by decide)) c_13
    · skip
      exact absurd (own_ltm c_11 (by decide)) c_12
  · skip
    refine own_icmpN X_10 hx (hb hby at_50) (XT.ii_lt_f c_11) (pc' := 53) rfl ?_
    refine own_aload X_10 hx (hb hby at_53) (pc' := 55) rfl rfl rfl ?_
    refine own_null X_10 hx (hb hby at_55) (pc' := 56) rfl ?_
    refine own_lloadN X_10 hx (hb hby at_56) (pc' := 57) rfl rfl ?_
    obtain ⟨cq_15, kq_15, qa_15, qb_15, qc_15⟩ := isOf hZ eq_10 A_9
    obtain ⟨_, _, ⟨T_15, L_15, k_15, n_15⟩, -, X_15, ⟨Lc_15, hQ_15, l_15, y_15, z_15⟩, st_15⟩ := X_10.virtualBack hx  (y := (⟨"com/example/sluicegate/sluicegate/Instance$Shipment", "add", "(Lcom/example/sluicegate/sluicegate/Event;J)I"⟩ : MethodName)) (z := (⟨"com/example/sluicegate/sluicegate/Instance$Shipment", "add", "(Lcom/example/sluicegate/sluicegate/Event;J)I"⟩ : MethodName)) hown (mvT hZ (hw _ (List.mem_of_getElem? (i := 28) rfl))) (mvT hZ (hw _ (List.mem_of_getElem? (i := 29) rfl))) (notFace_of_selects (args := #[]) (mvT hZ (hw _ (List.mem_of_getElem? (i := 31) rfl)))) (mvT hZ (hw _ (List.mem_of_getElem? (i := 31) rfl))) (mvT hZ (hw _ (List.mem_of_getElem? (i := 30) rfl))) (by decide) (backOf (W := 0) (rm4 l Z a0 hw [] a_2 x2 ev rl (0 : Int32) cc T_7.heap n0 Z_8 A_9 q1 q2 q3 q4 q5 ge_2 gev grl nev nrl ⟨by decide, own_in0 c_11⟩) hZ (hw _ (List.mem_of_getElem? (i := 32) rfl)) (hw _ (List.mem_of_getElem? (i := 7) rfl)) (by decide) (by decide)) qa_15 qc_15 (g := (mkF m 57 #[.val (.int x0), .val (.int x1), .val (.long x2), .second, .val (.int cc), .val (.int (own_min cc ((x1 &&& (2147483647 : Int32)) % (5 : Int32)))), .val (.ref a_2), .val (.int (1 : Int32))] [(.long x2), (.null), (.ref a_2)])) rfl (by rw [hml]; rfl) (Steps.refl _) (argsL := [(.null), (.long x2)]) (rest := []) (lenOf pd0_3 rfl) rfl (by show 2 * 0 + _ ≤ _; exact Nat.le_of_eq rfl) (hb hby at_57) (fun _ _ => ⟨rfl, eq_10, (by decide : 3 + 0 ≤ _), (by decide : 35 + 0 ≤ _)⟩)
    dsimp only [Pt.U, Pt.locs, Pt.cells, Pt.slots] at X_15 l_15 y_15 z_15 st_15 hQ_15
    subst l_15 y_15 z_15
    refine own_tr st_15 ?_
    obtain ⟨rfl, Nq_15, Kq_15, q0_15, q1_15, q2_15⟩ := hQ_15
    have N_15 := Fr.app N_10 Nq_15
    have F_16 : Fld Z T_15.heap a_2 "com/example/sluicegate/sluicegate/Instance$Shipment" "events" "[Lcom/example/sluicegate/sluicegate/Event;" (.ref ev) := q0_15
    have F_17 : Fld Z T_15.heap a_2 "com/example/sluicegate/sluicegate/Instance$Shipment" "released" "[J" (.ref rl) := q1_15
    have F_18 : Fld Z T_15.heap a_2 "com/example/sluicegate/sluicegate/Instance$Shipment" "size" "I" (.int (1 : Int32)) := q2_15
    have q4_20 : own_Len Z T_15.heap ev (.object "com/example/sluicegate/sluicegate/Event") cc := q4.keep Kq_15
    have q5_21 : own_Len Z T_15.heap rl .long cc := q5.keep Kq_15
    have A_22 : Exa Z T_15.heap a_2 "com/example/sluicegate/sluicegate/Instance$Shipment" := A_9.keep Kq_15
    have Z_19 : n0 ≤ T_15.heap.size := Nat.le_trans Z_8 Kq_15.1
    show own_Go p e below _ T_15 (mkF m 60 #[.val (.int x0), .val (.int x1), .val (.long x2), .second, .val (.int cc), .val (.int (own_min cc ((x1 &&& (2147483647 : Int32)) % (5 : Int32)))), .val (.ref a_2), .val (.int (1 : Int32))] [(.int (0 : Int32))])
    refine own_pop X_15 hx (hb hby at_60) (pc' := 61) rfl rfl ?_
    refine own_iload X_15 hx (hb hby at_61) (pc' := 63) rfl rfl ?_
    refine own_aload X_15 hx (hb hby at_63) (pc' := 65) rfl rfl rfl ?_
    obtain ⟨cq_23, kq_23, qa_23, qb_23, qc_23⟩ := isOf hZ rfl A_22
    obtain ⟨_, _, ⟨T_23, L_23, k_23, n_23⟩, -, X_23, ⟨Lc_23, hQ_23, l_23, y_23, z_23⟩, st_23⟩ := X_15.virtualBack hx  (y := (⟨"com/example/sluicegate/sluicegate/Instance$Shipment", "full", "()Z"⟩ : MethodName)) (z := (⟨"com/example/sluicegate/sluicegate/Instance$Shipment", "full", "()Z"⟩ : MethodName)) hown (mvT hZ (hw _ (List.mem_of_getElem? (i := 21) rfl))) (mvT hZ (hw _ (List.mem_of_getElem? (i := 22) rfl))) (notFace_of_selects (args := #[]) (mvT hZ (hw _ (List.mem_of_getElem? (i := 24) rfl)))) (mvT hZ (hw _ (List.mem_of_getElem? (i := 24) rfl))) (mvT hZ (hw _ (List.mem_of_getElem? (i := 23) rfl))) (by decide) (backOf (W := 1) (rm3 l Z a0 hw [] a_2 ev (1 : Int32) cc T_15.heap n0 Z_19 F_16 F_18 q4_20) hZ (hw _ (List.mem_of_getElem? (i := 25) rfl)) (hw _ (List.mem_of_getElem? (i := 7) rfl)) (by decide) (by decide)) qa_23 qc_23 (g := (mkF m 65 #[.val (.int x0), .val (.int x1), .val (.long x2), .second, .val (.int cc), .val (.int (own_min cc ((x1 &&& (2147483647 : Int32)) % (5 : Int32)))), .val (.ref a_2), .val (.int (1 : Int32))] [(.ref a_2), (.int (1 : Int32))])) rfl (by rw [hml]; rfl) (Steps.refl _) (argsL := []) (rest := [(.int (1 : Int32))]) (lenOf pd0_2 rfl) rfl (by show 2 * 0 + _ ≤ _; exact Nat.le_of_eq rfl) (hb hby at_65) (fun _ _ => ⟨rfl, rfl, (by decide : 3 + 0 ≤ _), (by decide : 35 + 0 ≤ _)⟩)
    dsimp only [Pt.U, Pt.locs, Pt.cells, Pt.slots] at X_23 l_23 y_23 z_23 st_23 hQ_23
    subst l_23 y_23 z_23
    refine own_tr st_23 ?_
    obtain ⟨rfl, Nq_23, eq_23⟩ := hQ_23
    have N_23 := Fr.app N_15 Nq_23
    show own_Go p e below _ T_23 (mkF m 68 #[.val (.int x0), .val (.int x1), .val (.long x2), .second, .val (.int cc), .val (.int (own_min cc ((x1 &&& (2147483647 : Int32)) % (5 : Int32)))), .val (.ref a_2), .val (.int (1 : Int32))] [(.int (own_b ((1 : Int32) = cc))), (.int (1 : Int32))])
    refine own_iload X_23 hx (hb hby at_68) (pc' := 70) rfl rfl ?_
    refine own_iconst X_23 hx (1) (hb hby at_70) (pc' := 71) rfl rfl ?_
    refine own_cut (g' := (mkF m 79 #[.val (.int x0), .val (.int x1), .val (.long x2), .second, .val (.int cc), .val (.int (own_min cc ((x1 &&& (2147483647 : Int32)) % (5 : Int32)))), .val (.ref a_2), .val (.int (1 : Int32))] [(.int (own_b (cc = (1 : Int32)))), (.int (own_b ((1 : Int32) = cc))), (.int (1 : Int32))])) (fun kk_24 => ?_) ?_
    · skip
      by_cases c_25 : cc = (1 : Int32)
      · skip
        refine own_icmpN X_23 hx (hb hby at_71) (XT.ii_ne_f c_25) (pc' := 74) rfl ?_
        refine own_iconst X_23 hx (1) (hb hby at_74) (pc' := 75) rfl rfl ?_
        refine own_goto X_23 hx (hb hby at_75) (pc' := 79) (by decide) (by decide) ?_
        rw [own_b1 c_25] at kk_24; exact kk_24
      · skip
        refine own_icmpY X_23 hx (hb hby at_71) (XT.ii_ne_t c_25) (pc' := 78) (by decide) (by decide) ?_
        refine own_iconst X_23 hx (0) (hb hby at_78) (pc' := 79) rfl rfl ?_
        rw [own_b0 c_25] at kk_24; exact kk_24
    refine own_icmpN X_23 hx (hb hby at_79) (XT.ii_ne_f (own_biff eq_comm)) (pc' := 82) rfl ?_
    refine own_iconst X_23 hx (1) (hb hby at_82) (pc' := 83) rfl rfl ?_
    refine own_goto X_23 hx (hb hby at_83) (pc' := 87) (by decide) (by decide) ?_
    refine own_iand X_23 hx (hb hby at_87) (pc' := 88) rfl ?_
    rw [show ((1 : Int32) &&& (1 : Int32)) = (1 : Int32) from by decide]
    refine own_istore X_23 hx (hb hby at_88) (pc' := 90) (Ls' := #[.val (.int x0), .val (.int x1), .val (.long x2), .second, .val (.int cc), .val (.int (own_min cc ((x1 &&& (2147483647 : Int32)) % (5 : Int32)))), .val (.ref a_2), .val (.int (1 : Int32))]) rfl rfl ?_
    refine own_iload X_23 hx (hb hby at_90) (pc' := 92) rfl rfl ?_
    refine own_iconst X_23 hx (2) (hb hby at_92) (pc' := 93) rfl rfl ?_
    by_cases c_26 : (own_min cc ((x1 &&& (2147483647 : Int32)) % (5 : Int32))) < (2 : Int32)
    · skip
      refine own_icmpY X_23 hx (hb hby at_93) (XT.ii_lt_t c_26) (pc' := 133) (by decide) (by decide) ?_
      refine own_iload X_23 hx (hb hby at_133) (pc' := 135) rfl rfl ?_
      refine own_iconst X_23 hx (3) (hb hby at_135) (pc' := 136) rfl rfl ?_
      by_cases c_27 : (own_min cc ((x1 &&& (2147483647 : Int32)) % (5 : Int32))) < (3 : Int32)
      · skip
        refine own_icmpY X_23 hx (hb hby at_136) (XT.ii_lt_t c_27) (pc' := 176) (by decide) (by decide) ?_
        refine own_iload X_23 hx (hb hby at_176) (pc' := 178) rfl rfl ?_
        refine own_iconst X_23 hx (4) (hb hby at_178) (pc' := 179) rfl rfl ?_
        by_cases c_28 : (own_min cc ((x1 &&& (2147483647 : Int32)) % (5 : Int32))) < (4 : Int32)
        · skip
          refine own_icmpY X_23 hx (hb hby at_179) (XT.ii_lt_t c_28) (pc' := 219) (by decide) (by decide) ?_
          refine own_iload X_23 hx (hb hby at_219) (pc' := 221) rfl rfl ?_
          refine own_retZ X_23 hx hlk Bd.returns (by simp) (hb hby at_221) (by decide) (by decide) ?_
          exact ⟨rfl, N_23⟩
        · skip
          exact absurd (own_ltm c_26 (by decide)) c_28
      · skip
        exact absurd (own_ltm c_26 (by decide)) c_27
    · skip
      refine own_icmpN X_23 hx (hb hby at_93) (XT.ii_lt_f c_26) (pc' := 96) rfl ?_
      refine own_aload X_23 hx (hb hby at_96) (pc' := 98) rfl rfl rfl ?_
      refine own_null X_23 hx (hb hby at_98) (pc' := 99) rfl ?_
      refine own_lloadN X_23 hx (hb hby at_99) (pc' := 100) rfl rfl ?_
      obtain ⟨cq_29, kq_29, qa_29, qb_29, qc_29⟩ := isOf hZ eq_23 A_22
      obtain ⟨_, _, ⟨T_29, L_29, k_29, n_29⟩, -, X_29, ⟨Lc_29, hQ_29, l_29, y_29, z_29⟩, st_29⟩ := X_23.virtualBack hx  (y := (⟨"com/example/sluicegate/sluicegate/Instance$Shipment", "add", "(Lcom/example/sluicegate/sluicegate/Event;J)I"⟩ : MethodName)) (z := (⟨"com/example/sluicegate/sluicegate/Instance$Shipment", "add", "(Lcom/example/sluicegate/sluicegate/Event;J)I"⟩ : MethodName)) hown (mvT hZ (hw _ (List.mem_of_getElem? (i := 28) rfl))) (mvT hZ (hw _ (List.mem_of_getElem? (i := 29) rfl))) (notFace_of_selects (args := #[]) (mvT hZ (hw _ (List.mem_of_getElem? (i := 31) rfl)))) (mvT hZ (hw _ (List.mem_of_getElem? (i := 31) rfl))) (mvT hZ (hw _ (List.mem_of_getElem? (i := 30) rfl))) (by decide) (backOf (W := 0) (rm4 l Z a0 hw [] a_2 x2 ev rl (1 : Int32) cc T_15.heap n0 Z_19 A_22 F_16 F_17 F_18 q4_20 q5_21 ge_2 gev grl nev nrl ⟨by decide, own_in1 c_26⟩) hZ (hw _ (List.mem_of_getElem? (i := 32) rfl)) (hw _ (List.mem_of_getElem? (i := 7) rfl)) (by decide) (by decide)) qa_29 qc_29 (g := (mkF m 100 #[.val (.int x0), .val (.int x1), .val (.long x2), .second, .val (.int cc), .val (.int (own_min cc ((x1 &&& (2147483647 : Int32)) % (5 : Int32)))), .val (.ref a_2), .val (.int (1 : Int32))] [(.long x2), (.null), (.ref a_2)])) rfl (by rw [hml]; rfl) (Steps.refl _) (argsL := [(.null), (.long x2)]) (rest := []) (lenOf pd0_3 rfl) rfl (by show 2 * 0 + _ ≤ _; exact Nat.le_of_eq rfl) (hb hby at_100) (fun _ _ => ⟨rfl, eq_23, (by decide : 3 + 0 ≤ _), (by decide : 35 + 0 ≤ _)⟩)
      dsimp only [Pt.U, Pt.locs, Pt.cells, Pt.slots] at X_29 l_29 y_29 z_29 st_29 hQ_29
      subst l_29 y_29 z_29
      refine own_tr st_29 ?_
      obtain ⟨rfl, Nq_29, Kq_29, q0_29, q1_29, q2_29⟩ := hQ_29
      have N_29 := Fr.app N_23 Nq_29
      have F_30 : Fld Z T_29.heap a_2 "com/example/sluicegate/sluicegate/Instance$Shipment" "events" "[Lcom/example/sluicegate/sluicegate/Event;" (.ref ev) := q0_29
      have F_31 : Fld Z T_29.heap a_2 "com/example/sluicegate/sluicegate/Instance$Shipment" "released" "[J" (.ref rl) := q1_29
      have F_32 : Fld Z T_29.heap a_2 "com/example/sluicegate/sluicegate/Instance$Shipment" "size" "I" (.int (2 : Int32)) := q2_29
      have q4_34 : own_Len Z T_29.heap ev (.object "com/example/sluicegate/sluicegate/Event") cc := q4_20.keep Kq_29
      have q5_35 : own_Len Z T_29.heap rl .long cc := q5_21.keep Kq_29
      have A_36 : Exa Z T_29.heap a_2 "com/example/sluicegate/sluicegate/Instance$Shipment" := A_22.keep Kq_29
      have Z_33 : n0 ≤ T_29.heap.size := Nat.le_trans Z_19 Kq_29.1
      show own_Go p e below _ T_29 (mkF m 103 #[.val (.int x0), .val (.int x1), .val (.long x2), .second, .val (.int cc), .val (.int (own_min cc ((x1 &&& (2147483647 : Int32)) % (5 : Int32)))), .val (.ref a_2), .val (.int (1 : Int32))] [(.int (1 : Int32))])
      refine own_pop X_29 hx (hb hby at_103) (pc' := 104) rfl rfl ?_
      refine own_iload X_29 hx (hb hby at_104) (pc' := 106) rfl rfl ?_
      refine own_aload X_29 hx (hb hby at_106) (pc' := 108) rfl rfl rfl ?_
      obtain ⟨cq_37, kq_37, qa_37, qb_37, qc_37⟩ := isOf hZ rfl A_36
      obtain ⟨_, _, ⟨T_37, L_37, k_37, n_37⟩, -, X_37, ⟨Lc_37, hQ_37, l_37, y_37, z_37⟩, st_37⟩ := X_29.virtualBack hx  (y := (⟨"com/example/sluicegate/sluicegate/Instance$Shipment", "full", "()Z"⟩ : MethodName)) (z := (⟨"com/example/sluicegate/sluicegate/Instance$Shipment", "full", "()Z"⟩ : MethodName)) hown (mvT hZ (hw _ (List.mem_of_getElem? (i := 21) rfl))) (mvT hZ (hw _ (List.mem_of_getElem? (i := 22) rfl))) (notFace_of_selects (args := #[]) (mvT hZ (hw _ (List.mem_of_getElem? (i := 24) rfl)))) (mvT hZ (hw _ (List.mem_of_getElem? (i := 24) rfl))) (mvT hZ (hw _ (List.mem_of_getElem? (i := 23) rfl))) (by decide) (backOf (W := 1) (rm3 l Z a0 hw [] a_2 ev (2 : Int32) cc T_29.heap n0 Z_33 F_30 F_32 q4_34) hZ (hw _ (List.mem_of_getElem? (i := 25) rfl)) (hw _ (List.mem_of_getElem? (i := 7) rfl)) (by decide) (by decide)) qa_37 qc_37 (g := (mkF m 108 #[.val (.int x0), .val (.int x1), .val (.long x2), .second, .val (.int cc), .val (.int (own_min cc ((x1 &&& (2147483647 : Int32)) % (5 : Int32)))), .val (.ref a_2), .val (.int (1 : Int32))] [(.ref a_2), (.int (1 : Int32))])) rfl (by rw [hml]; rfl) (Steps.refl _) (argsL := []) (rest := [(.int (1 : Int32))]) (lenOf pd0_2 rfl) rfl (by show 2 * 0 + _ ≤ _; exact Nat.le_of_eq rfl) (hb hby at_108) (fun _ _ => ⟨rfl, rfl, (by decide : 3 + 0 ≤ _), (by decide : 35 + 0 ≤ _)⟩)
      dsimp only [Pt.U, Pt.locs, Pt.cells, Pt.slots] at X_37 l_37 y_37 z_37 st_37 hQ_37
      subst l_37 y_37 z_37
      refine own_tr st_37 ?_
      obtain ⟨rfl, Nq_37, eq_37⟩ := hQ_37
      have N_37 := Fr.app N_29 Nq_37
      show own_Go p e below _ T_37 (mkF m 111 #[.val (.int x0), .val (.int x1), .val (.long x2), .second, .val (.int cc), .val (.int (own_min cc ((x1 &&& (2147483647 : Int32)) % (5 : Int32)))), .val (.ref a_2), .val (.int (1 : Int32))] [(.int (own_b ((2 : Int32) = cc))), (.int (1 : Int32))])
      refine own_iload X_37 hx (hb hby at_111) (pc' := 113) rfl rfl ?_
      refine own_iconst X_37 hx (2) (hb hby at_113) (pc' := 114) rfl rfl ?_
      refine own_cut (g' := (mkF m 122 #[.val (.int x0), .val (.int x1), .val (.long x2), .second, .val (.int cc), .val (.int (own_min cc ((x1 &&& (2147483647 : Int32)) % (5 : Int32)))), .val (.ref a_2), .val (.int (1 : Int32))] [(.int (own_b (cc = (2 : Int32)))), (.int (own_b ((2 : Int32) = cc))), (.int (1 : Int32))])) (fun kk_38 => ?_) ?_
      · skip
        by_cases c_39 : cc = (2 : Int32)
        · skip
          refine own_icmpN X_37 hx (hb hby at_114) (XT.ii_ne_f c_39) (pc' := 117) rfl ?_
          refine own_iconst X_37 hx (1) (hb hby at_117) (pc' := 118) rfl rfl ?_
          refine own_goto X_37 hx (hb hby at_118) (pc' := 122) (by decide) (by decide) ?_
          rw [own_b1 c_39] at kk_38; exact kk_38
        · skip
          refine own_icmpY X_37 hx (hb hby at_114) (XT.ii_ne_t c_39) (pc' := 121) (by decide) (by decide) ?_
          refine own_iconst X_37 hx (0) (hb hby at_121) (pc' := 122) rfl rfl ?_
          rw [own_b0 c_39] at kk_38; exact kk_38
      refine own_icmpN X_37 hx (hb hby at_122) (XT.ii_ne_f (own_biff eq_comm)) (pc' := 125) rfl ?_
      refine own_iconst X_37 hx (1) (hb hby at_125) (pc' := 126) rfl rfl ?_
      refine own_goto X_37 hx (hb hby at_126) (pc' := 130) (by decide) (by decide) ?_
      refine own_iand X_37 hx (hb hby at_130) (pc' := 131) rfl ?_
      rw [show ((1 : Int32) &&& (1 : Int32)) = (1 : Int32) from by decide]
      refine own_istore X_37 hx (hb hby at_131) (pc' := 133) (Ls' := #[.val (.int x0), .val (.int x1), .val (.long x2), .second, .val (.int cc), .val (.int (own_min cc ((x1 &&& (2147483647 : Int32)) % (5 : Int32)))), .val (.ref a_2), .val (.int (1 : Int32))]) rfl rfl ?_
      refine own_iload X_37 hx (hb hby at_133) (pc' := 135) rfl rfl ?_
      refine own_iconst X_37 hx (3) (hb hby at_135) (pc' := 136) rfl rfl ?_
      by_cases c_40 : (own_min cc ((x1 &&& (2147483647 : Int32)) % (5 : Int32))) < (3 : Int32)
      · skip
        refine own_icmpY X_37 hx (hb hby at_136) (XT.ii_lt_t c_40) (pc' := 176) (by decide) (by decide) ?_
        refine own_iload X_37 hx (hb hby at_176) (pc' := 178) rfl rfl ?_
        refine own_iconst X_37 hx (4) (hb hby at_178) (pc' := 179) rfl rfl ?_
        by_cases c_41 : (own_min cc ((x1 &&& (2147483647 : Int32)) % (5 : Int32))) < (4 : Int32)
        · skip
          refine own_icmpY X_37 hx (hb hby at_179) (XT.ii_lt_t c_41) (pc' := 219) (by decide) (by decide) ?_
          refine own_iload X_37 hx (hb hby at_219) (pc' := 221) rfl rfl ?_
          refine own_retZ X_37 hx hlk Bd.returns (by simp) (hb hby at_221) (by decide) (by decide) ?_
          exact ⟨rfl, N_37⟩
        · skip
          exact absurd (own_ltm c_40 (by decide)) c_41
      · skip
        refine own_icmpN X_37 hx (hb hby at_136) (XT.ii_lt_f c_40) (pc' := 139) rfl ?_
        refine own_aload X_37 hx (hb hby at_139) (pc' := 141) rfl rfl rfl ?_
        refine own_null X_37 hx (hb hby at_141) (pc' := 142) rfl ?_
        refine own_lloadN X_37 hx (hb hby at_142) (pc' := 143) rfl rfl ?_
        obtain ⟨cq_42, kq_42, qa_42, qb_42, qc_42⟩ := isOf hZ eq_37 A_36
        obtain ⟨_, _, ⟨T_42, L_42, k_42, n_42⟩, -, X_42, ⟨Lc_42, hQ_42, l_42, y_42, z_42⟩, st_42⟩ := X_37.virtualBack hx  (y := (⟨"com/example/sluicegate/sluicegate/Instance$Shipment", "add", "(Lcom/example/sluicegate/sluicegate/Event;J)I"⟩ : MethodName)) (z := (⟨"com/example/sluicegate/sluicegate/Instance$Shipment", "add", "(Lcom/example/sluicegate/sluicegate/Event;J)I"⟩ : MethodName)) hown (mvT hZ (hw _ (List.mem_of_getElem? (i := 28) rfl))) (mvT hZ (hw _ (List.mem_of_getElem? (i := 29) rfl))) (notFace_of_selects (args := #[]) (mvT hZ (hw _ (List.mem_of_getElem? (i := 31) rfl)))) (mvT hZ (hw _ (List.mem_of_getElem? (i := 31) rfl))) (mvT hZ (hw _ (List.mem_of_getElem? (i := 30) rfl))) (by decide) (backOf (W := 0) (rm4 l Z a0 hw [] a_2 x2 ev rl (2 : Int32) cc T_29.heap n0 Z_33 A_36 F_30 F_31 F_32 q4_34 q5_35 ge_2 gev grl nev nrl ⟨by decide, own_in2 c_40⟩) hZ (hw _ (List.mem_of_getElem? (i := 32) rfl)) (hw _ (List.mem_of_getElem? (i := 7) rfl)) (by decide) (by decide)) qa_42 qc_42 (g := (mkF m 143 #[.val (.int x0), .val (.int x1), .val (.long x2), .second, .val (.int cc), .val (.int (own_min cc ((x1 &&& (2147483647 : Int32)) % (5 : Int32)))), .val (.ref a_2), .val (.int (1 : Int32))] [(.long x2), (.null), (.ref a_2)])) rfl (by rw [hml]; rfl) (Steps.refl _) (argsL := [(.null), (.long x2)]) (rest := []) (lenOf pd0_3 rfl) rfl (by show 2 * 0 + _ ≤ _; exact Nat.le_of_eq rfl) (hb hby at_143) (fun _ _ => ⟨rfl, eq_37, (by decide : 3 + 0 ≤ _), (by decide : 35 + 0 ≤ _)⟩)
        dsimp only [Pt.U, Pt.locs, Pt.cells, Pt.slots] at X_42 l_42 y_42 z_42 st_42 hQ_42
        subst l_42 y_42 z_42
        refine own_tr st_42 ?_
        obtain ⟨rfl, Nq_42, Kq_42, q0_42, q1_42, q2_42⟩ := hQ_42
        have N_42 := Fr.app N_37 Nq_42
        have F_43 : Fld Z T_42.heap a_2 "com/example/sluicegate/sluicegate/Instance$Shipment" "events" "[Lcom/example/sluicegate/sluicegate/Event;" (.ref ev) := q0_42
        have F_44 : Fld Z T_42.heap a_2 "com/example/sluicegate/sluicegate/Instance$Shipment" "released" "[J" (.ref rl) := q1_42
        have F_45 : Fld Z T_42.heap a_2 "com/example/sluicegate/sluicegate/Instance$Shipment" "size" "I" (.int (3 : Int32)) := q2_42
        have q4_47 : own_Len Z T_42.heap ev (.object "com/example/sluicegate/sluicegate/Event") cc := q4_34.keep Kq_42
        have q5_48 : own_Len Z T_42.heap rl .long cc := q5_35.keep Kq_42
        have A_49 : Exa Z T_42.heap a_2 "com/example/sluicegate/sluicegate/Instance$Shipment" := A_36.keep Kq_42
        have Z_46 : n0 ≤ T_42.heap.size := Nat.le_trans Z_33 Kq_42.1
        show own_Go p e below _ T_42 (mkF m 146 #[.val (.int x0), .val (.int x1), .val (.long x2), .second, .val (.int cc), .val (.int (own_min cc ((x1 &&& (2147483647 : Int32)) % (5 : Int32)))), .val (.ref a_2), .val (.int (1 : Int32))] [(.int (2 : Int32))])
        refine own_pop X_42 hx (hb hby at_146) (pc' := 147) rfl rfl ?_
        refine own_iload X_42 hx (hb hby at_147) (pc' := 149) rfl rfl ?_
        refine own_aload X_42 hx (hb hby at_149) (pc' := 151) rfl rfl rfl ?_
        obtain ⟨cq_50, kq_50, qa_50, qb_50, qc_50⟩ := isOf hZ rfl A_49
        obtain ⟨_, _, ⟨T_50, L_50, k_50, n_50⟩, -, X_50, ⟨Lc_50, hQ_50, l_50, y_50, z_50⟩, st_50⟩ := X_42.virtualBack hx  (y := (⟨"com/example/sluicegate/sluicegate/Instance$Shipment", "full", "()Z"⟩ : MethodName)) (z := (⟨"com/example/sluicegate/sluicegate/Instance$Shipment", "full", "()Z"⟩ : MethodName)) hown (mvT hZ (hw _ (List.mem_of_getElem? (i := 21) rfl))) (mvT hZ (hw _ (List.mem_of_getElem? (i := 22) rfl))) (notFace_of_selects (args := #[]) (mvT hZ (hw _ (List.mem_of_getElem? (i := 24) rfl)))) (mvT hZ (hw _ (List.mem_of_getElem? (i := 24) rfl))) (mvT hZ (hw _ (List.mem_of_getElem? (i := 23) rfl))) (by decide) (backOf (W := 1) (rm3 l Z a0 hw [] a_2 ev (3 : Int32) cc T_42.heap n0 Z_46 F_43 F_45 q4_47) hZ (hw _ (List.mem_of_getElem? (i := 25) rfl)) (hw _ (List.mem_of_getElem? (i := 7) rfl)) (by decide) (by decide)) qa_50 qc_50 (g := (mkF m 151 #[.val (.int x0), .val (.int x1), .val (.long x2), .second, .val (.int cc), .val (.int (own_min cc ((x1 &&& (2147483647 : Int32)) % (5 : Int32)))), .val (.ref a_2), .val (.int (1 : Int32))] [(.ref a_2), (.int (1 : Int32))])) rfl (by rw [hml]; rfl) (Steps.refl _) (argsL := []) (rest := [(.int (1 : Int32))]) (lenOf pd0_2 rfl) rfl (by show 2 * 0 + _ ≤ _; exact Nat.le_of_eq rfl) (hb hby at_151) (fun _ _ => ⟨rfl, rfl, (by decide : 3 + 0 ≤ _), (by decide : 35 + 0 ≤ _)⟩)
        dsimp only [Pt.U, Pt.locs, Pt.cells, Pt.slots] at X_50 l_50 y_50 z_50 st_50 hQ_50
        subst l_50 y_50 z_50
        refine own_tr st_50 ?_
        obtain ⟨rfl, Nq_50, eq_50⟩ := hQ_50
        have N_50 := Fr.app N_42 Nq_50
        show own_Go p e below _ T_50 (mkF m 154 #[.val (.int x0), .val (.int x1), .val (.long x2), .second, .val (.int cc), .val (.int (own_min cc ((x1 &&& (2147483647 : Int32)) % (5 : Int32)))), .val (.ref a_2), .val (.int (1 : Int32))] [(.int (own_b ((3 : Int32) = cc))), (.int (1 : Int32))])
        refine own_iload X_50 hx (hb hby at_154) (pc' := 156) rfl rfl ?_
        refine own_iconst X_50 hx (3) (hb hby at_156) (pc' := 157) rfl rfl ?_
        refine own_cut (g' := (mkF m 165 #[.val (.int x0), .val (.int x1), .val (.long x2), .second, .val (.int cc), .val (.int (own_min cc ((x1 &&& (2147483647 : Int32)) % (5 : Int32)))), .val (.ref a_2), .val (.int (1 : Int32))] [(.int (own_b (cc = (3 : Int32)))), (.int (own_b ((3 : Int32) = cc))), (.int (1 : Int32))])) (fun kk_51 => ?_) ?_
        · skip
          by_cases c_52 : cc = (3 : Int32)
          · skip
            refine own_icmpN X_50 hx (hb hby at_157) (XT.ii_ne_f c_52) (pc' := 160) rfl ?_
            refine own_iconst X_50 hx (1) (hb hby at_160) (pc' := 161) rfl rfl ?_
            refine own_goto X_50 hx (hb hby at_161) (pc' := 165) (by decide) (by decide) ?_
            rw [own_b1 c_52] at kk_51; exact kk_51
          · skip
            refine own_icmpY X_50 hx (hb hby at_157) (XT.ii_ne_t c_52) (pc' := 164) (by decide) (by decide) ?_
            refine own_iconst X_50 hx (0) (hb hby at_164) (pc' := 165) rfl rfl ?_
            rw [own_b0 c_52] at kk_51; exact kk_51
        refine own_icmpN X_50 hx (hb hby at_165) (XT.ii_ne_f (own_biff eq_comm)) (pc' := 168) rfl ?_
        refine own_iconst X_50 hx (1) (hb hby at_168) (pc' := 169) rfl rfl ?_
        refine own_goto X_50 hx (hb hby at_169) (pc' := 173) (by decide) (by decide) ?_
        refine own_iand X_50 hx (hb hby at_173) (pc' := 174) rfl ?_
        rw [show ((1 : Int32) &&& (1 : Int32)) = (1 : Int32) from by decide]
        refine own_istore X_50 hx (hb hby at_174) (pc' := 176) (Ls' := #[.val (.int x0), .val (.int x1), .val (.long x2), .second, .val (.int cc), .val (.int (own_min cc ((x1 &&& (2147483647 : Int32)) % (5 : Int32)))), .val (.ref a_2), .val (.int (1 : Int32))]) rfl rfl ?_
        refine own_iload X_50 hx (hb hby at_176) (pc' := 178) rfl rfl ?_
        refine own_iconst X_50 hx (4) (hb hby at_178) (pc' := 179) rfl rfl ?_
        by_cases c_53 : (own_min cc ((x1 &&& (2147483647 : Int32)) % (5 : Int32))) < (4 : Int32)
        · skip
          refine own_icmpY X_50 hx (hb hby at_179) (XT.ii_lt_t c_53) (pc' := 219) (by decide) (by decide) ?_
          refine own_iload X_50 hx (hb hby at_219) (pc' := 221) rfl rfl ?_
          refine own_retZ X_50 hx hlk Bd.returns (by simp) (hb hby at_221) (by decide) (by decide) ?_
          exact ⟨rfl, N_50⟩
        · skip
          refine own_icmpN X_50 hx (hb hby at_179) (XT.ii_lt_f c_53) (pc' := 182) rfl ?_
          refine own_aload X_50 hx (hb hby at_182) (pc' := 184) rfl rfl rfl ?_
          refine own_null X_50 hx (hb hby at_184) (pc' := 185) rfl ?_
          refine own_lloadN X_50 hx (hb hby at_185) (pc' := 186) rfl rfl ?_
          obtain ⟨cq_54, kq_54, qa_54, qb_54, qc_54⟩ := isOf hZ eq_50 A_49
          obtain ⟨_, _, ⟨T_54, L_54, k_54, n_54⟩, -, X_54, ⟨Lc_54, hQ_54, l_54, y_54, z_54⟩, st_54⟩ := X_50.virtualBack hx  (y := (⟨"com/example/sluicegate/sluicegate/Instance$Shipment", "add", "(Lcom/example/sluicegate/sluicegate/Event;J)I"⟩ : MethodName)) (z := (⟨"com/example/sluicegate/sluicegate/Instance$Shipment", "add", "(Lcom/example/sluicegate/sluicegate/Event;J)I"⟩ : MethodName)) hown (mvT hZ (hw _ (List.mem_of_getElem? (i := 28) rfl))) (mvT hZ (hw _ (List.mem_of_getElem? (i := 29) rfl))) (notFace_of_selects (args := #[]) (mvT hZ (hw _ (List.mem_of_getElem? (i := 31) rfl)))) (mvT hZ (hw _ (List.mem_of_getElem? (i := 31) rfl))) (mvT hZ (hw _ (List.mem_of_getElem? (i := 30) rfl))) (by decide) (backOf (W := 0) (rm4 l Z a0 hw [] a_2 x2 ev rl (3 : Int32) cc T_42.heap n0 Z_46 A_49 F_43 F_44 F_45 q4_47 q5_48 ge_2 gev grl nev nrl ⟨by decide, own_in3 c_53⟩) hZ (hw _ (List.mem_of_getElem? (i := 32) rfl)) (hw _ (List.mem_of_getElem? (i := 7) rfl)) (by decide) (by decide)) qa_54 qc_54 (g := (mkF m 186 #[.val (.int x0), .val (.int x1), .val (.long x2), .second, .val (.int cc), .val (.int (own_min cc ((x1 &&& (2147483647 : Int32)) % (5 : Int32)))), .val (.ref a_2), .val (.int (1 : Int32))] [(.long x2), (.null), (.ref a_2)])) rfl (by rw [hml]; rfl) (Steps.refl _) (argsL := [(.null), (.long x2)]) (rest := []) (lenOf pd0_3 rfl) rfl (by show 2 * 0 + _ ≤ _; exact Nat.le_of_eq rfl) (hb hby at_186) (fun _ _ => ⟨rfl, eq_50, (by decide : 3 + 0 ≤ _), (by decide : 35 + 0 ≤ _)⟩)
          dsimp only [Pt.U, Pt.locs, Pt.cells, Pt.slots] at X_54 l_54 y_54 z_54 st_54 hQ_54
          subst l_54 y_54 z_54
          refine own_tr st_54 ?_
          obtain ⟨rfl, Nq_54, Kq_54, q0_54, q1_54, q2_54⟩ := hQ_54
          have N_54 := Fr.app N_50 Nq_54
          have F_55 : Fld Z T_54.heap a_2 "com/example/sluicegate/sluicegate/Instance$Shipment" "events" "[Lcom/example/sluicegate/sluicegate/Event;" (.ref ev) := q0_54
          have F_56 : Fld Z T_54.heap a_2 "com/example/sluicegate/sluicegate/Instance$Shipment" "released" "[J" (.ref rl) := q1_54
          have F_57 : Fld Z T_54.heap a_2 "com/example/sluicegate/sluicegate/Instance$Shipment" "size" "I" (.int (4 : Int32)) := q2_54
          have q4_59 : own_Len Z T_54.heap ev (.object "com/example/sluicegate/sluicegate/Event") cc := q4_47.keep Kq_54
          have q5_60 : own_Len Z T_54.heap rl .long cc := q5_48.keep Kq_54
          have A_61 : Exa Z T_54.heap a_2 "com/example/sluicegate/sluicegate/Instance$Shipment" := A_49.keep Kq_54
          have Z_58 : n0 ≤ T_54.heap.size := Nat.le_trans Z_46 Kq_54.1
          show own_Go p e below _ T_54 (mkF m 189 #[.val (.int x0), .val (.int x1), .val (.long x2), .second, .val (.int cc), .val (.int (own_min cc ((x1 &&& (2147483647 : Int32)) % (5 : Int32)))), .val (.ref a_2), .val (.int (1 : Int32))] [(.int (3 : Int32))])
          refine own_pop X_54 hx (hb hby at_189) (pc' := 190) rfl rfl ?_
          refine own_iload X_54 hx (hb hby at_190) (pc' := 192) rfl rfl ?_
          refine own_aload X_54 hx (hb hby at_192) (pc' := 194) rfl rfl rfl ?_
          obtain ⟨cq_62, kq_62, qa_62, qb_62, qc_62⟩ := isOf hZ rfl A_61
          obtain ⟨_, _, ⟨T_62, L_62, k_62, n_62⟩, -, X_62, ⟨Lc_62, hQ_62, l_62, y_62, z_62⟩, st_62⟩ := X_54.virtualBack hx  (y := (⟨"com/example/sluicegate/sluicegate/Instance$Shipment", "full", "()Z"⟩ : MethodName)) (z := (⟨"com/example/sluicegate/sluicegate/Instance$Shipment", "full", "()Z"⟩ : MethodName)) hown (mvT hZ (hw _ (List.mem_of_getElem? (i := 21) rfl))) (mvT hZ (hw _ (List.mem_of_getElem? (i := 22) rfl))) (notFace_of_selects (args := #[]) (mvT hZ (hw _ (List.mem_of_getElem? (i := 24) rfl)))) (mvT hZ (hw _ (List.mem_of_getElem? (i := 24) rfl))) (mvT hZ (hw _ (List.mem_of_getElem? (i := 23) rfl))) (by decide) (backOf (W := 1) (rm3 l Z a0 hw [] a_2 ev (4 : Int32) cc T_54.heap n0 Z_58 F_55 F_57 q4_59) hZ (hw _ (List.mem_of_getElem? (i := 25) rfl)) (hw _ (List.mem_of_getElem? (i := 7) rfl)) (by decide) (by decide)) qa_62 qc_62 (g := (mkF m 194 #[.val (.int x0), .val (.int x1), .val (.long x2), .second, .val (.int cc), .val (.int (own_min cc ((x1 &&& (2147483647 : Int32)) % (5 : Int32)))), .val (.ref a_2), .val (.int (1 : Int32))] [(.ref a_2), (.int (1 : Int32))])) rfl (by rw [hml]; rfl) (Steps.refl _) (argsL := []) (rest := [(.int (1 : Int32))]) (lenOf pd0_2 rfl) rfl (by show 2 * 0 + _ ≤ _; exact Nat.le_of_eq rfl) (hb hby at_194) (fun _ _ => ⟨rfl, rfl, (by decide : 3 + 0 ≤ _), (by decide : 35 + 0 ≤ _)⟩)
          dsimp only [Pt.U, Pt.locs, Pt.cells, Pt.slots] at X_62 l_62 y_62 z_62 st_62 hQ_62
          subst l_62 y_62 z_62
          refine own_tr st_62 ?_
          obtain ⟨rfl, Nq_62, eq_62⟩ := hQ_62
          have N_62 := Fr.app N_54 Nq_62
          show own_Go p e below _ T_62 (mkF m 197 #[.val (.int x0), .val (.int x1), .val (.long x2), .second, .val (.int cc), .val (.int (own_min cc ((x1 &&& (2147483647 : Int32)) % (5 : Int32)))), .val (.ref a_2), .val (.int (1 : Int32))] [(.int (own_b ((4 : Int32) = cc))), (.int (1 : Int32))])
          refine own_iload X_62 hx (hb hby at_197) (pc' := 199) rfl rfl ?_
          refine own_iconst X_62 hx (4) (hb hby at_199) (pc' := 200) rfl rfl ?_
          refine own_cut (g' := (mkF m 208 #[.val (.int x0), .val (.int x1), .val (.long x2), .second, .val (.int cc), .val (.int (own_min cc ((x1 &&& (2147483647 : Int32)) % (5 : Int32)))), .val (.ref a_2), .val (.int (1 : Int32))] [(.int (own_b (cc = (4 : Int32)))), (.int (own_b ((4 : Int32) = cc))), (.int (1 : Int32))])) (fun kk_63 => ?_) ?_
          · skip
            by_cases c_64 : cc = (4 : Int32)
            · skip
              refine own_icmpN X_62 hx (hb hby at_200) (XT.ii_ne_f c_64) (pc' := 203) rfl ?_
              refine own_iconst X_62 hx (1) (hb hby at_203) (pc' := 204) rfl rfl ?_
              refine own_goto X_62 hx (hb hby at_204) (pc' := 208) (by decide) (by decide) ?_
              rw [own_b1 c_64] at kk_63; exact kk_63
            · skip
              refine own_icmpY X_62 hx (hb hby at_200) (XT.ii_ne_t c_64) (pc' := 207) (by decide) (by decide) ?_
              refine own_iconst X_62 hx (0) (hb hby at_207) (pc' := 208) rfl rfl ?_
              rw [own_b0 c_64] at kk_63; exact kk_63
          refine own_icmpN X_62 hx (hb hby at_208) (XT.ii_ne_f (own_biff eq_comm)) (pc' := 211) rfl ?_
          refine own_iconst X_62 hx (1) (hb hby at_211) (pc' := 212) rfl rfl ?_
          refine own_goto X_62 hx (hb hby at_212) (pc' := 216) (by decide) (by decide) ?_
          refine own_iand X_62 hx (hb hby at_216) (pc' := 217) rfl ?_
          rw [show ((1 : Int32) &&& (1 : Int32)) = (1 : Int32) from by decide]
          refine own_istore X_62 hx (hb hby at_217) (pc' := 219) (Ls' := #[.val (.int x0), .val (.int x1), .val (.long x2), .second, .val (.int cc), .val (.int (own_min cc ((x1 &&& (2147483647 : Int32)) % (5 : Int32)))), .val (.ref a_2), .val (.int (1 : Int32))]) rfl rfl ?_
          refine own_iload X_62 hx (hb hby at_219) (pc' := 221) rfl rfl ?_
          refine own_retZ X_62 hx hlk Bd.returns (by simp) (hb hby at_221) (by decide) (by decide) ?_
          exact ⟨rfl, N_62⟩
set_option maxRecDepth 65536 in
set_option maxHeartbeats 40000000 in
theorem comes_1 {Post : Tables → Env → Array Value → State → Outcome → State → Prop} (hpost : ∀ tb e args s v u, (limb_1_1.after args s (.returned v) u = true ∧ limb_1_2.after args s (.returned v) u = true ∧ True) → FrameEnd s (.returned v) u (Jvm.fieldLocs frame_1_writes args s ++ Jvm.arrayLocs frame_1_arrays args s ++ Jvm.staticLocs frame_1_statics s) 16 192 → Post tb e args s (.returned v) u) :
    ArmFor flags0 classFile x code maxLocals ret World_1 tables_1 room_1 Calls_1 rest_1 Pre_1 Post := by
  intro l hfl _ _ p e ha hc hk s m args below hf hA hF happ hP
  obtain ⟨hcalls, hrest, hpre⟩ := hP
  obtain ⟨-, -, -, hnamed, -, -, -, hat⟩ := (Spec.applies_iff hf).mp happ
  obtain ⟨hg, hn⟩ := and_e (Cond.before_iff.mp (show (Jvm.Cond.and given_1 narrow_1).before args s = true from hpre))
  obtain ⟨gc, gr0⟩ := and_e hg
  obtain ⟨ga0, gr1⟩ := and_e gr0
  obtain ⟨ga1, gr2⟩ := and_e gr1
  have ga2 := gr2
  obtain ⟨w0, w1, w2, rfl⟩ : ∃ w0 w1 w2 : Value, args = #[w0, w1, w2] := by
    have hs : args.size = 3 := by simpa [Cond.value, given_1] using gc
    obtain ⟨L⟩ := args
    match L, hs with
    | [w0, w1, w2], _ => exact ⟨w0, w1, w2, rfl⟩
  have hw := fun d (hd : d ∈ tables_1) => atoms_spec (ws := Jvm.Cond.code x code maxLocals ret :: tables_1) hat d (List.mem_cons_of_mem _ hd)
  have hfit : Fit s := fun {y c} hc i hi => by
    obtain ⟨ha, rfl⟩ := Array.getElem?_eq_some_iff.mp hc
    have q := List.all_eq_true.mp ((Array.all_eq_true_iff_forall_mem.mp hF) _ (Array.getElem_mem ha)) i (List.mem_range.mpr hi)
    simpa [Array.getElem?_eq_getElem hi] using q
  obtain ⟨i0, ei0⟩ := is_v ga0
  obtain rfl : w0 = (.int i0) := Option.some.inj ei0
  obtain ⟨i1, ei1⟩ := is_v ga1
  obtain rfl : w1 = (.int i1) := Option.some.inj ei1
  obtain ⟨i2, ei2⟩ := isL_v ga2
  obtain rfl : w2 = (.long i2) := Option.some.inj ei2
  obtain ⟨n, o, h1, h2, h3, _, L, rfl, ⟨rfl, N⟩, hq⟩ := rm0 l s _ hw tables_1 i0 i1 i2 s.heap s.heap.size (Nat.le_refl _)  p e ha hc hk s m _ below hf ((Spec.applies_iff_loose hf).mp happ).1 ⟨rfl, State.Warmed39.refl s, rfl⟩ trivial
  refine ⟨n, _, h1, h2, h3, hpost _ _ _ _ _ _ ⟨Cond.after_iff.mpr rfl, Cond.after_iff.mpr (eq_i res_at (Term.int_eval (1)) rfl), trivial⟩ ⟨hq.1, hq.2.1, (hq.2.2.sift fun y hy => Or.inr (N y hy)).mono (by decide) (by decide)⟩⟩
theorem main_1_1 : Claimed_1_1 := comes_1 fun _ _ _ _ _ _ h hF => ⟨h.1, hF⟩
theorem main_1_2 : Claimed_1_2 := comes_1 fun _ _ _ _ _ _ h hF => ⟨h.2.1, hF⟩
end Jvm.Pilot.@@N@@
namespace Jvm.Pilot.@@N@@
open Jvm Jvm.ClassFile Sem Op Lib Jvm.Free Jvm.Stand Jvm.Pilot.@@N@@.Jvm.D
/-! MADE BY PROGRAM (witnessworld.py) out of the Statement's table words and the real class files: 14 classes; the members and pool entries that the words name. The judged class is class 1, her method 1. -/
namespace start1
open Jvm.ClassFile
def u (s : String) : CpInfo := .utf8 (stringToUtf16 s)
/-- a pool by its gaps: so many unusable entries, then the entry; so many at the end -/
def gap : Nat → List CpInfo → List CpInfo
  | 0, r => r
  | n + 1, r => .unusable :: gap n r
def poolList (es : List (Nat × CpInfo)) (last : Nat) : List CpInfo := es.foldr (fun e r => gap e.1 (e.2 :: r)) (gap last [])
def pool (es : List (Nat × CpInfo)) (last : Nat) : Array CpInfo := ⟨poolList es last⟩
def fileOf (pool : Array CpInfo) (this : Nat) (attrs : Array Attribute := #[]) (ms : Array MethodInfo := #[]) (fl : Nat := 33) (sup : Nat := 0) (ifs : Array Nat := #[]) (fds : Array FieldInfo := #[]) : ClassFile where
  minorVersion := 0
  majorVersion := 65
  constantPool := pool
  accessFlags := fl
  thisClass := this
  superClass := sup
  interfaces := ifs
  fields := fds
  methods := ms
  attributes := attrs
def plain (name : String) (sup : Option ClassId) : Class where
  name := name
  kind := .ordinary
  loader := none
  accessFlags := 33
  super := sup
  interfaces := #[]
  cf := none
  fields := #[]
  methods := #[]
  instanceTypes := #[]
  staticTypes := #[]
  resolved := #[]
  callSites := []
  init := .initialized
  statics := none
  mirror := none

def pool0 : Array CpInfo := pool [(5, u "<init>"), (0, u "()V"), (1, .class_ 10), (1, u "java/lang/Object")] 113

def k0c0 : Code := { maxStack := 0, maxLocals := 1, code := object_method_1_code, exceptionTable := #[], attributes := #[] }
def k0m0 : Method := { name := "<init>", desc := "()V", sig := { parameters := [], returnType := none }, accessFlags := 1, code := some k0c0 }
/-- java/lang/Object -/
def k0 : Class := { plain "java/lang/Object" none with
  accessFlags := 33
  interfaces := #[]
  cf := some (fileOf pool0 8 #[] #[{ accessFlags := 1, nameIndex := 5, descriptorIndex := 6, attributes := #[] }] 33 0 #[] #[])
  fields := #[]
  methods := #[k0m0]
  instanceTypes := #[]
  staticTypes := #[]
  resolved := Array.replicate 124 none
  statics := none }

def pool1 : Array CpInfo := pool [(2, .class_ 4), (1, u "java/lang/Object"), (0, u "<init>"), (0, u "()V"), (0, .integer 2147483647), (0, .methodref 9 10), (0, .class_ 11), (0, .nameAndType 12 13), (0, u "java/lang/Math"), (0, u "min"), (0, u "(II)I"), (0, .class_ 15), (0, u "com/example/sluicegate/sluicegate/Instance$Shipment"), (0, .methodref 14 17), (0, .nameAndType 5 18), (0, u "(I)V"), (0, .methodref 14 20), (0, .nameAndType 21 22), (0, u "full"), (0, u "()Z"), (0, .methodref 14 24), (0, .nameAndType 25 26), (0, u "add"), (0, u "(Lcom/example/sluicegate/sluicegate/Event;J)I"), (0, .class_ 28), (0, u "com/example/sluicegate/sluicegate/ShipmentFullPinLaw"), (2, u "law"), (0, u "(IIJ)Z")] 7

def k1m0 : Method := { name := "<init>", desc := "()V", sig := { parameters := [], returnType := none }, accessFlags := 1, code := none }
def k1c1 : Code := { maxStack := 4, maxLocals := 8, code := code, exceptionTable := #[], attributes := #[] }
def k1m1 : Method := { name := "law", desc := "(IIJ)Z", sig := { parameters := [.int, .int, .long], returnType := some .boolean }, accessFlags := 9, code := some k1c1 }
/-- com/example/sluicegate/sluicegate/ShipmentFullPinLaw -/
def k1 : Class := { plain "com/example/sluicegate/sluicegate/ShipmentFullPinLaw" (some 0) with
  accessFlags := 49
  interfaces := #[]
  cf := some (fileOf pool1 27 #[] #[{ accessFlags := 1, nameIndex := 5, descriptorIndex := 6, attributes := #[] }, { accessFlags := 9, nameIndex := 31, descriptorIndex := 32, attributes := #[] }] 49 2 #[] #[])
  fields := #[]
  methods := #[k1m0, k1m1]
  instanceTypes := #[]
  staticTypes := #[]
  resolved := Array.replicate 40 none
  statics := none }

def pool2 : Array CpInfo := pool [(1, .class_ 2), (0, u "java/lang/Math"), (1, .class_ 6), (1, u "java/lang/Object"), (0, u "<init>"), (0, u "()V"), (89, .class_ 100), (1, u "java/lang/Math$RandomNumberGeneratorHolder"), (71, u "negativeZeroFloatBits"), (0, u "J"), (2, u "negativeZeroDoubleBits"), (24, u "min"), (43, u "$assertionsDisabled"), (0, u "Z"), (88, u "(II)I"), (2, u "twoToTheDoubleScaleDown"), (0, u "D"), (4, u "twoToTheDoubleScaleUp"), (9, u "E"), (3, u "PI"), (2, u "TAU"), (2, u "DEGREES_TO_RADIANS"), (0, u "RADIANS_TO_DEGREES")] 94

def k2m0 : Method := { name := "<init>", desc := "()V", sig := { parameters := [], returnType := none }, accessFlags := 2, code := none }
def k2c1 : Code := { maxStack := 2, maxLocals := 2, code := jdk_29_method_69_code, exceptionTable := #[], attributes := #[] }
def k2m1 : Method := { name := "min", desc := "(II)I", sig := { parameters := [.int, .int], returnType := some .int }, accessFlags := 9, code := some k2c1 }
/-- java/lang/Math -/
def k2 : Class := { plain "java/lang/Math" (some 0) with
  accessFlags := 49
  interfaces := #[]
  cf := some (fileOf pool2 1 #[.nestMembers #[98]] #[{ accessFlags := 2, nameIndex := 7, descriptorIndex := 8, attributes := #[] }, { accessFlags := 9, nameIndex := 201, descriptorIndex := 335, attributes := #[] }] 49 4 #[] #[{ accessFlags := 25, nameIndex := 354, descriptorIndex := 339, attributes := #[] }, { accessFlags := 25, nameIndex := 358, descriptorIndex := 339, attributes := #[] }, { accessFlags := 25, nameIndex := 361, descriptorIndex := 339, attributes := #[] }, { accessFlags := 26, nameIndex := 364, descriptorIndex := 339, attributes := #[] }, { accessFlags := 26, nameIndex := 365, descriptorIndex := 339, attributes := #[] }, { accessFlags := 26, nameIndex := 172, descriptorIndex := 173, attributes := #[] }, { accessFlags := 26, nameIndex := 176, descriptorIndex := 173, attributes := #[] }, { accessFlags := 8, nameIndex := 344, descriptorIndex := 339, attributes := #[] }, { accessFlags := 8, nameIndex := 338, descriptorIndex := 339, attributes := #[] }, { accessFlags := 4120, nameIndex := 245, descriptorIndex := 246, attributes := #[] }])
  fields := #[{ name := "E", type := .double, accessFlags := 25, slot := 0, constantValue := 0 }, { name := "PI", type := .double, accessFlags := 25, slot := 1, constantValue := 0 }, { name := "TAU", type := .double, accessFlags := 25, slot := 2, constantValue := 0 }, { name := "DEGREES_TO_RADIANS", type := .double, accessFlags := 26, slot := 3, constantValue := 0 }, { name := "RADIANS_TO_DEGREES", type := .double, accessFlags := 26, slot := 4, constantValue := 0 }, { name := "negativeZeroFloatBits", type := .long, accessFlags := 26, slot := 5, constantValue := 0 }, { name := "negativeZeroDoubleBits", type := .long, accessFlags := 26, slot := 6, constantValue := 0 }, { name := "twoToTheDoubleScaleUp", type := .double, accessFlags := 8, slot := 7, constantValue := 0 }, { name := "twoToTheDoubleScaleDown", type := .double, accessFlags := 8, slot := 8, constantValue := 0 }, { name := "$assertionsDisabled", type := .boolean, accessFlags := 4120, slot := 9, constantValue := 0 }]
  methods := #[k2m0, k2m1]
  instanceTypes := #[]
  staticTypes := #[.double, .double, .double, .double, .double, .long, .long, .double, .double, .boolean]
  resolved := Array.replicate 460 none
  statics := none }

def pool3 : Array CpInfo := pool [(1, .methodref 2 3), (0, .class_ 4), (0, .nameAndType 5 6), (0, u "java/lang/Object"), (0, u "<init>"), (0, u "()V"), (0, .class_ 8), (0, u "com/example/sluicegate/sluicegate/Event"), (0, .fieldref 10 11), (0, .class_ 12), (0, .nameAndType 13 14), (0, u "com/example/sluicegate/sluicegate/Instance$Shipment"), (0, u "events"), (0, u "[Lcom/example/sluicegate/sluicegate/Event;"), (0, .fieldref 10 16), (0, .nameAndType 17 18), (0, u "released"), (0, u "[J"), (0, .fieldref 10 20), (0, .nameAndType 21 22), (0, u "size"), (0, u "I"), (0, u "(I)V"), (2, u "add"), (0, u "(Lcom/example/sluicegate/sluicegate/Event;J)I"), (1, u "full"), (0, u "()Z"), (4, .class_ 36), (0, u "com/example/sluicegate/sluicegate/Instance")] 2

def k3c0 : Code := { maxStack := 2, maxLocals := 2, code := prog_46_method_1_code, exceptionTable := #[], attributes := #[] }
def k3m0 : Method := { name := "<init>", desc := "(I)V", sig := { parameters := [.int], returnType := none }, accessFlags := 0, code := some k3c0 }
def k3c1 : Code := { maxStack := 4, maxLocals := 4, code := prog_46_method_2_code, exceptionTable := #[], attributes := #[] }
def k3m1 : Method := { name := "add", desc := "(Lcom/example/sluicegate/sluicegate/Event;J)I", sig := { parameters := [(.object "com/example/sluicegate/sluicegate/Event"), .long], returnType := some .int }, accessFlags := 0, code := some k3c1 }
def k3c2 : Code := { maxStack := 2, maxLocals := 1, code := prog_46_method_4_code, exceptionTable := #[], attributes := #[] }
def k3m2 : Method := { name := "full", desc := "()Z", sig := { parameters := [], returnType := some .boolean }, accessFlags := 0, code := some k3c2 }
/-- com/example/sluicegate/sluicegate/Instance$Shipment -/
def k3 : Class := { plain "com/example/sluicegate/sluicegate/Instance$Shipment" (some 0) with
  accessFlags := 48
  interfaces := #[]
  cf := some (fileOf pool3 10 #[.nestHost 35] #[{ accessFlags := 0, nameIndex := 5, descriptorIndex := 23, attributes := #[] }, { accessFlags := 0, nameIndex := 26, descriptorIndex := 27, attributes := #[] }, { accessFlags := 0, nameIndex := 29, descriptorIndex := 30, attributes := #[] }] 48 2 #[] #[{ accessFlags := 18, nameIndex := 13, descriptorIndex := 14, attributes := #[] }, { accessFlags := 18, nameIndex := 17, descriptorIndex := 18, attributes := #[] }, { accessFlags := 2, nameIndex := 21, descriptorIndex := 22, attributes := #[] }])
  fields := #[{ name := "events", type := (.array (.object "com/example/sluicegate/sluicegate/Event")), accessFlags := 18, slot := 0, constantValue := 0 }, { name := "released", type := (.array .long), accessFlags := 18, slot := 1, constantValue := 0 }, { name := "size", type := .int, accessFlags := 2, slot := 2, constantValue := 0 }]
  methods := #[k3m0, k3m1, k3m2]
  instanceTypes := #[(.array (.object "com/example/sluicegate/sluicegate/Event")), (.array .long), .int]
  staticTypes := #[]
  resolved := Array.replicate 39 none
  statics := none }

def pool4 : Array CpInfo := pool [(2, .class_ 4), (1, u "com/example/sluicegate/sluicegate/Event"), (3, .class_ 10), (1, u "java/lang/Object"), (3, u "number"), (0, u "J"), (2, u "time"), (0, u "Ljava/time/LocalDateTime;"), (2, u "values"), (0, u "[Ljava/lang/String;"), (2, u "typed"), (0, u "Z"), (4, u "numbers"), (0, u "[Lcom/example/sluicegate/sluicegate/Decimal;"), (6, u "NOT_A_NUMBER"), (0, u "Lcom/example/sluicegate/sluicegate/Decimal;")] 18

/-- com/example/sluicegate/sluicegate/Event -/
def k4 : Class := { plain "com/example/sluicegate/sluicegate/Event" (some 0) with
  accessFlags := 48
  interfaces := #[]
  cf := some (fileOf pool4 2 #[] #[] 48 8 #[] #[{ accessFlags := 26, nameIndex := 40, descriptorIndex := 41, attributes := #[] }, { accessFlags := 18, nameIndex := 14, descriptorIndex := 15, attributes := #[] }, { accessFlags := 18, nameIndex := 18, descriptorIndex := 19, attributes := #[] }, { accessFlags := 18, nameIndex := 22, descriptorIndex := 23, attributes := #[] }, { accessFlags := 18, nameIndex := 32, descriptorIndex := 33, attributes := #[] }, { accessFlags := 18, nameIndex := 26, descriptorIndex := 27, attributes := #[] }])
  fields := #[{ name := "NOT_A_NUMBER", type := (.object "com/example/sluicegate/sluicegate/Decimal"), accessFlags := 26, slot := 0, constantValue := 0 }, { name := "number", type := .long, accessFlags := 18, slot := 0, constantValue := 0 }, { name := "time", type := (.object "java/time/LocalDateTime"), accessFlags := 18, slot := 1, constantValue := 0 }, { name := "values", type := (.array (.object "java/lang/String")), accessFlags := 18, slot := 2, constantValue := 0 }, { name := "numbers", type := (.array (.object "com/example/sluicegate/sluicegate/Decimal")), accessFlags := 18, slot := 3, constantValue := 0 }, { name := "typed", type := .boolean, accessFlags := 18, slot := 4, constantValue := 0 }]
  methods := #[]
  instanceTypes := #[.long, (.object "java/time/LocalDateTime"), (.array (.object "java/lang/String")), (.array (.object "com/example/sluicegate/sluicegate/Decimal")), .boolean]
  staticTypes := #[(.object "com/example/sluicegate/sluicegate/Decimal")]
  resolved := Array.replicate 60 none
  statics := none }

def pool5 : Array CpInfo := pool [(1, u "java/lang/Cloneable"), (0, .class_ 1), (0, u "java/lang/Object"), (0, .class_ 3)] 3

/-- java/lang/Cloneable -/
def k5 : Class := { plain "java/lang/Cloneable" (some 0) with
  accessFlags := 1537
  interfaces := #[]
  cf := some (fileOf pool5 2 #[] #[] 1537 4 #[] #[])
  fields := #[]
  methods := #[]
  instanceTypes := #[]
  staticTypes := #[]
  resolved := Array.replicate 8 none
  statics := none }

def pool6 : Array CpInfo := pool [(1, u "java/io/Serializable"), (0, .class_ 1), (0, u "java/lang/Object"), (0, .class_ 3)] 3

/-- java/io/Serializable -/
def k6 : Class := { plain "java/io/Serializable" (some 0) with
  accessFlags := 1537
  interfaces := #[]
  cf := some (fileOf pool6 2 #[] #[] 1537 4 #[] #[])
  fields := #[]
  methods := #[]
  instanceTypes := #[]
  staticTypes := #[]
  resolved := Array.replicate 8 none
  statics := none }

/-- the primitive byte -/
def k7 : Class := { plain "byte" none with kind := .primitive 'B', accessFlags := 0x411 }
/-- [B -/
def k8 : Class := { plain "[B" (some 0) with kind := .array 7 .byte, interfaces := #[5, 6], accessFlags := 1041 }

/-- the primitive int -/
def k9 : Class := { plain "int" none with kind := .primitive 'I', accessFlags := 0x411 }
/-- [I -/
def k10 : Class := { plain "[I" (some 0) with kind := .array 9 .int, interfaces := #[5, 6], accessFlags := 1041 }

/-- the primitive long -/
def k11 : Class := { plain "long" none with kind := .primitive 'J', accessFlags := 0x411 }
/-- [J -/
def k12 : Class := { plain "[J" (some 0) with kind := .array 11 .long, interfaces := #[5, 6], accessFlags := 1041 }

/-- [Lcom/example/sluicegate/sluicegate/Event; -/
def k13 : Class := { plain "[Lcom/example/sluicegate/sluicegate/Event;" (some 0) with kind := .array 4 (.object "com/example/sluicegate/sluicegate/Event"), interfaces := #[5, 6], accessFlags := 1041 }

def heap : Heap := #[]
def classes : Array Class := #[k0, k1, k2, k3, k4, k5, k6, k7, k8, k9, k10, k11, k12, k13]
def interned : List (Array UInt16 × Addr) := []
def slotsUsed : Nat := 0
def theMethod : MethodId := ⟨1, 1⟩
def args0 : Array Value := #[.int 5, .int 300, .long 7]
def aboutOver (below : List Frame) : State where
  vm := { classes := classes, interned := interned.toArray }
  heap := heap
  slotsUsed := slotsUsed
  threads := #[{ frames := .invoking theMethod args0 :: below }]
def below0 : List Frame := [.native { method := ⟨0, 0⟩, args := #[] }]
def about1 : State := aboutOver below0
def p0 : Program := .bare "" "" ""
def e0 : Env := launch0.env 0 0 0
theorem w_frames : about1.frames = Frame.invoking theMethod args0 :: below0 := rfl
set_option maxRecDepth 65536 in
theorem w_args : argsFit about1.vm theMethod args0 = true := by decide +kernel
set_option maxRecDepth 65536 in
theorem w_heap : heapFits about1 = true := by decide +kernel
set_option maxRecDepth 65536 in
theorem w_runnable : about1.curStatus? = some .runnable := by decide +kernel
set_option maxRecDepth 65536 in
theorem w_alone : about1.alone = true := by decide +kernel
set_option maxRecDepth 65536 in
theorem w_named : about1.methodNamed? x = some theMethod := by decide +kernel
set_option maxRecDepth 65536 in
theorem w_hears : about1.hears theMethod below0 = true := by decide +kernel
set_option maxRecDepth 65536 in
theorem w_ripe : about1.ripe theMethod args0 below0 = true := by decide +kernel
theorem w_running : about1.status = .running := rfl
set_option maxRecDepth 65536 in
theorem w_room : about1.hasRoom e0.platform room_1 = true :=
  launch0.hasRoom_least _ room_1 (by decide +kernel) (by decide +kernel) (by decide +kernel) (by decide +kernel) (by decide +kernel) (by decide +kernel)
theorem allAtoms_all (ts : List Jvm.Cond) (a : Array Jvm.Value) (st : Jvm.State) : (allAtoms ts).before a st = ts.all (fun c => c.before a st) := by
  induction ts with
  | nil => rfl
  | cons c t ih =>
    show (Jvm.Cond.and c (allAtoms t)).before a st = _
    rw [Jvm.Cond.before_and, ih, List.all_cons]
def words1 : List Jvm.Cond := Jvm.Cond.code x code maxLocals ret :: tables_1
/-- a 'code' word, met by the world's own term for the bytes: nothing is compared byte by byte -/
theorem code_word {y : MethodName} {bytes : ByteArray} {mx : Nat} {rt : Option FieldType} {a : Array Value} {s : State} {m : MethodId} {meth : Method} {c : Code} (h1 : s.methodNamed? y = some m) (h2 : s.vm.method? m = some meth) (h3 : meth.code = some c) (h4 : c.code = bytes)
    (h5 : (c.maxLocals == mx && c.exceptionTable.isEmpty && decide (c.maxStack ≤ mostOperands) && decide (meth.sig.returnType = rt) && !meth.locks && decide (parseMethodDescriptor y.desc = some meth.sig)) = true) : (Jvm.Cond.code y bytes mx rt).before a s = true := by
  simp only [Bool.and_eq_true, beq_iff_eq, Bool.not_eq_true', decide_eq_true_eq] at h5
  obtain ⟨⟨⟨⟨⟨g1, g2⟩, g3⟩, g4⟩, g5⟩, g6⟩ := h5
  simp [Cond.before, Cond.holds, Cond.value, h1, h2, h3, h4, g1, g2, g3, g4, g5, g6]
def isCode : Jvm.Cond → Bool
  | .code _ _ _ _ => true
  | _ => false
theorem all_split {L : List Jvm.Cond} {P : Jvm.Cond → Bool} (h1 : L.all (fun c => isCode c || P c) = true) (h2 : ∀ c ∈ L.filter isCode, P c = true) : L.all P = true := by
  refine List.all_eq_true.mpr fun c hc => ?_
  have h := List.all_eq_true.mp h1 c hc
  rcases Bool.eq_false_or_eq_true (isCode c) with hi | hi
  · exact h2 c (List.mem_filter.mpr ⟨hc, hi⟩)
  · simpa [hi] using h
set_option maxRecDepth 65536 in
theorem w_c0 : (Jvm.Cond.code x code maxLocals ret).before args0 about1 = true := code_word (m := ⟨1, 1⟩) (meth := k1m1) (c := k1c1) (by decide +kernel) rfl rfl rfl (by decide +kernel)
set_option maxRecDepth 65536 in
theorem w_c1 : (Jvm.Cond.code ({ cls := "java/lang/Math", name := "min", desc := "(II)I" } : Jvm.MethodName) jdk_29_method_69_code (2 : Nat) (Option.some Jvm.ClassFile.FieldType.int)).before args0 about1 = true := code_word (m := ⟨2, 1⟩) (meth := k2m1) (c := k2c1) (by decide +kernel) rfl rfl rfl (by decide +kernel)
set_option maxRecDepth 65536 in
theorem w_c2 : (Jvm.Cond.code ({ cls := "com/example/sluicegate/sluicegate/Instance$Shipment", name := "<init>", desc := "(I)V" } : Jvm.MethodName) prog_46_method_1_code (2 : Nat) (Option.none : Option Jvm.ClassFile.FieldType)).before args0 about1 = true := code_word (m := ⟨3, 0⟩) (meth := k3m0) (c := k3c0) (by decide +kernel) rfl rfl rfl (by decide +kernel)
set_option maxRecDepth 65536 in
theorem w_c3 : (Jvm.Cond.code ({ cls := "java/lang/Object", name := "<init>", desc := "()V" } : Jvm.MethodName) object_method_1_code (1 : Nat) (Option.none : Option Jvm.ClassFile.FieldType)).before args0 about1 = true := code_word (m := ⟨0, 0⟩) (meth := k0m0) (c := k0c0) (by decide +kernel) rfl rfl rfl (by decide +kernel)
set_option maxRecDepth 65536 in
theorem w_c4 : (Jvm.Cond.code ({ cls := "com/example/sluicegate/sluicegate/Instance$Shipment", name := "full", desc := "()Z" } : Jvm.MethodName) prog_46_method_4_code (1 : Nat) (Option.some Jvm.ClassFile.FieldType.boolean)).before args0 about1 = true := code_word (m := ⟨3, 2⟩) (meth := k3m2) (c := k3c2) (by decide +kernel) rfl rfl rfl (by decide +kernel)
set_option maxRecDepth 65536 in
theorem w_c5 : (Jvm.Cond.code ({ cls := "com/example/sluicegate/sluicegate/Instance$Shipment", name := "add", desc := "(Lcom/example/sluicegate/sluicegate/Event;J)I" } : Jvm.MethodName) prog_46_method_2_code (4 : Nat) (Option.some Jvm.ClassFile.FieldType.int)).before args0 about1 = true := code_word (m := ⟨3, 1⟩) (meth := k3m1) (c := k3c1) (by decide +kernel) rfl rfl rfl (by decide +kernel)
def codes1 : List Jvm.Cond := [Jvm.Cond.code x code maxLocals ret, Jvm.Cond.code ({ cls := "java/lang/Math", name := "min", desc := "(II)I" } : Jvm.MethodName) jdk_29_method_69_code (2 : Nat) (Option.some Jvm.ClassFile.FieldType.int), Jvm.Cond.code ({ cls := "com/example/sluicegate/sluicegate/Instance$Shipment", name := "<init>", desc := "(I)V" } : Jvm.MethodName) prog_46_method_1_code (2 : Nat) (Option.none : Option Jvm.ClassFile.FieldType), Jvm.Cond.code ({ cls := "java/lang/Object", name := "<init>", desc := "()V" } : Jvm.MethodName) object_method_1_code (1 : Nat) (Option.none : Option Jvm.ClassFile.FieldType), Jvm.Cond.code ({ cls := "com/example/sluicegate/sluicegate/Instance$Shipment", name := "full", desc := "()Z" } : Jvm.MethodName) prog_46_method_4_code (1 : Nat) (Option.some Jvm.ClassFile.FieldType.boolean), Jvm.Cond.code ({ cls := "com/example/sluicegate/sluicegate/Instance$Shipment", name := "add", desc := "(Lcom/example/sluicegate/sluicegate/Event;J)I" } : Jvm.MethodName) prog_46_method_2_code (4 : Nat) (Option.some Jvm.ClassFile.FieldType.int)]
set_option maxRecDepth 65536 in
theorem codes_eq : words1.filter isCode = codes1 := rfl
theorem w_codes : ∀ c ∈ words1.filter isCode, c.before args0 about1 = true := by
  rw [codes_eq]
  intro c hc
  simp only [codes1, List.mem_cons, List.not_mem_nil, or_false] at hc
  rcases hc with rfl | rfl | rfl | rfl | rfl | rfl
  · exact w_c0
  · exact w_c1
  · exact w_c2
  · exact w_c3
  · exact w_c4
  · exact w_c5
set_option maxRecDepth 65536 in
theorem w_t1 : (words1.take 24).all (fun c => isCode c || c.before args0 about1) = true := by decide +kernel
set_option maxRecDepth 65536 in
theorem w_t2 : (words1.drop 24).all (fun c => isCode c || c.before args0 about1) = true := by decide +kernel
theorem w_tables : (allAtoms (Jvm.Cond.code x code maxLocals ret :: tables_1)).before args0 about1 = true := by
  rw [allAtoms_all]
  show words1.all (fun c => c.before args0 about1) = true
  refine all_split ?_ w_codes
  rw [← List.take_append_drop 24 words1, List.all_append, w_t1, w_t2]
  rfl
set_option maxRecDepth 65536 in
theorem w_case : (Jvm.Cond.and given_1 narrow_1).before args0 about1 = true := by decide +kernel
theorem w_applies : (headSpec (Jvm.Cond.code x code maxLocals ret :: tables_1) room_1).applies x e0.platform about1 = true :=
  (Spec.applies_iff w_frames).mpr ⟨w_running, w_runnable, w_alone, w_named, w_hears, w_ripe, w_room, w_tables⟩
theorem atStart : AtStart classFile x code maxLocals ret World_1 tables_1 room_1 Calls_1 rest_1 Pre_1 launch0 p0 e0 about1 theMethod args0 below0 :=
  ⟨lists_1, trivial, launch0.admits_env _ _ _, launch0.least_env, fairChoices_fair.cas, fairChoices_fair.clock, w_frames, w_args, w_heap, w_applies, trivial, trivial, w_case⟩
end start1
theorem witness_1 : WitnessClaimed_1 := ⟨start1.p0, start1.e0, start1.about1, start1.theMethod, start1.args0, start1.below0, start1.atStart⟩
end Jvm.Pilot.@@N@@
