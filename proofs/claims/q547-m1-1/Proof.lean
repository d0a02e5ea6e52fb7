import JvmDerived
import JvmDerived.Pilot.@@N@@Statement
import JvmDerived.Pilot.@@N@@Code
set_option linter.unusedVariables false
set_option linter.unusedSimpArgs false
namespace Jvm.Pilot.@@N@@
open Jvm Jvm.ClassFile Sem Op Lib Jvm.Free Jvm.Stand Jvm.LawKit Jvm.RoadKit Bundle Jvm.Pilot.@@N@@.Jvm.D
/-- a boolean as an int -/
def own_b (P : Prop) [Decidable P] : Int32 := if P then 1 else 0
theorem own_b1 {P : Prop} [Decidable P] (h : P) : own_b P = 1 := if_pos h
theorem own_b0 {P : Prop} [Decidable P] (h : ¬ P) : own_b P = 0 := if_neg h
theorem own_b0_eq_f {P : Prop} [Decidable P] (h : P) : ifCond.holds .eq (own_b P) = false := by rw [own_b1 h]; rfl
theorem own_b0_eq_t {P : Prop} [Decidable P] (h : ¬ P) : ifCond.holds .eq (own_b P) = true := by rw [own_b0 h]; rfl
theorem own_b0_ne_t {P : Prop} [Decidable P] (h : P) : ifCond.holds .ne (own_b P) = true := by rw [own_b1 h]; rfl
theorem own_b0_ne_f {P : Prop} [Decidable P] (h : ¬ P) : ifCond.holds .ne (own_b P) = false := by rw [own_b0 h]; rfl
theorem own_bnar (P : Prop) [Decidable P] : nar .boolean (own_b P) = own_b P := by by_cases h : P <;> simp [own_b, h, nar]
theorem own_biff {P Q : Prop} [Decidable P] [Decidable Q] (h : P ↔ Q) : own_b P = own_b Q := by by_cases q : Q <;> simp [own_b, h, q]
/-! own_Go: from T with the frame g on top the method's run comes to an end of which P holds. One rule a plain instruction, so that a walk may fork anywhere. -/
def own_Go (p : Program) (e : Env) (below : List Frame) (P : State → Outcome → Prop) (T : State) (g : JFrame) : Prop :=
  ∃ s₂ o, Steps p.tables e below (T.setTop g) s₂ ∧ s₂.status = .running ∧ Ended s₂ below o ∧ P s₂ o
section OwnGo
variable {p : Program} {l : Launch} {e : Env} {R : Room} {s : State} {m : MethodId} {args : Array Value} {below : List Frame} {meth : Method} {c : Code} {T T' : State} {locs : List Loc} {cells slots : Nat} {P : State → Outcome → Prop} {Ls Ls' : Array Slot} {st : List Value} {pc pc' : Nat} {g g' : JFrame}
theorem own_st (h : ∀ t, Steps p.tables e below (T'.setTop g') t → Steps p.tables e below (T.setTop g) t) (k : own_Go p e below P T' g') : own_Go p e below P T g := by
  obtain ⟨s₂, o, h1, h2⟩ := k; exact ⟨s₂, o, h _ h1, h2⟩
theorem own_tr (h : Steps p.tables e below (T.setTop g) (T'.setTop g')) (k : own_Go p e below P T' g') : own_Go p e below P T g := by
  obtain ⟨s₂, o, h1, h2⟩ := k; exact ⟨s₂, o, h.trans h1, h2⟩
theorem own_aloadN (X : Stand p l e R s m args below meth c T locs cells slots) (hx : p.tables.exec = Jvm.exec) {k : Fin 4} {v : Value} (hd : decode c.code pc = .ok (.aload_n k, 1)) (hp : pc + 1 = pc') (hl : Ls[k.val]? = some (.val v)) (hv : v.isRef = true) (h : own_Go p e below P T (mkF m pc' Ls (v :: st))) : own_Go p e below P T (mkF m pc Ls st) := by
  subst hp; exact own_st (fun t k => XS.aloadN X.here hx rfl hd hl hv k) h
theorem own_aload (X : Stand p l e R s m args below meth c T locs cells slots) (hx : p.tables.exec = Jvm.exec) {k : Nat} {v : Value} (hd : decode c.code pc = .ok (.aload k, 2)) (hp : pc + 2 = pc') (hl : Ls[k]? = some (.val v)) (hv : v.isRef = true) (h : own_Go p e below P T (mkF m pc' Ls (v :: st))) : own_Go p e below P T (mkF m pc Ls st) := by
  subst hp; exact own_st (fun t k => XS.aload X.here hx rfl hd hl hv k) h
theorem own_iloadN (X : Stand p l e R s m args below meth c T locs cells slots) (hx : p.tables.exec = Jvm.exec) {k : Fin 4} {v : Int32} (hd : decode c.code pc = .ok (.iload_n k, 1)) (hp : pc + 1 = pc') (hl : Ls[k.val]? = some (.val (.int v))) (h : own_Go p e below P T (mkF m pc' Ls (.int v :: st))) : own_Go p e below P T (mkF m pc Ls st) := by
  subst hp; exact own_st (fun t k => XS.iloadN X.here hx rfl hd hl k) h
theorem own_iload (X : Stand p l e R s m args below meth c T locs cells slots) (hx : p.tables.exec = Jvm.exec) {k : Nat} {v : Int32} (hd : decode c.code pc = .ok (.iload k, 2)) (hp : pc + 2 = pc') (hl : Ls[k]? = some (.val (.int v))) (h : own_Go p e below P T (mkF m pc' Ls (.int v :: st))) : own_Go p e below P T (mkF m pc Ls st) := by
  subst hp; exact own_st (fun t k => XS.iload X.here hx rfl hd hl k) h
theorem own_lloadN (X : Stand p l e R s m args below meth c T locs cells slots) (hx : p.tables.exec = Jvm.exec) {k : Fin 4} {v : Int64} (hd : decode c.code pc = .ok (.lload_n k, 1)) (hp : pc + 1 = pc') (hl : Ls[k.val]? = some (.val (.long v))) (h : own_Go p e below P T (mkF m pc' Ls (.long v :: st))) : own_Go p e below P T (mkF m pc Ls st) := by
  subst hp; exact own_st (fun t k => XT.lloadN X.here hx rfl hd hl k) h
theorem own_lload (X : Stand p l e R s m args below meth c T locs cells slots) (hx : p.tables.exec = Jvm.exec) {k : Nat} {v : Int64} (hd : decode c.code pc = .ok (.lload k, 2)) (hp : pc + 2 = pc') (hl : Ls[k]? = some (.val (.long v))) (h : own_Go p e below P T (mkF m pc' Ls (.long v :: st))) : own_Go p e below P T (mkF m pc Ls st) := by
  subst hp; exact own_st (fun t k => XT.lload X.here hx rfl hd hl k) h
theorem own_iconst (X : Stand p l e R s m args below meth c T locs cells slots) (hx : p.tables.exec = Jvm.exec) {i : Int} (v : Int32) (hd : decode c.code pc = .ok (.iconst i, 1)) (hp : pc + 1 = pc') (hv : Int32.ofInt i = v) (h : own_Go p e below P T (mkF m pc' Ls (.int v :: st))) : own_Go p e below P T (mkF m pc Ls st) := by
  subst hp hv; exact own_st (fun t k => XS.iconst X.here hx rfl hd k) h
theorem own_bipush (X : Stand p l e R s m args below meth c T locs cells slots) (hx : p.tables.exec = Jvm.exec) {i : Int} (v : Int32) (hd : decode c.code pc = .ok (.bipush i, 2)) (hp : pc + 2 = pc') (hv : (Int8.ofInt i).toInt32 = v) (h : own_Go p e below P T (mkF m pc' Ls (.int v :: st))) : own_Go p e below P T (mkF m pc Ls st) := by
  subst hp hv; exact own_st (fun t k => XS.bipush X.here hx rfl hd k) h
theorem own_sipush (X : Stand p l e R s m args below meth c T locs cells slots) (hx : p.tables.exec = Jvm.exec) {i : Int} (v : Int32) (hd : decode c.code pc = .ok (.sipush i, 3)) (hp : pc + 3 = pc') (hv : (Int16.ofInt i).toInt32 = v) (h : own_Go p e below P T (mkF m pc' Ls (.int v :: st))) : own_Go p e below P T (mkF m pc Ls st) := by
  subst hp hv; exact own_st (fun t k => XS.sipush X.here hx rfl hd k) h
theorem own_lconst (X : Stand p l e R s m args below meth c T locs cells slots) (hx : p.tables.exec = Jvm.exec) {i : Fin 2} (v : Int64) (hd : decode c.code pc = .ok (.lconst i, 1)) (hp : pc + 1 = pc') (hv : Int64.ofNat i = v) (h : own_Go p e below P T (mkF m pc' Ls (.long v :: st))) : own_Go p e below P T (mkF m pc Ls st) := by
  subst hp hv; exact own_st (fun t k => XT.lconst X.here hx rfl hd k) h
theorem own_ldcI (X : Stand p l e R s m args below meth c T locs cells slots) (hx : p.tables.exec = Jvm.exec) {own : String} {index : Nat} {v : Int32} (hown : s.vm.findClass own = some m.cls) (hc : (Cond.constant own index v).before args s = true) (hd : decode c.code pc = .ok (.ldc index, 2)) (hp : pc + 2 = pc') (h : own_Go p e below P T (mkF m pc' Ls (.int v :: st))) : own_Go p e below P T (mkF m pc Ls st) := by
  subst hp; exact own_st (fun t k => X.ldcI hx hown hc rfl hd k) h
theorem own_ldcJ (X : Stand p l e R s m args below meth c T locs cells slots) (hx : p.tables.exec = Jvm.exec) {own : String} {index : Nat} {v : Int64} (hown : s.vm.findClass own = some m.cls) (hc : (Cond.constantLong own index v).before args s = true) (hd : decode c.code pc = .ok (.ldc2_w index, 3)) (hp : pc + 3 = pc') (h : own_Go p e below P T (mkF m pc' Ls (.long v :: st))) : own_Go p e below P T (mkF m pc Ls st) := by
  subst hp; exact own_st (fun t k => X.ldc2J hx hown hc rfl hd k) h
theorem own_null (X : Stand p l e R s m args below meth c T locs cells slots) (hx : p.tables.exec = Jvm.exec) (hd : decode c.code pc = .ok (.aconst_null, 1)) (hp : pc + 1 = pc') (h : own_Go p e below P T (mkF m pc' Ls (.null :: st))) : own_Go p e below P T (mkF m pc Ls st) := by
  subst hp; exact own_st (fun t k => XS.aconstNull X.here hx rfl hd k) h
theorem own_iadd (X : Stand p l e R s m args below meth c T locs cells slots) (hx : p.tables.exec = Jvm.exec) {x y : Int32} (hd : decode c.code pc = .ok (.iadd, 1)) (hp : pc + 1 = pc') (h : own_Go p e below P T (mkF m pc' Ls (.int (x + y) :: st))) : own_Go p e below P T (mkF m pc Ls (.int y :: .int x :: st)) := by
  subst hp; exact own_st (fun t k => XS.iadd X.here hx rfl hd rfl k) h
theorem own_isub (X : Stand p l e R s m args below meth c T locs cells slots) (hx : p.tables.exec = Jvm.exec) {x y : Int32} (hd : decode c.code pc = .ok (.isub, 1)) (hp : pc + 1 = pc') (h : own_Go p e below P T (mkF m pc' Ls (.int (x - y) :: st))) : own_Go p e below P T (mkF m pc Ls (.int y :: .int x :: st)) := by
  subst hp; exact own_st (fun t k => XS.isub X.here hx rfl hd rfl k) h
theorem own_iand (X : Stand p l e R s m args below meth c T locs cells slots) (hx : p.tables.exec = Jvm.exec) {x y : Int32} (hd : decode c.code pc = .ok (.iand, 1)) (hp : pc + 1 = pc') (h : own_Go p e below P T (mkF m pc' Ls (.int (x &&& y) :: st))) : own_Go p e below P T (mkF m pc Ls (.int y :: .int x :: st)) := by
  subst hp; exact own_st (fun t k => XS.iand X.here hx rfl hd rfl k) h
theorem own_imul (X : Stand p l e R s m args below meth c T locs cells slots) (hx : p.tables.exec = Jvm.exec) {x y : Int32} (hd : decode c.code pc = .ok (.imul, 1)) (hp : pc + 1 = pc') (h : own_Go p e below P T (mkF m pc' Ls (.int (x * y) :: st))) : own_Go p e below P T (mkF m pc Ls (.int y :: .int x :: st)) := by
  subst hp; exact own_st (fun t k => XS.imul X.here hx rfl hd rfl k) h
theorem own_irem (X : Stand p l e R s m args below meth c T locs cells slots) (hx : p.tables.exec = Jvm.exec) {x y : Int32} (hd : decode c.code pc = .ok (.irem, 1)) (hp : pc + 1 = pc') (hy : y ≠ 0) (h : own_Go p e below P T (mkF m pc' Ls (.int (x % y) :: st))) : own_Go p e below P T (mkF m pc Ls (.int y :: .int x :: st)) := by
  subst hp; exact own_st (fun t k => iremM X hx rfl hd rfl hy k) h
theorem own_ishr (X : Stand p l e R s m args below meth c T locs cells slots) (hx : p.tables.exec = Jvm.exec) {x y : Int32} (hd : decode c.code pc = .ok (.ishr, 1)) (hp : pc + 1 = pc') (h : own_Go p e below P T (mkF m pc' Ls (.int (x >>> (y &&& 31)) :: st))) : own_Go p e below P T (mkF m pc Ls (.int y :: .int x :: st)) := by
  subst hp; exact own_st (fun t k => XT.ishr X.here hx rfl hd rfl k) h
theorem own_iushr (X : Stand p l e R s m args below meth c T locs cells slots) (hx : p.tables.exec = Jvm.exec) {x y : Int32} (hd : decode c.code pc = .ok (.iushr, 1)) (hp : pc + 1 = pc') (h : own_Go p e below P T (mkF m pc' Ls (.int (XT.ushr x y) :: st))) : own_Go p e below P T (mkF m pc Ls (.int y :: .int x :: st)) := by
  subst hp; exact own_st (fun t k => XT.iushr X.here hx rfl hd rfl k) h
theorem own_i2b (X : Stand p l e R s m args below meth c T locs cells slots) (hx : p.tables.exec = Jvm.exec) {x : Int32} (hd : decode c.code pc = .ok (.i2b, 1)) (hp : pc + 1 = pc') (h : own_Go p e below P T (mkF m pc' Ls (.int (nar .byte x) :: st))) : own_Go p e below P T (mkF m pc Ls (.int x :: st)) := by
  subst hp; exact own_st (fun t k => XT.i2b X.here hx rfl hd rfl k) h
theorem own_i2c (X : Stand p l e R s m args below meth c T locs cells slots) (hx : p.tables.exec = Jvm.exec) {x : Int32} (hd : decode c.code pc = .ok (.i2c, 1)) (hp : pc + 1 = pc') (h : own_Go p e below P T (mkF m pc' Ls (.int (nar .char x) :: st))) : own_Go p e below P T (mkF m pc Ls (.int x :: st)) := by
  subst hp; exact own_st (fun t k => XT.i2c X.here hx rfl hd rfl k) h
theorem own_i2l (X : Stand p l e R s m args below meth c T locs cells slots) (hx : p.tables.exec = Jvm.exec) {x : Int32} (hd : decode c.code pc = .ok (.i2l, 1)) (hp : pc + 1 = pc') (h : own_Go p e below P T (mkF m pc' Ls (.long x.toInt64 :: st))) : own_Go p e below P T (mkF m pc Ls (.int x :: st)) := by
  subst hp; exact own_st (fun t k => XT.i2l X.here hx rfl hd rfl k) h
theorem own_l2i (X : Stand p l e R s m args below meth c T locs cells slots) (hx : p.tables.exec = Jvm.exec) {x : Int64} (hd : decode c.code pc = .ok (.l2i, 1)) (hp : pc + 1 = pc') (h : own_Go p e below P T (mkF m pc' Ls (.int x.toInt32 :: st))) : own_Go p e below P T (mkF m pc Ls (.long x :: st)) := by
  subst hp; exact own_st (fun t k => XT.l2i X.here hx rfl hd rfl k) h
theorem own_lushr (X : Stand p l e R s m args below meth c T locs cells slots) (hx : p.tables.exec = Jvm.exec) {x : Int64} {y : Int32} (hd : decode c.code pc = .ok (.lushr, 1)) (hp : pc + 1 = pc') (h : own_Go p e below P T (mkF m pc' Ls (.long (XT.ushrL x y) :: st))) : own_Go p e below P T (mkF m pc Ls (.int y :: .long x :: st)) := by
  subst hp; exact own_st (fun t k => XT.lushr X.here hx rfl hd rfl k) h
theorem own_lcmp (X : Stand p l e R s m args below meth c T locs cells slots) (hx : p.tables.exec = Jvm.exec) {x y : Int64} (hd : decode c.code pc = .ok (.lcmp, 1)) (hp : pc + 1 = pc') (h : own_Go p e below P T (mkF m pc' Ls (.int (XT.cmpL x y) :: st))) : own_Go p e below P T (mkF m pc Ls (.long y :: .long x :: st)) := by
  subst hp; exact own_st (fun t k => XT.lcmp X.here hx rfl hd rfl k) h
theorem own_dup (X : Stand p l e R s m args below meth c T locs cells slots) (hx : p.tables.exec = Jvm.exec) {x : Value} (hd : decode c.code pc = .ok (.dup, 1)) (hp : pc + 1 = pc') (hc : x.category = 1) (h : own_Go p e below P T (mkF m pc' Ls (x :: x :: st))) : own_Go p e below P T (mkF m pc Ls (x :: st)) := by
  subst hp; exact own_st (fun t k => XS.dup X.here hx rfl hd rfl hc k) h
theorem own_dupX1 (X : Stand p l e R s m args below meth c T locs cells slots) (hx : p.tables.exec = Jvm.exec) {x y : Value} (hd : decode c.code pc = .ok (.dup_x1, 1)) (hp : pc + 1 = pc') (hc : x.category = 1) (hc' : y.category = 1) (h : own_Go p e below P T (mkF m pc' Ls (x :: y :: x :: st))) : own_Go p e below P T (mkF m pc Ls (x :: y :: st)) := by
  subst hp; exact own_st (fun t k => XT.dupX1 X.here hx rfl hd rfl hc hc' k) h
theorem own_pop (X : Stand p l e R s m args below meth c T locs cells slots) (hx : p.tables.exec = Jvm.exec) {x : Value} (hd : decode c.code pc = .ok (.pop, 1)) (hp : pc + 1 = pc') (hc : x.category = 1) (h : own_Go p e below P T (mkF m pc' Ls st)) : own_Go p e below P T (mkF m pc Ls (x :: st)) := by
  subst hp; exact own_st (fun t k => XT.pop X.here hx rfl hd rfl hc k) h
theorem own_istoreN (X : Stand p l e R s m args below meth c T locs cells slots) (hx : p.tables.exec = Jvm.exec) {k : Fin 4} {x : Int32} (hd : decode c.code pc = .ok (.istore_n k, 1)) (hp : pc + 1 = pc') (hl : storeLocals Ls k.val (.int x) = some Ls') (h : own_Go p e below P T (mkF m pc' Ls' st)) : own_Go p e below P T (mkF m pc Ls (.int x :: st)) := by
  subst hp; exact own_st (fun t k => XS.istoreN X.here hx rfl hd rfl hl k) h
theorem own_istore (X : Stand p l e R s m args below meth c T locs cells slots) (hx : p.tables.exec = Jvm.exec) {k : Nat} {x : Int32} (hd : decode c.code pc = .ok (.istore k, 2)) (hp : pc + 2 = pc') (hl : storeLocals Ls k (.int x) = some Ls') (h : own_Go p e below P T (mkF m pc' Ls' st)) : own_Go p e below P T (mkF m pc Ls (.int x :: st)) := by
  subst hp; exact own_st (fun t k => XS.istore X.here hx rfl hd rfl hl k) h
theorem own_lstoreN (X : Stand p l e R s m args below meth c T locs cells slots) (hx : p.tables.exec = Jvm.exec) {k : Fin 4} {x : Int64} (hd : decode c.code pc = .ok (.lstore_n k, 1)) (hp : pc + 1 = pc') (hl : storeLocals Ls k.val (.long x) = some Ls') (h : own_Go p e below P T (mkF m pc' Ls' st)) : own_Go p e below P T (mkF m pc Ls (.long x :: st)) := by
  subst hp; exact own_st (fun t k => XT.lstoreN X.here hx rfl hd rfl hl k) h
theorem own_lstore (X : Stand p l e R s m args below meth c T locs cells slots) (hx : p.tables.exec = Jvm.exec) {k : Nat} {x : Int64} (hd : decode c.code pc = .ok (.lstore k, 2)) (hp : pc + 2 = pc') (hl : storeLocals Ls k (.long x) = some Ls') (h : own_Go p e below P T (mkF m pc' Ls' st)) : own_Go p e below P T (mkF m pc Ls (.long x :: st)) := by
  subst hp; exact own_st (fun t k => XT.lstore X.here hx rfl hd rfl hl k) h
theorem own_astoreN (X : Stand p l e R s m args below meth c T locs cells slots) (hx : p.tables.exec = Jvm.exec) {k : Fin 4} {x : Value} (hd : decode c.code pc = .ok (.astore_n k, 1)) (hp : pc + 1 = pc') (hv : x.isRef = true) (hl : storeLocals Ls k.val x = some Ls') (h : own_Go p e below P T (mkF m pc' Ls' st)) : own_Go p e below P T (mkF m pc Ls (x :: st)) := by
  subst hp; exact own_st (fun t k => XS.astoreN X.here hx rfl hd rfl hv hl k) h
theorem own_astore (X : Stand p l e R s m args below meth c T locs cells slots) (hx : p.tables.exec = Jvm.exec) {k : Nat} {x : Value} (hd : decode c.code pc = .ok (.astore k, 2)) (hp : pc + 2 = pc') (hv : x.isRef = true) (hl : storeLocals Ls k x = some Ls') (h : own_Go p e below P T (mkF m pc' Ls' st)) : own_Go p e below P T (mkF m pc Ls (x :: st)) := by
  subst hp; exact own_st (fun t k => XS.astore X.here hx rfl hd rfl hv hl k) h
theorem own_goto (X : Stand p l e R s m args below meth c T locs cells slots) (hx : p.tables.exec = Jvm.exec) {o : Int} (hd : decode c.code pc = .ok (.goto o, 3)) (ho : 0 ≤ (pc : Int) + o) (hp : ((pc : Int) + o).toNat = pc') (h : own_Go p e below P T (mkF m pc' Ls st)) : own_Go p e below P T (mkF m pc Ls st) := by
  exact own_st (fun t k => XS.goto X.here hx rfl (pc0 := pc) rfl hd ho hp k) h
theorem own_ifY (X : Stand p l e R s m args below meth c T locs cells slots) (hx : p.tables.exec = Jvm.exec) {cd : ClassFile.Cond} {x : Int32} {o : Int} (hd : decode c.code pc = .ok (.ifCond cd o, 3)) (hc : ifCond.holds cd x = true) (ho : 0 ≤ (pc : Int) + o) (hp : ((pc : Int) + o).toNat = pc') (h : own_Go p e below P T (mkF m pc' Ls st)) : own_Go p e below P T (mkF m pc Ls (.int x :: st)) := by
  exact own_st (fun t k => XS.ifYes X.here hx rfl (pc0 := pc) rfl hd rfl hc ho hp k) h
theorem own_ifN (X : Stand p l e R s m args below meth c T locs cells slots) (hx : p.tables.exec = Jvm.exec) {cd : ClassFile.Cond} {x : Int32} {o : Int} (hd : decode c.code pc = .ok (.ifCond cd o, 3)) (hc : ifCond.holds cd x = false) (hp : pc + 3 = pc') (h : own_Go p e below P T (mkF m pc' Ls st)) : own_Go p e below P T (mkF m pc Ls (.int x :: st)) := by
  subst hp; exact own_st (fun t k => XS.ifNo X.here hx rfl hd rfl hc k) h
theorem own_icmpY (X : Stand p l e R s m args below meth c T locs cells slots) (hx : p.tables.exec = Jvm.exec) {cd : ClassFile.Cond} {x y : Int32} {o : Int} (hd : decode c.code pc = .ok (.if_icmp cd o, 3)) (hc : if_icmp.holds cd x y = true) (ho : 0 ≤ (pc : Int) + o) (hp : ((pc : Int) + o).toNat = pc') (h : own_Go p e below P T (mkF m pc' Ls st)) : own_Go p e below P T (mkF m pc Ls (.int y :: .int x :: st)) := by
  exact own_st (fun t k => XS.icmpYes X.here hx rfl (pc0 := pc) rfl hd rfl hc ho hp k) h
theorem own_icmpN (X : Stand p l e R s m args below meth c T locs cells slots) (hx : p.tables.exec = Jvm.exec) {cd : ClassFile.Cond} {x y : Int32} {o : Int} (hd : decode c.code pc = .ok (.if_icmp cd o, 3)) (hc : if_icmp.holds cd x y = false) (hp : pc + 3 = pc') (h : own_Go p e below P T (mkF m pc' Ls st)) : own_Go p e below P T (mkF m pc Ls (.int y :: .int x :: st)) := by
  subst hp; exact own_st (fun t k => XS.icmpNo X.here hx rfl hd rfl hc k) h
theorem own_ifnullY (X : Stand p l e R s m args below meth c T locs cells slots) (hx : p.tables.exec = Jvm.exec) {o : Int} (hd : decode c.code pc = .ok (.ifnull o, 3)) (ho : 0 ≤ (pc : Int) + o) (hp : ((pc : Int) + o).toNat = pc') (h : own_Go p e below P T (mkF m pc' Ls st)) : own_Go p e below P T (mkF m pc Ls (.null :: st)) := by
  exact own_st (fun t k => XS.ifnullYes X.here hx rfl (pc0 := pc) rfl hd rfl ho hp k) h
theorem own_ifnullN (X : Stand p l e R s m args below meth c T locs cells slots) (hx : p.tables.exec = Jvm.exec) {a : Addr} {o : Int} (hd : decode c.code pc = .ok (.ifnull o, 3)) (hp : pc + 3 = pc') (h : own_Go p e below P T (mkF m pc' Ls st)) : own_Go p e below P T (mkF m pc Ls (.ref a :: st)) := by
  subst hp; exact own_st (fun t k => XS.ifnullNo X.here hx rfl hd rfl k) h
theorem own_ifnonnullY (X : Stand p l e R s m args below meth c T locs cells slots) (hx : p.tables.exec = Jvm.exec) {a : Addr} {o : Int} (hd : decode c.code pc = .ok (.ifnonnull o, 3)) (ho : 0 ≤ (pc : Int) + o) (hp : ((pc : Int) + o).toNat = pc') (h : own_Go p e below P T (mkF m pc' Ls st)) : own_Go p e below P T (mkF m pc Ls (.ref a :: st)) := by
  exact own_st (fun t k => XT.ifnonnullYes X.here hx rfl (pc0 := pc) rfl hd rfl ho hp k) h
theorem own_ifnonnullN (X : Stand p l e R s m args below meth c T locs cells slots) (hx : p.tables.exec = Jvm.exec) {o : Int} (hd : decode c.code pc = .ok (.ifnonnull o, 3)) (hp : pc + 3 = pc') (h : own_Go p e below P T (mkF m pc' Ls st)) : own_Go p e below P T (mkF m pc Ls (.null :: st)) := by
  subst hp; exact own_st (fun t k => XT.ifnonnullNo X.here hx rfl hd rfl k) h
theorem own_acmpY (X : Stand p l e R s m args below meth c T locs cells slots) (hx : p.tables.exec = Jvm.exec) {cd : ACond} {x y : Value} {o : Int} (h1 : x.isRef = true) (h2 : y.isRef = true) (hd : decode c.code pc = .ok (.if_acmp cd o, 3)) (hc : XT.acmp cd x y = true) (ho : 0 ≤ (pc : Int) + o) (hp : ((pc : Int) + o).toNat = pc') (h : own_Go p e below P T (mkF m pc' Ls st)) : own_Go p e below P T (mkF m pc Ls (y :: x :: st)) := by
  exact own_st (fun t k => XT.acmpYes X.here hx rfl (pc0 := pc) rfl hd rfl h1 h2 hc ho hp k) h
theorem own_acmpN (X : Stand p l e R s m args below meth c T locs cells slots) (hx : p.tables.exec = Jvm.exec) {cd : ACond} {x y : Value} {o : Int} (h1 : x.isRef = true) (h2 : y.isRef = true) (hd : decode c.code pc = .ok (.if_acmp cd o, 3)) (hc : XT.acmp cd x y = false) (hp : pc + 3 = pc') (h : own_Go p e below P T (mkF m pc' Ls st)) : own_Go p e below P T (mkF m pc Ls (y :: x :: st)) := by
  subst hp; exact own_st (fun t k => XT.acmpNo X.here hx rfl hd rfl h1 h2 hc k) h
theorem own_cut (h1 : own_Go p e below P T g' → own_Go p e below P T g) (h2 : own_Go p e below P T g') : own_Go p e below P T g := h1 h2
theorem own_iinc (X : Stand p l e R s m args below meth c T locs cells slots) (hx : p.tables.exec = Jvm.exec) {k : Nat} {cst : Int} {x : Int32} (v : Int32) (hd : decode c.code pc = .ok (.iinc k cst, 3)) (hp : pc + 3 = pc') (hl : Ls[k]? = some (.val (.int x))) (hv : x + Int32.ofInt cst = v) (hs : storeLocals Ls k (.int v) = some Ls') (h : own_Go p e below P T (mkF m pc' Ls' st)) : own_Go p e below P T (mkF m pc Ls st) := by
  subst hp hv; exact own_st (fun t k => XS.iinc X.here hx rfl hd hl hs k) h
theorem own_stv {Ls : Array Slot} {k : Nat} {v : Value} {o : Slot} (hv : v.isRef = true) (hold : Ls[k]? = some o) (ho : o = .unset ∨ ∃ w, o = .val w ∧ w.category = 1) : storeLocals Ls k v = some (Ls.setIfInBounds k (.val v)) := XS.store1 hold ho (XT.cat1 hv)
abbrev own_End (s : State) (Q : Option Value → Heap → List Loc → Prop) (k n : Nat) : State → Outcome → Prop := fun u o => ∃ v L, o = .returned v ∧ Q v u.heap L ∧ FrameEnd s o u L k n
variable {Q : Option Value → Heap → List Loc → Prop} {ck sn : Nat}
theorem own_retZ (X : Stand p l e R s m args below meth c T locs cells slots) (hx : p.tables.exec = Jvm.exec) (hk : meth.locks = false) {t : FieldType} (hret : meth.sig.returnType = some t) (ht : t = .boolean ∨ t = .byte ∨ t = .char ∨ t = .short) {z : Int32} (hd : decode c.code pc = .ok (.ireturn, 1)) (hc : cells ≤ ck) (hs : slots ≤ sn) (hQ : Q (some (.int (nar t z))) T.heap locs) :
    own_Go p e below (own_End s Q ck sn) T (mkF m pc Ls (.int z :: st)) := by
  obtain ⟨fs, hr, hrun, hended, hW, hsame⟩ := X.leave (v := some (.int (nar t z))) (fun h => by rw [hret] at h; cases h) hk
  exact ⟨_, _, retN X hx hret ht hd hr, hrun, hended, _, _, rfl, hQ, ⟨_, rfl⟩, hW, hsame.mono hc hs⟩
theorem own_retI (X : Stand p l e R s m args below meth c T locs cells slots) (hx : p.tables.exec = Jvm.exec) (hk : meth.locks = false) (hret : meth.sig.returnType = some .int) {z : Int32} (hd : decode c.code pc = .ok (.ireturn, 1)) (hc : cells ≤ ck) (hs : slots ≤ sn) (hQ : Q (some (.int z)) T.heap locs) :
    own_Go p e below (own_End s Q ck sn) T (mkF m pc Ls (.int z :: st)) := by
  obtain ⟨fs, hr, hrun, hended, hW, hsame⟩ := X.leave (v := some (.int z)) (fun h => by rw [hret] at h; cases h) hk
  exact ⟨_, _, retOut X hx hret rfl (Or.inl ⟨rfl, Or.inl rfl, z, rfl⟩) hd hr, hrun, hended, _, _, rfl, hQ, ⟨_, rfl⟩, hW, hsame.mono hc hs⟩
theorem own_retL (X : Stand p l e R s m args below meth c T locs cells slots) (hx : p.tables.exec = Jvm.exec) (hk : meth.locks = false) (hret : meth.sig.returnType = some .long) {z : Int64} (hd : decode c.code pc = .ok (.lreturn, 1)) (hc : cells ≤ ck) (hs : slots ≤ sn) (hQ : Q (some (.long z)) T.heap locs) :
    own_Go p e below (own_End s Q ck sn) T (mkF m pc Ls (.long z :: st)) := by
  obtain ⟨fs, hr, hrun, hended, hW, hsame⟩ := X.leave (v := some (.long z)) (fun h => by rw [hret] at h; cases h) hk
  exact ⟨_, _, retOut X hx hret rfl (Or.inr (Or.inl ⟨rfl, rfl, z, rfl⟩)) hd hr, hrun, hended, _, _, rfl, hQ, ⟨_, rfl⟩, hW, hsame.mono hc hs⟩
theorem own_narR {t : FieldType} {w : Value} (ht : t.isReference = true) (hw : w.isRef = true) : narrow t w = w := by
  rcases ref_cases hw with rfl | ⟨a, rfl⟩ <;> cases t <;> first | rfl | (cases ht; done)
theorem own_retA (X : Stand p l e R s m args below meth c T locs cells slots) (hx : p.tables.exec = Jvm.exec) (hk : meth.locks = false) {t : FieldType} (hret : meth.sig.returnType = some t) (ht : t.isReference = true) {w : Value} (hw : w.isRef = true) (hd : decode c.code pc = .ok (.areturn, 1)) (hc : cells ≤ ck) (hs : slots ≤ sn) (hQ : Q (some w) T.heap locs) :
    own_Go p e below (own_End s Q ck sn) T (mkF m pc Ls (w :: st)) := by
  obtain ⟨fs, hr, hrun, hended, hW, hsame⟩ := X.leave (v := some w) (fun h => by rw [hret] at h; cases h) hk
  exact ⟨_, _, retOut X hx hret (own_narR ht hw) (Or.inr (Or.inr (Or.inr (Or.inr ⟨rfl, ht, hw⟩)))) hd hr, hrun, hended, _, _, rfl, hQ, ⟨_, rfl⟩, hW, hsame.mono hc hs⟩
theorem own_retV (X : Stand p l e R s m args below meth c T locs cells slots) (hx : p.tables.exec = Jvm.exec) (hk : meth.locks = false) (hret : meth.sig.returnType = none) (hd : decode c.code pc = .ok (.return_, 1)) (hc : cells ≤ ck) (hs : slots ≤ sn) (hQ : Q none T.heap locs) :
    own_Go p e below (own_End s Q ck sn) T (mkF m pc Ls []) := by
  obtain ⟨fs, hr, hrun, hended, hW, hsame⟩ := X.leave (v := none) (fun _ => rfl) hk
  exact ⟨_, _, X.returnOut hx hret hd hr, hrun, hended, _, _, rfl, hQ, ⟨_, rfl⟩, hW, hsame.mono hc hs⟩
end OwnGo
section OwnArr
variable {p : Program} {l : Launch} {e : Env} {R : Room} {s : State} {m : MethodId} {args : Array Value} {below : List Frame} {meth : Method} {c : Code} {T : State} {locs : List Loc} {cells slots : Nat} {P : State → Outcome → Prop} {Ls : Array Slot} {st : List Value} {pc pc' : Nat} {Z : State} {h : Heap} {a : Addr} {k : ClassId} {ty : FieldType} {n j : Int32} {vs : List Value} {dv : Value}
theorem own_alen (X : Stand p l e R s m args below meth c T locs cells slots) (hx : p.tables.exec = Jvm.exec) (hZ : Z.Warmed39 s.vm) (eT : T.heap = h) (V : Arv Z h a k ty n vs dv) (hd : decode c.code pc = .ok (.arraylength, 1)) (hp : pc + 1 = pc') (hk : own_Go p e below P T (mkF m pc' Ls (.int n :: st))) : own_Go p e below P T (mkF m pc Ls (.ref a :: st)) := by
  subst hp
  obtain ⟨cl, A, -, S, q, -, -⟩ := V
  have w := X.arraylength hx (by rw [eT]; exact A.1) (State.isArrayOf_alike hZ.alike A.2.1) (g := mkF m pc Ls (.ref a :: st)) rfl rfl hd
  rw [len_of S q] at w
  exact own_st w hk
theorem own_baload (X : Stand p l e R s m args below meth c T locs cells slots) (hx : p.tables.exec = Jvm.exec) (hZ : Z.Warmed39 s.vm) (eT : T.heap = h) (V : Arv Z h a k .byte n vs dv) {x : Int32} (hj : ¬ j < 0 ∧ j < n) (hv : vs.getD j.toNatClampNeg dv = .int x) (hd : decode c.code pc = .ok (.baload, 1)) (hp : pc + 1 = pc') (hk : own_Go p e below P T (mkF m pc' Ls (.int x :: st))) : own_Go p e below P T (mkF m pc Ls (.int j :: .ref a :: st)) := by
  subst hp
  obtain ⟨cl, A, -, S, q, H, -⟩ := V
  exact own_st (X.baloadBytes hx (j := j) (v := .int x) (by rw [eT]; exact A.1) (State.isArrayOf_alike hZ.alike A.2.1) A.2.2 (inb_of S hj) (H.at (inb_of S hj) hv) (g := mkF m pc Ls (.int j :: .ref a :: st)) rfl rfl hd) hk
theorem own_aaload (X : Stand p l e R s m args below meth c T locs cells slots) (hx : p.tables.exec = Jvm.exec) (hZ : Z.Warmed39 s.vm) (eT : T.heap = h) (V : Arv Z h a k ty n vs dv) (ht : ty.isReference = true) {x : Value} (hj : ¬ j < 0 ∧ j < n) (hv : vs.getD j.toNatClampNeg dv = x) (hd : decode c.code pc = .ok (.aaload, 1)) (hp : pc + 1 = pc') (hk : own_Go p e below P T (mkF m pc' Ls (x :: st))) : own_Go p e below P T (mkF m pc Ls (.int j :: .ref a :: st)) := by
  subst hp
  obtain ⟨cl, A, -, S, q, H, -⟩ := V
  exact own_st (X.aaload hx (j := j) (v := x) (by rw [eT]; exact A.1) (State.isArrayOf_alike hZ.alike A.2.1) ht A.2.2 (inb_of S hj) (H.at (inb_of S hj) hv) (g := mkF m pc Ls (.int j :: .ref a :: st)) rfl rfl hd) hk
/-- a byte stored: the list with that place set -/
theorem own_bastore (X : Stand p l e R s m args below meth c T locs cells slots) (hx : p.tables.exec = Jvm.exec) (hZ : Z.Warmed39 s.vm) (eT : T.heap = h) (V : Arv Z h a k .byte n vs dv) (i : Nat) {x : Int32} (hj : ¬ j < 0 ∧ j < n) (hi : j.toNatClampNeg = i) (hl : i < vs.length) (hd : decode c.code pc = .ok (.bastore, 1)) :
    ∃ T' h', Stand p l e R s m args below meth c T' (locs ++ [⟨a, j.toNatClampNeg⟩]) cells slots ∧ T'.heap = h' ∧ Wr h h' a j.toNatClampNeg (.int (nar .byte x)) ∧ Arv Z h' a k .byte n (vs.set i (.int (nar .byte x))) dv ∧ ∀ target, Steps p.tables e below (T'.setTop (mkF m (pc + 1) Ls st)) target → Steps p.tables e below (T.setTop (mkF m pc Ls (.int x :: .int j :: .ref a :: st))) target := by
  obtain ⟨cl, A, q1, S, q, H, G⟩ := V
  obtain ⟨T', h', X', e', W, st'⟩ := stB X hx hZ eT A (j := j) (x := x) (inb_of S hj) (g := mkF m pc Ls (.int x :: .int j :: .ref a :: st)) rfl rfl hd
  exact ⟨T', h', X', e', W, Arv.set A q1 S q H G (fits_nar_byte x) W i hi hl, st'⟩
end OwnArr
section OwnWide
variable {p : Program} {l : Launch} {e : Env} {R : Room} {s : State} {m : MethodId} {args : Array Value} {below : List Frame} {meth : Method} {c : Code} {T : State} {locs : List Loc} {cells slots : Nat} {Ls : Array Slot} {st : List Value} {pc : Nat} {vm1 : Vm} {kn : Nat} {Q : Option Value → Heap → List Loc → Prop} {ck sn : Nat}
abbrev own_EndW (s : State) (Q : Option Value → Heap → List Loc → Prop) (k n : Nat) : State → Outcome → Prop := fun u o => ∃ v L, o = .returned v ∧ Q v u.heap L ∧ ReturnedEndW s o u L k n
theorem own_wmono {s t : State} {o : Outcome} {L : List Loc} {k n k' n' : Nat} (h : ReturnedEndW s o t L k n) (hk : k ≤ k') (hn : n ≤ n') : ReturnedEndW s o t L k' n' := ⟨h.1, h.2.1, h.2.2.1, h.2.2.2.mono hk hn⟩
theorem own_retZW (X : Stand p l e R (s.setVm vm1) m args below meth c T locs cells slots) (hS : s.Since vm1 kn) (hn : kn ≤ T.heap.size) (hx : p.tables.exec = Jvm.exec) (hk : meth.locks = false) {t : FieldType} (hret : meth.sig.returnType = some t) (ht : t = .boolean ∨ t = .byte ∨ t = .char ∨ t = .short) {z : Int32} (hd : decode c.code pc = .ok (.ireturn, 1)) (hc : cells ≤ ck) (hs : slots ≤ sn) (hQ : Q (some (.int (nar t z))) T.heap locs) :
    own_Go p e below (own_EndW s Q ck sn) T (mkF m pc Ls (.int z :: st)) := by
  obtain ⟨fs, hr, hrun, hended, hW⟩ := X.leaveW hS hn (v := some (.int (nar t z))) (fun h => by rw [hret] at h; cases h) hk
  exact ⟨_, _, retN X hx hret ht hd hr, hrun, hended, _, _, rfl, hQ, own_wmono hW hc hs⟩
theorem own_retIW (X : Stand p l e R (s.setVm vm1) m args below meth c T locs cells slots) (hS : s.Since vm1 kn) (hn : kn ≤ T.heap.size) (hx : p.tables.exec = Jvm.exec) (hk : meth.locks = false) (hret : meth.sig.returnType = some .int) {z : Int32} (hd : decode c.code pc = .ok (.ireturn, 1)) (hc : cells ≤ ck) (hs : slots ≤ sn) (hQ : Q (some (.int z)) T.heap locs) :
    own_Go p e below (own_EndW s Q ck sn) T (mkF m pc Ls (.int z :: st)) := by
  obtain ⟨fs, hr, hrun, hended, hW⟩ := X.leaveW hS hn (v := some (.int z)) (fun h => by rw [hret] at h; cases h) hk
  exact ⟨_, _, retOut X hx hret rfl (Or.inl ⟨rfl, Or.inl rfl, z, rfl⟩) hd hr, hrun, hended, _, _, rfl, hQ, own_wmono hW hc hs⟩
theorem own_retAW (X : Stand p l e R (s.setVm vm1) m args below meth c T locs cells slots) (hS : s.Since vm1 kn) (hn : kn ≤ T.heap.size) (hx : p.tables.exec = Jvm.exec) (hk : meth.locks = false) {t : FieldType} (hret : meth.sig.returnType = some t) (ht : t.isReference = true) {w : Value} (hw : w.isRef = true) (hd : decode c.code pc = .ok (.areturn, 1)) (hc : cells ≤ ck) (hs : slots ≤ sn) (hQ : Q (some w) T.heap locs) :
    own_Go p e below (own_EndW s Q ck sn) T (mkF m pc Ls (w :: st)) := by
  obtain ⟨fs, hr, hrun, hended, hW⟩ := X.leaveW hS hn (v := some w) (fun h => by rw [hret] at h; cases h) hk
  exact ⟨_, _, retOut X hx hret (own_narR ht hw) (Or.inr (Or.inr (Or.inr (Or.inr ⟨rfl, ht, hw⟩)))) hd hr, hrun, hended, _, _, rfl, hQ, own_wmono hW hc hs⟩
theorem own_retVW (X : Stand p l e R (s.setVm vm1) m args below meth c T locs cells slots) (hS : s.Since vm1 kn) (hn : kn ≤ T.heap.size) (hx : p.tables.exec = Jvm.exec) (hk : meth.locks = false) (hret : meth.sig.returnType = none) (hd : decode c.code pc = .ok (.return_, 1)) (hc : cells ≤ ck) (hs : slots ≤ sn) (hQ : Q none T.heap locs) :
    own_Go p e below (own_EndW s Q ck sn) T (mkF m pc Ls []) := by
  obtain ⟨fs, hr, hrun, hended, hW⟩ := X.leaveW hS hn (v := none) (fun _ => rfl) hk
  exact ⟨_, _, X.returnOut hx hret hd hr, hrun, hended, _, _, rfl, hQ, own_wmono hW hc hs⟩
end OwnWide
section OwnHeld
variable {p : Program} {l : Launch} {e : Env} {R : Room} {s : State} {m : MethodId} {args : Array Value} {below : List Frame} {meth : Method} {c : Code} {T : State} {locs : List Loc} {cells slots : Nat} {Ls : Array Slot} {st : List Value} {pc : Nat} {vm1 : Vm} {kn : Nat} {Q : Option Value → Heap → List Loc → Prop} {ck sn : Nat} {Z : State} {EL : List (String × Nat)}
abbrev own_EndH (Z : State) (EL : List (String × Nat)) (s : State) (Q : Option Value → Heap → List Loc → Prop) (k n : Nat) : State → Outcome → Prop := fun u o => ∃ v L, o = .returned v ∧ Q v u.heap L ∧ CHr Z EL s.vm s.heap u.vm u.heap ∧ ReturnedEndW s o u L k n
theorem own_retZH (X : Stand p l e R (s.setVm vm1) m args below meth c T locs cells slots) (hS : s.Since vm1 kn) (hn : kn ≤ T.heap.size) (hC : CHr Z EL s.vm s.heap T.vm T.heap) (hx : p.tables.exec = Jvm.exec) (hk : meth.locks = false) {t : FieldType} (hret : meth.sig.returnType = some t) (ht : t = .boolean ∨ t = .byte ∨ t = .char ∨ t = .short) {z : Int32} (hd : decode c.code pc = .ok (.ireturn, 1)) (hc : cells ≤ ck) (hs : slots ≤ sn) (hQ : Q (some (.int (nar t z))) T.heap locs) :
    own_Go p e below (own_EndH Z EL s Q ck sn) T (mkF m pc Ls (.int z :: st)) := by
  obtain ⟨fs, hr, hrun, hended, hW⟩ := X.leaveW hS hn (v := some (.int (nar t z))) (fun h => by rw [hret] at h; cases h) hk
  exact ⟨_, _, retN X hx hret ht hd hr, hrun, hended, _, _, rfl, hQ, hC, own_wmono hW hc hs⟩
end OwnHeld
def own_bs : List Int32 := [33, 35, 36, 37, 38, 39, 42, 43, 45, 46, 94, 95, 96, 124, 126]
abbrev own_EL : List (String × Nat) := [("com/example/verbatim_replay/verbatimreplay/StructuredFieldReader", 156)]
def own_max (x y : Int32) : Int32 := if x < y then y else x
def own_min (x y : Int32) : Int32 := if y < x then y else x
theorem own_minself (x : Int32) : own_min x x = x := by unfold own_min; split <;> rfl
theorem own_shr0 (x : Int32) : x >>> ((0 : Int32) &&& 31) = x := by
  apply Int32.toInt_inj.mp; rw [c_ishr x 0 0 (by decide)]; simp
def own_at (bs : List Int32) (i : Nat) : Int32 := bs.getD i 0
def own_inB (bs : List Int32) (N : Nat) (c : Int32) : Bool := decide (¬ c < (0 : Int32) ∧ ¬ (255 : Int32) < c) && (List.range N).any (fun j => decide (own_at bs j = nar .byte c))
abbrev own_in (bs : List Int32) (N : Nat) (c : Int32) : Prop := own_inB bs N c = true
theorem own_inI {bs : List Int32} {N : Nat} {c : Int32} : own_in bs N c ↔ (¬ c < (0 : Int32) ∧ ¬ (255 : Int32) < c) ∧ ∃ j, j < N ∧ own_at bs j = nar .byte c := by
  simp only [own_in, own_inB, Bool.and_eq_true, decide_eq_true_eq, List.any_eq_true, List.mem_range]
theorem own_inE {bs : List Int32} {N : Nat} {c : Int32} (h : ¬ c < (0 : Int32) ∧ ¬ (255 : Int32) < c) : own_in bs N c ↔ ∃ j, j < N ∧ own_at bs j = nar .byte c := ⟨fun q => (own_inI.mp q).2, fun q => own_inI.mpr ⟨h, q⟩⟩
theorem own_ltN {a b : Nat} (ha : a < 1000) (hb : b < 1000) : (Int32.ofNat a < Int32.ofNat b) ↔ a < b := by
  rw [Int32.lt_iff_toInt_lt, Int32.toInt_ofNat_small (by omega), Int32.toInt_ofNat_small (by omega)]; omega
theorem own_nn {a : Nat} (ha : a < 1000) : ¬ Int32.ofNat a < 0 := by
  rw [Int32.lt_iff_toInt_lt, Int32.toInt_ofNat_small (by omega)]; have e : (0 : Int32).toInt = 0 := rfl; omega
theorem own_pos {N : Nat} (h0 : 0 < N) (h : N ≤ 100) : (0 : Int32) < Int32.ofNat N := by
  rw [Int32.lt_iff_toInt_lt, Int32.toInt_ofNat_small (by omega)]; have e : (0 : Int32).toInt = 0 := rfl; omega
theorem own_inbN {a N : Nat} (h : a < N) (ha : a < 1000) (hN : N < 1000) : ¬ Int32.ofNat a < 0 ∧ Int32.ofNat a < Int32.ofNat N := ⟨own_nn ha, (own_ltN ha hN).mpr h⟩
theorem own_vat {bs : List Int32} {a : Nat} (ha : a < 1000) : (bs.map Value.int).getD (Int32.ofNat a).toNatClampNeg (.int (0 : Int32)) = .int (own_at bs a) := by
  have e : (Int32.ofNat a).toNatClampNeg = a := by simp only [Int32.toNatClampNeg]; rw [Int32.toInt_ofNat_small (by omega)]; rfl
  rw [e, own_at, List.getD_eq_getElem?_getD, List.getD_eq_getElem?_getD, List.getElem?_map]
  cases bs[a]? <;> rfl
theorem own_mem15 (c : Int32) : (∃ j, j < 15 ∧ own_at own_bs j = c) ↔ (c = 33 ∨ c = 35 ∨ c = 36 ∨ c = 37 ∨ c = 38 ∨ c = 39 ∨ c = 42 ∨ c = 43 ∨ c = 45 ∨ c = 46 ∨ c = 94 ∨ c = 95 ∨ c = 96 ∨ c = 124 ∨ c = 126) := by
  constructor
  · rintro ⟨j, hj, rfl⟩
    exact (by decide +kernel : ∀ j : Fin 15, (fun c : Int32 => c = 33 ∨ c = 35 ∨ c = 36 ∨ c = 37 ∨ c = 38 ∨ c = 39 ∨ c = 42 ∨ c = 43 ∨ c = 45 ∨ c = 46 ∨ c = 94 ∨ c = 95 ∨ c = 96 ∨ c = 124 ∨ c = 126) (own_at own_bs j.val)) ⟨j, hj⟩
  · rintro (rfl | rfl | rfl | rfl | rfl | rfl | rfl | rfl | rfl | rfl | rfl | rfl | rfl | rfl | rfl)
    · exact ⟨0, by decide, by decide⟩
    · exact ⟨1, by decide, by decide⟩
    · exact ⟨2, by decide, by decide⟩
    · exact ⟨3, by decide, by decide⟩
    · exact ⟨4, by decide, by decide⟩
    · exact ⟨5, by decide, by decide⟩
    · exact ⟨6, by decide, by decide⟩
    · exact ⟨7, by decide, by decide⟩
    · exact ⟨8, by decide, by decide⟩
    · exact ⟨9, by decide, by decide⟩
    · exact ⟨10, by decide, by decide⟩
    · exact ⟨11, by decide, by decide⟩
    · exact ⟨12, by decide, by decide⟩
    · exact ⟨13, by decide, by decide⟩
    · exact ⟨14, by decide, by decide⟩
theorem own_byte {c : Int32} (h : ¬ c < (0 : Int32) ∧ ¬ (255 : Int32) < c) {k : Int32} (hk : -128 ≤ k.toInt ∧ k.toInt < 128) : nar .byte c = k ↔ (c.toInt = k.toInt ∨ c.toInt = k.toInt + 256) := by
  have q := c_i2b c
  have e0 : (0 : Int32).toInt = 0 := rfl
  have e1 : (255 : Int32).toInt = 255 := rfl
  simp only [Int32.lt_iff_toInt_lt, e0, e1] at h
  show c.toInt8.toInt32 = k ↔ _
  rw [← Int32.toInt_inj]; omega
theorem own_iff (c : Int32) : (((¬ c < (97 : Int32) ∧ ¬ (122 : Int32) < c) ∨ (¬ c < (65 : Int32) ∧ ¬ (90 : Int32) < c)) ∨ (¬ c < (48 : Int32) ∧ ¬ (57 : Int32) < c) ∨ own_in own_bs 15 c) ↔ ((¬ c < (33 : Int32) ∧ ¬ (126 : Int32) < c) ∧ ¬ (c = (34 : Int32) ∨ c = (40 : Int32) ∨ c = (41 : Int32) ∨ c = (44 : Int32) ∨ c = (47 : Int32) ∨ c = (58 : Int32) ∨ c = (59 : Int32) ∨ c = (60 : Int32) ∨ c = (61 : Int32) ∨ c = (62 : Int32) ∨ c = (63 : Int32) ∨ c = (64 : Int32) ∨ c = (91 : Int32) ∨ c = (92 : Int32) ∨ c = (93 : Int32) ∨ c = (123 : Int32) ∨ c = (125 : Int32))) := by
  have hin : own_in own_bs 15 c ↔ (c = 33 ∨ c = 35 ∨ c = 36 ∨ c = 37 ∨ c = 38 ∨ c = 39 ∨ c = 42 ∨ c = 43 ∨ c = 45 ∨ c = 46 ∨ c = 94 ∨ c = 95 ∨ c = 96 ∨ c = 124 ∨ c = 126) := by
    rw [own_inI]
    constructor
    · rintro ⟨h, hj⟩
      have q := (own_mem15 _).mp hj
      simp only [own_byte h (k := 33) (by decide), own_byte h (k := 35) (by decide), own_byte h (k := 36) (by decide), own_byte h (k := 37) (by decide), own_byte h (k := 38) (by decide), own_byte h (k := 39) (by decide), own_byte h (k := 42) (by decide), own_byte h (k := 43) (by decide), own_byte h (k := 45) (by decide), own_byte h (k := 46) (by decide), own_byte h (k := 94) (by decide), own_byte h (k := 95) (by decide), own_byte h (k := 96) (by decide), own_byte h (k := 124) (by decide), own_byte h (k := 126) (by decide)] at q
      simp only [← Int32.toInt_inj, Int32.reduceToInt, Int32.lt_iff_toInt_lt] at *
      omega
    · rintro (rfl | rfl | rfl | rfl | rfl | rfl | rfl | rfl | rfl | rfl | rfl | rfl | rfl | rfl | rfl) <;> exact ⟨by decide, (own_mem15 _).mpr (by decide)⟩
  rw [hin]
  simp only [Int32.lt_iff_toInt_lt, ← Int32.toInt_inj, Int32.reduceToInt]
  omega
theorem d1_0 : decode prog_27_method_16_code 0 = .ok (.iload_n 0, 1) := by decide +kernel
theorem d1_1 : decode prog_27_method_16_code 1 = .ok (.bipush 97, 2) := by decide +kernel
theorem d1_3 : decode prog_27_method_16_code 3 = .ok (.if_icmp .lt 13, 3) := by decide +kernel
theorem d1_16 : decode prog_27_method_16_code 16 = .ok (.iconst 0, 1) := by decide +kernel
theorem d1_17 : decode prog_27_method_16_code 17 = .ok (.ireturn, 1) := by decide +kernel
theorem d1_6 : decode prog_27_method_16_code 6 = .ok (.iload_n 0, 1) := by decide +kernel
theorem d1_7 : decode prog_27_method_16_code 7 = .ok (.bipush 122, 2) := by decide +kernel
theorem d1_9 : decode prog_27_method_16_code 9 = .ok (.if_icmp .gt 7, 3) := by decide +kernel
theorem d1_12 : decode prog_27_method_16_code 12 = .ok (.iconst 1, 1) := by decide +kernel
theorem d1_13 : decode prog_27_method_16_code 13 = .ok (.goto 4, 3) := by decide +kernel
theorem pn1 : plainFor (⟨"com/example/verbatim_replay/verbatimreplay/StructuredFieldReader", "isLowercaseAlpha", "(I)Z"⟩ : MethodName) = true := by first | exact plainFor_of_name (by first | (simp [plainName, overriddenIn]; done) | decide +kernel) | decide +kernel
theorem ef1 (m : MethodId) (c1 : Int32) : entryFrame m #[(.int c1)] 1 = mkF m 0 #[.val (.int c1)] [] := by first | (simp [entryFrame, mkF, argsToLocals, Value.category]; done) | rfl
def Q1 (Z : State) (c1 : Int32) (h0 : Heap) (n0 : Nat) (v : Option Value) (h : Heap) (L : List Loc) : Prop := v = some (.int (own_b (¬ c1 < (97 : Int32) ∧ ¬ (122 : Int32) < c1))) ∧ Fr n0 L ∧ h = h0
set_option maxRecDepth 65536 in
set_option maxHeartbeats 40000000 in
theorem rm1 (l : Launch) (Z : State) (a0 : Array Value) (hw : ∀ d ∈ tables_1, d.before a0 Z = true) (ws : List Jvm.Cond) (c1 : Int32) (h0 : Heap) (n0 : Nat) (Z0 : n0 ≤ h0.size) :
    MetFree l (⟨"com/example/verbatim_replay/verbatimreplay/StructuredFieldReader", "isLowercaseAlpha", "(I)Z"⟩ : MethodName) (head1 (Jvm.Cond.code (⟨"com/example/verbatim_replay/verbatimreplay/StructuredFieldReader", "isLowercaseAlpha", "(I)Z"⟩ : MethodName) prog_27_method_16_code 1 (some .boolean) :: ws) ({ frames := 0, cells := 0, slots := 0, locals := 0 } : Room)) (fun a U => a = #[(.int c1)] ∧ Z.Warmed39 U.vm ∧ U.heap = h0) (fun _ _ _ _ _ => True) (fun _ U o U' => ∃ v L, o = .returned v ∧ Q1 Z c1 h0 n0 v U'.heap L ∧ FrameEnd U o U' L ({ frames := 0, cells := 0, slots := 0, locals := 0 } : Room).cells ({ frames := 0, cells := 0, slots := 0, locals := 0 } : Room).slots) := by
  refine MetFree.of_bodySF pn1 hisR ?_
  intro p e s m args below meth c s₁ Bd hml0 hP hK
  obtain ⟨rfl, hZ, hh⟩ := hP
  have hx := Bd.exec
  have hby := Bd.bytes
  have hlk : meth.locks = false := BodyLoose.notSynchronized Bd
  have hml : c.maxLocals = 1 := hml0
  have hown : s.vm.findClass "com/example/verbatim_replay/verbatimreplay/StructuredFieldReader" = some m.cls := findClass_of_methodNamed Bd.named
  have hnm := (name_of_methodNamed Bd.named Bd.method).1
  have X0 : Stand p l e ({ frames := 0, cells := 0, slots := 0, locals := 0 } : Room) s m #[(.int c1)] below meth c s₁ [] 0 0 := Stand.of_body Bd
  have e0 : s₁.heap = h0 := by rw [← hh, Bd.state]; rfl
  have N0 := Fr.nil n0
  rw [ef1 m c1]
  show own_Go p e below (own_End s (Q1 Z c1 h0 n0) ({ frames := 0, cells := 0, slots := 0, locals := 0 } : Room).cells ({ frames := 0, cells := 0, slots := 0, locals := 0 } : Room).slots) s₁ (mkF m 0 #[.val (.int c1)] [])
  refine own_iloadN X0 hx (hb hby d1_0) (pc' := 1) rfl rfl ?_
  refine own_bipush X0 hx (97) (hb hby d1_1) (pc' := 3) rfl (by decide) ?_
  by_cases c_1 : c1 < (97 : Int32)
  · skip
    refine own_icmpY X0 hx (hb hby d1_3) (XT.ii_lt_t c_1) (pc' := 16) (by decide) (by decide) ?_
    refine own_iconst X0 hx (0) (hb hby d1_16) (pc' := 17) rfl rfl ?_
    refine own_retZ X0 hx hlk Bd.returns (by simp) (hb hby d1_17) (by decide) (by decide) ?_
    rw [e0]
    exact ⟨by simp [own_b, nar, c_1], N0, rfl⟩
  · skip
    refine own_icmpN X0 hx (hb hby d1_3) (XT.ii_lt_f c_1) (pc' := 6) rfl ?_
    refine own_iloadN X0 hx (hb hby d1_6) (pc' := 7) rfl rfl ?_
    refine own_bipush X0 hx (122) (hb hby d1_7) (pc' := 9) rfl (by decide) ?_
    by_cases c_2 : (122 : Int32) < c1
    · skip
      refine own_icmpY X0 hx (hb hby d1_9) (XT.ii_gt_t c_2) (pc' := 16) (by decide) (by decide) ?_
      refine own_iconst X0 hx (0) (hb hby d1_16) (pc' := 17) rfl rfl ?_
      refine own_retZ X0 hx hlk Bd.returns (by simp) (hb hby d1_17) (by decide) (by decide) ?_
      rw [e0]
      exact ⟨by simp [own_b, nar, c_1, c_2], N0, rfl⟩
    · skip
      refine own_icmpN X0 hx (hb hby d1_9) (XT.ii_gt_f c_2) (pc' := 12) rfl ?_
      refine own_iconst X0 hx (1) (hb hby d1_12) (pc' := 13) rfl rfl ?_
      refine own_goto X0 hx (hb hby d1_13) (pc' := 17) (by decide) (by decide) ?_
      refine own_retZ X0 hx hlk Bd.returns (by simp) (hb hby d1_17) (by decide) (by decide) ?_
      rw [e0]
      exact ⟨by simp [own_b, nar, c_1, c_2], N0, rfl⟩
theorem d2_0 : decode prog_27_method_17_code 0 = .ok (.iload_n 0, 1) := by decide +kernel
theorem d2_1 : decode prog_27_method_17_code 1 = .ok (.invokestatic 147, 3) := by decide +kernel
theorem d2_4 : decode prog_27_method_17_code 4 = .ok (.ifCond .ne 15, 3) := by decide +kernel
theorem d2_19 : decode prog_27_method_17_code 19 = .ok (.iconst 1, 1) := by decide +kernel
theorem d2_20 : decode prog_27_method_17_code 20 = .ok (.goto 4, 3) := by decide +kernel
theorem d2_24 : decode prog_27_method_17_code 24 = .ok (.ireturn, 1) := by decide +kernel
theorem d2_7 : decode prog_27_method_17_code 7 = .ok (.iload_n 0, 1) := by decide +kernel
theorem d2_8 : decode prog_27_method_17_code 8 = .ok (.bipush 65, 2) := by decide +kernel
theorem d2_10 : decode prog_27_method_17_code 10 = .ok (.if_icmp .lt 13, 3) := by decide +kernel
theorem d2_23 : decode prog_27_method_17_code 23 = .ok (.iconst 0, 1) := by decide +kernel
theorem d2_13 : decode prog_27_method_17_code 13 = .ok (.iload_n 0, 1) := by decide +kernel
theorem d2_14 : decode prog_27_method_17_code 14 = .ok (.bipush 90, 2) := by decide +kernel
theorem d2_16 : decode prog_27_method_17_code 16 = .ok (.if_icmp .gt 7, 3) := by decide +kernel
theorem pd2_0 : parseMethodDescriptor "(I)Z" = some ⟨[.int], some .boolean⟩ := by decide +kernel
theorem pn2 : plainFor (⟨"com/example/verbatim_replay/verbatimreplay/StructuredFieldReader", "isAlpha", "(I)Z"⟩ : MethodName) = true := by first | exact plainFor_of_name (by first | (simp [plainName, overriddenIn]; done) | decide +kernel) | decide +kernel
theorem ef2 (m : MethodId) (c1 : Int32) : entryFrame m #[(.int c1)] 1 = mkF m 0 #[.val (.int c1)] [] := by first | (simp [entryFrame, mkF, argsToLocals, Value.category]; done) | rfl
def Q2 (Z : State) (c1 : Int32) (h0 : Heap) (n0 : Nat) (v : Option Value) (h : Heap) (L : List Loc) : Prop := v = some (.int (own_b ((¬ c1 < (97 : Int32) ∧ ¬ (122 : Int32) < c1) ∨ (¬ c1 < (65 : Int32) ∧ ¬ (90 : Int32) < c1)))) ∧ Fr n0 L ∧ h = h0
set_option maxRecDepth 65536 in
set_option maxHeartbeats 40000000 in
theorem rm2 (l : Launch) (Z : State) (a0 : Array Value) (hw : ∀ d ∈ tables_1, d.before a0 Z = true) (ws : List Jvm.Cond) (c1 : Int32) (h0 : Heap) (n0 : Nat) (Z0 : n0 ≤ h0.size) :
    MetFree l (⟨"com/example/verbatim_replay/verbatimreplay/StructuredFieldReader", "isAlpha", "(I)Z"⟩ : MethodName) (head1 (Jvm.Cond.code (⟨"com/example/verbatim_replay/verbatimreplay/StructuredFieldReader", "isAlpha", "(I)Z"⟩ : MethodName) prog_27_method_17_code 1 (some .boolean) :: ws) ({ frames := 1, cells := 0, slots := 0, locals := 12 } : Room)) (fun a U => a = #[(.int c1)] ∧ Z.Warmed39 U.vm ∧ U.heap = h0) (fun _ _ _ _ _ => True) (fun _ U o U' => ∃ v L, o = .returned v ∧ Q2 Z c1 h0 n0 v U'.heap L ∧ FrameEnd U o U' L ({ frames := 1, cells := 0, slots := 0, locals := 12 } : Room).cells ({ frames := 1, cells := 0, slots := 0, locals := 12 } : Room).slots) := by
  refine MetFree.of_bodySF pn2 hisR ?_
  intro p e s m args below meth c s₁ Bd hml0 hP hK
  obtain ⟨rfl, hZ, hh⟩ := hP
  have hx := Bd.exec
  have hby := Bd.bytes
  have hlk : meth.locks = false := BodyLoose.notSynchronized Bd
  have hml : c.maxLocals = 1 := hml0
  have hown : s.vm.findClass "com/example/verbatim_replay/verbatimreplay/StructuredFieldReader" = some m.cls := findClass_of_methodNamed Bd.named
  have hnm := (name_of_methodNamed Bd.named Bd.method).1
  have X0 : Stand p l e ({ frames := 1, cells := 0, slots := 0, locals := 12 } : Room) s m #[(.int c1)] below meth c s₁ [] 0 0 := Stand.of_body Bd
  have e0 : s₁.heap = h0 := by rw [← hh, Bd.state]; rfl
  have N0 := Fr.nil n0
  rw [ef2 m c1]
  show own_Go p e below (own_End s (Q2 Z c1 h0 n0) ({ frames := 1, cells := 0, slots := 0, locals := 12 } : Room).cells ({ frames := 1, cells := 0, slots := 0, locals := 12 } : Room).slots) s₁ (mkF m 0 #[.val (.int c1)] [])
  refine own_iloadN X0 hx (hb hby d2_0) (pc' := 1) rfl rfl ?_
  obtain ⟨_, _, ⟨T_1, L_1, k_1, n_1⟩, -, X_1, ⟨Lc_1, hQ_1, l_1, y_1, z_1⟩, st_1⟩ := Jvm.LawKit.callS X0 hx (y := (⟨"com/example/verbatim_replay/verbatimreplay/StructuredFieldReader", "isLowercaseAlpha", "(I)Z"⟩ : MethodName)) hown (mvT hZ (hw _ (List.mem_of_getElem? (i := 8) rfl))) (mvT hZ (hw _ (List.mem_of_getElem? (i := 9) rfl))) (mvT hZ (hw _ (List.mem_of_getElem? (i := 3) rfl))) (mvT hZ (hw _ (List.mem_of_getElem? (i := 10) rfl))) (by decide) (backOf (W := 0) (rm1 l Z a0 hw [] c1 h0 n0 Z0) hZ (hw _ (List.mem_of_getElem? (i := 10) rfl)) (hw _ (List.mem_of_getElem? (i := 3) rfl)) (by decide) (by decide)) (g := (mkF m 1 #[.val (.int c1)] [(.int c1)])) rfl (by rw [hml]; rfl) (argsL := [(.int c1)]) (rest := []) (lenOf pd2_0 rfl) rfl (by show 2 * 0 + _ ≤ _; exact Nat.le_of_eq rfl) (hb hby d2_1) (fun _ _ => ⟨rfl, e0, (by decide : 0 + 0 ≤ _), (by decide : 0 + 0 ≤ _)⟩)
  dsimp only [Pt.U, Pt.locs, Pt.cells, Pt.slots] at X_1 l_1 y_1 z_1 st_1 hQ_1
  subst l_1 y_1 z_1
  refine own_st st_1 ?_
  obtain ⟨rfl, Nq_1, eq_1⟩ := hQ_1
  have N_1 := Fr.app N0 Nq_1
  show own_Go p e below _ T_1 (mkF m 4 #[.val (.int c1)] [(.int (own_b (¬ c1 < (97 : Int32) ∧ ¬ (122 : Int32) < c1)))])
  by_cases c_2 : ¬ c1 < (97 : Int32) ∧ ¬ (122 : Int32) < c1
  · skip
    refine own_ifY X_1 hx (hb hby d2_4) (own_b0_ne_t c_2) (pc' := 19) (by decide) (by decide) ?_
    refine own_iconst X_1 hx (1) (hb hby d2_19) (pc' := 20) rfl rfl ?_
    refine own_goto X_1 hx (hb hby d2_20) (pc' := 24) (by decide) (by decide) ?_
    refine own_retZ X_1 hx hlk Bd.returns (by simp) (hb hby d2_24) (by decide) (by decide) ?_
    rw [eq_1]
    exact ⟨by rw [own_b1 (by simp only [Int32.lt_iff_toInt_lt, ← Int32.toInt_inj, Int32.reduceToInt] at c_2 ⊢; omega)]; rfl, N_1, rfl⟩
  · skip
    refine own_ifN X_1 hx (hb hby d2_4) (own_b0_ne_f c_2) (pc' := 7) rfl ?_
    refine own_iloadN X_1 hx (hb hby d2_7) (pc' := 8) rfl rfl ?_
    refine own_bipush X_1 hx (65) (hb hby d2_8) (pc' := 10) rfl (by decide) ?_
    by_cases c_3 : c1 < (65 : Int32)
    · skip
      refine own_icmpY X_1 hx (hb hby d2_10) (XT.ii_lt_t c_3) (pc' := 23) (by decide) (by decide) ?_
      refine own_iconst X_1 hx (0) (hb hby d2_23) (pc' := 24) rfl rfl ?_
      refine own_retZ X_1 hx hlk Bd.returns (by simp) (hb hby d2_24) (by decide) (by decide) ?_
      rw [eq_1]
      exact ⟨by rw [own_b0 (by simp only [Int32.lt_iff_toInt_lt, ← Int32.toInt_inj, Int32.reduceToInt] at c_2 c_3 ⊢; omega)]; rfl, N_1, rfl⟩
    · skip
      refine own_icmpN X_1 hx (hb hby d2_10) (XT.ii_lt_f c_3) (pc' := 13) rfl ?_
      refine own_iloadN X_1 hx (hb hby d2_13) (pc' := 14) rfl rfl ?_
      refine own_bipush X_1 hx (90) (hb hby d2_14) (pc' := 16) rfl (by decide) ?_
      by_cases c_4 : (90 : Int32) < c1
      · skip
        refine own_icmpY X_1 hx (hb hby d2_16) (XT.ii_gt_t c_4) (pc' := 23) (by decide) (by decide) ?_
        refine own_iconst X_1 hx (0) (hb hby d2_23) (pc' := 24) rfl rfl ?_
        refine own_retZ X_1 hx hlk Bd.returns (by simp) (hb hby d2_24) (by decide) (by decide) ?_
        rw [eq_1]
        exact ⟨by rw [own_b0 (by simp only [Int32.lt_iff_toInt_lt, ← Int32.toInt_inj, Int32.reduceToInt] at c_2 c_3 c_4 ⊢; omega)]; rfl, N_1, rfl⟩
      · skip
        refine own_icmpN X_1 hx (hb hby d2_16) (XT.ii_gt_f c_4) (pc' := 19) rfl ?_
        refine own_iconst X_1 hx (1) (hb hby d2_19) (pc' := 20) rfl rfl ?_
        refine own_goto X_1 hx (hb hby d2_20) (pc' := 24) (by decide) (by decide) ?_
        refine own_retZ X_1 hx hlk Bd.returns (by simp) (hb hby d2_24) (by decide) (by decide) ?_
        rw [eq_1]
        exact ⟨by rw [own_b1 (by simp only [Int32.lt_iff_toInt_lt, ← Int32.toInt_inj, Int32.reduceToInt] at c_2 c_3 c_4 ⊢; omega)]; rfl, N_1, rfl⟩
theorem d3_0 : decode prog_27_method_15_code 0 = .ok (.iload_n 0, 1) := by decide +kernel
theorem d3_1 : decode prog_27_method_15_code 1 = .ok (.bipush 48, 2) := by decide +kernel
theorem d3_3 : decode prog_27_method_15_code 3 = .ok (.if_icmp .lt 13, 3) := by decide +kernel
theorem d3_16 : decode prog_27_method_15_code 16 = .ok (.iconst 0, 1) := by decide +kernel
theorem d3_17 : decode prog_27_method_15_code 17 = .ok (.ireturn, 1) := by decide +kernel
theorem d3_6 : decode prog_27_method_15_code 6 = .ok (.iload_n 0, 1) := by decide +kernel
theorem d3_7 : decode prog_27_method_15_code 7 = .ok (.bipush 57, 2) := by decide +kernel
theorem d3_9 : decode prog_27_method_15_code 9 = .ok (.if_icmp .gt 7, 3) := by decide +kernel
theorem d3_12 : decode prog_27_method_15_code 12 = .ok (.iconst 1, 1) := by decide +kernel
theorem d3_13 : decode prog_27_method_15_code 13 = .ok (.goto 4, 3) := by decide +kernel
theorem pn3 : plainFor (⟨"com/example/verbatim_replay/verbatimreplay/StructuredFieldReader", "isDigit", "(I)Z"⟩ : MethodName) = true := by first | exact plainFor_of_name (by first | (simp [plainName, overriddenIn]; done) | decide +kernel) | decide +kernel
theorem ef3 (m : MethodId) (c1 : Int32) : entryFrame m #[(.int c1)] 1 = mkF m 0 #[.val (.int c1)] [] := by first | (simp [entryFrame, mkF, argsToLocals, Value.category]; done) | rfl
def Q3 (Z : State) (c1 : Int32) (h0 : Heap) (n0 : Nat) (v : Option Value) (h : Heap) (L : List Loc) : Prop := v = some (.int (own_b (¬ c1 < (48 : Int32) ∧ ¬ (57 : Int32) < c1))) ∧ Fr n0 L ∧ h = h0
set_option maxRecDepth 65536 in
set_option maxHeartbeats 40000000 in
theorem rm3 (l : Launch) (Z : State) (a0 : Array Value) (hw : ∀ d ∈ tables_1, d.before a0 Z = true) (ws : List Jvm.Cond) (c1 : Int32) (h0 : Heap) (n0 : Nat) (Z0 : n0 ≤ h0.size) :
    MetFree l (⟨"com/example/verbatim_replay/verbatimreplay/StructuredFieldReader", "isDigit", "(I)Z"⟩ : MethodName) (head1 (Jvm.Cond.code (⟨"com/example/verbatim_replay/verbatimreplay/StructuredFieldReader", "isDigit", "(I)Z"⟩ : MethodName) prog_27_method_15_code 1 (some .boolean) :: ws) ({ frames := 0, cells := 0, slots := 0, locals := 0 } : Room)) (fun a U => a = #[(.int c1)] ∧ Z.Warmed39 U.vm ∧ U.heap = h0) (fun _ _ _ _ _ => True) (fun _ U o U' => ∃ v L, o = .returned v ∧ Q3 Z c1 h0 n0 v U'.heap L ∧ FrameEnd U o U' L ({ frames := 0, cells := 0, slots := 0, locals := 0 } : Room).cells ({ frames := 0, cells := 0, slots := 0, locals := 0 } : Room).slots) := by
  refine MetFree.of_bodySF pn3 hisR ?_
  intro p e s m args below meth c s₁ Bd hml0 hP hK
  obtain ⟨rfl, hZ, hh⟩ := hP
  have hx := Bd.exec
  have hby := Bd.bytes
  have hlk : meth.locks = false := BodyLoose.notSynchronized Bd
  have hml : c.maxLocals = 1 := hml0
  have hown : s.vm.findClass "com/example/verbatim_replay/verbatimreplay/StructuredFieldReader" = some m.cls := findClass_of_methodNamed Bd.named
  have hnm := (name_of_methodNamed Bd.named Bd.method).1
  have X0 : Stand p l e ({ frames := 0, cells := 0, slots := 0, locals := 0 } : Room) s m #[(.int c1)] below meth c s₁ [] 0 0 := Stand.of_body Bd
  have e0 : s₁.heap = h0 := by rw [← hh, Bd.state]; rfl
  have N0 := Fr.nil n0
  rw [ef3 m c1]
  show own_Go p e below (own_End s (Q3 Z c1 h0 n0) ({ frames := 0, cells := 0, slots := 0, locals := 0 } : Room).cells ({ frames := 0, cells := 0, slots := 0, locals := 0 } : Room).slots) s₁ (mkF m 0 #[.val (.int c1)] [])
  refine own_iloadN X0 hx (hb hby d3_0) (pc' := 1) rfl rfl ?_
  refine own_bipush X0 hx (48) (hb hby d3_1) (pc' := 3) rfl (by decide) ?_
  by_cases c_1 : c1 < (48 : Int32)
  · skip
    refine own_icmpY X0 hx (hb hby d3_3) (XT.ii_lt_t c_1) (pc' := 16) (by decide) (by decide) ?_
    refine own_iconst X0 hx (0) (hb hby d3_16) (pc' := 17) rfl rfl ?_
    refine own_retZ X0 hx hlk Bd.returns (by simp) (hb hby d3_17) (by decide) (by decide) ?_
    rw [e0]
    exact ⟨by simp [own_b, nar, c_1], N0, rfl⟩
  · skip
    refine own_icmpN X0 hx (hb hby d3_3) (XT.ii_lt_f c_1) (pc' := 6) rfl ?_
    refine own_iloadN X0 hx (hb hby d3_6) (pc' := 7) rfl rfl ?_
    refine own_bipush X0 hx (57) (hb hby d3_7) (pc' := 9) rfl (by decide) ?_
    by_cases c_2 : (57 : Int32) < c1
    · skip
      refine own_icmpY X0 hx (hb hby d3_9) (XT.ii_gt_t c_2) (pc' := 16) (by decide) (by decide) ?_
      refine own_iconst X0 hx (0) (hb hby d3_16) (pc' := 17) rfl rfl ?_
      refine own_retZ X0 hx hlk Bd.returns (by simp) (hb hby d3_17) (by decide) (by decide) ?_
      rw [e0]
      exact ⟨by simp [own_b, nar, c_1, c_2], N0, rfl⟩
    · skip
      refine own_icmpN X0 hx (hb hby d3_9) (XT.ii_gt_f c_2) (pc' := 12) rfl ?_
      refine own_iconst X0 hx (1) (hb hby d3_12) (pc' := 13) rfl rfl ?_
      refine own_goto X0 hx (hb hby d3_13) (pc' := 17) (by decide) (by decide) ?_
      refine own_retZ X0 hx hlk Bd.returns (by simp) (hb hby d3_17) (by decide) (by decide) ?_
      rw [e0]
      exact ⟨by simp [own_b, nar, c_1, c_2], N0, rfl⟩
theorem d4_0 : decode jdk_43_method_4_code 0 = .ok (.iload_n 0, 1) := by decide +kernel
theorem d4_1 : decode jdk_43_method_4_code 1 = .ok (.ifCond .lt 14, 3) := by decide +kernel
theorem d4_15 : decode jdk_43_method_4_code 15 = .ok (.iconst 0, 1) := by decide +kernel
theorem d4_16 : decode jdk_43_method_4_code 16 = .ok (.ireturn, 1) := by decide +kernel
theorem d4_4 : decode jdk_43_method_4_code 4 = .ok (.iload_n 0, 1) := by decide +kernel
theorem d4_5 : decode jdk_43_method_4_code 5 = .ok (.sipush 255, 3) := by decide +kernel
theorem d4_8 : decode jdk_43_method_4_code 8 = .ok (.if_icmp .gt 7, 3) := by decide +kernel
theorem d4_11 : decode jdk_43_method_4_code 11 = .ok (.iconst 1, 1) := by decide +kernel
theorem d4_12 : decode jdk_43_method_4_code 12 = .ok (.goto 4, 3) := by decide +kernel
theorem pn4 : plainFor (⟨"java/lang/StringLatin1", "canEncode", "(I)Z"⟩ : MethodName) = true := by first | exact plainFor_of_name (by first | (simp [plainName, overriddenIn]; done) | decide +kernel) | decide +kernel
theorem ef4 (m : MethodId) (c1 : Int32) : entryFrame m #[(.int c1)] 1 = mkF m 0 #[.val (.int c1)] [] := by first | (simp [entryFrame, mkF, argsToLocals, Value.category]; done) | rfl
def Q4 (Z : State) (c1 : Int32) (h0 : Heap) (n0 : Nat) (v : Option Value) (h : Heap) (L : List Loc) : Prop := v = some (.int (own_b (¬ c1 < (0 : Int32) ∧ ¬ (255 : Int32) < c1))) ∧ Fr n0 L ∧ h = h0
set_option maxRecDepth 65536 in
set_option maxHeartbeats 40000000 in
theorem rm4 (l : Launch) (Z : State) (a0 : Array Value) (hw : ∀ d ∈ tables_1, d.before a0 Z = true) (ws : List Jvm.Cond) (c1 : Int32) (h0 : Heap) (n0 : Nat) (Z0 : n0 ≤ h0.size) :
    MetFree l (⟨"java/lang/StringLatin1", "canEncode", "(I)Z"⟩ : MethodName) (head1 (Jvm.Cond.code (⟨"java/lang/StringLatin1", "canEncode", "(I)Z"⟩ : MethodName) jdk_43_method_4_code 1 (some .boolean) :: ws) ({ frames := 0, cells := 0, slots := 0, locals := 0 } : Room)) (fun a U => a = #[(.int c1)] ∧ Z.Warmed39 U.vm ∧ U.heap = h0) (fun _ _ _ _ _ => True) (fun _ U o U' => ∃ v L, o = .returned v ∧ Q4 Z c1 h0 n0 v U'.heap L ∧ FrameEnd U o U' L ({ frames := 0, cells := 0, slots := 0, locals := 0 } : Room).cells ({ frames := 0, cells := 0, slots := 0, locals := 0 } : Room).slots) := by
  refine MetFree.of_bodySF pn4 hisR ?_
  intro p e s m args below meth c s₁ Bd hml0 hP hK
  obtain ⟨rfl, hZ, hh⟩ := hP
  have hx := Bd.exec
  have hby := Bd.bytes
  have hlk : meth.locks = false := BodyLoose.notSynchronized Bd
  have hml : c.maxLocals = 1 := hml0
  have hown : s.vm.findClass "java/lang/StringLatin1" = some m.cls := findClass_of_methodNamed Bd.named
  have hnm := (name_of_methodNamed Bd.named Bd.method).1
  have X0 : Stand p l e ({ frames := 0, cells := 0, slots := 0, locals := 0 } : Room) s m #[(.int c1)] below meth c s₁ [] 0 0 := Stand.of_body Bd
  have e0 : s₁.heap = h0 := by rw [← hh, Bd.state]; rfl
  have N0 := Fr.nil n0
  rw [ef4 m c1]
  show own_Go p e below (own_End s (Q4 Z c1 h0 n0) ({ frames := 0, cells := 0, slots := 0, locals := 0 } : Room).cells ({ frames := 0, cells := 0, slots := 0, locals := 0 } : Room).slots) s₁ (mkF m 0 #[.val (.int c1)] [])
  refine own_iloadN X0 hx (hb hby d4_0) (pc' := 1) rfl rfl ?_
  by_cases c_1 : c1 < (0 : Int32)
  · skip
    refine own_ifY X0 hx (hb hby d4_1) (XT.i0_lt_t c_1) (pc' := 15) (by decide) (by decide) ?_
    refine own_iconst X0 hx (0) (hb hby d4_15) (pc' := 16) rfl rfl ?_
    refine own_retZ X0 hx hlk Bd.returns (by simp) (hb hby d4_16) (by decide) (by decide) ?_
    rw [e0]
    exact ⟨by simp [own_b, nar, c_1], N0, rfl⟩
  · skip
    refine own_ifN X0 hx (hb hby d4_1) (XT.i0_lt_f c_1) (pc' := 4) rfl ?_
    refine own_iloadN X0 hx (hb hby d4_4) (pc' := 5) rfl rfl ?_
    refine own_sipush X0 hx (255) (hb hby d4_5) (pc' := 8) rfl (by decide) ?_
    by_cases c_2 : (255 : Int32) < c1
    · skip
      refine own_icmpY X0 hx (hb hby d4_8) (XT.ii_gt_t c_2) (pc' := 15) (by decide) (by decide) ?_
      refine own_iconst X0 hx (0) (hb hby d4_15) (pc' := 16) rfl rfl ?_
      refine own_retZ X0 hx hlk Bd.returns (by simp) (hb hby d4_16) (by decide) (by decide) ?_
      rw [e0]
      exact ⟨by simp [own_b, nar, c_1, c_2], N0, rfl⟩
    · skip
      refine own_icmpN X0 hx (hb hby d4_8) (XT.ii_gt_f c_2) (pc' := 11) rfl ?_
      refine own_iconst X0 hx (1) (hb hby d4_11) (pc' := 12) rfl rfl ?_
      refine own_goto X0 hx (hb hby d4_12) (pc' := 16) (by decide) (by decide) ?_
      refine own_retZ X0 hx hlk Bd.returns (by simp) (hb hby d4_16) (by decide) (by decide) ?_
      rw [e0]
      exact ⟨by simp [own_b, nar, c_1, c_2], N0, rfl⟩
theorem d5_0 : decode jdk_29_method_65_code 0 = .ok (.iload_n 0, 1) := by decide +kernel
theorem d5_1 : decode jdk_29_method_65_code 1 = .ok (.iload_n 1, 1) := by decide +kernel
theorem d5_2 : decode jdk_29_method_65_code 2 = .ok (.if_icmp .lt 7, 3) := by decide +kernel
theorem d5_9 : decode jdk_29_method_65_code 9 = .ok (.iload_n 1, 1) := by decide +kernel
theorem d5_10 : decode jdk_29_method_65_code 10 = .ok (.ireturn, 1) := by decide +kernel
theorem d5_5 : decode jdk_29_method_65_code 5 = .ok (.iload_n 0, 1) := by decide +kernel
theorem d5_6 : decode jdk_29_method_65_code 6 = .ok (.goto 4, 3) := by decide +kernel
theorem pn5 : plainFor (⟨"java/lang/Math", "max", "(II)I"⟩ : MethodName) = true := by first | exact plainFor_of_name (by first | (simp [plainName, overriddenIn]; done) | decide +kernel) | decide +kernel
theorem ef5 (m : MethodId) (x1 : Int32) (x2 : Int32) : entryFrame m #[(.int x1), (.int x2)] 2 = mkF m 0 #[.val (.int x1), .val (.int x2)] [] := by first | (simp [entryFrame, mkF, argsToLocals, Value.category]; done) | rfl
def Q5 (Z : State) (x1 : Int32) (x2 : Int32) (h0 : Heap) (n0 : Nat) (v : Option Value) (h : Heap) (L : List Loc) : Prop := v = some (.int (own_max x1 x2)) ∧ Fr n0 L ∧ h = h0
set_option maxRecDepth 65536 in
set_option maxHeartbeats 40000000 in
theorem rm5 (l : Launch) (Z : State) (a0 : Array Value) (hw : ∀ d ∈ tables_1, d.before a0 Z = true) (ws : List Jvm.Cond) (x1 : Int32) (x2 : Int32) (h0 : Heap) (n0 : Nat) (Z0 : n0 ≤ h0.size) :
    MetFree l (⟨"java/lang/Math", "max", "(II)I"⟩ : MethodName) (head1 (Jvm.Cond.code (⟨"java/lang/Math", "max", "(II)I"⟩ : MethodName) jdk_29_method_65_code 2 (some .int) :: ws) ({ frames := 0, cells := 0, slots := 0, locals := 0 } : Room)) (fun a U => a = #[(.int x1), (.int x2)] ∧ Z.Warmed39 U.vm ∧ U.heap = h0) (fun _ _ _ _ _ => True) (fun _ U o U' => ∃ v L, o = .returned v ∧ Q5 Z x1 x2 h0 n0 v U'.heap L ∧ FrameEnd U o U' L ({ frames := 0, cells := 0, slots := 0, locals := 0 } : Room).cells ({ frames := 0, cells := 0, slots := 0, locals := 0 } : Room).slots) := by
  refine MetFree.of_bodySF pn5 hisR ?_
  intro p e s m args below meth c s₁ Bd hml0 hP hK
  obtain ⟨rfl, hZ, hh⟩ := hP
  have hx := Bd.exec
  have hby := Bd.bytes
  have hlk : meth.locks = false := BodyLoose.notSynchronized Bd
  have hml : c.maxLocals = 2 := hml0
  have hown : s.vm.findClass "java/lang/Math" = some m.cls := findClass_of_methodNamed Bd.named
  have hnm := (name_of_methodNamed Bd.named Bd.method).1
  have X0 : Stand p l e ({ frames := 0, cells := 0, slots := 0, locals := 0 } : Room) s m #[(.int x1), (.int x2)] below meth c s₁ [] 0 0 := Stand.of_body Bd
  have e0 : s₁.heap = h0 := by rw [← hh, Bd.state]; rfl
  have N0 := Fr.nil n0
  rw [ef5 m x1 x2]
  show own_Go p e below (own_End s (Q5 Z x1 x2 h0 n0) ({ frames := 0, cells := 0, slots := 0, locals := 0 } : Room).cells ({ frames := 0, cells := 0, slots := 0, locals := 0 } : Room).slots) s₁ (mkF m 0 #[.val (.int x1), .val (.int x2)] [])
  refine own_iloadN X0 hx (hb hby d5_0) (pc' := 1) rfl rfl ?_
  refine own_iloadN X0 hx (hb hby d5_1) (pc' := 2) rfl rfl ?_
  by_cases c_1 : x1 < x2
  · skip
    refine own_icmpY X0 hx (hb hby d5_2) (XT.ii_lt_t c_1) (pc' := 9) (by decide) (by decide) ?_
    refine own_iloadN X0 hx (hb hby d5_9) (pc' := 10) rfl rfl ?_
    refine own_retI X0 hx hlk Bd.returns (hb hby d5_10) (by decide) (by decide) ?_
    rw [e0]
    exact ⟨by simp [own_max, c_1], N0, rfl⟩
  · skip
    refine own_icmpN X0 hx (hb hby d5_2) (XT.ii_lt_f c_1) (pc' := 5) rfl ?_
    refine own_iloadN X0 hx (hb hby d5_5) (pc' := 6) rfl rfl ?_
    refine own_goto X0 hx (hb hby d5_6) (pc' := 10) (by decide) (by decide) ?_
    refine own_retI X0 hx hlk Bd.returns (hb hby d5_10) (by decide) (by decide) ?_
    rw [e0]
    exact ⟨by simp [own_max, c_1], N0, rfl⟩
theorem d6_0 : decode jdk_29_method_69_code 0 = .ok (.iload_n 0, 1) := by decide +kernel
theorem d6_1 : decode jdk_29_method_69_code 1 = .ok (.iload_n 1, 1) := by decide +kernel
theorem d6_2 : decode jdk_29_method_69_code 2 = .ok (.if_icmp .gt 7, 3) := by decide +kernel
theorem d6_9 : decode jdk_29_method_69_code 9 = .ok (.iload_n 1, 1) := by decide +kernel
theorem d6_10 : decode jdk_29_method_69_code 10 = .ok (.ireturn, 1) := by decide +kernel
theorem d6_5 : decode jdk_29_method_69_code 5 = .ok (.iload_n 0, 1) := by decide +kernel
theorem d6_6 : decode jdk_29_method_69_code 6 = .ok (.goto 4, 3) := by decide +kernel
theorem pn6 : plainFor (⟨"java/lang/Math", "min", "(II)I"⟩ : MethodName) = true := by first | exact plainFor_of_name (by first | (simp [plainName, overriddenIn]; done) | decide +kernel) | decide +kernel
theorem ef6 (m : MethodId) (x1 : Int32) (x2 : Int32) : entryFrame m #[(.int x1), (.int x2)] 2 = mkF m 0 #[.val (.int x1), .val (.int x2)] [] := by first | (simp [entryFrame, mkF, argsToLocals, Value.category]; done) | rfl
def Q6 (Z : State) (x1 : Int32) (x2 : Int32) (h0 : Heap) (n0 : Nat) (v : Option Value) (h : Heap) (L : List Loc) : Prop := v = some (.int (own_min x1 x2)) ∧ Fr n0 L ∧ h = h0
set_option maxRecDepth 65536 in
set_option maxHeartbeats 40000000 in
theorem rm6 (l : Launch) (Z : State) (a0 : Array Value) (hw : ∀ d ∈ tables_1, d.before a0 Z = true) (ws : List Jvm.Cond) (x1 : Int32) (x2 : Int32) (h0 : Heap) (n0 : Nat) (Z0 : n0 ≤ h0.size) :
    MetFree l (⟨"java/lang/Math", "min", "(II)I"⟩ : MethodName) (head1 (Jvm.Cond.code (⟨"java/lang/Math", "min", "(II)I"⟩ : MethodName) jdk_29_method_69_code 2 (some .int) :: ws) ({ frames := 0, cells := 0, slots := 0, locals := 0 } : Room)) (fun a U => a = #[(.int x1), (.int x2)] ∧ Z.Warmed39 U.vm ∧ U.heap = h0) (fun _ _ _ _ _ => True) (fun _ U o U' => ∃ v L, o = .returned v ∧ Q6 Z x1 x2 h0 n0 v U'.heap L ∧ FrameEnd U o U' L ({ frames := 0, cells := 0, slots := 0, locals := 0 } : Room).cells ({ frames := 0, cells := 0, slots := 0, locals := 0 } : Room).slots) := by
  refine MetFree.of_bodySF pn6 hisR ?_
  intro p e s m args below meth c s₁ Bd hml0 hP hK
  obtain ⟨rfl, hZ, hh⟩ := hP
  have hx := Bd.exec
  have hby := Bd.bytes
  have hlk : meth.locks = false := BodyLoose.notSynchronized Bd
  have hml : c.maxLocals = 2 := hml0
  have hown : s.vm.findClass "java/lang/Math" = some m.cls := findClass_of_methodNamed Bd.named
  have hnm := (name_of_methodNamed Bd.named Bd.method).1
  have X0 : Stand p l e ({ frames := 0, cells := 0, slots := 0, locals := 0 } : Room) s m #[(.int x1), (.int x2)] below meth c s₁ [] 0 0 := Stand.of_body Bd
  have e0 : s₁.heap = h0 := by rw [← hh, Bd.state]; rfl
  have N0 := Fr.nil n0
  rw [ef6 m x1 x2]
  show own_Go p e below (own_End s (Q6 Z x1 x2 h0 n0) ({ frames := 0, cells := 0, slots := 0, locals := 0 } : Room).cells ({ frames := 0, cells := 0, slots := 0, locals := 0 } : Room).slots) s₁ (mkF m 0 #[.val (.int x1), .val (.int x2)] [])
  refine own_iloadN X0 hx (hb hby d6_0) (pc' := 1) rfl rfl ?_
  refine own_iloadN X0 hx (hb hby d6_1) (pc' := 2) rfl rfl ?_
  by_cases c_1 : x2 < x1
  · skip
    refine own_icmpY X0 hx (hb hby d6_2) (XT.ii_gt_t c_1) (pc' := 9) (by decide) (by decide) ?_
    refine own_iloadN X0 hx (hb hby d6_9) (pc' := 10) rfl rfl ?_
    refine own_retI X0 hx hlk Bd.returns (hb hby d6_10) (by decide) (by decide) ?_
    rw [e0]
    exact ⟨by simp [own_min, c_1], N0, rfl⟩
  · skip
    refine own_icmpN X0 hx (hb hby d6_2) (XT.ii_gt_f c_1) (pc' := 5) rfl ?_
    refine own_iloadN X0 hx (hb hby d6_5) (pc' := 6) rfl rfl ?_
    refine own_goto X0 hx (hb hby d6_6) (pc' := 10) (by decide) (by decide) ?_
    refine own_retI X0 hx hlk Bd.returns (hb hby d6_10) (by decide) (by decide) ?_
    rw [e0]
    exact ⟨by simp [own_min, c_1], N0, rfl⟩
theorem d7_0 : decode jdk_43_method_23_code 0 = .ok (.iload_n 1, 1) := by decide +kernel
theorem d7_1 : decode jdk_43_method_23_code 1 = .ok (.i2b, 1) := by decide +kernel
theorem d7_2 : decode jdk_43_method_23_code 2 = .ok (.istore 4, 2) := by decide +kernel
theorem d7_4 : decode jdk_43_method_23_code 4 = .ok (.iload_n 2, 1) := by decide +kernel
theorem d7_5 : decode jdk_43_method_23_code 5 = .ok (.istore 5, 2) := by decide +kernel
theorem d7_7 : decode jdk_43_method_23_code 7 = .ok (.iload 5, 2) := by decide +kernel
theorem d7_9 : decode jdk_43_method_23_code 9 = .ok (.iload_n 3, 1) := by decide +kernel
theorem d7_10 : decode jdk_43_method_23_code 10 = .ok (.if_icmp .ge 21, 3) := by decide +kernel
theorem d7_13 : decode jdk_43_method_23_code 13 = .ok (.aload_n 0, 1) := by decide +kernel
theorem d7_14 : decode jdk_43_method_23_code 14 = .ok (.iload 5, 2) := by decide +kernel
theorem d7_16 : decode jdk_43_method_23_code 16 = .ok (.baload, 1) := by decide +kernel
theorem d7_17 : decode jdk_43_method_23_code 17 = .ok (.iload 4, 2) := by decide +kernel
theorem d7_19 : decode jdk_43_method_23_code 19 = .ok (.if_icmp .ne 6, 3) := by decide +kernel
theorem d7_22 : decode jdk_43_method_23_code 22 = .ok (.iload 5, 2) := by decide +kernel
theorem d7_24 : decode jdk_43_method_23_code 24 = .ok (.ireturn, 1) := by decide +kernel
theorem d7_25 : decode jdk_43_method_23_code 25 = .ok (.iinc 5 1, 3) := by decide +kernel
theorem d7_28 : decode jdk_43_method_23_code 28 = .ok (.goto (-21), 3) := by decide +kernel
theorem d7_31 : decode jdk_43_method_23_code 31 = .ok (.iconst (-1), 1) := by decide +kernel
theorem d7_32 : decode jdk_43_method_23_code 32 = .ok (.ireturn, 1) := by decide +kernel
theorem pn7 : plainFor (⟨"java/lang/StringLatin1", "indexOfChar", "([BIII)I"⟩ : MethodName) = true := by first | exact plainFor_of_name (by first | (simp [plainName, overriddenIn]; done) | decide +kernel) | decide +kernel
theorem ef7 (m : MethodId) (b1 : Addr) (ch : Int32) (N : Nat) : entryFrame m #[(.ref b1), (.int ch), (.int (0 : Int32)), (.int (Int32.ofNat N))] 6 = mkF m 0 #[.val (.ref b1), .val (.int ch), .val (.int (0 : Int32)), .val (.int (Int32.ofNat N)), .unset, .unset] [] := by first | (simp [entryFrame, mkF, argsToLocals, Value.category]; done) | rfl
def Q7 (Z : State) (b1 : Addr) (ch : Int32) (N : Nat) (kb : ClassId) (bs : List Int32) (h0 : Heap) (n0 : Nat) (v : Option Value) (h : Heap) (L : List Loc) : Prop := (∃ r : Int32, v = some (.int r) ∧ (r < 0 ↔ ¬ ∃ j, j < N ∧ own_at bs j = nar .byte ch)) ∧ Fr n0 L ∧ h = h0
set_option maxRecDepth 65536 in
set_option maxHeartbeats 40000000 in
theorem rm7 (l : Launch) (Z : State) (a0 : Array Value) (hw : ∀ d ∈ tables_1, d.before a0 Z = true) (ws : List Jvm.Cond) (b1 : Addr) (ch : Int32) (N : Nat) (kb : ClassId) (bs : List Int32) (h0 : Heap) (n0 : Nat) (Z0 : n0 ≤ h0.size) (V_b : Arv Z h0 b1 kb .byte (Int32.ofNat N) (bs.map Value.int) (.int (0 : Int32))) (hN0 : 0 < N) (hN : N ≤ 100) :
    MetFree l (⟨"java/lang/StringLatin1", "indexOfChar", "([BIII)I"⟩ : MethodName) (head1 (Jvm.Cond.code (⟨"java/lang/StringLatin1", "indexOfChar", "([BIII)I"⟩ : MethodName) jdk_43_method_23_code 6 (some .int) :: ws) ({ frames := 0, cells := 0, slots := 0, locals := 0 } : Room)) (fun a U => a = #[(.ref b1), (.int ch), (.int (0 : Int32)), (.int (Int32.ofNat N))] ∧ Z.Warmed39 U.vm ∧ U.heap = h0) (fun _ _ _ _ _ => True) (fun _ U o U' => ∃ v L, o = .returned v ∧ Q7 Z b1 ch N kb bs h0 n0 v U'.heap L ∧ FrameEnd U o U' L ({ frames := 0, cells := 0, slots := 0, locals := 0 } : Room).cells ({ frames := 0, cells := 0, slots := 0, locals := 0 } : Room).slots) := by
  refine MetFree.of_bodySF pn7 hisR ?_
  intro p e s m args below meth c s₁ Bd hml0 hP hK
  obtain ⟨rfl, hZ, hh⟩ := hP
  have hx := Bd.exec
  have hby := Bd.bytes
  have hlk : meth.locks = false := BodyLoose.notSynchronized Bd
  have hml : c.maxLocals = 6 := hml0
  have hown : s.vm.findClass "java/lang/StringLatin1" = some m.cls := findClass_of_methodNamed Bd.named
  have hnm := (name_of_methodNamed Bd.named Bd.method).1
  have X0 : Stand p l e ({ frames := 0, cells := 0, slots := 0, locals := 0 } : Room) s m #[(.ref b1), (.int ch), (.int (0 : Int32)), (.int (Int32.ofNat N))] below meth c s₁ [] 0 0 := Stand.of_body Bd
  have e0 : s₁.heap = h0 := by rw [← hh, Bd.state]; rfl
  have N0 := Fr.nil n0
  rw [ef7 m b1 ch N]
  show own_Go p e below (own_End s (Q7 Z b1 ch N kb bs h0 n0) ({ frames := 0, cells := 0, slots := 0, locals := 0 } : Room).cells ({ frames := 0, cells := 0, slots := 0, locals := 0 } : Room).slots) s₁ (mkF m 0 #[.val (.ref b1), .val (.int ch), .val (.int (0 : Int32)), .val (.int (Int32.ofNat N)), .unset, .unset] [])
  refine own_iloadN X0 hx (hb hby d7_0) (pc' := 1) rfl rfl ?_
  refine own_i2b X0 hx (hb hby d7_1) (pc' := 2) rfl ?_
  refine own_istore X0 hx (hb hby d7_2) (pc' := 4) (Ls' := #[.val (.ref b1), .val (.int ch), .val (.int (0 : Int32)), .val (.int (Int32.ofNat N)), .val (.int (nar .byte ch)), .unset]) rfl rfl ?_
  refine own_iloadN X0 hx (hb hby d7_4) (pc' := 5) rfl rfl ?_
  refine own_istore X0 hx (hb hby d7_5) (pc' := 7) (Ls' := #[.val (.ref b1), .val (.int ch), .val (.int (0 : Int32)), .val (.int (Int32.ofNat N)), .val (.int (nar .byte ch)), .val (.int (0 : Int32))]) rfl rfl ?_
  have loop : ∀ (k i : Nat), i + k = N + 1 → i ≤ N → (∀ j, j < i → ¬ own_at bs j = nar .byte ch) → own_Go p e below (own_End s (Q7 Z b1 ch N kb bs h0 n0) ({ frames := 0, cells := 0, slots := 0, locals := 0 } : Room).cells ({ frames := 0, cells := 0, slots := 0, locals := 0 } : Room).slots) s₁ (mkF m 7 #[.val (.ref b1), .val (.int ch), .val (.int (0 : Int32)), .val (.int (Int32.ofNat N)), .val (.int (nar .byte ch)), .val (.int (Int32.ofNat i))] []) := by
    intro k
    induction k with
    | zero => intro i hk h7; omega
    | succ k ih =>
      intro i hk h7 hno
      refine own_iload X0 hx (hb hby d7_7) (pc' := 9) rfl rfl ?_
      refine own_iloadN X0 hx (hb hby d7_9) (pc' := 10) rfl rfl ?_
      by_cases c_1 : (Int32.ofNat i) < (Int32.ofNat N)
      · skip
        have nc_1 : i < N := (own_ltN (a := i) (b := N) (by omega) (by omega)).mp c_1
        refine own_icmpN X0 hx (hb hby d7_10) (XT.ii_ge_f c_1) (pc' := 13) rfl ?_
        refine own_aloadN X0 hx (hb hby d7_13) (pc' := 14) rfl rfl rfl ?_
        refine own_iload X0 hx (hb hby d7_14) (pc' := 16) rfl rfl ?_
        refine own_baload X0 hx hZ e0 V_b (own_inbN (by omega) (by omega) (by omega)) (own_vat (by omega)) (hb hby d7_16) (pc' := 17) rfl ?_
        refine own_iload X0 hx (hb hby d7_17) (pc' := 19) rfl rfl ?_
        by_cases c_2 : (own_at bs i) = (nar .byte ch)
        · skip
          refine own_icmpN X0 hx (hb hby d7_19) (XT.ii_ne_f c_2) (pc' := 22) rfl ?_
          refine own_iload X0 hx (hb hby d7_22) (pc' := 24) rfl rfl ?_
          refine own_retI X0 hx hlk Bd.returns (hb hby d7_24) (by decide) (by decide) ?_
          rw [e0]
          exact ⟨⟨_, rfl, iff_of_false (own_nn (by omega)) (fun q => q ⟨i, by omega, c_2⟩)⟩, N0, rfl⟩
        · skip
          refine own_icmpY X0 hx (hb hby d7_19) (XT.ii_ne_t c_2) (pc' := 25) (by decide) (by decide) ?_
          refine own_iinc X0 hx ((Int32.ofNat i) + (1 : Int32)) (hb hby d7_25) (pc' := 28) (Ls' := #[.val (.ref b1), .val (.int ch), .val (.int (0 : Int32)), .val (.int (Int32.ofNat N)), .val (.int (nar .byte ch)), .val (.int ((Int32.ofNat i) + (1 : Int32)))]) rfl rfl rfl rfl ?_
          refine own_goto X0 hx (hb hby d7_28) (pc' := 7) (by decide) (by decide) ?_
          rw [show Int32.ofNat i + 1 = Int32.ofNat (i + 1) from (inc_ofNat i).symm]
          exact ih (i + 1) (by omega) (by omega) (fun q hq => (Nat.lt_succ_iff_lt_or_eq.mp hq).elim (hno q) (fun e => e ▸ c_2))
      · skip
        have nc_1 : ¬ i < N := fun q => c_1 ((own_ltN (a := i) (b := N) (by omega) (by omega)).mpr q)
        refine own_icmpY X0 hx (hb hby d7_10) (XT.ii_ge_t c_1) (pc' := 31) (by decide) (by decide) ?_
        refine own_iconst X0 hx (-1) (hb hby d7_31) (pc' := 32) rfl rfl ?_
        refine own_retI X0 hx hlk Bd.returns (hb hby d7_32) (by decide) (by decide) ?_
        rw [e0]
        exact ⟨⟨_, rfl, iff_of_true (by decide) (fun ⟨q, hq, hh⟩ => hno q (by omega) hh)⟩, N0, rfl⟩
  exact loop (N + 1) 0 (by omega) (by omega) (fun q hq => absurd hq (Nat.not_lt_zero _))
theorem d8_0 : decode jdk_43_method_22_code 0 = .ok (.iload_n 1, 1) := by decide +kernel
theorem d8_1 : decode jdk_43_method_22_code 1 = .ok (.invokestatic 88, 3) := by decide +kernel
theorem d8_4 : decode jdk_43_method_22_code 4 = .ok (.ifCond .ne 5, 3) := by decide +kernel
theorem d8_9 : decode jdk_43_method_22_code 9 = .ok (.iload_n 2, 1) := by decide +kernel
theorem d8_10 : decode jdk_43_method_22_code 10 = .ok (.iconst 0, 1) := by decide +kernel
theorem d8_11 : decode jdk_43_method_22_code 11 = .ok (.invokestatic 92, 3) := by decide +kernel
theorem d8_14 : decode jdk_43_method_22_code 14 = .ok (.istore_n 2, 1) := by decide +kernel
theorem d8_15 : decode jdk_43_method_22_code 15 = .ok (.iload_n 3, 1) := by decide +kernel
theorem d8_16 : decode jdk_43_method_22_code 16 = .ok (.aload_n 0, 1) := by decide +kernel
theorem d8_17 : decode jdk_43_method_22_code 17 = .ok (.arraylength, 1) := by decide +kernel
theorem d8_18 : decode jdk_43_method_22_code 18 = .ok (.invokestatic 38, 3) := by decide +kernel
theorem d8_21 : decode jdk_43_method_22_code 21 = .ok (.istore_n 3, 1) := by decide +kernel
theorem d8_22 : decode jdk_43_method_22_code 22 = .ok (.iload_n 2, 1) := by decide +kernel
theorem d8_23 : decode jdk_43_method_22_code 23 = .ok (.iload_n 3, 1) := by decide +kernel
theorem d8_24 : decode jdk_43_method_22_code 24 = .ok (.if_icmp .lt 5, 3) := by decide +kernel
theorem d8_29 : decode jdk_43_method_22_code 29 = .ok (.aload_n 0, 1) := by decide +kernel
theorem d8_30 : decode jdk_43_method_22_code 30 = .ok (.iload_n 1, 1) := by decide +kernel
theorem d8_31 : decode jdk_43_method_22_code 31 = .ok (.iload_n 2, 1) := by decide +kernel
theorem d8_32 : decode jdk_43_method_22_code 32 = .ok (.iload_n 3, 1) := by decide +kernel
theorem d8_33 : decode jdk_43_method_22_code 33 = .ok (.invokestatic 95, 3) := by decide +kernel
theorem d8_36 : decode jdk_43_method_22_code 36 = .ok (.ireturn, 1) := by decide +kernel
theorem d8_7 : decode jdk_43_method_22_code 7 = .ok (.iconst (-1), 1) := by decide +kernel
theorem d8_8 : decode jdk_43_method_22_code 8 = .ok (.ireturn, 1) := by decide +kernel
theorem pd8_0 : parseMethodDescriptor "(I)Z" = some ⟨[.int], some .boolean⟩ := by decide +kernel
theorem pd8_1 : parseMethodDescriptor "(II)I" = some ⟨[.int, .int], some .int⟩ := by decide +kernel
theorem pd8_2 : parseMethodDescriptor "([BIII)I" = some ⟨[(.array .byte), .int, .int, .int], some .int⟩ := by decide +kernel
theorem pn8 : plainFor (⟨"java/lang/StringLatin1", "indexOf", "([BIII)I"⟩ : MethodName) = true := by first | exact plainFor_of_name (by first | (simp [plainName, overriddenIn]; done) | decide +kernel) | decide +kernel
theorem ef8 (m : MethodId) (b1 : Addr) (ch : Int32) (N : Nat) : entryFrame m #[(.ref b1), (.int ch), (.int (0 : Int32)), (.int (Int32.ofNat N))] 4 = mkF m 0 #[.val (.ref b1), .val (.int ch), .val (.int (0 : Int32)), .val (.int (Int32.ofNat N))] [] := by first | (simp [entryFrame, mkF, argsToLocals, Value.category]; done) | rfl
def Q8 (Z : State) (b1 : Addr) (ch : Int32) (N : Nat) (kb : ClassId) (bs : List Int32) (h0 : Heap) (n0 : Nat) (v : Option Value) (h : Heap) (L : List Loc) : Prop := (∃ r : Int32, v = some (.int r) ∧ (r < 0 ↔ ¬ own_in bs N ch)) ∧ Fr n0 L ∧ h = h0
set_option maxRecDepth 65536 in
set_option maxHeartbeats 40000000 in
theorem rm8 (l : Launch) (Z : State) (a0 : Array Value) (hw : ∀ d ∈ tables_1, d.before a0 Z = true) (ws : List Jvm.Cond) (b1 : Addr) (ch : Int32) (N : Nat) (kb : ClassId) (bs : List Int32) (h0 : Heap) (n0 : Nat) (Z0 : n0 ≤ h0.size) (V_b : Arv Z h0 b1 kb .byte (Int32.ofNat N) (bs.map Value.int) (.int (0 : Int32))) (hN0 : 0 < N) (hN : N ≤ 100) :
    MetFree l (⟨"java/lang/StringLatin1", "indexOf", "([BIII)I"⟩ : MethodName) (head1 (Jvm.Cond.code (⟨"java/lang/StringLatin1", "indexOf", "([BIII)I"⟩ : MethodName) jdk_43_method_22_code 4 (some .int) :: ws) ({ frames := 1, cells := 0, slots := 0, locals := 17 } : Room)) (fun a U => a = #[(.ref b1), (.int ch), (.int (0 : Int32)), (.int (Int32.ofNat N))] ∧ Z.Warmed39 U.vm ∧ U.heap = h0) (fun _ _ _ _ _ => True) (fun _ U o U' => ∃ v L, o = .returned v ∧ Q8 Z b1 ch N kb bs h0 n0 v U'.heap L ∧ FrameEnd U o U' L ({ frames := 1, cells := 0, slots := 0, locals := 17 } : Room).cells ({ frames := 1, cells := 0, slots := 0, locals := 17 } : Room).slots) := by
  refine MetFree.of_bodySF pn8 hisR ?_
  intro p e s m args below meth c s₁ Bd hml0 hP hK
  obtain ⟨rfl, hZ, hh⟩ := hP
  have hx := Bd.exec
  have hby := Bd.bytes
  have hlk : meth.locks = false := BodyLoose.notSynchronized Bd
  have hml : c.maxLocals = 4 := hml0
  have hown : s.vm.findClass "java/lang/StringLatin1" = some m.cls := findClass_of_methodNamed Bd.named
  have hnm := (name_of_methodNamed Bd.named Bd.method).1
  have X0 : Stand p l e ({ frames := 1, cells := 0, slots := 0, locals := 17 } : Room) s m #[(.ref b1), (.int ch), (.int (0 : Int32)), (.int (Int32.ofNat N))] below meth c s₁ [] 0 0 := Stand.of_body Bd
  have e0 : s₁.heap = h0 := by rw [← hh, Bd.state]; rfl
  have N0 := Fr.nil n0
  rw [ef8 m b1 ch N]
  show own_Go p e below (own_End s (Q8 Z b1 ch N kb bs h0 n0) ({ frames := 1, cells := 0, slots := 0, locals := 17 } : Room).cells ({ frames := 1, cells := 0, slots := 0, locals := 17 } : Room).slots) s₁ (mkF m 0 #[.val (.ref b1), .val (.int ch), .val (.int (0 : Int32)), .val (.int (Int32.ofNat N))] [])
  refine own_iloadN X0 hx (hb hby d8_0) (pc' := 1) rfl rfl ?_
  obtain ⟨_, _, ⟨T_1, L_1, k_1, n_1⟩, -, X_1, ⟨Lc_1, hQ_1, l_1, y_1, z_1⟩, st_1⟩ := Jvm.LawKit.callS X0 hx (y := (⟨"java/lang/StringLatin1", "canEncode", "(I)Z"⟩ : MethodName)) hown (mvT hZ (hw _ (List.mem_of_getElem? (i := 54) rfl))) (mvT hZ (hw _ (List.mem_of_getElem? (i := 55) rfl))) (mvT hZ (hw _ (List.mem_of_getElem? (i := 52) rfl))) (mvT hZ (hw _ (List.mem_of_getElem? (i := 56) rfl))) (by decide) (backOf (W := 0) (rm4 l Z a0 hw [] ch h0 n0 Z0) hZ (hw _ (List.mem_of_getElem? (i := 56) rfl)) (hw _ (List.mem_of_getElem? (i := 52) rfl)) (by decide) (by decide)) (g := (mkF m 1 #[.val (.ref b1), .val (.int ch), .val (.int (0 : Int32)), .val (.int (Int32.ofNat N))] [(.int ch)])) rfl (by rw [hml]; rfl) (argsL := [(.int ch)]) (rest := []) (lenOf pd8_0 rfl) rfl (by show 2 * 0 + _ ≤ _; exact Nat.le_of_eq rfl) (hb hby d8_1) (fun _ _ => ⟨rfl, e0, (by decide : 0 + 0 ≤ _), (by decide : 0 + 0 ≤ _)⟩)
  dsimp only [Pt.U, Pt.locs, Pt.cells, Pt.slots] at X_1 l_1 y_1 z_1 st_1 hQ_1
  subst l_1 y_1 z_1
  refine own_st st_1 ?_
  obtain ⟨rfl, Nq_1, eq_1⟩ := hQ_1
  have N_1 := Fr.app N0 Nq_1
  show own_Go p e below _ T_1 (mkF m 4 #[.val (.ref b1), .val (.int ch), .val (.int (0 : Int32)), .val (.int (Int32.ofNat N))] [(.int (own_b (¬ ch < (0 : Int32) ∧ ¬ (255 : Int32) < ch)))])
  by_cases c_2 : ¬ ch < (0 : Int32) ∧ ¬ (255 : Int32) < ch
  · skip
    refine own_ifY X_1 hx (hb hby d8_4) (own_b0_ne_t c_2) (pc' := 9) (by decide) (by decide) ?_
    refine own_iloadN X_1 hx (hb hby d8_9) (pc' := 10) rfl rfl ?_
    refine own_iconst X_1 hx (0) (hb hby d8_10) (pc' := 11) rfl rfl ?_
    obtain ⟨_, _, ⟨T_3, L_3, k_3, n_3⟩, -, X_3, ⟨Lc_3, hQ_3, l_3, y_3, z_3⟩, st_3⟩ := Jvm.LawKit.callS X_1 hx (y := (⟨"java/lang/Math", "max", "(II)I"⟩ : MethodName)) hown (mvT hZ (hw _ (List.mem_of_getElem? (i := 57) rfl))) (mvT hZ (hw _ (List.mem_of_getElem? (i := 58) rfl))) (mvT hZ (hw _ (List.mem_of_getElem? (i := 59) rfl))) (mvT hZ (hw _ (List.mem_of_getElem? (i := 60) rfl))) (by decide) (backOf (W := 0) (rm5 l Z a0 hw [] (0 : Int32) (0 : Int32) h0 n0 Z0) hZ (hw _ (List.mem_of_getElem? (i := 60) rfl)) (hw _ (List.mem_of_getElem? (i := 59) rfl)) (by decide) (by decide)) (g := (mkF m 11 #[.val (.ref b1), .val (.int ch), .val (.int (0 : Int32)), .val (.int (Int32.ofNat N))] [(.int (0 : Int32)), (.int (0 : Int32))])) rfl (by rw [hml]; rfl) (argsL := [(.int (0 : Int32)), (.int (0 : Int32))]) (rest := []) (lenOf pd8_1 rfl) rfl (by show 2 * 0 + _ ≤ _; exact Nat.le_of_eq rfl) (hb hby d8_11) (fun _ _ => ⟨rfl, eq_1, (by decide : 0 + 0 ≤ _), (by decide : 0 + 0 ≤ _)⟩)
    dsimp only [Pt.U, Pt.locs, Pt.cells, Pt.slots] at X_3 l_3 y_3 z_3 st_3 hQ_3
    subst l_3 y_3 z_3
    refine own_st st_3 ?_
    obtain ⟨rfl, Nq_3, eq_3⟩ := hQ_3
    have N_3 := Fr.app N_1 Nq_3
    dsimp only [Option.toList, List.cons_append, List.nil_append]
    rw [show own_max (0 : Int32) (0 : Int32) = (0 : Int32) from by decide]
    show own_Go p e below _ T_3 (mkF m 14 #[.val (.ref b1), .val (.int ch), .val (.int (0 : Int32)), .val (.int (Int32.ofNat N))] [(.int (0 : Int32))])
    refine own_istoreN X_3 hx (hb hby d8_14) (pc' := 15) (Ls' := #[.val (.ref b1), .val (.int ch), .val (.int (0 : Int32)), .val (.int (Int32.ofNat N))]) rfl rfl ?_
    refine own_iloadN X_3 hx (hb hby d8_15) (pc' := 16) rfl rfl ?_
    refine own_aloadN X_3 hx (hb hby d8_16) (pc' := 17) rfl rfl rfl ?_
    refine own_alen X_3 hx hZ eq_3 V_b (hb hby d8_17) (pc' := 18) rfl ?_
    obtain ⟨_, _, ⟨T_4, L_4, k_4, n_4⟩, -, X_4, ⟨Lc_4, hQ_4, l_4, y_4, z_4⟩, st_4⟩ := Jvm.LawKit.callS X_3 hx (y := (⟨"java/lang/Math", "min", "(II)I"⟩ : MethodName)) hown (mvT hZ (hw _ (List.mem_of_getElem? (i := 61) rfl))) (mvT hZ (hw _ (List.mem_of_getElem? (i := 62) rfl))) (mvT hZ (hw _ (List.mem_of_getElem? (i := 59) rfl))) (mvT hZ (hw _ (List.mem_of_getElem? (i := 63) rfl))) (by decide) (backOf (W := 0) (rm6 l Z a0 hw [] (Int32.ofNat N) (Int32.ofNat N) h0 n0 Z0) hZ (hw _ (List.mem_of_getElem? (i := 63) rfl)) (hw _ (List.mem_of_getElem? (i := 59) rfl)) (by decide) (by decide)) (g := (mkF m 18 #[.val (.ref b1), .val (.int ch), .val (.int (0 : Int32)), .val (.int (Int32.ofNat N))] [(.int (Int32.ofNat N)), (.int (Int32.ofNat N))])) rfl (by rw [hml]; rfl) (argsL := [(.int (Int32.ofNat N)), (.int (Int32.ofNat N))]) (rest := []) (lenOf pd8_1 rfl) rfl (by show 2 * 0 + _ ≤ _; exact Nat.le_of_eq rfl) (hb hby d8_18) (fun _ _ => ⟨rfl, eq_3, (by decide : 0 + 0 ≤ _), (by decide : 0 + 0 ≤ _)⟩)
    dsimp only [Pt.U, Pt.locs, Pt.cells, Pt.slots] at X_4 l_4 y_4 z_4 st_4 hQ_4
    subst l_4 y_4 z_4
    refine own_st st_4 ?_
    obtain ⟨rfl, Nq_4, eq_4⟩ := hQ_4
    have N_4 := Fr.app N_3 Nq_4
    dsimp only [Option.toList, List.cons_append, List.nil_append]
    rw [own_minself]
    show own_Go p e below _ T_4 (mkF m 21 #[.val (.ref b1), .val (.int ch), .val (.int (0 : Int32)), .val (.int (Int32.ofNat N))] [(.int (Int32.ofNat N))])
    refine own_istoreN X_4 hx (hb hby d8_21) (pc' := 22) (Ls' := #[.val (.ref b1), .val (.int ch), .val (.int (0 : Int32)), .val (.int (Int32.ofNat N))]) rfl rfl ?_
    refine own_iloadN X_4 hx (hb hby d8_22) (pc' := 23) rfl rfl ?_
    refine own_iloadN X_4 hx (hb hby d8_23) (pc' := 24) rfl rfl ?_
    refine own_icmpY X_4 hx (hb hby d8_24) (XT.ii_lt_t (own_pos hN0 hN)) (pc' := 29) (by decide) (by decide) ?_
    refine own_aloadN X_4 hx (hb hby d8_29) (pc' := 30) rfl rfl rfl ?_
    refine own_iloadN X_4 hx (hb hby d8_30) (pc' := 31) rfl rfl ?_
    refine own_iloadN X_4 hx (hb hby d8_31) (pc' := 32) rfl rfl ?_
    refine own_iloadN X_4 hx (hb hby d8_32) (pc' := 33) rfl rfl ?_
    obtain ⟨_, _, ⟨T_5, L_5, k_5, n_5⟩, -, X_5, ⟨Lc_5, hQ_5, l_5, y_5, z_5⟩, st_5⟩ := Jvm.LawKit.callS X_4 hx (y := (⟨"java/lang/StringLatin1", "indexOfChar", "([BIII)I"⟩ : MethodName)) hown (mvT hZ (hw _ (List.mem_of_getElem? (i := 64) rfl))) (mvT hZ (hw _ (List.mem_of_getElem? (i := 65) rfl))) (mvT hZ (hw _ (List.mem_of_getElem? (i := 52) rfl))) (mvT hZ (hw _ (List.mem_of_getElem? (i := 66) rfl))) (by decide) (backOf (W := 0) (rm7 l Z a0 hw [] b1 ch N kb bs h0 n0 Z0 V_b hN0 hN) hZ (hw _ (List.mem_of_getElem? (i := 66) rfl)) (hw _ (List.mem_of_getElem? (i := 52) rfl)) (by decide) (by decide)) (g := (mkF m 33 #[.val (.ref b1), .val (.int ch), .val (.int (0 : Int32)), .val (.int (Int32.ofNat N))] [(.int (Int32.ofNat N)), (.int (0 : Int32)), (.int ch), (.ref b1)])) rfl (by rw [hml]; rfl) (argsL := [(.ref b1), (.int ch), (.int (0 : Int32)), (.int (Int32.ofNat N))]) (rest := []) (lenOf pd8_2 rfl) rfl (by show 2 * 0 + _ ≤ _; exact Nat.le_of_eq rfl) (hb hby d8_33) (fun _ _ => ⟨rfl, eq_4, (by decide : 0 + 0 ≤ _), (by decide : 0 + 0 ≤ _)⟩)
    dsimp only [Pt.U, Pt.locs, Pt.cells, Pt.slots] at X_5 l_5 y_5 z_5 st_5 hQ_5
    subst l_5 y_5 z_5
    refine own_st st_5 ?_
    obtain ⟨⟨r_5, rfl, hr_5⟩, Nq_5, eq_5⟩ := hQ_5
    have N_5 := Fr.app N_4 Nq_5
    show own_Go p e below _ T_5 (mkF m 36 #[.val (.ref b1), .val (.int ch), .val (.int (0 : Int32)), .val (.int (Int32.ofNat N))] [(.int r_5)])
    refine own_retI X_5 hx hlk Bd.returns (hb hby d8_36) (by decide) (by decide) ?_
    rw [eq_5]
    exact ⟨⟨_, rfl, hr_5.trans (not_congr (own_inE c_2).symm)⟩, N_5, rfl⟩
  · skip
    refine own_ifN X_1 hx (hb hby d8_4) (own_b0_ne_f c_2) (pc' := 7) rfl ?_
    refine own_iconst X_1 hx (-1) (hb hby d8_7) (pc' := 8) rfl rfl ?_
    refine own_retI X_1 hx hlk Bd.returns (hb hby d8_8) (by decide) (by decide) ?_
    rw [eq_1]
    exact ⟨⟨_, rfl, iff_of_true (by decide) (fun q => c_2 (own_inI.mp q).1)⟩, N_1, rfl⟩
theorem d9_0 : decode jdk_42_method_154_code 0 = .ok (.getstatic 38, 3) := by decide +kernel
theorem d9_3 : decode jdk_42_method_154_code 3 = .ok (.ifCond .eq 14, 3) := by decide +kernel
theorem d9_6 : decode jdk_42_method_154_code 6 = .ok (.aload_n 0, 1) := by decide +kernel
theorem d9_7 : decode jdk_42_method_154_code 7 = .ok (.getfield 15, 3) := by decide +kernel
theorem d9_10 : decode jdk_42_method_154_code 10 = .ok (.ifCond .ne 7, 3) := by decide +kernel
theorem d9_13 : decode jdk_42_method_154_code 13 = .ok (.iconst 1, 1) := by decide +kernel
theorem d9_14 : decode jdk_42_method_154_code 14 = .ok (.goto 4, 3) := by decide +kernel
theorem d9_18 : decode jdk_42_method_154_code 18 = .ok (.ireturn, 1) := by decide +kernel
theorem pn9 : plainFor (⟨"java/lang/String", "isLatin1", "()Z"⟩ : MethodName) = true := by first | exact plainFor_of_name (by first | (simp [plainName, overriddenIn]; done) | decide +kernel) | decide +kernel
theorem ef9 (m : MethodId) (a1 : Addr) : entryFrame m #[(.ref a1)] 1 = mkF m 0 #[.val (.ref a1)] [] := by first | (simp [entryFrame, mkF, argsToLocals, Value.category]; done) | rfl
def Q9 (Z : State) (a1 : Addr) (cz : Int32) (h0 : Heap) (n0 : Nat) (v : Option Value) (h : Heap) (L : List Loc) : Prop := v = some (.int 1) ∧ Fr n0 L ∧ h = h0
set_option maxRecDepth 65536 in
set_option maxHeartbeats 40000000 in
theorem rm9 (l : Launch) (Z : State) (a0 : Array Value) (hw : ∀ d ∈ tables_1, d.before a0 Z = true) (ws : List Jvm.Cond) (a1 : Addr) (cz : Int32) (h0 : Heap) (n0 : Nat) (Z0 : n0 ≤ h0.size) (O_a : Old Z n0 h0) (F_c : Fld Z h0 a1 "java/lang/String" "coder" "B" (.int (0 : Int32))) (Sz : Sta Z Z.heap "java/lang/String" "COMPACT_STRINGS" "Z" (.int cz)) (Pz : ¬ cz = 0) :
    MetFree l (⟨"java/lang/String", "isLatin1", "()Z"⟩ : MethodName) (head1 (Jvm.Cond.code (⟨"java/lang/String", "isLatin1", "()Z"⟩ : MethodName) jdk_42_method_154_code 1 (some .boolean) :: ws) ({ frames := 0, cells := 0, slots := 0, locals := 0 } : Room)) (fun a U => a = #[(.ref a1)] ∧ Z.Warmed39 U.vm ∧ U.heap = h0) (fun _ _ _ _ _ => True) (fun _ U o U' => ∃ v L, o = .returned v ∧ Q9 Z a1 cz h0 n0 v U'.heap L ∧ FrameEnd U o U' L ({ frames := 0, cells := 0, slots := 0, locals := 0 } : Room).cells ({ frames := 0, cells := 0, slots := 0, locals := 0 } : Room).slots) := by
  refine MetFree.of_bodySF pn9 hisR ?_
  intro p e s m args below meth c s₁ Bd hml0 hP hK
  obtain ⟨rfl, hZ, hh⟩ := hP
  have hx := Bd.exec
  have hby := Bd.bytes
  have hlk : meth.locks = false := BodyLoose.notSynchronized Bd
  have hml : c.maxLocals = 1 := hml0
  have hown : s.vm.findClass "java/lang/String" = some m.cls := findClass_of_methodNamed Bd.named
  have hnm := (name_of_methodNamed Bd.named Bd.method).1
  have X0 : Stand p l e ({ frames := 0, cells := 0, slots := 0, locals := 0 } : Room) s m #[(.ref a1)] below meth c s₁ [] 0 0 := Stand.of_body Bd
  have e0 : s₁.heap = h0 := by rw [← hh, Bd.state]; rfl
  have N0 := Fr.nil n0
  rw [ef9 m a1]
  show own_Go p e below (own_End s (Q9 Z a1 cz h0 n0) ({ frames := 0, cells := 0, slots := 0, locals := 0 } : Room).cells ({ frames := 0, cells := 0, slots := 0, locals := 0 } : Room).slots) s₁ (mkF m 0 #[.val (.ref a1)] [])
  obtain ⟨T_1, X_1, e_1, st_1⟩ := getS2 X0 hx hZ hown (host := "") (Or.inl (hw _ (List.mem_of_getElem? (i := 37) rfl))) Via.refl e0 (Sz.ext O_a.2) (g := (mkF m 0 #[.val (.ref a1)] [])) rfl (hb hby d9_0)
  refine own_st st_1 ?_
  show own_Go p e below _ T_1 (mkF m 3 #[.val (.ref a1)] [(.int cz)])
  refine own_ifN X_1 hx (hb hby d9_3) (XT.i0_eq_f Pz) (pc' := 6) rfl ?_
  refine own_aloadN X_1 hx (hb hby d9_6) (pc' := 7) rfl rfl rfl ?_
  obtain ⟨T_2, X_2, e_2, st_2⟩ := getF X_1 hx hZ hown (host := "") (Or.inl (hw _ (List.mem_of_getElem? (i := 38) rfl))) Via.refl e_1 F_c (g := (mkF m 7 #[.val (.ref a1)] [(.ref a1)])) rfl rfl (hb hby d9_7)
  refine own_st st_2 ?_
  show own_Go p e below _ T_2 (mkF m 10 #[.val (.ref a1)] [(.int (0 : Int32))])
  refine own_ifN X_2 hx (hb hby d9_10) (by decide) (pc' := 13) rfl ?_
  refine own_iconst X_2 hx (1) (hb hby d9_13) (pc' := 14) rfl rfl ?_
  refine own_goto X_2 hx (hb hby d9_14) (pc' := 18) (by decide) (by decide) ?_
  refine own_retZ X_2 hx hlk Bd.returns (by simp) (hb hby d9_18) (by decide) (by decide) ?_
  rw [e_2]
  exact ⟨rfl, N0, rfl⟩
theorem d10_0 : decode jdk_42_method_152_code 0 = .ok (.getstatic 38, 3) := by decide +kernel
theorem d10_3 : decode jdk_42_method_152_code 3 = .ok (.ifCond .eq 10, 3) := by decide +kernel
theorem d10_6 : decode jdk_42_method_152_code 6 = .ok (.aload_n 0, 1) := by decide +kernel
theorem d10_7 : decode jdk_42_method_152_code 7 = .ok (.getfield 15, 3) := by decide +kernel
theorem d10_10 : decode jdk_42_method_152_code 10 = .ok (.goto 4, 3) := by decide +kernel
theorem d10_14 : decode jdk_42_method_152_code 14 = .ok (.ireturn, 1) := by decide +kernel
theorem pn10 : plainFor (⟨"java/lang/String", "coder", "()B"⟩ : MethodName) = true := by first | exact plainFor_of_name (by first | (simp [plainName, overriddenIn]; done) | decide +kernel) | decide +kernel
theorem ef10 (m : MethodId) (a1 : Addr) : entryFrame m #[(.ref a1)] 1 = mkF m 0 #[.val (.ref a1)] [] := by first | (simp [entryFrame, mkF, argsToLocals, Value.category]; done) | rfl
def Q10 (Z : State) (a1 : Addr) (cz : Int32) (h0 : Heap) (n0 : Nat) (v : Option Value) (h : Heap) (L : List Loc) : Prop := v = some (.int 0) ∧ Fr n0 L ∧ h = h0
set_option maxRecDepth 65536 in
set_option maxHeartbeats 40000000 in
theorem rm10 (l : Launch) (Z : State) (a0 : Array Value) (hw : ∀ d ∈ tables_1, d.before a0 Z = true) (ws : List Jvm.Cond) (a1 : Addr) (cz : Int32) (h0 : Heap) (n0 : Nat) (Z0 : n0 ≤ h0.size) (O_a : Old Z n0 h0) (F_c : Fld Z h0 a1 "java/lang/String" "coder" "B" (.int (0 : Int32))) (Sz : Sta Z Z.heap "java/lang/String" "COMPACT_STRINGS" "Z" (.int cz)) (Pz : ¬ cz = 0) :
    MetFree l (⟨"java/lang/String", "coder", "()B"⟩ : MethodName) (head1 (Jvm.Cond.code (⟨"java/lang/String", "coder", "()B"⟩ : MethodName) jdk_42_method_152_code 1 (some .byte) :: ws) ({ frames := 0, cells := 0, slots := 0, locals := 0 } : Room)) (fun a U => a = #[(.ref a1)] ∧ Z.Warmed39 U.vm ∧ U.heap = h0) (fun _ _ _ _ _ => True) (fun _ U o U' => ∃ v L, o = .returned v ∧ Q10 Z a1 cz h0 n0 v U'.heap L ∧ FrameEnd U o U' L ({ frames := 0, cells := 0, slots := 0, locals := 0 } : Room).cells ({ frames := 0, cells := 0, slots := 0, locals := 0 } : Room).slots) := by
  refine MetFree.of_bodySF pn10 hisR ?_
  intro p e s m args below meth c s₁ Bd hml0 hP hK
  obtain ⟨rfl, hZ, hh⟩ := hP
  have hx := Bd.exec
  have hby := Bd.bytes
  have hlk : meth.locks = false := BodyLoose.notSynchronized Bd
  have hml : c.maxLocals = 1 := hml0
  have hown : s.vm.findClass "java/lang/String" = some m.cls := findClass_of_methodNamed Bd.named
  have hnm := (name_of_methodNamed Bd.named Bd.method).1
  have X0 : Stand p l e ({ frames := 0, cells := 0, slots := 0, locals := 0 } : Room) s m #[(.ref a1)] below meth c s₁ [] 0 0 := Stand.of_body Bd
  have e0 : s₁.heap = h0 := by rw [← hh, Bd.state]; rfl
  have N0 := Fr.nil n0
  rw [ef10 m a1]
  show own_Go p e below (own_End s (Q10 Z a1 cz h0 n0) ({ frames := 0, cells := 0, slots := 0, locals := 0 } : Room).cells ({ frames := 0, cells := 0, slots := 0, locals := 0 } : Room).slots) s₁ (mkF m 0 #[.val (.ref a1)] [])
  obtain ⟨T_1, X_1, e_1, st_1⟩ := getS2 X0 hx hZ hown (host := "") (Or.inl (hw _ (List.mem_of_getElem? (i := 37) rfl))) Via.refl e0 (Sz.ext O_a.2) (g := (mkF m 0 #[.val (.ref a1)] [])) rfl (hb hby d10_0)
  refine own_st st_1 ?_
  show own_Go p e below _ T_1 (mkF m 3 #[.val (.ref a1)] [(.int cz)])
  refine own_ifN X_1 hx (hb hby d10_3) (XT.i0_eq_f Pz) (pc' := 6) rfl ?_
  refine own_aloadN X_1 hx (hb hby d10_6) (pc' := 7) rfl rfl rfl ?_
  obtain ⟨T_2, X_2, e_2, st_2⟩ := getF X_1 hx hZ hown (host := "") (Or.inl (hw _ (List.mem_of_getElem? (i := 38) rfl))) Via.refl e_1 F_c (g := (mkF m 7 #[.val (.ref a1)] [(.ref a1)])) rfl rfl (hb hby d10_7)
  refine own_st st_2 ?_
  show own_Go p e below _ T_2 (mkF m 10 #[.val (.ref a1)] [(.int (0 : Int32))])
  refine own_goto X_2 hx (hb hby d10_10) (pc' := 14) (by decide) (by decide) ?_
  refine own_retZ X_2 hx hlk Bd.returns (by simp) (hb hby d10_14) (by decide) (by decide) ?_
  rw [e_2]
  exact ⟨rfl, N0, rfl⟩
theorem d11_0 : decode jdk_42_method_54_code 0 = .ok (.aload_n 0, 1) := by decide +kernel
theorem d11_1 : decode jdk_42_method_54_code 1 = .ok (.getfield 9, 3) := by decide +kernel
theorem d11_4 : decode jdk_42_method_54_code 4 = .ok (.arraylength, 1) := by decide +kernel
theorem d11_5 : decode jdk_42_method_54_code 5 = .ok (.aload_n 0, 1) := by decide +kernel
theorem d11_6 : decode jdk_42_method_54_code 6 = .ok (.invokevirtual 335, 3) := by decide +kernel
theorem d11_9 : decode jdk_42_method_54_code 9 = .ok (.ishr, 1) := by decide +kernel
theorem d11_10 : decode jdk_42_method_54_code 10 = .ok (.ireturn, 1) := by decide +kernel
theorem pd11_0 : parseMethodDescriptor "()B" = some ⟨[], some .byte⟩ := by decide +kernel
theorem pn11 : plainFor (⟨"java/lang/String", "length", "()I"⟩ : MethodName) = true := by first | exact plainFor_of_name (by first | (simp [plainName, overriddenIn]; done) | decide +kernel) | decide +kernel
theorem ef11 (m : MethodId) (a1 : Addr) : entryFrame m #[(.ref a1)] 1 = mkF m 0 #[.val (.ref a1)] [] := by first | (simp [entryFrame, mkF, argsToLocals, Value.category]; done) | rfl
def Q11 (Z : State) (a1 : Addr) (cz : Int32) (b1 : Addr) (N : Nat) (kb : ClassId) (bs : List Int32) (h0 : Heap) (n0 : Nat) (v : Option Value) (h : Heap) (L : List Loc) : Prop := v = some (.int (Int32.ofNat N)) ∧ Fr n0 L ∧ h = h0
set_option maxRecDepth 65536 in
set_option maxHeartbeats 40000000 in
theorem rm11 (l : Launch) (Z : State) (a0 : Array Value) (hw : ∀ d ∈ tables_1, d.before a0 Z = true) (ws : List Jvm.Cond) (a1 : Addr) (cz : Int32) (b1 : Addr) (N : Nat) (kb : ClassId) (bs : List Int32) (h0 : Heap) (n0 : Nat) (Z0 : n0 ≤ h0.size) (O_a : Old Z n0 h0) (A_a : Exa Z h0 a1 "java/lang/String") (F_c : Fld Z h0 a1 "java/lang/String" "coder" "B" (.int (0 : Int32))) (F_v : Fld Z h0 a1 "java/lang/String" "value" "[B" (.ref b1)) (V_b : Arv Z h0 b1 kb .byte (Int32.ofNat N) (bs.map Value.int) (.int (0 : Int32))) (Sz : Sta Z Z.heap "java/lang/String" "COMPACT_STRINGS" "Z" (.int cz)) (Pz : ¬ cz = 0) :
    MetFree l (⟨"java/lang/String", "length", "()I"⟩ : MethodName) (head1 (Jvm.Cond.code (⟨"java/lang/String", "length", "()I"⟩ : MethodName) jdk_42_method_54_code 1 (some .int) :: ws) ({ frames := 1, cells := 0, slots := 0, locals := 13 } : Room)) (fun a U => a = #[(.ref a1)] ∧ Z.Warmed39 U.vm ∧ U.heap = h0) (fun _ _ _ _ _ => True) (fun _ U o U' => ∃ v L, o = .returned v ∧ Q11 Z a1 cz b1 N kb bs h0 n0 v U'.heap L ∧ FrameEnd U o U' L ({ frames := 1, cells := 0, slots := 0, locals := 13 } : Room).cells ({ frames := 1, cells := 0, slots := 0, locals := 13 } : Room).slots) := by
  refine MetFree.of_bodySF pn11 hisR ?_
  intro p e s m args below meth c s₁ Bd hml0 hP hK
  obtain ⟨rfl, hZ, hh⟩ := hP
  have hx := Bd.exec
  have hby := Bd.bytes
  have hlk : meth.locks = false := BodyLoose.notSynchronized Bd
  have hml : c.maxLocals = 1 := hml0
  have hown : s.vm.findClass "java/lang/String" = some m.cls := findClass_of_methodNamed Bd.named
  have hnm := (name_of_methodNamed Bd.named Bd.method).1
  have X0 : Stand p l e ({ frames := 1, cells := 0, slots := 0, locals := 13 } : Room) s m #[(.ref a1)] below meth c s₁ [] 0 0 := Stand.of_body Bd
  have e0 : s₁.heap = h0 := by rw [← hh, Bd.state]; rfl
  have N0 := Fr.nil n0
  rw [ef11 m a1]
  show own_Go p e below (own_End s (Q11 Z a1 cz b1 N kb bs h0 n0) ({ frames := 1, cells := 0, slots := 0, locals := 13 } : Room).cells ({ frames := 1, cells := 0, slots := 0, locals := 13 } : Room).slots) s₁ (mkF m 0 #[.val (.ref a1)] [])
  refine own_aloadN X0 hx (hb hby d11_0) (pc' := 1) rfl rfl rfl ?_
  obtain ⟨T_1, X_1, e_1, st_1⟩ := getF X0 hx hZ hown (host := "") (Or.inl (hw _ (List.mem_of_getElem? (i := 39) rfl))) Via.refl e0 F_v (g := (mkF m 1 #[.val (.ref a1)] [(.ref a1)])) rfl rfl (hb hby d11_1)
  refine own_st st_1 ?_
  show own_Go p e below _ T_1 (mkF m 4 #[.val (.ref a1)] [(.ref b1)])
  refine own_alen X_1 hx hZ e_1 V_b (hb hby d11_4) (pc' := 5) rfl ?_
  refine own_aloadN X_1 hx (hb hby d11_5) (pc' := 6) rfl rfl rfl ?_
  obtain ⟨cq_2, kq_2, qa_2, qb_2, qc_2⟩ := isOf hZ e_1 A_a
  obtain ⟨_, _, ⟨T_2, L_2, k_2, n_2⟩, -, X_2, ⟨Lc_2, hQ_2, l_2, y_2, z_2⟩, st_2⟩ := X_1.virtualBack hx  (y := (⟨"java/lang/String", "coder", "()B"⟩ : MethodName)) (z := (⟨"java/lang/String", "coder", "()B"⟩ : MethodName)) hown (mvT hZ (hw _ (List.mem_of_getElem? (i := 45) rfl))) (mvT hZ (hw _ (List.mem_of_getElem? (i := 46) rfl))) (notFace_of_selects (args := #[]) (mvT hZ (hw _ (List.mem_of_getElem? (i := 48) rfl)))) (mvT hZ (hw _ (List.mem_of_getElem? (i := 48) rfl))) (mvT hZ (hw _ (List.mem_of_getElem? (i := 47) rfl))) (by decide) (backOf (W := 1) (rm10 l Z a0 hw [] a1 cz h0 n0 Z0 O_a F_c Sz Pz) hZ (hw _ (List.mem_of_getElem? (i := 49) rfl)) (hw _ (List.mem_of_getElem? (i := 15) rfl)) (by decide) (by decide)) qa_2 qc_2 (g := (mkF m 6 #[.val (.ref a1)] [(.ref a1), (.int (Int32.ofNat N))])) rfl (by rw [hml]; rfl) (Steps.refl _) (argsL := []) (rest := [(.int (Int32.ofNat N))]) (lenOf pd11_0 rfl) rfl (by show 2 * 0 + _ ≤ _; exact Nat.le_of_eq rfl) (hb hby d11_6) (fun _ _ => ⟨rfl, e_1, (by decide : 0 + 0 ≤ _), (by decide : 0 + 0 ≤ _)⟩)
  dsimp only [Pt.U, Pt.locs, Pt.cells, Pt.slots] at X_2 l_2 y_2 z_2 st_2 hQ_2
  subst l_2 y_2 z_2
  refine own_tr st_2 ?_
  obtain ⟨rfl, Nq_2, eq_2⟩ := hQ_2
  have N_2 := Fr.app N0 Nq_2
  show own_Go p e below _ T_2 (mkF m 9 #[.val (.ref a1)] [(.int (0 : Int32)), (.int (Int32.ofNat N))])
  refine own_ishr X_2 hx (hb hby d11_9) (pc' := 10) rfl ?_
  rw [own_shr0]
  refine own_retI X_2 hx hlk Bd.returns (hb hby d11_10) (by decide) (by decide) ?_
  rw [eq_2]
  exact ⟨rfl, N_2, rfl⟩
theorem d12_0 : decode jdk_42_method_80_code 0 = .ok (.aload_n 0, 1) := by decide +kernel
theorem d12_1 : decode jdk_42_method_80_code 1 = .ok (.invokevirtual 492, 3) := by decide +kernel
theorem d12_4 : decode jdk_42_method_80_code 4 = .ok (.ifCond .eq 19, 3) := by decide +kernel
theorem d12_7 : decode jdk_42_method_80_code 7 = .ok (.aload_n 0, 1) := by decide +kernel
theorem d12_8 : decode jdk_42_method_80_code 8 = .ok (.getfield 9, 3) := by decide +kernel
theorem d12_11 : decode jdk_42_method_80_code 11 = .ok (.iload_n 1, 1) := by decide +kernel
theorem d12_12 : decode jdk_42_method_80_code 12 = .ok (.iload_n 2, 1) := by decide +kernel
theorem d12_13 : decode jdk_42_method_80_code 13 = .ok (.aload_n 0, 1) := by decide +kernel
theorem d12_14 : decode jdk_42_method_80_code 14 = .ok (.invokevirtual 505, 3) := by decide +kernel
theorem d12_17 : decode jdk_42_method_80_code 17 = .ok (.invokestatic 637, 3) := by decide +kernel
theorem d12_20 : decode jdk_42_method_80_code 20 = .ok (.goto 16, 3) := by decide +kernel
theorem d12_36 : decode jdk_42_method_80_code 36 = .ok (.ireturn, 1) := by decide +kernel
theorem pd12_0 : parseMethodDescriptor "()Z" = some ⟨[], some .boolean⟩ := by decide +kernel
theorem pd12_1 : parseMethodDescriptor "()I" = some ⟨[], some .int⟩ := by decide +kernel
theorem pd12_2 : parseMethodDescriptor "([BIII)I" = some ⟨[(.array .byte), .int, .int, .int], some .int⟩ := by decide +kernel
theorem pn12 : plainFor (⟨"java/lang/String", "indexOf", "(II)I"⟩ : MethodName) = true := by first | exact plainFor_of_name (by first | (simp [plainName, overriddenIn]; done) | decide +kernel) | decide +kernel
theorem ef12 (m : MethodId) (a1 : Addr) (ch : Int32) : entryFrame m #[(.ref a1), (.int ch), (.int (0 : Int32))] 3 = mkF m 0 #[.val (.ref a1), .val (.int ch), .val (.int (0 : Int32))] [] := by first | (simp [entryFrame, mkF, argsToLocals, Value.category]; done) | rfl
def Q12 (Z : State) (a1 : Addr) (ch : Int32) (cz : Int32) (b1 : Addr) (N : Nat) (kb : ClassId) (bs : List Int32) (h0 : Heap) (n0 : Nat) (v : Option Value) (h : Heap) (L : List Loc) : Prop := (∃ r : Int32, v = some (.int r) ∧ (r < 0 ↔ ¬ own_in bs N ch)) ∧ Fr n0 L ∧ h = h0
set_option maxRecDepth 65536 in
set_option maxHeartbeats 40000000 in
theorem rm12 (l : Launch) (Z : State) (a0 : Array Value) (hw : ∀ d ∈ tables_1, d.before a0 Z = true) (ws : List Jvm.Cond) (a1 : Addr) (ch : Int32) (cz : Int32) (b1 : Addr) (N : Nat) (kb : ClassId) (bs : List Int32) (h0 : Heap) (n0 : Nat) (Z0 : n0 ≤ h0.size) (O_a : Old Z n0 h0) (A_a : Exa Z h0 a1 "java/lang/String") (F_c : Fld Z h0 a1 "java/lang/String" "coder" "B" (.int (0 : Int32))) (F_v : Fld Z h0 a1 "java/lang/String" "value" "[B" (.ref b1)) (V_b : Arv Z h0 b1 kb .byte (Int32.ofNat N) (bs.map Value.int) (.int (0 : Int32))) (Sz : Sta Z Z.heap "java/lang/String" "COMPACT_STRINGS" "Z" (.int cz)) (Pz : ¬ cz = 0) (hN0 : 0 < N) (hN : N ≤ 100) :
    MetFree l (⟨"java/lang/String", "indexOf", "(II)I"⟩ : MethodName) (head1 (Jvm.Cond.code (⟨"java/lang/String", "indexOf", "(II)I"⟩ : MethodName) jdk_42_method_80_code 3 (some .int) :: ws) ({ frames := 2, cells := 0, slots := 0, locals := 32 } : Room)) (fun a U => a = #[(.ref a1), (.int ch), (.int (0 : Int32))] ∧ Z.Warmed39 U.vm ∧ U.heap = h0) (fun _ _ _ _ _ => True) (fun _ U o U' => ∃ v L, o = .returned v ∧ Q12 Z a1 ch cz b1 N kb bs h0 n0 v U'.heap L ∧ FrameEnd U o U' L ({ frames := 2, cells := 0, slots := 0, locals := 32 } : Room).cells ({ frames := 2, cells := 0, slots := 0, locals := 32 } : Room).slots) := by
  refine MetFree.of_bodySF pn12 hisR ?_
  intro p e s m args below meth c s₁ Bd hml0 hP hK
  obtain ⟨rfl, hZ, hh⟩ := hP
  have hx := Bd.exec
  have hby := Bd.bytes
  have hlk : meth.locks = false := BodyLoose.notSynchronized Bd
  have hml : c.maxLocals = 3 := hml0
  have hown : s.vm.findClass "java/lang/String" = some m.cls := findClass_of_methodNamed Bd.named
  have hnm := (name_of_methodNamed Bd.named Bd.method).1
  have X0 : Stand p l e ({ frames := 2, cells := 0, slots := 0, locals := 32 } : Room) s m #[(.ref a1), (.int ch), (.int (0 : Int32))] below meth c s₁ [] 0 0 := Stand.of_body Bd
  have e0 : s₁.heap = h0 := by rw [← hh, Bd.state]; rfl
  have N0 := Fr.nil n0
  rw [ef12 m a1 ch]
  show own_Go p e below (own_End s (Q12 Z a1 ch cz b1 N kb bs h0 n0) ({ frames := 2, cells := 0, slots := 0, locals := 32 } : Room).cells ({ frames := 2, cells := 0, slots := 0, locals := 32 } : Room).slots) s₁ (mkF m 0 #[.val (.ref a1), .val (.int ch), .val (.int (0 : Int32))] [])
  refine own_aloadN X0 hx (hb hby d12_0) (pc' := 1) rfl rfl rfl ?_
  obtain ⟨cq_1, kq_1, qa_1, qb_1, qc_1⟩ := isOf hZ e0 A_a
  obtain ⟨_, _, ⟨T_1, L_1, k_1, n_1⟩, -, X_1, ⟨Lc_1, hQ_1, l_1, y_1, z_1⟩, st_1⟩ := X0.virtualBack hx  (y := (⟨"java/lang/String", "isLatin1", "()Z"⟩ : MethodName)) (z := (⟨"java/lang/String", "isLatin1", "()Z"⟩ : MethodName)) hown (mvT hZ (hw _ (List.mem_of_getElem? (i := 32) rfl))) (mvT hZ (hw _ (List.mem_of_getElem? (i := 33) rfl))) (notFace_of_selects (args := #[]) (mvT hZ (hw _ (List.mem_of_getElem? (i := 35) rfl)))) (mvT hZ (hw _ (List.mem_of_getElem? (i := 35) rfl))) (mvT hZ (hw _ (List.mem_of_getElem? (i := 34) rfl))) (by decide) (backOf (W := 0) (rm9 l Z a0 hw [] a1 cz h0 n0 Z0 O_a F_c Sz Pz) hZ (hw _ (List.mem_of_getElem? (i := 36) rfl)) (hw _ (List.mem_of_getElem? (i := 15) rfl)) (by decide) (by decide)) qa_1 qc_1 (g := (mkF m 1 #[.val (.ref a1), .val (.int ch), .val (.int (0 : Int32))] [(.ref a1)])) rfl (by rw [hml]; rfl) (Steps.refl _) (argsL := []) (rest := []) (lenOf pd12_0 rfl) rfl (by show 2 * 0 + _ ≤ _; exact Nat.le_of_eq rfl) (hb hby d12_1) (fun _ _ => ⟨rfl, e0, (by decide : 0 + 0 ≤ _), (by decide : 0 + 0 ≤ _)⟩)
  dsimp only [Pt.U, Pt.locs, Pt.cells, Pt.slots] at X_1 l_1 y_1 z_1 st_1 hQ_1
  subst l_1 y_1 z_1
  refine own_tr st_1 ?_
  obtain ⟨rfl, Nq_1, eq_1⟩ := hQ_1
  have N_1 := Fr.app N0 Nq_1
  show own_Go p e below _ T_1 (mkF m 4 #[.val (.ref a1), .val (.int ch), .val (.int (0 : Int32))] [(.int (1 : Int32))])
  refine own_ifN X_1 hx (hb hby d12_4) (by decide) (pc' := 7) rfl ?_
  refine own_aloadN X_1 hx (hb hby d12_7) (pc' := 8) rfl rfl rfl ?_
  obtain ⟨T_2, X_2, e_2, st_2⟩ := getF X_1 hx hZ hown (host := "") (Or.inl (hw _ (List.mem_of_getElem? (i := 39) rfl))) Via.refl eq_1 F_v (g := (mkF m 8 #[.val (.ref a1), .val (.int ch), .val (.int (0 : Int32))] [(.ref a1)])) rfl rfl (hb hby d12_8)
  refine own_st st_2 ?_
  show own_Go p e below _ T_2 (mkF m 11 #[.val (.ref a1), .val (.int ch), .val (.int (0 : Int32))] [(.ref b1)])
  refine own_iloadN X_2 hx (hb hby d12_11) (pc' := 12) rfl rfl ?_
  refine own_iloadN X_2 hx (hb hby d12_12) (pc' := 13) rfl rfl ?_
  refine own_aloadN X_2 hx (hb hby d12_13) (pc' := 14) rfl rfl rfl ?_
  obtain ⟨cq_3, kq_3, qa_3, qb_3, qc_3⟩ := isOf hZ e_2 A_a
  obtain ⟨_, _, ⟨T_3, L_3, k_3, n_3⟩, -, X_3, ⟨Lc_3, hQ_3, l_3, y_3, z_3⟩, st_3⟩ := X_2.virtualBack hx  (y := (⟨"java/lang/String", "length", "()I"⟩ : MethodName)) (z := (⟨"java/lang/String", "length", "()I"⟩ : MethodName)) hown (mvT hZ (hw _ (List.mem_of_getElem? (i := 40) rfl))) (mvT hZ (hw _ (List.mem_of_getElem? (i := 41) rfl))) (notFace_of_selects (args := #[]) (mvT hZ (hw _ (List.mem_of_getElem? (i := 43) rfl)))) (mvT hZ (hw _ (List.mem_of_getElem? (i := 43) rfl))) (mvT hZ (hw _ (List.mem_of_getElem? (i := 42) rfl))) (by decide) (backOf (W := 3) (rm11 l Z a0 hw [] a1 cz b1 N kb bs h0 n0 Z0 O_a A_a F_c F_v V_b Sz Pz) hZ (hw _ (List.mem_of_getElem? (i := 44) rfl)) (hw _ (List.mem_of_getElem? (i := 15) rfl)) (by decide) (by decide)) qa_3 qc_3 (g := (mkF m 14 #[.val (.ref a1), .val (.int ch), .val (.int (0 : Int32))] [(.ref a1), (.int (0 : Int32)), (.int ch), (.ref b1)])) rfl (by rw [hml]; rfl) (Steps.refl _) (argsL := []) (rest := [(.int (0 : Int32)), (.int ch), (.ref b1)]) (lenOf pd12_1 rfl) rfl (by show 2 * 0 + _ ≤ _; exact Nat.le_of_eq rfl) (hb hby d12_14) (fun _ _ => ⟨rfl, e_2, (by decide : 0 + 0 ≤ _), (by decide : 0 + 0 ≤ _)⟩)
  dsimp only [Pt.U, Pt.locs, Pt.cells, Pt.slots] at X_3 l_3 y_3 z_3 st_3 hQ_3
  subst l_3 y_3 z_3
  refine own_tr st_3 ?_
  obtain ⟨rfl, Nq_3, eq_3⟩ := hQ_3
  have N_3 := Fr.app N_1 Nq_3
  show own_Go p e below _ T_3 (mkF m 17 #[.val (.ref a1), .val (.int ch), .val (.int (0 : Int32))] [(.int (Int32.ofNat N)), (.int (0 : Int32)), (.int ch), (.ref b1)])
  obtain ⟨_, _, ⟨T_4, L_4, k_4, n_4⟩, -, X_4, ⟨Lc_4, hQ_4, l_4, y_4, z_4⟩, st_4⟩ := Jvm.LawKit.callS X_3 hx (y := (⟨"java/lang/StringLatin1", "indexOf", "([BIII)I"⟩ : MethodName)) hown (mvT hZ (hw _ (List.mem_of_getElem? (i := 50) rfl))) (mvT hZ (hw _ (List.mem_of_getElem? (i := 51) rfl))) (mvT hZ (hw _ (List.mem_of_getElem? (i := 52) rfl))) (mvT hZ (hw _ (List.mem_of_getElem? (i := 53) rfl))) (by decide) (backOf (W := 0) (rm8 l Z a0 hw [] b1 ch N kb bs h0 n0 Z0 V_b hN0 hN) hZ (hw _ (List.mem_of_getElem? (i := 53) rfl)) (hw _ (List.mem_of_getElem? (i := 52) rfl)) (by decide) (by decide)) (g := (mkF m 17 #[.val (.ref a1), .val (.int ch), .val (.int (0 : Int32))] [(.int (Int32.ofNat N)), (.int (0 : Int32)), (.int ch), (.ref b1)])) rfl (by rw [hml]; rfl) (argsL := [(.ref b1), (.int ch), (.int (0 : Int32)), (.int (Int32.ofNat N))]) (rest := []) (lenOf pd12_2 rfl) rfl (by show 2 * 0 + _ ≤ _; exact Nat.le_of_eq rfl) (hb hby d12_17) (fun _ _ => ⟨rfl, eq_3, (by decide : 0 + 0 ≤ _), (by decide : 0 + 0 ≤ _)⟩)
  dsimp only [Pt.U, Pt.locs, Pt.cells, Pt.slots] at X_4 l_4 y_4 z_4 st_4 hQ_4
  subst l_4 y_4 z_4
  refine own_st st_4 ?_
  obtain ⟨⟨r_4, rfl, hr_4⟩, Nq_4, eq_4⟩ := hQ_4
  have N_4 := Fr.app N_3 Nq_4
  show own_Go p e below _ T_4 (mkF m 20 #[.val (.ref a1), .val (.int ch), .val (.int (0 : Int32))] [(.int r_4)])
  refine own_goto X_4 hx (hb hby d12_20) (pc' := 36) (by decide) (by decide) ?_
  refine own_retI X_4 hx hlk Bd.returns (hb hby d12_36) (by decide) (by decide) ?_
  rw [eq_4]
  exact ⟨⟨_, rfl, hr_4⟩, N_4, rfl⟩
theorem d13_0 : decode jdk_42_method_79_code 0 = .ok (.aload_n 0, 1) := by decide +kernel
theorem d13_1 : decode jdk_42_method_79_code 1 = .ok (.iload_n 1, 1) := by decide +kernel
theorem d13_2 : decode jdk_42_method_79_code 2 = .ok (.iconst 0, 1) := by decide +kernel
theorem d13_3 : decode jdk_42_method_79_code 3 = .ok (.invokevirtual 633, 3) := by decide +kernel
theorem d13_6 : decode jdk_42_method_79_code 6 = .ok (.ireturn, 1) := by decide +kernel
theorem pd13_0 : parseMethodDescriptor "(II)I" = some ⟨[.int, .int], some .int⟩ := by decide +kernel
theorem pn13 : plainFor (⟨"java/lang/String", "indexOf", "(I)I"⟩ : MethodName) = true := by first | exact plainFor_of_name (by first | (simp [plainName, overriddenIn]; done) | decide +kernel) | decide +kernel
theorem ef13 (m : MethodId) (a1 : Addr) (ch : Int32) : entryFrame m #[(.ref a1), (.int ch)] 2 = mkF m 0 #[.val (.ref a1), .val (.int ch)] [] := by first | (simp [entryFrame, mkF, argsToLocals, Value.category]; done) | rfl
def Q13 (Z : State) (a1 : Addr) (ch : Int32) (cz : Int32) (b1 : Addr) (N : Nat) (kb : ClassId) (bs : List Int32) (h0 : Heap) (n0 : Nat) (v : Option Value) (h : Heap) (L : List Loc) : Prop := (∃ r : Int32, v = some (.int r) ∧ (r < 0 ↔ ¬ own_in bs N ch)) ∧ Fr n0 L ∧ h = h0
set_option maxRecDepth 65536 in
set_option maxHeartbeats 40000000 in
theorem rm13 (l : Launch) (Z : State) (a0 : Array Value) (hw : ∀ d ∈ tables_1, d.before a0 Z = true) (ws : List Jvm.Cond) (a1 : Addr) (ch : Int32) (cz : Int32) (b1 : Addr) (N : Nat) (kb : ClassId) (bs : List Int32) (h0 : Heap) (n0 : Nat) (Z0 : n0 ≤ h0.size) (O_a : Old Z n0 h0) (A_a : Exa Z h0 a1 "java/lang/String") (F_c : Fld Z h0 a1 "java/lang/String" "coder" "B" (.int (0 : Int32))) (F_v : Fld Z h0 a1 "java/lang/String" "value" "[B" (.ref b1)) (V_b : Arv Z h0 b1 kb .byte (Int32.ofNat N) (bs.map Value.int) (.int (0 : Int32))) (Sz : Sta Z Z.heap "java/lang/String" "COMPACT_STRINGS" "Z" (.int cz)) (Pz : ¬ cz = 0) (hN0 : 0 < N) (hN : N ≤ 100) :
    MetFree l (⟨"java/lang/String", "indexOf", "(I)I"⟩ : MethodName) (head1 (Jvm.Cond.code (⟨"java/lang/String", "indexOf", "(I)I"⟩ : MethodName) jdk_42_method_79_code 2 (some .int) :: ws) ({ frames := 3, cells := 0, slots := 0, locals := 46 } : Room)) (fun a U => a = #[(.ref a1), (.int ch)] ∧ Z.Warmed39 U.vm ∧ U.heap = h0) (fun _ _ _ _ _ => True) (fun _ U o U' => ∃ v L, o = .returned v ∧ Q13 Z a1 ch cz b1 N kb bs h0 n0 v U'.heap L ∧ FrameEnd U o U' L ({ frames := 3, cells := 0, slots := 0, locals := 46 } : Room).cells ({ frames := 3, cells := 0, slots := 0, locals := 46 } : Room).slots) := by
  refine MetFree.of_bodySF pn13 hisR ?_
  intro p e s m args below meth c s₁ Bd hml0 hP hK
  obtain ⟨rfl, hZ, hh⟩ := hP
  have hx := Bd.exec
  have hby := Bd.bytes
  have hlk : meth.locks = false := BodyLoose.notSynchronized Bd
  have hml : c.maxLocals = 2 := hml0
  have hown : s.vm.findClass "java/lang/String" = some m.cls := findClass_of_methodNamed Bd.named
  have hnm := (name_of_methodNamed Bd.named Bd.method).1
  have X0 : Stand p l e ({ frames := 3, cells := 0, slots := 0, locals := 46 } : Room) s m #[(.ref a1), (.int ch)] below meth c s₁ [] 0 0 := Stand.of_body Bd
  have e0 : s₁.heap = h0 := by rw [← hh, Bd.state]; rfl
  have N0 := Fr.nil n0
  rw [ef13 m a1 ch]
  show own_Go p e below (own_End s (Q13 Z a1 ch cz b1 N kb bs h0 n0) ({ frames := 3, cells := 0, slots := 0, locals := 46 } : Room).cells ({ frames := 3, cells := 0, slots := 0, locals := 46 } : Room).slots) s₁ (mkF m 0 #[.val (.ref a1), .val (.int ch)] [])
  refine own_aloadN X0 hx (hb hby d13_0) (pc' := 1) rfl rfl rfl ?_
  refine own_iloadN X0 hx (hb hby d13_1) (pc' := 2) rfl rfl ?_
  refine own_iconst X0 hx (0) (hb hby d13_2) (pc' := 3) rfl rfl ?_
  obtain ⟨cq_1, kq_1, qa_1, qb_1, qc_1⟩ := isOf hZ e0 A_a
  obtain ⟨_, _, ⟨T_1, L_1, k_1, n_1⟩, -, X_1, ⟨Lc_1, hQ_1, l_1, y_1, z_1⟩, st_1⟩ := X0.virtualBack hx  (y := (⟨"java/lang/String", "indexOf", "(II)I"⟩ : MethodName)) (z := (⟨"java/lang/String", "indexOf", "(II)I"⟩ : MethodName)) hown (mvT hZ (hw _ (List.mem_of_getElem? (i := 27) rfl))) (mvT hZ (hw _ (List.mem_of_getElem? (i := 28) rfl))) (notFace_of_selects (args := #[]) (mvT hZ (hw _ (List.mem_of_getElem? (i := 30) rfl)))) (mvT hZ (hw _ (List.mem_of_getElem? (i := 30) rfl))) (mvT hZ (hw _ (List.mem_of_getElem? (i := 29) rfl))) (by decide) (backOf (W := 0) (rm12 l Z a0 hw [] a1 ch cz b1 N kb bs h0 n0 Z0 O_a A_a F_c F_v V_b Sz Pz hN0 hN) hZ (hw _ (List.mem_of_getElem? (i := 31) rfl)) (hw _ (List.mem_of_getElem? (i := 15) rfl)) (by decide) (by decide)) qa_1 qc_1 (g := (mkF m 3 #[.val (.ref a1), .val (.int ch)] [(.int (0 : Int32)), (.int ch), (.ref a1)])) rfl (by rw [hml]; rfl) (Steps.refl _) (argsL := [(.int ch), (.int (0 : Int32))]) (rest := []) (lenOf pd13_0 rfl) rfl (by show 2 * 0 + _ ≤ _; exact Nat.le_of_eq rfl) (hb hby d13_3) (fun _ _ => ⟨rfl, e0, (by decide : 0 + 0 ≤ _), (by decide : 0 + 0 ≤ _)⟩)
  dsimp only [Pt.U, Pt.locs, Pt.cells, Pt.slots] at X_1 l_1 y_1 z_1 st_1 hQ_1
  subst l_1 y_1 z_1
  refine own_tr st_1 ?_
  obtain ⟨⟨r_1, rfl, hr_1⟩, Nq_1, eq_1⟩ := hQ_1
  have N_1 := Fr.app N0 Nq_1
  show own_Go p e below _ T_1 (mkF m 6 #[.val (.ref a1), .val (.int ch)] [(.int r_1)])
  refine own_retI X_1 hx hlk Bd.returns (hb hby d13_6) (by decide) (by decide) ?_
  rw [eq_1]
  exact ⟨⟨_, rfl, hr_1⟩, N_1, rfl⟩
theorem d14_0 : decode prog_27_method_19_code 0 = .ok (.iload_n 0, 1) := by decide +kernel
theorem d14_1 : decode prog_27_method_19_code 1 = .ok (.invokestatic 153, 3) := by decide +kernel
theorem d14_4 : decode prog_27_method_19_code 4 = .ok (.ifCond .ne 19, 3) := by decide +kernel
theorem d14_23 : decode prog_27_method_19_code 23 = .ok (.iconst 1, 1) := by decide +kernel
theorem d14_24 : decode prog_27_method_19_code 24 = .ok (.goto 4, 3) := by decide +kernel
theorem d14_28 : decode prog_27_method_19_code 28 = .ok (.ireturn, 1) := by decide +kernel
theorem d14_7 : decode prog_27_method_19_code 7 = .ok (.iload_n 0, 1) := by decide +kernel
theorem d14_8 : decode prog_27_method_19_code 8 = .ok (.invokestatic 150, 3) := by decide +kernel
theorem d14_11 : decode prog_27_method_19_code 11 = .ok (.ifCond .ne 12, 3) := by decide +kernel
theorem d14_14 : decode prog_27_method_19_code 14 = .ok (.ldc 156, 2) := by decide +kernel
theorem d14_16 : decode prog_27_method_19_code 16 = .ok (.iload_n 0, 1) := by decide +kernel
theorem d14_17 : decode prog_27_method_19_code 17 = .ok (.invokevirtual 158, 3) := by decide +kernel
theorem d14_20 : decode prog_27_method_19_code 20 = .ok (.ifCond .lt 7, 3) := by decide +kernel
theorem d14_27 : decode prog_27_method_19_code 27 = .ok (.iconst 0, 1) := by decide +kernel
theorem pd14_0 : parseMethodDescriptor "(I)Z" = some ⟨[.int], some .boolean⟩ := by decide +kernel
theorem pd14_1 : parseMethodDescriptor "(I)I" = some ⟨[.int], some .int⟩ := by decide +kernel
theorem pn14 : plainFor (⟨"com/example/verbatim_replay/verbatimreplay/StructuredFieldReader", "isTokenCharacter", "(I)Z"⟩ : MethodName) = true := by first | exact plainFor_of_name (by first | (simp [plainName, overriddenIn]; done) | decide +kernel) | decide +kernel
theorem ef14 (m : MethodId) (c1 : Int32) : entryFrame m #[(.int c1)] 1 = mkF m 0 #[.val (.int c1)] [] := by first | (simp [entryFrame, mkF, argsToLocals, Value.category]; done) | rfl
def Q14 (Z : State) (c1 : Int32) (cz : Int32) (h0 : Heap) (n0 : Nat) (v : Option Value) (h : Heap) (L : List Loc) : Prop := v = some (.int (own_b (((¬ c1 < (97 : Int32) ∧ ¬ (122 : Int32) < c1) ∨ (¬ c1 < (65 : Int32) ∧ ¬ (90 : Int32) < c1)) ∨ (¬ c1 < (48 : Int32) ∧ ¬ (57 : Int32) < c1) ∨ own_in own_bs 15 c1))) ∧ Fr n0 L ∧ Keep h0 h []
set_option maxRecDepth 65536 in
set_option maxHeartbeats 40000000 in
theorem rm14 (l : Launch) (Z : State) (a0 : Array Value) (hw : ∀ d ∈ tables_1, d.before a0 Z = true) (ws : List Jvm.Cond) (c1 : Int32) (cz : Int32) (h0 : Heap) (n0 : Nat) (Z0 : n0 ≤ h0.size) (O_a : Old Z n0 h0) (Sz : Sta Z Z.heap "java/lang/String" "COMPACT_STRINGS" "Z" (.int cz)) (Pz : ¬ cz = 0) (hEL : EW Z a0 own_EL) :
    MetFree l (⟨"com/example/verbatim_replay/verbatimreplay/StructuredFieldReader", "isTokenCharacter", "(I)Z"⟩ : MethodName) (head1 (Jvm.Cond.code (⟨"com/example/verbatim_replay/verbatimreplay/StructuredFieldReader", "isTokenCharacter", "(I)Z"⟩ : MethodName) prog_27_method_19_code 1 (some .boolean) :: ws) ({ frames := 4, cells := 2, slots := 64, locals := 59 } : Room)) (fun a U => a = #[(.int c1)] ∧ Z.Warmed39 U.vm ∧ U.heap = h0 ∧ CHv Z own_EL U.vm h0) (fun _ _ _ _ _ => True) (fun _ U o U' => ∃ v L, o = .returned v ∧ Q14 Z c1 cz h0 n0 v U'.heap L ∧ CHr Z own_EL U.vm U.heap U'.vm U'.heap ∧ ReturnedEndW U o U' L ({ frames := 4, cells := 2, slots := 64, locals := 59 } : Room).cells ({ frames := 4, cells := 2, slots := 64, locals := 59 } : Room).slots) := by
  refine MetFree.of_bodySF pn14 hisR ?_
  intro p e s m args below meth c s₁ Bd hml0 hP hK
  obtain ⟨rfl, hZ, hh, H⟩ := hP
  have CH : CHr Z own_EL s.vm h0 s.vm h0 := CHr.refl H
  have hx := Bd.exec
  have hby := Bd.bytes
  have hlk : meth.locks = false := BodyLoose.notSynchronized Bd
  have hml : c.maxLocals = 1 := hml0
  have hown : s.vm.findClass "com/example/verbatim_replay/verbatimreplay/StructuredFieldReader" = some m.cls := findClass_of_methodNamed Bd.named
  have hnm := (name_of_methodNamed Bd.named Bd.method).1
  have X0 : Stand p l e ({ frames := 4, cells := 2, slots := 64, locals := 59 } : Room) s m #[(.int c1)] below meth c s₁ [] 0 0 := Stand.of_body Bd
  have e0 : s₁.heap = h0 := by rw [← hh, Bd.state]; rfl
  have hS : s.Since s.vm h0.size := (State.WarmedH.refl s).since _
  have X0 : Stand p l e ({ frames := 4, cells := 2, slots := 64, locals := 59 } : Room) (s.setVm s.vm) m #[(.int c1)] below meth c s₁ [] 0 0 := X0
  have hZ : Z.Warmed39 (s.setVm s.vm).vm := hZ
  have hown : (s.setVm s.vm).vm.findClass "com/example/verbatim_replay/verbatimreplay/StructuredFieldReader" = some m.cls := hown
  have own_wS : ∀ a ∈ Bundle.stringAtoms, a.before a0 Z = true := fun a ha => hw a ((by decide +kernel : ∀ a ∈ Bundle.stringAtoms, a ∈ tables_1) a ha)
  have N0 := Fr.nil n0
  have K0 : Keep h0 h0 [] := Keep.refl _ _
  rw [ef14 m c1]
  show own_Go p e below (own_EndH Z own_EL s (Q14 Z c1 cz h0 n0) ({ frames := 4, cells := 2, slots := 64, locals := 59 } : Room).cells ({ frames := 4, cells := 2, slots := 64, locals := 59 } : Room).slots) s₁ (mkF m 0 #[.val (.int c1)] [])
  refine own_iloadN X0 hx (hb hby d14_0) (pc' := 1) rfl rfl ?_
  obtain ⟨_, _, ⟨T_1, L_1, k_1, n_1⟩, -, X_1, ⟨Lc_1, hQ_1, l_1, y_1, z_1⟩, st_1⟩ := Jvm.LawKit.callS X0 hx (y := (⟨"com/example/verbatim_replay/verbatimreplay/StructuredFieldReader", "isAlpha", "(I)Z"⟩ : MethodName)) hown (mvT hZ (hw _ (List.mem_of_getElem? (i := 5) rfl))) (mvT hZ (hw _ (List.mem_of_getElem? (i := 6) rfl))) (mvT hZ (hw _ (List.mem_of_getElem? (i := 3) rfl))) (mvT hZ (hw _ (List.mem_of_getElem? (i := 7) rfl))) (by decide) (backOf (W := 0) (rm2 l Z a0 hw [] c1 h0 n0 Z0) hZ (hw _ (List.mem_of_getElem? (i := 7) rfl)) (hw _ (List.mem_of_getElem? (i := 3) rfl)) (by decide) (by decide)) (g := (mkF m 1 #[.val (.int c1)] [(.int c1)])) rfl (by rw [hml]; rfl) (argsL := [(.int c1)]) (rest := []) (lenOf pd14_0 rfl) rfl (by show 2 * 0 + _ ≤ _; exact Nat.le_of_eq rfl) (hb hby d14_1) (fun _ _ => ⟨rfl, e0, (by decide : 0 + 0 ≤ _), (by decide : 0 + 0 ≤ _)⟩)
  dsimp only [Pt.U, Pt.locs, Pt.cells, Pt.slots] at X_1 l_1 y_1 z_1 st_1 hQ_1
  subst l_1 y_1 z_1
  refine own_st st_1 ?_
  obtain ⟨rfl, Nq_1, eq_1⟩ := hQ_1
  have N_1 := Fr.app N0 Nq_1
  show own_Go p e below _ T_1 (mkF m 4 #[.val (.int c1)] [(.int (own_b ((¬ c1 < (97 : Int32) ∧ ¬ (122 : Int32) < c1) ∨ (¬ c1 < (65 : Int32) ∧ ¬ (90 : Int32) < c1))))])
  by_cases c_2 : (¬ c1 < (97 : Int32) ∧ ¬ (122 : Int32) < c1) ∨ (¬ c1 < (65 : Int32) ∧ ¬ (90 : Int32) < c1)
  · skip
    refine own_ifY X_1 hx (hb hby d14_4) (own_b0_ne_t c_2) (pc' := 23) (by decide) (by decide) ?_
    refine own_iconst X_1 hx (1) (hb hby d14_23) (pc' := 24) rfl rfl ?_
    refine own_goto X_1 hx (hb hby d14_24) (pc' := 28) (by decide) (by decide) ?_
    refine own_retZH X_1 hS (by rw [eq_1]; exact (Nat.le_refl _)) (by rw [hh, eq_1]; exact CH.trans (CHv.at X_1 hZ hEL CH.1)) hx hlk Bd.returns (by simp) (hb hby d14_28) (by decide) (by decide) ?_
    rw [eq_1]
    exact ⟨by rw [own_b1 (Or.inl c_2)]; rfl, N_1, K0⟩
  · skip
    refine own_ifN X_1 hx (hb hby d14_4) (own_b0_ne_f c_2) (pc' := 7) rfl ?_
    refine own_iloadN X_1 hx (hb hby d14_7) (pc' := 8) rfl rfl ?_
    obtain ⟨_, _, ⟨T_3, L_3, k_3, n_3⟩, -, X_3, ⟨Lc_3, hQ_3, l_3, y_3, z_3⟩, st_3⟩ := Jvm.LawKit.callS X_1 hx (y := (⟨"com/example/verbatim_replay/verbatimreplay/StructuredFieldReader", "isDigit", "(I)Z"⟩ : MethodName)) hown (mvT hZ (hw _ (List.mem_of_getElem? (i := 11) rfl))) (mvT hZ (hw _ (List.mem_of_getElem? (i := 12) rfl))) (mvT hZ (hw _ (List.mem_of_getElem? (i := 3) rfl))) (mvT hZ (hw _ (List.mem_of_getElem? (i := 13) rfl))) (by decide) (backOf (W := 0) (rm3 l Z a0 hw [] c1 h0 n0 Z0) hZ (hw _ (List.mem_of_getElem? (i := 13) rfl)) (hw _ (List.mem_of_getElem? (i := 3) rfl)) (by decide) (by decide)) (g := (mkF m 8 #[.val (.int c1)] [(.int c1)])) rfl (by rw [hml]; rfl) (argsL := [(.int c1)]) (rest := []) (lenOf pd14_0 rfl) rfl (by show 2 * 0 + _ ≤ _; exact Nat.le_of_eq rfl) (hb hby d14_8) (fun _ _ => ⟨rfl, eq_1, (by decide : 0 + 0 ≤ _), (by decide : 0 + 0 ≤ _)⟩)
    dsimp only [Pt.U, Pt.locs, Pt.cells, Pt.slots] at X_3 l_3 y_3 z_3 st_3 hQ_3
    subst l_3 y_3 z_3
    refine own_st st_3 ?_
    obtain ⟨rfl, Nq_3, eq_3⟩ := hQ_3
    have N_3 := Fr.app N_1 Nq_3
    show own_Go p e below _ T_3 (mkF m 11 #[.val (.int c1)] [(.int (own_b (¬ c1 < (48 : Int32) ∧ ¬ (57 : Int32) < c1)))])
    by_cases c_4 : ¬ c1 < (48 : Int32) ∧ ¬ (57 : Int32) < c1
    · skip
      refine own_ifY X_3 hx (hb hby d14_11) (own_b0_ne_t c_4) (pc' := 23) (by decide) (by decide) ?_
      refine own_iconst X_3 hx (1) (hb hby d14_23) (pc' := 24) rfl rfl ?_
      refine own_goto X_3 hx (hb hby d14_24) (pc' := 28) (by decide) (by decide) ?_
      refine own_retZH X_3 hS (by rw [eq_3]; exact (Nat.le_refl _)) (by rw [hh, eq_3]; exact CH.trans (CHv.at X_3 hZ hEL CH.1)) hx hlk Bd.returns (by simp) (hb hby d14_28) (by decide) (by decide) ?_
      rw [eq_3]
      exact ⟨by rw [own_b1 (Or.inr (Or.inl c_4))]; rfl, N_3, K0⟩
    · skip
      refine own_ifN X_3 hx (hb hby d14_11) (own_b0_ne_f c_4) (pc' := 14) rfl ?_
      obtain ⟨la, T_5, h_5, kn_5, lb, kb, X_5, e_5, E_5, hS, hkn_5, hZ, hown, A_s, F_c, F_v, V_b, -, -, C_5, -, -, st_5⟩ := ldcCH X_3 hx hZ hown (hw _ (List.mem_of_getElem? (i := 14) rfl)) own_wS eq_3 hS (Nat.le_refl _) hEL (List.mem_of_getElem? (i := 0) rfl) CH.1 (vs := own_bs.map Value.int) (z := (15 : Int32)) ⟨by decide, by decide⟩ (by decide) (by decide) (g := (mkF m 14 #[.val (.int c1)] [])) rfl (hb hby d14_14) (n := 60) (by decide) (by decide) (by decide) (by decide)
      have CH := CH.trans C_5
      have O_7 : Old Z n0 h_5 := O_a.ext E_5
      have Z_6 : n0 ≤ h_5.size := Nat.le_trans Z0 E_5.1
      have K_6 : Keep h0 h_5 [] := K0.ext E_5
      refine own_st st_5 ?_
      show own_Go p e below _ T_5 (mkF m 16 #[.val (.int c1)] [(.ref la)])
      refine own_iloadN X_5 hx (hb hby d14_16) (pc' := 17) rfl rfl ?_
      obtain ⟨cq_8, kq_8, qa_8, qb_8, qc_8⟩ := isOf hZ e_5 A_s
      obtain ⟨_, _, ⟨T_8, L_8, k_8, n_8⟩, -, X_8, ⟨Lc_8, hQ_8, l_8, y_8, z_8⟩, st_8⟩ := X_5.virtualBack hx  (y := (⟨"java/lang/String", "indexOf", "(I)I"⟩ : MethodName)) (z := (⟨"java/lang/String", "indexOf", "(I)I"⟩ : MethodName)) hown (mvT hZ (hw _ (List.mem_of_getElem? (i := 22) rfl))) (mvT hZ (hw _ (List.mem_of_getElem? (i := 23) rfl))) (notFace_of_selects (args := #[]) (mvT hZ (hw _ (List.mem_of_getElem? (i := 25) rfl)))) (mvT hZ (hw _ (List.mem_of_getElem? (i := 25) rfl))) (mvT hZ (hw _ (List.mem_of_getElem? (i := 24) rfl))) (by decide) (backOf (W := 0) (rm13 l Z a0 hw [] la c1 cz lb 15 kb own_bs h_5 n0 Z_6 O_7 A_s F_c F_v V_b Sz Pz (by decide) (by decide)) hZ (hw _ (List.mem_of_getElem? (i := 26) rfl)) (hw _ (List.mem_of_getElem? (i := 15) rfl)) (by decide) (by decide)) qa_8 qc_8 (g := (mkF m 17 #[.val (.int c1)] [(.int c1), (.ref la)])) rfl (by rw [hml]; rfl) (Steps.refl _) (argsL := [(.int c1)]) (rest := []) (lenOf pd14_1 rfl) rfl (by show 2 * 0 + _ ≤ _; exact Nat.le_of_eq rfl) (hb hby d14_17) (fun _ _ => ⟨rfl, e_5, (by decide : 2 + 0 ≤ _), (by decide : 64 + 0 ≤ _)⟩)
      dsimp only [Pt.U, Pt.locs, Pt.cells, Pt.slots] at X_8 l_8 y_8 z_8 st_8 hQ_8
      subst l_8 y_8 z_8
      refine own_tr st_8 ?_
      obtain ⟨⟨r_8, rfl, hr_8⟩, Nq_8, eq_8⟩ := hQ_8
      have N_8 := Fr.app N_3 Nq_8
      show own_Go p e below _ T_8 (mkF m 20 #[.val (.int c1)] [(.int r_8)])
      by_cases c_9 : r_8 < (0 : Int32)
      · skip
        refine own_ifY X_8 hx (hb hby d14_20) (XT.i0_lt_t c_9) (pc' := 27) (by decide) (by decide) ?_
        refine own_iconst X_8 hx (0) (hb hby d14_27) (pc' := 28) rfl rfl ?_
        refine own_retZH X_8 hS (by rw [eq_8]; exact hkn_5) (by rw [hh, eq_8]; exact CH.trans (CHv.at X_8 hZ hEL CH.1)) hx hlk Bd.returns (by simp) (hb hby d14_28) (by decide) (by decide) ?_
        rw [eq_8]
        exact ⟨by rw [own_b0 (fun q => q.elim c_2 (fun q => q.elim c_4 (hr_8.mp c_9)))]; rfl, N_8, K_6⟩
      · skip
        refine own_ifN X_8 hx (hb hby d14_20) (XT.i0_lt_f c_9) (pc' := 23) rfl ?_
        refine own_iconst X_8 hx (1) (hb hby d14_23) (pc' := 24) rfl rfl ?_
        refine own_goto X_8 hx (hb hby d14_24) (pc' := 28) (by decide) (by decide) ?_
        refine own_retZH X_8 hS (by rw [eq_8]; exact hkn_5) (by rw [hh, eq_8]; exact CH.trans (CHv.at X_8 hZ hEL CH.1)) hx hlk Bd.returns (by simp) (hb hby d14_28) (by decide) (by decide) ?_
        rw [eq_8]
        exact ⟨by rw [own_b1 (Or.inr (Or.inr (Classical.byContradiction fun q => c_9 (hr_8.mpr q))))]; rfl, N_8, K_6⟩
theorem d15_0 : decode method_3_code 0 = .ok (.iload_n 0, 1) := by decide +kernel
theorem d15_1 : decode method_3_code 1 = .ok (.bipush 33, 2) := by decide +kernel
theorem d15_3 : decode method_3_code 3 = .ok (.if_icmp .lt 9, 3) := by decide +kernel
theorem d15_12 : decode method_3_code 12 = .ok (.iconst 0, 1) := by decide +kernel
theorem d15_13 : decode method_3_code 13 = .ok (.ireturn, 1) := by decide +kernel
theorem d15_6 : decode method_3_code 6 = .ok (.iload_n 0, 1) := by decide +kernel
theorem d15_7 : decode method_3_code 7 = .ok (.bipush 126, 2) := by decide +kernel
theorem d15_9 : decode method_3_code 9 = .ok (.if_icmp .le 5, 3) := by decide +kernel
theorem d15_14 : decode method_3_code 14 = .ok (.iload_n 0, 1) := by decide +kernel
theorem d15_15 : decode method_3_code 15 = .ok (.bipush 34, 2) := by decide +kernel
theorem d15_17 : decode method_3_code 17 = .ok (.if_icmp .eq 99, 3) := by decide +kernel
theorem d15_116 : decode method_3_code 116 = .ok (.iconst 1, 1) := by decide +kernel
theorem d15_117 : decode method_3_code 117 = .ok (.goto 4, 3) := by decide +kernel
theorem d15_121 : decode method_3_code 121 = .ok (.istore_n 1, 1) := by decide +kernel
theorem d15_122 : decode method_3_code 122 = .ok (.iload_n 1, 1) := by decide +kernel
theorem d15_123 : decode method_3_code 123 = .ok (.ifCond .ne 7, 3) := by decide +kernel
theorem d15_130 : decode method_3_code 130 = .ok (.iconst 0, 1) := by decide +kernel
theorem d15_131 : decode method_3_code 131 = .ok (.ireturn, 1) := by decide +kernel
theorem d15_20 : decode method_3_code 20 = .ok (.iload_n 0, 1) := by decide +kernel
theorem d15_21 : decode method_3_code 21 = .ok (.bipush 40, 2) := by decide +kernel
theorem d15_23 : decode method_3_code 23 = .ok (.if_icmp .eq 93, 3) := by decide +kernel
theorem d15_26 : decode method_3_code 26 = .ok (.iload_n 0, 1) := by decide +kernel
theorem d15_27 : decode method_3_code 27 = .ok (.bipush 41, 2) := by decide +kernel
theorem d15_29 : decode method_3_code 29 = .ok (.if_icmp .eq 87, 3) := by decide +kernel
theorem d15_32 : decode method_3_code 32 = .ok (.iload_n 0, 1) := by decide +kernel
theorem d15_33 : decode method_3_code 33 = .ok (.bipush 44, 2) := by decide +kernel
theorem d15_35 : decode method_3_code 35 = .ok (.if_icmp .eq 81, 3) := by decide +kernel
theorem d15_38 : decode method_3_code 38 = .ok (.iload_n 0, 1) := by decide +kernel
theorem d15_39 : decode method_3_code 39 = .ok (.bipush 47, 2) := by decide +kernel
theorem d15_41 : decode method_3_code 41 = .ok (.if_icmp .eq 75, 3) := by decide +kernel
theorem d15_44 : decode method_3_code 44 = .ok (.iload_n 0, 1) := by decide +kernel
theorem d15_45 : decode method_3_code 45 = .ok (.bipush 58, 2) := by decide +kernel
theorem d15_47 : decode method_3_code 47 = .ok (.if_icmp .eq 69, 3) := by decide +kernel
theorem d15_50 : decode method_3_code 50 = .ok (.iload_n 0, 1) := by decide +kernel
theorem d15_51 : decode method_3_code 51 = .ok (.bipush 59, 2) := by decide +kernel
theorem d15_53 : decode method_3_code 53 = .ok (.if_icmp .eq 63, 3) := by decide +kernel
theorem d15_56 : decode method_3_code 56 = .ok (.iload_n 0, 1) := by decide +kernel
theorem d15_57 : decode method_3_code 57 = .ok (.bipush 60, 2) := by decide +kernel
theorem d15_59 : decode method_3_code 59 = .ok (.if_icmp .eq 57, 3) := by decide +kernel
theorem d15_62 : decode method_3_code 62 = .ok (.iload_n 0, 1) := by decide +kernel
theorem d15_63 : decode method_3_code 63 = .ok (.bipush 61, 2) := by decide +kernel
theorem d15_65 : decode method_3_code 65 = .ok (.if_icmp .eq 51, 3) := by decide +kernel
theorem d15_68 : decode method_3_code 68 = .ok (.iload_n 0, 1) := by decide +kernel
theorem d15_69 : decode method_3_code 69 = .ok (.bipush 62, 2) := by decide +kernel
theorem d15_71 : decode method_3_code 71 = .ok (.if_icmp .eq 45, 3) := by decide +kernel
theorem d15_74 : decode method_3_code 74 = .ok (.iload_n 0, 1) := by decide +kernel
theorem d15_75 : decode method_3_code 75 = .ok (.bipush 63, 2) := by decide +kernel
theorem d15_77 : decode method_3_code 77 = .ok (.if_icmp .eq 39, 3) := by decide +kernel
theorem d15_80 : decode method_3_code 80 = .ok (.iload_n 0, 1) := by decide +kernel
theorem d15_81 : decode method_3_code 81 = .ok (.bipush 64, 2) := by decide +kernel
theorem d15_83 : decode method_3_code 83 = .ok (.if_icmp .eq 33, 3) := by decide +kernel
theorem d15_86 : decode method_3_code 86 = .ok (.iload_n 0, 1) := by decide +kernel
theorem d15_87 : decode method_3_code 87 = .ok (.bipush 91, 2) := by decide +kernel
theorem d15_89 : decode method_3_code 89 = .ok (.if_icmp .eq 27, 3) := by decide +kernel
theorem d15_92 : decode method_3_code 92 = .ok (.iload_n 0, 1) := by decide +kernel
theorem d15_93 : decode method_3_code 93 = .ok (.bipush 92, 2) := by decide +kernel
theorem d15_95 : decode method_3_code 95 = .ok (.if_icmp .eq 21, 3) := by decide +kernel
theorem d15_98 : decode method_3_code 98 = .ok (.iload_n 0, 1) := by decide +kernel
theorem d15_99 : decode method_3_code 99 = .ok (.bipush 93, 2) := by decide +kernel
theorem d15_101 : decode method_3_code 101 = .ok (.if_icmp .eq 15, 3) := by decide +kernel
theorem d15_104 : decode method_3_code 104 = .ok (.iload_n 0, 1) := by decide +kernel
theorem d15_105 : decode method_3_code 105 = .ok (.bipush 123, 2) := by decide +kernel
theorem d15_107 : decode method_3_code 107 = .ok (.if_icmp .eq 9, 3) := by decide +kernel
theorem d15_110 : decode method_3_code 110 = .ok (.iload_n 0, 1) := by decide +kernel
theorem d15_111 : decode method_3_code 111 = .ok (.bipush 125, 2) := by decide +kernel
theorem d15_113 : decode method_3_code 113 = .ok (.if_icmp .ne 7, 3) := by decide +kernel
theorem d15_120 : decode method_3_code 120 = .ok (.iconst 0, 1) := by decide +kernel
theorem d15_126 : decode method_3_code 126 = .ok (.iconst 1, 1) := by decide +kernel
theorem d15_127 : decode method_3_code 127 = .ok (.goto 4, 3) := by decide +kernel
theorem pn15 : plainFor (⟨"com/example/verbatim_replay/verbatimreplay/StructuredFieldReaderIsTokenCharacterPinLaw", "expected", "(I)Z"⟩ : MethodName) = true := by first | exact plainFor_of_name (by first | (simp [plainName, overriddenIn]; done) | decide +kernel) | decide +kernel
theorem ef15 (m : MethodId) (c1 : Int32) : entryFrame m #[(.int c1)] 2 = mkF m 0 #[.val (.int c1), .unset] [] := by first | (simp [entryFrame, mkF, argsToLocals, Value.category]; done) | rfl
def Q15 (Z : State) (c1 : Int32) (h0 : Heap) (n0 : Nat) (v : Option Value) (h : Heap) (L : List Loc) : Prop := v = some (.int (own_b ((¬ c1 < (33 : Int32) ∧ ¬ (126 : Int32) < c1) ∧ ¬ (c1 = (34 : Int32) ∨ c1 = (40 : Int32) ∨ c1 = (41 : Int32) ∨ c1 = (44 : Int32) ∨ c1 = (47 : Int32) ∨ c1 = (58 : Int32) ∨ c1 = (59 : Int32) ∨ c1 = (60 : Int32) ∨ c1 = (61 : Int32) ∨ c1 = (62 : Int32) ∨ c1 = (63 : Int32) ∨ c1 = (64 : Int32) ∨ c1 = (91 : Int32) ∨ c1 = (92 : Int32) ∨ c1 = (93 : Int32) ∨ c1 = (123 : Int32) ∨ c1 = (125 : Int32))))) ∧ Fr n0 L ∧ h = h0
set_option maxRecDepth 65536 in
set_option maxHeartbeats 40000000 in
theorem rm15 (l : Launch) (Z : State) (a0 : Array Value) (hw : ∀ d ∈ tables_1, d.before a0 Z = true) (ws : List Jvm.Cond) (c1 : Int32) (h0 : Heap) (n0 : Nat) (Z0 : n0 ≤ h0.size) :
    MetFree l (⟨"com/example/verbatim_replay/verbatimreplay/StructuredFieldReaderIsTokenCharacterPinLaw", "expected", "(I)Z"⟩ : MethodName) (head1 (Jvm.Cond.code (⟨"com/example/verbatim_replay/verbatimreplay/StructuredFieldReaderIsTokenCharacterPinLaw", "expected", "(I)Z"⟩ : MethodName) method_3_code 2 (some .boolean) :: ws) ({ frames := 0, cells := 0, slots := 0, locals := 0 } : Room)) (fun a U => a = #[(.int c1)] ∧ Z.Warmed39 U.vm ∧ U.heap = h0) (fun _ _ _ _ _ => True) (fun _ U o U' => ∃ v L, o = .returned v ∧ Q15 Z c1 h0 n0 v U'.heap L ∧ FrameEnd U o U' L ({ frames := 0, cells := 0, slots := 0, locals := 0 } : Room).cells ({ frames := 0, cells := 0, slots := 0, locals := 0 } : Room).slots) := by
  refine MetFree.of_bodySF pn15 hisR ?_
  intro p e s m args below meth c s₁ Bd hml0 hP hK
  obtain ⟨rfl, hZ, hh⟩ := hP
  have hx := Bd.exec
  have hby := Bd.bytes
  have hlk : meth.locks = false := BodyLoose.notSynchronized Bd
  have hml : c.maxLocals = 2 := hml0
  have hown : s.vm.findClass "com/example/verbatim_replay/verbatimreplay/StructuredFieldReaderIsTokenCharacterPinLaw" = some m.cls := findClass_of_methodNamed Bd.named
  have hnm := (name_of_methodNamed Bd.named Bd.method).1
  have X0 : Stand p l e ({ frames := 0, cells := 0, slots := 0, locals := 0 } : Room) s m #[(.int c1)] below meth c s₁ [] 0 0 := Stand.of_body Bd
  have e0 : s₁.heap = h0 := by rw [← hh, Bd.state]; rfl
  have N0 := Fr.nil n0
  rw [ef15 m c1]
  show own_Go p e below (own_End s (Q15 Z c1 h0 n0) ({ frames := 0, cells := 0, slots := 0, locals := 0 } : Room).cells ({ frames := 0, cells := 0, slots := 0, locals := 0 } : Room).slots) s₁ (mkF m 0 #[.val (.int c1), .unset] [])
  refine own_iloadN X0 hx (hb hby d15_0) (pc' := 1) rfl rfl ?_
  refine own_bipush X0 hx (33) (hb hby d15_1) (pc' := 3) rfl (by decide) ?_
  by_cases c_1 : c1 < (33 : Int32)
  · skip
    refine own_icmpY X0 hx (hb hby d15_3) (XT.ii_lt_t c_1) (pc' := 12) (by decide) (by decide) ?_
    refine own_iconst X0 hx (0) (hb hby d15_12) (pc' := 13) rfl rfl ?_
    refine own_retZ X0 hx hlk Bd.returns (by simp) (hb hby d15_13) (by decide) (by decide) ?_
    rw [e0]
    exact ⟨by simp [own_b, nar, c_1], N0, rfl⟩
  · skip
    refine own_icmpN X0 hx (hb hby d15_3) (XT.ii_lt_f c_1) (pc' := 6) rfl ?_
    refine own_iloadN X0 hx (hb hby d15_6) (pc' := 7) rfl rfl ?_
    refine own_bipush X0 hx (126) (hb hby d15_7) (pc' := 9) rfl (by decide) ?_
    by_cases c_2 : (126 : Int32) < c1
    · skip
      refine own_icmpN X0 hx (hb hby d15_9) (XT.ii_le_f c_2) (pc' := 12) rfl ?_
      refine own_iconst X0 hx (0) (hb hby d15_12) (pc' := 13) rfl rfl ?_
      refine own_retZ X0 hx hlk Bd.returns (by simp) (hb hby d15_13) (by decide) (by decide) ?_
      rw [e0]
      exact ⟨by simp [own_b, nar, c_1, c_2], N0, rfl⟩
    · skip
      refine own_icmpY X0 hx (hb hby d15_9) (XT.ii_le_t c_2) (pc' := 14) (by decide) (by decide) ?_
      refine own_iloadN X0 hx (hb hby d15_14) (pc' := 15) rfl rfl ?_
      refine own_bipush X0 hx (34) (hb hby d15_15) (pc' := 17) rfl (by decide) ?_
      by_cases c_3 : c1 = (34 : Int32)
      · skip
        refine own_icmpY X0 hx (hb hby d15_17) (XT.ii_eq_t c_3) (pc' := 116) (by decide) (by decide) ?_
        refine own_iconst X0 hx (1) (hb hby d15_116) (pc' := 117) rfl rfl ?_
        refine own_goto X0 hx (hb hby d15_117) (pc' := 121) (by decide) (by decide) ?_
        refine own_istoreN X0 hx (hb hby d15_121) (pc' := 122) (Ls' := #[.val (.int c1), .val (.int (1 : Int32))]) rfl rfl ?_
        refine own_iloadN X0 hx (hb hby d15_122) (pc' := 123) rfl rfl ?_
        refine own_ifY X0 hx (hb hby d15_123) (by decide) (pc' := 130) (by decide) (by decide) ?_
        refine own_iconst X0 hx (0) (hb hby d15_130) (pc' := 131) rfl rfl ?_
        refine own_retZ X0 hx hlk Bd.returns (by simp) (hb hby d15_131) (by decide) (by decide) ?_
        rw [e0]
        exact ⟨by simp [own_b, nar, c_1, c_2, c_3], N0, rfl⟩
      · skip
        refine own_icmpN X0 hx (hb hby d15_17) (XT.ii_eq_f c_3) (pc' := 20) rfl ?_
        refine own_iloadN X0 hx (hb hby d15_20) (pc' := 21) rfl rfl ?_
        refine own_bipush X0 hx (40) (hb hby d15_21) (pc' := 23) rfl (by decide) ?_
        by_cases c_4 : c1 = (40 : Int32)
        · skip
          refine own_icmpY X0 hx (hb hby d15_23) (XT.ii_eq_t c_4) (pc' := 116) (by decide) (by decide) ?_
          refine own_iconst X0 hx (1) (hb hby d15_116) (pc' := 117) rfl rfl ?_
          refine own_goto X0 hx (hb hby d15_117) (pc' := 121) (by decide) (by decide) ?_
          refine own_istoreN X0 hx (hb hby d15_121) (pc' := 122) (Ls' := #[.val (.int c1), .val (.int (1 : Int32))]) rfl rfl ?_
          refine own_iloadN X0 hx (hb hby d15_122) (pc' := 123) rfl rfl ?_
          refine own_ifY X0 hx (hb hby d15_123) (by decide) (pc' := 130) (by decide) (by decide) ?_
          refine own_iconst X0 hx (0) (hb hby d15_130) (pc' := 131) rfl rfl ?_
          refine own_retZ X0 hx hlk Bd.returns (by simp) (hb hby d15_131) (by decide) (by decide) ?_
          rw [e0]
          exact ⟨by simp [own_b, nar, c_1, c_2, c_3, c_4], N0, rfl⟩
        · skip
          refine own_icmpN X0 hx (hb hby d15_23) (XT.ii_eq_f c_4) (pc' := 26) rfl ?_
          refine own_iloadN X0 hx (hb hby d15_26) (pc' := 27) rfl rfl ?_
          refine own_bipush X0 hx (41) (hb hby d15_27) (pc' := 29) rfl (by decide) ?_
          by_cases c_5 : c1 = (41 : Int32)
          · skip
            refine own_icmpY X0 hx (hb hby d15_29) (XT.ii_eq_t c_5) (pc' := 116) (by decide) (by decide) ?_
            refine own_iconst X0 hx (1) (hb hby d15_116) (pc' := 117) rfl rfl ?_
            refine own_goto X0 hx (hb hby d15_117) (pc' := 121) (by decide) (by decide) ?_
            refine own_istoreN X0 hx (hb hby d15_121) (pc' := 122) (Ls' := #[.val (.int c1), .val (.int (1 : Int32))]) rfl rfl ?_
            refine own_iloadN X0 hx (hb hby d15_122) (pc' := 123) rfl rfl ?_
            refine own_ifY X0 hx (hb hby d15_123) (by decide) (pc' := 130) (by decide) (by decide) ?_
            refine own_iconst X0 hx (0) (hb hby d15_130) (pc' := 131) rfl rfl ?_
            refine own_retZ X0 hx hlk Bd.returns (by simp) (hb hby d15_131) (by decide) (by decide) ?_
            rw [e0]
            exact ⟨by simp [own_b, nar, c_1, c_2, c_3, c_4, c_5], N0, rfl⟩
          · skip
            refine own_icmpN X0 hx (hb hby d15_29) (XT.ii_eq_f c_5) (pc' := 32) rfl ?_
            refine own_iloadN X0 hx (hb hby d15_32) (pc' := 33) rfl rfl ?_
            refine own_bipush X0 hx (44) (hb hby d15_33) (pc' := 35) rfl (by decide) ?_
            by_cases c_6 : c1 = (44 : Int32)
            · skip
              refine own_icmpY X0 hx (hb hby d15_35) (XT.ii_eq_t c_6) (pc' := 116) (by decide) (by decide) ?_
              refine own_iconst X0 hx (1) (hb hby d15_116) (pc' := 117) rfl rfl ?_
              refine own_goto X0 hx (hb hby d15_117) (pc' := 121) (by decide) (by decide) ?_
              refine own_istoreN X0 hx (hb hby d15_121) (pc' := 122) (Ls' := #[.val (.int c1), .val (.int (1 : Int32))]) rfl rfl ?_
              refine own_iloadN X0 hx (hb hby d15_122) (pc' := 123) rfl rfl ?_
              refine own_ifY X0 hx (hb hby d15_123) (by decide) (pc' := 130) (by decide) (by decide) ?_
              refine own_iconst X0 hx (0) (hb hby d15_130) (pc' := 131) rfl rfl ?_
              refine own_retZ X0 hx hlk Bd.returns (by simp) (hb hby d15_131) (by decide) (by decide) ?_
              rw [e0]
              exact ⟨by simp [own_b, nar, c_1, c_2, c_3, c_4, c_5, c_6], N0, rfl⟩
            · skip
              refine own_icmpN X0 hx (hb hby d15_35) (XT.ii_eq_f c_6) (pc' := 38) rfl ?_
              refine own_iloadN X0 hx (hb hby d15_38) (pc' := 39) rfl rfl ?_
              refine own_bipush X0 hx (47) (hb hby d15_39) (pc' := 41) rfl (by decide) ?_
              by_cases c_7 : c1 = (47 : Int32)
              · skip
                refine own_icmpY X0 hx (hb hby d15_41) (XT.ii_eq_t c_7) (pc' := 116) (by decide) (by decide) ?_
                refine own_iconst X0 hx (1) (hb hby d15_116) (pc' := 117) rfl rfl ?_
                refine own_goto X0 hx (hb hby d15_117) (pc' := 121) (by decide) (by decide) ?_
                refine own_istoreN X0 hx (hb hby d15_121) (pc' := 122) (Ls' := #[.val (.int c1), .val (.int (1 : Int32))]) rfl rfl ?_
                refine own_iloadN X0 hx (hb hby d15_122) (pc' := 123) rfl rfl ?_
                refine own_ifY X0 hx (hb hby d15_123) (by decide) (pc' := 130) (by decide) (by decide) ?_
                refine own_iconst X0 hx (0) (hb hby d15_130) (pc' := 131) rfl rfl ?_
                refine own_retZ X0 hx hlk Bd.returns (by simp) (hb hby d15_131) (by decide) (by decide) ?_
                rw [e0]
                exact ⟨by simp [own_b, nar, c_1, c_2, c_3, c_4, c_5, c_6, c_7], N0, rfl⟩
              · skip
                refine own_icmpN X0 hx (hb hby d15_41) (XT.ii_eq_f c_7) (pc' := 44) rfl ?_
                refine own_iloadN X0 hx (hb hby d15_44) (pc' := 45) rfl rfl ?_
                refine own_bipush X0 hx (58) (hb hby d15_45) (pc' := 47) rfl (by decide) ?_
                by_cases c_8 : c1 = (58 : Int32)
                · skip
                  refine own_icmpY X0 hx (hb hby d15_47) (XT.ii_eq_t c_8) (pc' := 116) (by decide) (by decide) ?_
                  refine own_iconst X0 hx (1) (hb hby d15_116) (pc' := 117) rfl rfl ?_
                  refine own_goto X0 hx (hb hby d15_117) (pc' := 121) (by decide) (by decide) ?_
                  refine own_istoreN X0 hx (hb hby d15_121) (pc' := 122) (Ls' := #[.val (.int c1), .val (.int (1 : Int32))]) rfl rfl ?_
                  refine own_iloadN X0 hx (hb hby d15_122) (pc' := 123) rfl rfl ?_
                  refine own_ifY X0 hx (hb hby d15_123) (by decide) (pc' := 130) (by decide) (by decide) ?_
                  refine own_iconst X0 hx (0) (hb hby d15_130) (pc' := 131) rfl rfl ?_
                  refine own_retZ X0 hx hlk Bd.returns (by simp) (hb hby d15_131) (by decide) (by decide) ?_
                  rw [e0]
                  exact ⟨by simp [own_b, nar, c_1, c_2, c_3, c_4, c_5, c_6, c_7, c_8], N0, rfl⟩
                · skip
                  refine own_icmpN X0 hx (hb hby d15_47) (XT.ii_eq_f c_8) (pc' := 50) rfl ?_
                  refine own_iloadN X0 hx (hb hby d15_50) (pc' := 51) rfl rfl ?_
                  refine own_bipush X0 hx (59) (hb hby d15_51) (pc' := 53) rfl (by decide) ?_
                  by_cases c_9 : c1 = (59 : Int32)
                  · skip
                    refine own_icmpY X0 hx (hb hby d15_53) (XT.ii_eq_t c_9) (pc' := 116) (by decide) (by decide) ?_
                    refine own_iconst X0 hx (1) (hb hby d15_116) (pc' := 117) rfl rfl ?_
                    refine own_goto X0 hx (hb hby d15_117) (pc' := 121) (by decide) (by decide) ?_
                    refine own_istoreN X0 hx (hb hby d15_121) (pc' := 122) (Ls' := #[.val (.int c1), .val (.int (1 : Int32))]) rfl rfl ?_
                    refine own_iloadN X0 hx (hb hby d15_122) (pc' := 123) rfl rfl ?_
                    refine own_ifY X0 hx (hb hby d15_123) (by decide) (pc' := 130) (by decide) (by decide) ?_
                    refine own_iconst X0 hx (0) (hb hby d15_130) (pc' := 131) rfl rfl ?_
                    refine own_retZ X0 hx hlk Bd.returns (by simp) (hb hby d15_131) (by decide) (by decide) ?_
                    rw [e0]
                    exact ⟨by simp [own_b, nar, c_1, c_2, c_3, c_4, c_5, c_6, c_7, c_8, c_9], N0, rfl⟩
                  · skip
                    refine own_icmpN X0 hx (hb hby d15_53) (XT.ii_eq_f c_9) (pc' := 56) rfl ?_
                    refine own_iloadN X0 hx (hb hby d15_56) (pc' := 57) rfl rfl ?_
                    refine own_bipush X0 hx (60) (hb hby d15_57) (pc' := 59) rfl (by decide) ?_
                    by_cases c_10 : c1 = (60 : Int32)
                    · skip
                      refine own_icmpY X0 hx (hb hby d15_59) (XT.ii_eq_t c_10) (pc' := 116) (by decide) (by decide) ?_
                      refine own_iconst X0 hx (1) (hb hby d15_116) (pc' := 117) rfl rfl ?_
                      refine own_goto X0 hx (hb hby d15_117) (pc' := 121) (by decide) (by decide) ?_
                      refine own_istoreN X0 hx (hb hby d15_121) (pc' := 122) (Ls' := #[.val (.int c1), .val (.int (1 : Int32))]) rfl rfl ?_
                      refine own_iloadN X0 hx (hb hby d15_122) (pc' := 123) rfl rfl ?_
                      refine own_ifY X0 hx (hb hby d15_123) (by decide) (pc' := 130) (by decide) (by decide) ?_
                      refine own_iconst X0 hx (0) (hb hby d15_130) (pc' := 131) rfl rfl ?_
                      refine own_retZ X0 hx hlk Bd.returns (by simp) (hb hby d15_131) (by decide) (by decide) ?_
                      rw [e0]
                      exact ⟨by simp [own_b, nar, c_1, c_2, c_3, c_4, c_5, c_6, c_7, c_8, c_9, c_10], N0, rfl⟩
                    · skip
                      refine own_icmpN X0 hx (hb hby d15_59) (XT.ii_eq_f c_10) (pc' := 62) rfl ?_
                      refine own_iloadN X0 hx (hb hby d15_62) (pc' := 63) rfl rfl ?_
                      refine own_bipush X0 hx (61) (hb hby d15_63) (pc' := 65) rfl (by decide) ?_
                      by_cases c_11 : c1 = (61 : Int32)
                      · skip
                        refine own_icmpY X0 hx (hb hby d15_65) (XT.ii_eq_t c_11) (pc' := 116) (by decide) (by decide) ?_
                        refine own_iconst X0 hx (1) (hb hby d15_116) (pc' := 117) rfl rfl ?_
                        refine own_goto X0 hx (hb hby d15_117) (pc' := 121) (by decide) (by decide) ?_
                        refine own_istoreN X0 hx (hb hby d15_121) (pc' := 122) (Ls' := #[.val (.int c1), .val (.int (1 : Int32))]) rfl rfl ?_
                        refine own_iloadN X0 hx (hb hby d15_122) (pc' := 123) rfl rfl ?_
                        refine own_ifY X0 hx (hb hby d15_123) (by decide) (pc' := 130) (by decide) (by decide) ?_
                        refine own_iconst X0 hx (0) (hb hby d15_130) (pc' := 131) rfl rfl ?_
                        refine own_retZ X0 hx hlk Bd.returns (by simp) (hb hby d15_131) (by decide) (by decide) ?_
                        rw [e0]
                        exact ⟨by simp [own_b, nar, c_1, c_2, c_3, c_4, c_5, c_6, c_7, c_8, c_9, c_10, c_11], N0, rfl⟩
                      · skip
                        refine own_icmpN X0 hx (hb hby d15_65) (XT.ii_eq_f c_11) (pc' := 68) rfl ?_
                        refine own_iloadN X0 hx (hb hby d15_68) (pc' := 69) rfl rfl ?_
                        refine own_bipush X0 hx (62) (hb hby d15_69) (pc' := 71) rfl (by decide) ?_
                        by_cases c_12 : c1 = (62 : Int32)
                        · skip
                          refine own_icmpY X0 hx (hb hby d15_71) (XT.ii_eq_t c_12) (pc' := 116) (by decide) (by decide) ?_
                          refine own_iconst X0 hx (1) (hb hby d15_116) (pc' := 117) rfl rfl ?_
                          refine own_goto X0 hx (hb hby d15_117) (pc' := 121) (by decide) (by decide) ?_
                          refine own_istoreN X0 hx (hb hby d15_121) (pc' := 122) (Ls' := #[.val (.int c1), .val (.int (1 : Int32))]) rfl rfl ?_
                          refine own_iloadN X0 hx (hb hby d15_122) (pc' := 123) rfl rfl ?_
                          refine own_ifY X0 hx (hb hby d15_123) (by decide) (pc' := 130) (by decide) (by decide) ?_
                          refine own_iconst X0 hx (0) (hb hby d15_130) (pc' := 131) rfl rfl ?_
                          refine own_retZ X0 hx hlk Bd.returns (by simp) (hb hby d15_131) (by decide) (by decide) ?_
                          rw [e0]
                          exact ⟨by simp [own_b, nar, c_1, c_2, c_3, c_4, c_5, c_6, c_7, c_8, c_9, c_10, c_11, c_12], N0, rfl⟩
                        · skip
                          refine own_icmpN X0 hx (hb hby d15_71) (XT.ii_eq_f c_12) (pc' := 74) rfl ?_
                          refine own_iloadN X0 hx (hb hby d15_74) (pc' := 75) rfl rfl ?_
                          refine own_bipush X0 hx (63) (hb hby d15_75) (pc' := 77) rfl (by decide) ?_
                          by_cases c_13 : c1 = (63 : Int32)
                          · skip
                            refine own_icmpY X0 hx (hb hby d15_77) (XT.ii_eq_t c_13) (pc' := 116) (by decide) (by decide) ?_
                            refine own_iconst X0 hx (1) (hb hby d15_116) (pc' := 117) rfl rfl ?_
                            refine own_goto X0 hx (hb hby d15_117) (pc' := 121) (by decide) (by decide) ?_
                            refine own_istoreN X0 hx (hb hby d15_121) (pc' := 122) (Ls' := #[.val (.int c1), .val (.int (1 : Int32))]) rfl rfl ?_
                            refine own_iloadN X0 hx (hb hby d15_122) (pc' := 123) rfl rfl ?_
                            refine own_ifY X0 hx (hb hby d15_123) (by decide) (pc' := 130) (by decide) (by decide) ?_
                            refine own_iconst X0 hx (0) (hb hby d15_130) (pc' := 131) rfl rfl ?_
                            refine own_retZ X0 hx hlk Bd.returns (by simp) (hb hby d15_131) (by decide) (by decide) ?_
                            rw [e0]
                            exact ⟨by simp [own_b, nar, c_1, c_2, c_3, c_4, c_5, c_6, c_7, c_8, c_9, c_10, c_11, c_12, c_13], N0, rfl⟩
                          · skip
                            refine own_icmpN X0 hx (hb hby d15_77) (XT.ii_eq_f c_13) (pc' := 80) rfl ?_
                            refine own_iloadN X0 hx (hb hby d15_80) (pc' := 81) rfl rfl ?_
                            refine own_bipush X0 hx (64) (hb hby d15_81) (pc' := 83) rfl (by decide) ?_
                            by_cases c_14 : c1 = (64 : Int32)
                            · skip
                              refine own_icmpY X0 hx (hb hby d15_83) (XT.ii_eq_t c_14) (pc' := 116) (by decide) (by decide) ?_
                              refine own_iconst X0 hx (1) (hb hby d15_116) (pc' := 117) rfl rfl ?_
                              refine own_goto X0 hx (hb hby d15_117) (pc' := 121) (by decide) (by decide) ?_
                              refine own_istoreN X0 hx (hb hby d15_121) (pc' := 122) (Ls' := #[.val (.int c1), .val (.int (1 : Int32))]) rfl rfl ?_
                              refine own_iloadN X0 hx (hb hby d15_122) (pc' := 123) rfl rfl ?_
                              refine own_ifY X0 hx (hb hby d15_123) (by decide) (pc' := 130) (by decide) (by decide) ?_
                              refine own_iconst X0 hx (0) (hb hby d15_130) (pc' := 131) rfl rfl ?_
                              refine own_retZ X0 hx hlk Bd.returns (by simp) (hb hby d15_131) (by decide) (by decide) ?_
                              rw [e0]
                              exact ⟨by simp [own_b, nar, c_1, c_2, c_3, c_4, c_5, c_6, c_7, c_8, c_9, c_10, c_11, c_12, c_13, c_14], N0, rfl⟩
                            · skip
                              refine own_icmpN X0 hx (hb hby d15_83) (XT.ii_eq_f c_14) (pc' := 86) rfl ?_
                              refine own_iloadN X0 hx (hb hby d15_86) (pc' := 87) rfl rfl ?_
                              refine own_bipush X0 hx (91) (hb hby d15_87) (pc' := 89) rfl (by decide) ?_
                              by_cases c_15 : c1 = (91 : Int32)
                              · skip
                                refine own_icmpY X0 hx (hb hby d15_89) (XT.ii_eq_t c_15) (pc' := 116) (by decide) (by decide) ?_
                                refine own_iconst X0 hx (1) (hb hby d15_116) (pc' := 117) rfl rfl ?_
                                refine own_goto X0 hx (hb hby d15_117) (pc' := 121) (by decide) (by decide) ?_
                                refine own_istoreN X0 hx (hb hby d15_121) (pc' := 122) (Ls' := #[.val (.int c1), .val (.int (1 : Int32))]) rfl rfl ?_
                                refine own_iloadN X0 hx (hb hby d15_122) (pc' := 123) rfl rfl ?_
                                refine own_ifY X0 hx (hb hby d15_123) (by decide) (pc' := 130) (by decide) (by decide) ?_
                                refine own_iconst X0 hx (0) (hb hby d15_130) (pc' := 131) rfl rfl ?_
                                refine own_retZ X0 hx hlk Bd.returns (by simp) (hb hby d15_131) (by decide) (by decide) ?_
                                rw [e0]
                                exact ⟨by simp [own_b, nar, c_1, c_2, c_3, c_4, c_5, c_6, c_7, c_8, c_9, c_10, c_11, c_12, c_13, c_14, c_15], N0, rfl⟩
                              · skip
                                refine own_icmpN X0 hx (hb hby d15_89) (XT.ii_eq_f c_15) (pc' := 92) rfl ?_
                                refine own_iloadN X0 hx (hb hby d15_92) (pc' := 93) rfl rfl ?_
                                refine own_bipush X0 hx (92) (hb hby d15_93) (pc' := 95) rfl (by decide) ?_
                                by_cases c_16 : c1 = (92 : Int32)
                                · skip
                                  refine own_icmpY X0 hx (hb hby d15_95) (XT.ii_eq_t c_16) (pc' := 116) (by decide) (by decide) ?_
                                  refine own_iconst X0 hx (1) (hb hby d15_116) (pc' := 117) rfl rfl ?_
                                  refine own_goto X0 hx (hb hby d15_117) (pc' := 121) (by decide) (by decide) ?_
                                  refine own_istoreN X0 hx (hb hby d15_121) (pc' := 122) (Ls' := #[.val (.int c1), .val (.int (1 : Int32))]) rfl rfl ?_
                                  refine own_iloadN X0 hx (hb hby d15_122) (pc' := 123) rfl rfl ?_
                                  refine own_ifY X0 hx (hb hby d15_123) (by decide) (pc' := 130) (by decide) (by decide) ?_
                                  refine own_iconst X0 hx (0) (hb hby d15_130) (pc' := 131) rfl rfl ?_
                                  refine own_retZ X0 hx hlk Bd.returns (by simp) (hb hby d15_131) (by decide) (by decide) ?_
                                  rw [e0]
                                  exact ⟨by simp [own_b, nar, c_1, c_2, c_3, c_4, c_5, c_6, c_7, c_8, c_9, c_10, c_11, c_12, c_13, c_14, c_15, c_16], N0, rfl⟩
                                · skip
                                  refine own_icmpN X0 hx (hb hby d15_95) (XT.ii_eq_f c_16) (pc' := 98) rfl ?_
                                  refine own_iloadN X0 hx (hb hby d15_98) (pc' := 99) rfl rfl ?_
                                  refine own_bipush X0 hx (93) (hb hby d15_99) (pc' := 101) rfl (by decide) ?_
                                  by_cases c_17 : c1 = (93 : Int32)
                                  · skip
                                    refine own_icmpY X0 hx (hb hby d15_101) (XT.ii_eq_t c_17) (pc' := 116) (by decide) (by decide) ?_
                                    refine own_iconst X0 hx (1) (hb hby d15_116) (pc' := 117) rfl rfl ?_
                                    refine own_goto X0 hx (hb hby d15_117) (pc' := 121) (by decide) (by decide) ?_
                                    refine own_istoreN X0 hx (hb hby d15_121) (pc' := 122) (Ls' := #[.val (.int c1), .val (.int (1 : Int32))]) rfl rfl ?_
                                    refine own_iloadN X0 hx (hb hby d15_122) (pc' := 123) rfl rfl ?_
                                    refine own_ifY X0 hx (hb hby d15_123) (by decide) (pc' := 130) (by decide) (by decide) ?_
                                    refine own_iconst X0 hx (0) (hb hby d15_130) (pc' := 131) rfl rfl ?_
                                    refine own_retZ X0 hx hlk Bd.returns (by simp) (hb hby d15_131) (by decide) (by decide) ?_
                                    rw [e0]
                                    exact ⟨by simp [own_b, nar, c_1, c_2, c_3, c_4, c_5, c_6, c_7, c_8, c_9, c_10, c_11, c_12, c_13, c_14, c_15, c_16, c_17], N0, rfl⟩
                                  · skip
                                    refine own_icmpN X0 hx (hb hby d15_101) (XT.ii_eq_f c_17) (pc' := 104) rfl ?_
                                    refine own_iloadN X0 hx (hb hby d15_104) (pc' := 105) rfl rfl ?_
                                    refine own_bipush X0 hx (123) (hb hby d15_105) (pc' := 107) rfl (by decide) ?_
                                    by_cases c_18 : c1 = (123 : Int32)
                                    · skip
                                      refine own_icmpY X0 hx (hb hby d15_107) (XT.ii_eq_t c_18) (pc' := 116) (by decide) (by decide) ?_
                                      refine own_iconst X0 hx (1) (hb hby d15_116) (pc' := 117) rfl rfl ?_
                                      refine own_goto X0 hx (hb hby d15_117) (pc' := 121) (by decide) (by decide) ?_
                                      refine own_istoreN X0 hx (hb hby d15_121) (pc' := 122) (Ls' := #[.val (.int c1), .val (.int (1 : Int32))]) rfl rfl ?_
                                      refine own_iloadN X0 hx (hb hby d15_122) (pc' := 123) rfl rfl ?_
                                      refine own_ifY X0 hx (hb hby d15_123) (by decide) (pc' := 130) (by decide) (by decide) ?_
                                      refine own_iconst X0 hx (0) (hb hby d15_130) (pc' := 131) rfl rfl ?_
                                      refine own_retZ X0 hx hlk Bd.returns (by simp) (hb hby d15_131) (by decide) (by decide) ?_
                                      rw [e0]
                                      exact ⟨by simp [own_b, nar, c_1, c_2, c_3, c_4, c_5, c_6, c_7, c_8, c_9, c_10, c_11, c_12, c_13, c_14, c_15, c_16, c_17, c_18], N0, rfl⟩
                                    · skip
                                      refine own_icmpN X0 hx (hb hby d15_107) (XT.ii_eq_f c_18) (pc' := 110) rfl ?_
                                      refine own_iloadN X0 hx (hb hby d15_110) (pc' := 111) rfl rfl ?_
                                      refine own_bipush X0 hx (125) (hb hby d15_111) (pc' := 113) rfl (by decide) ?_
                                      by_cases c_19 : c1 = (125 : Int32)
                                      · skip
                                        refine own_icmpN X0 hx (hb hby d15_113) (XT.ii_ne_f c_19) (pc' := 116) rfl ?_
                                        refine own_iconst X0 hx (1) (hb hby d15_116) (pc' := 117) rfl rfl ?_
                                        refine own_goto X0 hx (hb hby d15_117) (pc' := 121) (by decide) (by decide) ?_
                                        refine own_istoreN X0 hx (hb hby d15_121) (pc' := 122) (Ls' := #[.val (.int c1), .val (.int (1 : Int32))]) rfl rfl ?_
                                        refine own_iloadN X0 hx (hb hby d15_122) (pc' := 123) rfl rfl ?_
                                        refine own_ifY X0 hx (hb hby d15_123) (by decide) (pc' := 130) (by decide) (by decide) ?_
                                        refine own_iconst X0 hx (0) (hb hby d15_130) (pc' := 131) rfl rfl ?_
                                        refine own_retZ X0 hx hlk Bd.returns (by simp) (hb hby d15_131) (by decide) (by decide) ?_
                                        rw [e0]
                                        exact ⟨by simp [own_b, nar, c_1, c_2, c_3, c_4, c_5, c_6, c_7, c_8, c_9, c_10, c_11, c_12, c_13, c_14, c_15, c_16, c_17, c_18, c_19], N0, rfl⟩
                                      · skip
                                        refine own_icmpY X0 hx (hb hby d15_113) (XT.ii_ne_t c_19) (pc' := 120) (by decide) (by decide) ?_
                                        refine own_iconst X0 hx (0) (hb hby d15_120) (pc' := 121) rfl rfl ?_
                                        refine own_istoreN X0 hx (hb hby d15_121) (pc' := 122) (Ls' := #[.val (.int c1), .val (.int (0 : Int32))]) rfl rfl ?_
                                        refine own_iloadN X0 hx (hb hby d15_122) (pc' := 123) rfl rfl ?_
                                        refine own_ifN X0 hx (hb hby d15_123) (by decide) (pc' := 126) rfl ?_
                                        refine own_iconst X0 hx (1) (hb hby d15_126) (pc' := 127) rfl rfl ?_
                                        refine own_goto X0 hx (hb hby d15_127) (pc' := 131) (by decide) (by decide) ?_
                                        refine own_retZ X0 hx hlk Bd.returns (by simp) (hb hby d15_131) (by decide) (by decide) ?_
                                        rw [e0]
                                        exact ⟨by simp [own_b, nar, c_1, c_2, c_3, c_4, c_5, c_6, c_7, c_8, c_9, c_10, c_11, c_12, c_13, c_14, c_15, c_16, c_17, c_18, c_19], N0, rfl⟩
theorem pd0_0 : parseMethodDescriptor "(I)Z" = some ⟨[.int], some .boolean⟩ := by decide +kernel
theorem pn0 : plainFor x = true := by first | exact plainFor_of_name (by first | (simp [plainName, overriddenIn]; done) | decide +kernel) | decide +kernel
theorem ef0 (m : MethodId) (x0 : Int32) (x1 : Int32) : entryFrame m #[(.int x0), (.int x1)] maxLocals = mkF m 0 #[.val (.int x0), .val (.int x1), .unset, .unset] [] := by first | (simp [entryFrame, mkF, argsToLocals, Value.category, maxLocals]; done) | rfl
def Q0 (Z : State) (x0 : Int32) (x1 : Int32) (cz : Int32) (h0 : Heap) (n0 : Nat) (v : Option Value) (h : Heap) (L : List Loc) : Prop := v = some (.int 1) ∧ Fr n0 L
set_option maxRecDepth 65536 in
set_option maxHeartbeats 40000000 in
theorem rm0 (l : Launch) (Z : State) (a0 : Array Value) (hw : ∀ d ∈ tables_1, d.before a0 Z = true) (ws : List Jvm.Cond) (x0 : Int32) (x1 : Int32) (cz : Int32) (h0 : Heap) (n0 : Nat) (Z0 : n0 ≤ h0.size) (O_a : Old Z n0 h0) (Sz : Sta Z Z.heap "java/lang/String" "COMPACT_STRINGS" "Z" (.int cz)) (Pz : ¬ cz = 0) (hEL : EW Z a0 own_EL) :
    MetFree l x (head1 (Jvm.Cond.code x code maxLocals ret :: ws) room_1) (fun a U => a = #[(.int x0), (.int x1)] ∧ Z.Warmed39 U.vm ∧ U.heap = h0 ∧ CHv Z own_EL U.vm h0) (fun _ _ _ _ _ => True) (fun _ U o U' => ∃ v L, o = .returned v ∧ Q0 Z x0 x1 cz h0 n0 v U'.heap L ∧ CHr Z own_EL U.vm U.heap U'.vm U'.heap ∧ ReturnedEndW U o U' L 2 64) := by
  refine MetFree.of_bodySF pn0 hisR ?_
  intro p e s m args below meth c s₁ Bd hml0 hP hK
  obtain ⟨rfl, hZ, hh, H⟩ := hP
  have CH : CHr Z own_EL s.vm h0 s.vm h0 := CHr.refl H
  have hx := Bd.exec
  have hby := Bd.bytes
  have hlk : meth.locks = false := BodyLoose.notSynchronized Bd
  have hml : c.maxLocals = 4 := hml0
  have hown : s.vm.findClass "com/example/verbatim_replay/verbatimreplay/StructuredFieldReaderIsTokenCharacterPinLaw" = some m.cls := findClass_of_methodNamed Bd.named
  have hnm := (name_of_methodNamed Bd.named Bd.method).1
  have X0 : Stand p l e room_1 s m #[(.int x0), (.int x1)] below meth c s₁ [] 0 0 := Stand.of_body Bd
  have e0 : s₁.heap = h0 := by rw [← hh, Bd.state]; rfl
  have hS : s.Since s.vm h0.size := (State.WarmedH.refl s).since _
  have X0 : Stand p l e room_1 (s.setVm s.vm) m #[(.int x0), (.int x1)] below meth c s₁ [] 0 0 := X0
  have hZ : Z.Warmed39 (s.setVm s.vm).vm := hZ
  have hown : (s.setVm s.vm).vm.findClass "com/example/verbatim_replay/verbatimreplay/StructuredFieldReaderIsTokenCharacterPinLaw" = some m.cls := hown
  have own_wS : ∀ a ∈ Bundle.stringAtoms, a.before a0 Z = true := fun a ha => hw a ((by decide +kernel : ∀ a ∈ Bundle.stringAtoms, a ∈ tables_1) a ha)
  have N0 := Fr.nil n0
  rw [ef0 m x0 x1]
  show own_Go p e below (own_EndH Z own_EL s (Q0 Z x0 x1 cz h0 n0) 2 64) s₁ (mkF m 0 #[.val (.int x0), .val (.int x1), .unset, .unset] [])
  refine own_iloadN X0 hx (hb hby at_0) (pc' := 1) rfl rfl ?_
  refine own_iconst X0 hx (3) (hb hby at_1) (pc' := 2) rfl rfl ?_
  refine own_iand X0 hx (hb hby at_2) (pc' := 3) rfl ?_
  refine own_istoreN X0 hx (hb hby at_3) (pc' := 4) (Ls' := #[.val (.int x0), .val (.int x1), .val (.int (x1 &&& (3 : Int32))), .unset]) rfl rfl ?_
  refine own_iloadN X0 hx (hb hby at_4) (pc' := 5) rfl rfl ?_
  by_cases c_1 : (x1 &&& (3 : Int32)) = (0 : Int32)
  · skip
    refine own_ifN X0 hx (hb hby at_5) (XT.i0_ne_f c_1) (pc' := 8) rfl ?_
    refine own_iloadN X0 hx (hb hby at_8) (pc' := 9) rfl rfl ?_
    refine own_istoreN X0 hx (hb hby at_9) (pc' := 10) (Ls' := #[.val (.int x0), .val (.int x1), .val (.int (x1 &&& (3 : Int32))), .val (.int x0)]) rfl rfl ?_
    refine own_goto X0 hx (hb hby at_10) (pc' := 45) (by decide) (by decide) ?_
    refine own_iloadN X0 hx (hb hby at_45) (pc' := 46) rfl rfl ?_
    obtain ⟨_, _, ⟨T_2, L_2, k_2, n_2⟩, -, X_2, hs_2, hg_2, ⟨Lc_2, hQ_2, l_2, y_2, z_2, C_2⟩, st_2⟩ := callSS X0 hx (y := (⟨"com/example/verbatim_replay/verbatimreplay/StructuredFieldReader", "isTokenCharacter", "(I)Z"⟩ : MethodName)) hown (mvT hZ (hw _ (List.mem_of_getElem? (i := 1) rfl))) (mvT hZ (hw _ (List.mem_of_getElem? (i := 2) rfl))) (mvT hZ (hw _ (List.mem_of_getElem? (i := 3) rfl))) (mvT hZ (hw _ (List.mem_of_getElem? (i := 4) rfl))) (by decide) (backOfSH (W := 0) (rm14 l Z a0 hw [] x0 cz h0 n0 Z0 O_a Sz Pz hEL) hZ (hw _ (List.mem_of_getElem? (i := 4) rfl)) (hw _ (List.mem_of_getElem? (i := 3) rfl)) (by decide) (by decide) hEL CH.1) (g := (mkF m 46 #[.val (.int x0), .val (.int x1), .val (.int (x1 &&& (3 : Int32))), .val (.int x0)] [(.int x0)])) rfl (by rw [hml]; rfl) (argsL := [(.int x0)]) (rest := []) (lenOf pd0_0 rfl) rfl (by show 2 * 0 + _ ≤ _; exact Nat.le_of_eq rfl) (hb hby at_46) (fun _ _ => ⟨rfl, e0, (by decide : 0 + 2 ≤ _), (by decide : 0 + 64 ≤ _)⟩)
    dsimp only [Pt.U, Pt.locs, Pt.cells, Pt.slots] at X_2 l_2 y_2 z_2 st_2 hQ_2 hs_2 hg_2
    subst l_2 y_2 z_2
    refine own_tr st_2 ?_
    obtain ⟨X_2, hS, hZ, hown⟩ := rebS hS (n1 := s₁.heap.size) (by rw [e0]; exact (Nat.le_refl _)) X_2 hs_2 hg_2 hZ hown
    dsimp only [Pt.U] at C_2
    have CH := CH.trans C_2
    obtain ⟨rfl, Nq_2, Kq_2⟩ := hQ_2
    have N_2 := Fr.app N0 Nq_2
    have O_4 : Old Z n0 T_2.heap := O_a.keep Kq_2 all0
    have Z_3 : n0 ≤ T_2.heap.size := Nat.le_trans Z0 Kq_2.1
    show own_Go p e below _ T_2 (mkF m 49 #[.val (.int x0), .val (.int x1), .val (.int (x1 &&& (3 : Int32))), .val (.int x0)] [(.int (own_b (((¬ x0 < (97 : Int32) ∧ ¬ (122 : Int32) < x0) ∨ (¬ x0 < (65 : Int32) ∧ ¬ (90 : Int32) < x0)) ∨ (¬ x0 < (48 : Int32) ∧ ¬ (57 : Int32) < x0) ∨ own_in own_bs 15 x0)))])
    refine own_iloadN X_2 hx (hb hby at_49) (pc' := 50) rfl rfl ?_
    obtain ⟨_, _, ⟨T_5, L_5, k_5, n_5⟩, -, X_5, ⟨Lc_5, hQ_5, l_5, y_5, z_5⟩, st_5⟩ := Jvm.LawKit.callS X_2 hx (y := (⟨"com/example/verbatim_replay/verbatimreplay/StructuredFieldReaderIsTokenCharacterPinLaw", "expected", "(I)Z"⟩ : MethodName)) hown (mvT hZ (hw _ (List.mem_of_getElem? (i := 67) rfl))) (mvT hZ (hw _ (List.mem_of_getElem? (i := 68) rfl))) (mvT hZ (hw _ (List.mem_of_getElem? (i := 69) rfl))) (mvT hZ (hw _ (List.mem_of_getElem? (i := 70) rfl))) (by decide) (backOf (W := 1) (rm15 l Z a0 hw [] x0 T_2.heap n0 Z_3) hZ (hw _ (List.mem_of_getElem? (i := 70) rfl)) (hw _ (List.mem_of_getElem? (i := 69) rfl)) (by decide) (by decide)) (g := (mkF m 50 #[.val (.int x0), .val (.int x1), .val (.int (x1 &&& (3 : Int32))), .val (.int x0)] [(.int x0), (.int (own_b (((¬ x0 < (97 : Int32) ∧ ¬ (122 : Int32) < x0) ∨ (¬ x0 < (65 : Int32) ∧ ¬ (90 : Int32) < x0)) ∨ (¬ x0 < (48 : Int32) ∧ ¬ (57 : Int32) < x0) ∨ own_in own_bs 15 x0)))])) rfl (by rw [hml]; rfl) (argsL := [(.int x0)]) (rest := [(.int (own_b (((¬ x0 < (97 : Int32) ∧ ¬ (122 : Int32) < x0) ∨ (¬ x0 < (65 : Int32) ∧ ¬ (90 : Int32) < x0)) ∨ (¬ x0 < (48 : Int32) ∧ ¬ (57 : Int32) < x0) ∨ own_in own_bs 15 x0)))]) (lenOf pd0_0 rfl) rfl (by show 2 * 0 + _ ≤ _; exact Nat.le_of_eq rfl) (hb hby at_50) (fun _ _ => ⟨rfl, rfl, (by decide : 2 + 0 ≤ _), (by decide : 64 + 0 ≤ _)⟩)
    dsimp only [Pt.U, Pt.locs, Pt.cells, Pt.slots] at X_5 l_5 y_5 z_5 st_5 hQ_5
    subst l_5 y_5 z_5
    refine own_st st_5 ?_
    obtain ⟨rfl, Nq_5, eq_5⟩ := hQ_5
    have N_5 := Fr.app N_2 Nq_5
    show own_Go p e below _ T_5 (mkF m 53 #[.val (.int x0), .val (.int x1), .val (.int (x1 &&& (3 : Int32))), .val (.int x0)] [(.int (own_b ((¬ x0 < (33 : Int32) ∧ ¬ (126 : Int32) < x0) ∧ ¬ (x0 = (34 : Int32) ∨ x0 = (40 : Int32) ∨ x0 = (41 : Int32) ∨ x0 = (44 : Int32) ∨ x0 = (47 : Int32) ∨ x0 = (58 : Int32) ∨ x0 = (59 : Int32) ∨ x0 = (60 : Int32) ∨ x0 = (61 : Int32) ∨ x0 = (62 : Int32) ∨ x0 = (63 : Int32) ∨ x0 = (64 : Int32) ∨ x0 = (91 : Int32) ∨ x0 = (92 : Int32) ∨ x0 = (93 : Int32) ∨ x0 = (123 : Int32) ∨ x0 = (125 : Int32))))), (.int (own_b (((¬ x0 < (97 : Int32) ∧ ¬ (122 : Int32) < x0) ∨ (¬ x0 < (65 : Int32) ∧ ¬ (90 : Int32) < x0)) ∨ (¬ x0 < (48 : Int32) ∧ ¬ (57 : Int32) < x0) ∨ own_in own_bs 15 x0)))])
    refine own_icmpN X_5 hx (hb hby at_53) (XT.ii_ne_f (own_biff (own_iff _))) (pc' := 56) rfl ?_
    refine own_iconst X_5 hx (1) (hb hby at_56) (pc' := 57) rfl rfl ?_
    refine own_goto X_5 hx (hb hby at_57) (pc' := 61) (by decide) (by decide) ?_
    refine own_retZH X_5 hS (by rw [eq_5]; exact (Nat.le_refl _)) (by rw [hh, eq_5]; exact CH.trans (CHv.at X_5 hZ hEL CH.1)) hx hlk Bd.returns (by simp) (hb hby at_61) (by decide) (by decide) ?_
    exact ⟨rfl, N_5⟩
  · skip
    refine own_ifY X0 hx (hb hby at_5) (XT.i0_ne_t c_1) (pc' := 13) (by decide) (by decide) ?_
    refine own_iloadN X0 hx (hb hby at_13) (pc' := 14) rfl rfl ?_
    refine own_iconst X0 hx (1) (hb hby at_14) (pc' := 15) rfl rfl ?_
    by_cases c_6 : (x1 &&& (3 : Int32)) = (1 : Int32)
    · skip
      refine own_icmpN X0 hx (hb hby at_15) (XT.ii_ne_f c_6) (pc' := 18) rfl ?_
      refine own_iloadN X0 hx (hb hby at_18) (pc' := 19) rfl rfl ?_
      refine own_bipush X0 hx (127) (hb hby at_19) (pc' := 21) rfl (by decide) ?_
      refine own_iand X0 hx (hb hby at_21) (pc' := 22) rfl ?_
      refine own_istoreN X0 hx (hb hby at_22) (pc' := 23) (Ls' := #[.val (.int x0), .val (.int x1), .val (.int (x1 &&& (3 : Int32))), .val (.int (x0 &&& (127 : Int32)))]) rfl rfl ?_
      refine own_goto X0 hx (hb hby at_23) (pc' := 45) (by decide) (by decide) ?_
      refine own_iloadN X0 hx (hb hby at_45) (pc' := 46) rfl rfl ?_
      obtain ⟨_, _, ⟨T_7, L_7, k_7, n_7⟩, -, X_7, hs_7, hg_7, ⟨Lc_7, hQ_7, l_7, y_7, z_7, C_7⟩, st_7⟩ := callSS X0 hx (y := (⟨"com/example/verbatim_replay/verbatimreplay/StructuredFieldReader", "isTokenCharacter", "(I)Z"⟩ : MethodName)) hown (mvT hZ (hw _ (List.mem_of_getElem? (i := 1) rfl))) (mvT hZ (hw _ (List.mem_of_getElem? (i := 2) rfl))) (mvT hZ (hw _ (List.mem_of_getElem? (i := 3) rfl))) (mvT hZ (hw _ (List.mem_of_getElem? (i := 4) rfl))) (by decide) (backOfSH (W := 0) (rm14 l Z a0 hw [] (x0 &&& (127 : Int32)) cz h0 n0 Z0 O_a Sz Pz hEL) hZ (hw _ (List.mem_of_getElem? (i := 4) rfl)) (hw _ (List.mem_of_getElem? (i := 3) rfl)) (by decide) (by decide) hEL CH.1) (g := (mkF m 46 #[.val (.int x0), .val (.int x1), .val (.int (x1 &&& (3 : Int32))), .val (.int (x0 &&& (127 : Int32)))] [(.int (x0 &&& (127 : Int32)))])) rfl (by rw [hml]; rfl) (argsL := [(.int (x0 &&& (127 : Int32)))]) (rest := []) (lenOf pd0_0 rfl) rfl (by show 2 * 0 + _ ≤ _; exact Nat.le_of_eq rfl) (hb hby at_46) (fun _ _ => ⟨rfl, e0, (by decide : 0 + 2 ≤ _), (by decide : 0 + 64 ≤ _)⟩)
      dsimp only [Pt.U, Pt.locs, Pt.cells, Pt.slots] at X_7 l_7 y_7 z_7 st_7 hQ_7 hs_7 hg_7
      subst l_7 y_7 z_7
      refine own_tr st_7 ?_
      obtain ⟨X_7, hS, hZ, hown⟩ := rebS hS (n1 := s₁.heap.size) (by rw [e0]; exact (Nat.le_refl _)) X_7 hs_7 hg_7 hZ hown
      dsimp only [Pt.U] at C_7
      have CH := CH.trans C_7
      obtain ⟨rfl, Nq_7, Kq_7⟩ := hQ_7
      have N_7 := Fr.app N0 Nq_7
      have O_9 : Old Z n0 T_7.heap := O_a.keep Kq_7 all0
      have Z_8 : n0 ≤ T_7.heap.size := Nat.le_trans Z0 Kq_7.1
      show own_Go p e below _ T_7 (mkF m 49 #[.val (.int x0), .val (.int x1), .val (.int (x1 &&& (3 : Int32))), .val (.int (x0 &&& (127 : Int32)))] [(.int (own_b (((¬ (x0 &&& (127 : Int32)) < (97 : Int32) ∧ ¬ (122 : Int32) < (x0 &&& (127 : Int32))) ∨ (¬ (x0 &&& (127 : Int32)) < (65 : Int32) ∧ ¬ (90 : Int32) < (x0 &&& (127 : Int32)))) ∨ (¬ (x0 &&& (127 : Int32)) < (48 : Int32) ∧ ¬ (57 : Int32) < (x0 &&& (127 : Int32))) ∨ own_in own_bs 15 (x0 &&& (127 : Int32)))))])
      refine own_iloadN X_7 hx (hb hby at_49) (pc' := 50) rfl rfl ?_
      obtain ⟨_, _, ⟨T_10, L_10, k_10, n_10⟩, -, X_10, ⟨Lc_10, hQ_10, l_10, y_10, z_10⟩, st_10⟩ := Jvm.LawKit.callS X_7 hx (y := (⟨"com/example/verbatim_replay/verbatimreplay/StructuredFieldReaderIsTokenCharacterPinLaw", "expected", "(I)Z"⟩ : MethodName)) hown (mvT hZ (hw _ (List.mem_of_getElem? (i := 67) rfl))) (mvT hZ (hw _ (List.mem_of_getElem? (i := 68) rfl))) (mvT hZ (hw _ (List.mem_of_getElem? (i := 69) rfl))) (mvT hZ (hw _ (List.mem_of_getElem? (i := 70) rfl))) (by decide) (backOf (W := 1) (rm15 l Z a0 hw [] (x0 &&& (127 : Int32)) T_7.heap n0 Z_8) hZ (hw _ (List.mem_of_getElem? (i := 70) rfl)) (hw _ (List.mem_of_getElem? (i := 69) rfl)) (by decide) (by decide)) (g := (mkF m 50 #[.val (.int x0), .val (.int x1), .val (.int (x1 &&& (3 : Int32))), .val (.int (x0 &&& (127 : Int32)))] [(.int (x0 &&& (127 : Int32))), (.int (own_b (((¬ (x0 &&& (127 : Int32)) < (97 : Int32) ∧ ¬ (122 : Int32) < (x0 &&& (127 : Int32))) ∨ (¬ (x0 &&& (127 : Int32)) < (65 : Int32) ∧ ¬ (90 : Int32) < (x0 &&& (127 : Int32)))) ∨ (¬ (x0 &&& (127 : Int32)) < (48 : Int32) ∧ ¬ (57 : Int32) < (x0 &&& (127 : Int32))) ∨ own_in own_bs 15 (x0 &&& (127 : Int32)))))])) rfl (by rw [hml]; rfl) (argsL := [(.int (x0 &&& (127 : Int32)))]) (rest := [(.int (own_b (((¬ (x0 &&& (127 : Int32)) < (97 : Int32) ∧ ¬ (122 : Int32) < (x0 &&& (127 : Int32))) ∨ (¬ (x0 &&& (127 : Int32)) < (65 : Int32) ∧ ¬ (90 : Int32) < (x0 &&& (127 : Int32)))) ∨ (¬ (x0 &&& (127 : Int32)) < (48 : Int32) ∧ ¬ (57 : Int32) < (x0 &&& (127 : Int32))) ∨ own_in own_bs 15 (x0 &&& (127 : Int32)))))]) (lenOf pd0_0 rfl) rfl (by show 2 * 0 + _ ≤ _; exact Nat.le_of_eq rfl) (hb hby at_50) (fun _ _ => ⟨rfl, rfl, (by decide : 2 + 0 ≤ _), (by decide : 64 + 0 ≤ _)⟩)
      dsimp only [Pt.U, Pt.locs, Pt.cells, Pt.slots] at X_10 l_10 y_10 z_10 st_10 hQ_10
      subst l_10 y_10 z_10
      refine own_st st_10 ?_
      obtain ⟨rfl, Nq_10, eq_10⟩ := hQ_10
      have N_10 := Fr.app N_7 Nq_10
      show own_Go p e below _ T_10 (mkF m 53 #[.val (.int x0), .val (.int x1), .val (.int (x1 &&& (3 : Int32))), .val (.int (x0 &&& (127 : Int32)))] [(.int (own_b ((¬ (x0 &&& (127 : Int32)) < (33 : Int32) ∧ ¬ (126 : Int32) < (x0 &&& (127 : Int32))) ∧ ¬ ((x0 &&& (127 : Int32)) = (34 : Int32) ∨ (x0 &&& (127 : Int32)) = (40 : Int32) ∨ (x0 &&& (127 : Int32)) = (41 : Int32) ∨ (x0 &&& (127 : Int32)) = (44 : Int32) ∨ (x0 &&& (127 : Int32)) = (47 : Int32) ∨ (x0 &&& (127 : Int32)) = (58 : Int32) ∨ (x0 &&& (127 : Int32)) = (59 : Int32) ∨ (x0 &&& (127 : Int32)) = (60 : Int32) ∨ (x0 &&& (127 : Int32)) = (61 : Int32) ∨ (x0 &&& (127 : Int32)) = (62 : Int32) ∨ (x0 &&& (127 : Int32)) = (63 : Int32) ∨ (x0 &&& (127 : Int32)) = (64 : Int32) ∨ (x0 &&& (127 : Int32)) = (91 : Int32) ∨ (x0 &&& (127 : Int32)) = (92 : Int32) ∨ (x0 &&& (127 : Int32)) = (93 : Int32) ∨ (x0 &&& (127 : Int32)) = (123 : Int32) ∨ (x0 &&& (127 : Int32)) = (125 : Int32))))), (.int (own_b (((¬ (x0 &&& (127 : Int32)) < (97 : Int32) ∧ ¬ (122 : Int32) < (x0 &&& (127 : Int32))) ∨ (¬ (x0 &&& (127 : Int32)) < (65 : Int32) ∧ ¬ (90 : Int32) < (x0 &&& (127 : Int32)))) ∨ (¬ (x0 &&& (127 : Int32)) < (48 : Int32) ∧ ¬ (57 : Int32) < (x0 &&& (127 : Int32))) ∨ own_in own_bs 15 (x0 &&& (127 : Int32)))))])
      refine own_icmpN X_10 hx (hb hby at_53) (XT.ii_ne_f (own_biff (own_iff _))) (pc' := 56) rfl ?_
      refine own_iconst X_10 hx (1) (hb hby at_56) (pc' := 57) rfl rfl ?_
      refine own_goto X_10 hx (hb hby at_57) (pc' := 61) (by decide) (by decide) ?_
      refine own_retZH X_10 hS (by rw [eq_10]; exact (Nat.le_refl _)) (by rw [hh, eq_10]; exact CH.trans (CHv.at X_10 hZ hEL CH.1)) hx hlk Bd.returns (by simp) (hb hby at_61) (by decide) (by decide) ?_
      exact ⟨rfl, N_10⟩
    · skip
      refine own_icmpY X0 hx (hb hby at_15) (XT.ii_ne_t c_6) (pc' := 26) (by decide) (by decide) ?_
      refine own_iloadN X0 hx (hb hby at_26) (pc' := 27) rfl rfl ?_
      refine own_iconst X0 hx (2) (hb hby at_27) (pc' := 28) rfl rfl ?_
      by_cases c_11 : (x1 &&& (3 : Int32)) = (2 : Int32)
      · skip
        refine own_icmpN X0 hx (hb hby at_28) (XT.ii_ne_f c_11) (pc' := 31) rfl ?_
        refine own_iloadN X0 hx (hb hby at_31) (pc' := 32) rfl rfl ?_
        refine own_sipush X0 hx (255) (hb hby at_32) (pc' := 35) rfl (by decide) ?_
        refine own_iand X0 hx (hb hby at_35) (pc' := 36) rfl ?_
        refine own_istoreN X0 hx (hb hby at_36) (pc' := 37) (Ls' := #[.val (.int x0), .val (.int x1), .val (.int (x1 &&& (3 : Int32))), .val (.int (x0 &&& (255 : Int32)))]) rfl rfl ?_
        refine own_goto X0 hx (hb hby at_37) (pc' := 45) (by decide) (by decide) ?_
        refine own_iloadN X0 hx (hb hby at_45) (pc' := 46) rfl rfl ?_
        obtain ⟨_, _, ⟨T_12, L_12, k_12, n_12⟩, -, X_12, hs_12, hg_12, ⟨Lc_12, hQ_12, l_12, y_12, z_12, C_12⟩, st_12⟩ := callSS X0 hx (y := (⟨"com/example/verbatim_replay/verbatimreplay/StructuredFieldReader", "isTokenCharacter", "(I)Z"⟩ : MethodName)) hown (mvT hZ (hw _ (List.mem_of_getElem? (i := 1) rfl))) (mvT hZ (hw _ (List.mem_of_getElem? (i := 2) rfl))) (mvT hZ (hw _ (List.mem_of_getElem? (i := 3) rfl))) (mvT hZ (hw _ (List.mem_of_getElem? (i := 4) rfl))) (by decide) (backOfSH (W := 0) (rm14 l Z a0 hw [] (x0 &&& (255 : Int32)) cz h0 n0 Z0 O_a Sz Pz hEL) hZ (hw _ (List.mem_of_getElem? (i := 4) rfl)) (hw _ (List.mem_of_getElem? (i := 3) rfl)) (by decide) (by decide) hEL CH.1) (g := (mkF m 46 #[.val (.int x0), .val (.int x1), .val (.int (x1 &&& (3 : Int32))), .val (.int (x0 &&& (255 : Int32)))] [(.int (x0 &&& (255 : Int32)))])) rfl (by rw [hml]; rfl) (argsL := [(.int (x0 &&& (255 : Int32)))]) (rest := []) (lenOf pd0_0 rfl) rfl (by show 2 * 0 + _ ≤ _; exact Nat.le_of_eq rfl) (hb hby at_46) (fun _ _ => ⟨rfl, e0, (by decide : 0 + 2 ≤ _), (by decide : 0 + 64 ≤ _)⟩)
        dsimp only [Pt.U, Pt.locs, Pt.cells, Pt.slots] at X_12 l_12 y_12 z_12 st_12 hQ_12 hs_12 hg_12
        subst l_12 y_12 z_12
        refine own_tr st_12 ?_
        obtain ⟨X_12, hS, hZ, hown⟩ := rebS hS (n1 := s₁.heap.size) (by rw [e0]; exact (Nat.le_refl _)) X_12 hs_12 hg_12 hZ hown
        dsimp only [Pt.U] at C_12
        have CH := CH.trans C_12
        obtain ⟨rfl, Nq_12, Kq_12⟩ := hQ_12
        have N_12 := Fr.app N0 Nq_12
        have O_14 : Old Z n0 T_12.heap := O_a.keep Kq_12 all0
        have Z_13 : n0 ≤ T_12.heap.size := Nat.le_trans Z0 Kq_12.1
        show own_Go p e below _ T_12 (mkF m 49 #[.val (.int x0), .val (.int x1), .val (.int (x1 &&& (3 : Int32))), .val (.int (x0 &&& (255 : Int32)))] [(.int (own_b (((¬ (x0 &&& (255 : Int32)) < (97 : Int32) ∧ ¬ (122 : Int32) < (x0 &&& (255 : Int32))) ∨ (¬ (x0 &&& (255 : Int32)) < (65 : Int32) ∧ ¬ (90 : Int32) < (x0 &&& (255 : Int32)))) ∨ (¬ (x0 &&& (255 : Int32)) < (48 : Int32) ∧ ¬ (57 : Int32) < (x0 &&& (255 : Int32))) ∨ own_in own_bs 15 (x0 &&& (255 : Int32)))))])
        refine own_iloadN X_12 hx (hb hby at_49) (pc' := 50) rfl rfl ?_
        obtain ⟨_, _, ⟨T_15, L_15, k_15, n_15⟩, -, X_15, ⟨Lc_15, hQ_15, l_15, y_15, z_15⟩, st_15⟩ := Jvm.LawKit.callS X_12 hx (y := (⟨"com/example/verbatim_replay/verbatimreplay/StructuredFieldReaderIsTokenCharacterPinLaw", "expected", "(I)Z"⟩ : MethodName)) hown (mvT hZ (hw _ (List.mem_of_getElem? (i := 67) rfl))) (mvT hZ (hw _ (List.mem_of_getElem? (i := 68) rfl))) (mvT hZ (hw _ (List.mem_of_getElem? (i := 69) rfl))) (mvT hZ (hw _ (List.mem_of_getElem? (i := 70) rfl))) (by decide) (backOf (W := 1) (rm15 l Z a0 hw [] (x0 &&& (255 : Int32)) T_12.heap n0 Z_13) hZ (hw _ (List.mem_of_getElem? (i := 70) rfl)) (hw _ (List.mem_of_getElem? (i := 69) rfl)) (by decide) (by decide)) (g := (mkF m 50 #[.val (.int x0), .val (.int x1), .val (.int (x1 &&& (3 : Int32))), .val (.int (x0 &&& (255 : Int32)))] [(.int (x0 &&& (255 : Int32))), (.int (own_b (((¬ (x0 &&& (255 : Int32)) < (97 : Int32) ∧ ¬ (122 : Int32) < (x0 &&& (255 : Int32))) ∨ (¬ (x0 &&& (255 : Int32)) < (65 : Int32) ∧ ¬ (90 : Int32) < (x0 &&& (255 : Int32)))) ∨ (¬ (x0 &&& (255 : Int32)) < (48 : Int32) ∧ ¬ (57 : Int32) < (x0 &&& (255 : Int32))) ∨ own_in own_bs 15 (x0 &&& (255 : Int32)))))])) rfl (by rw [hml]; rfl) (argsL := [(.int (x0 &&& (255 : Int32)))]) (rest := [(.int (own_b (((¬ (x0 &&& (255 : Int32)) < (97 : Int32) ∧ ¬ (122 : Int32) < (x0 &&& (255 : Int32))) ∨ (¬ (x0 &&& (255 : Int32)) < (65 : Int32) ∧ ¬ (90 : Int32) < (x0 &&& (255 : Int32)))) ∨ (¬ (x0 &&& (255 : Int32)) < (48 : Int32) ∧ ¬ (57 : Int32) < (x0 &&& (255 : Int32))) ∨ own_in own_bs 15 (x0 &&& (255 : Int32)))))]) (lenOf pd0_0 rfl) rfl (by show 2 * 0 + _ ≤ _; exact Nat.le_of_eq rfl) (hb hby at_50) (fun _ _ => ⟨rfl, rfl, (by decide : 2 + 0 ≤ _), (by decide : 64 + 0 ≤ _)⟩)
        dsimp only [Pt.U, Pt.locs, Pt.cells, Pt.slots] at X_15 l_15 y_15 z_15 st_15 hQ_15
        subst l_15 y_15 z_15
        refine own_st st_15 ?_
        obtain ⟨rfl, Nq_15, eq_15⟩ := hQ_15
        have N_15 := Fr.app N_12 Nq_15
        show own_Go p e below _ T_15 (mkF m 53 #[.val (.int x0), .val (.int x1), .val (.int (x1 &&& (3 : Int32))), .val (.int (x0 &&& (255 : Int32)))] [(.int (own_b ((¬ (x0 &&& (255 : Int32)) < (33 : Int32) ∧ ¬ (126 : Int32) < (x0 &&& (255 : Int32))) ∧ ¬ ((x0 &&& (255 : Int32)) = (34 : Int32) ∨ (x0 &&& (255 : Int32)) = (40 : Int32) ∨ (x0 &&& (255 : Int32)) = (41 : Int32) ∨ (x0 &&& (255 : Int32)) = (44 : Int32) ∨ (x0 &&& (255 : Int32)) = (47 : Int32) ∨ (x0 &&& (255 : Int32)) = (58 : Int32) ∨ (x0 &&& (255 : Int32)) = (59 : Int32) ∨ (x0 &&& (255 : Int32)) = (60 : Int32) ∨ (x0 &&& (255 : Int32)) = (61 : Int32) ∨ (x0 &&& (255 : Int32)) = (62 : Int32) ∨ (x0 &&& (255 : Int32)) = (63 : Int32) ∨ (x0 &&& (255 : Int32)) = (64 : Int32) ∨ (x0 &&& (255 : Int32)) = (91 : Int32) ∨ (x0 &&& (255 : Int32)) = (92 : Int32) ∨ (x0 &&& (255 : Int32)) = (93 : Int32) ∨ (x0 &&& (255 : Int32)) = (123 : Int32) ∨ (x0 &&& (255 : Int32)) = (125 : Int32))))), (.int (own_b (((¬ (x0 &&& (255 : Int32)) < (97 : Int32) ∧ ¬ (122 : Int32) < (x0 &&& (255 : Int32))) ∨ (¬ (x0 &&& (255 : Int32)) < (65 : Int32) ∧ ¬ (90 : Int32) < (x0 &&& (255 : Int32)))) ∨ (¬ (x0 &&& (255 : Int32)) < (48 : Int32) ∧ ¬ (57 : Int32) < (x0 &&& (255 : Int32))) ∨ own_in own_bs 15 (x0 &&& (255 : Int32)))))])
        refine own_icmpN X_15 hx (hb hby at_53) (XT.ii_ne_f (own_biff (own_iff _))) (pc' := 56) rfl ?_
        refine own_iconst X_15 hx (1) (hb hby at_56) (pc' := 57) rfl rfl ?_
        refine own_goto X_15 hx (hb hby at_57) (pc' := 61) (by decide) (by decide) ?_
        refine own_retZH X_15 hS (by rw [eq_15]; exact (Nat.le_refl _)) (by rw [hh, eq_15]; exact CH.trans (CHv.at X_15 hZ hEL CH.1)) hx hlk Bd.returns (by simp) (hb hby at_61) (by decide) (by decide) ?_
        exact ⟨rfl, N_15⟩
      · skip
        refine own_icmpY X0 hx (hb hby at_28) (XT.ii_ne_t c_11) (pc' := 40) (by decide) (by decide) ?_
        refine own_iloadN X0 hx (hb hby at_40) (pc' := 41) rfl rfl ?_
        refine own_ldcI X0 hx hown (mvT hZ (hw _ (List.mem_of_getElem? (i := 0) rfl))) (hb hby at_41) (pc' := 43) rfl ?_
        refine own_iand X0 hx (hb hby at_43) (pc' := 44) rfl ?_
        refine own_istoreN X0 hx (hb hby at_44) (pc' := 45) (Ls' := #[.val (.int x0), .val (.int x1), .val (.int (x1 &&& (3 : Int32))), .val (.int (x0 &&& (131071 : Int32)))]) rfl rfl ?_
        refine own_iloadN X0 hx (hb hby at_45) (pc' := 46) rfl rfl ?_
        obtain ⟨_, _, ⟨T_16, L_16, k_16, n_16⟩, -, X_16, hs_16, hg_16, ⟨Lc_16, hQ_16, l_16, y_16, z_16, C_16⟩, st_16⟩ := callSS X0 hx (y := (⟨"com/example/verbatim_replay/verbatimreplay/StructuredFieldReader", "isTokenCharacter", "(I)Z"⟩ : MethodName)) hown (mvT hZ (hw _ (List.mem_of_getElem? (i := 1) rfl))) (mvT hZ (hw _ (List.mem_of_getElem? (i := 2) rfl))) (mvT hZ (hw _ (List.mem_of_getElem? (i := 3) rfl))) (mvT hZ (hw _ (List.mem_of_getElem? (i := 4) rfl))) (by decide) (backOfSH (W := 0) (rm14 l Z a0 hw [] (x0 &&& (131071 : Int32)) cz h0 n0 Z0 O_a Sz Pz hEL) hZ (hw _ (List.mem_of_getElem? (i := 4) rfl)) (hw _ (List.mem_of_getElem? (i := 3) rfl)) (by decide) (by decide) hEL CH.1) (g := (mkF m 46 #[.val (.int x0), .val (.int x1), .val (.int (x1 &&& (3 : Int32))), .val (.int (x0 &&& (131071 : Int32)))] [(.int (x0 &&& (131071 : Int32)))])) rfl (by rw [hml]; rfl) (argsL := [(.int (x0 &&& (131071 : Int32)))]) (rest := []) (lenOf pd0_0 rfl) rfl (by show 2 * 0 + _ ≤ _; exact Nat.le_of_eq rfl) (hb hby at_46) (fun _ _ => ⟨rfl, e0, (by decide : 0 + 2 ≤ _), (by decide : 0 + 64 ≤ _)⟩)
        dsimp only [Pt.U, Pt.locs, Pt.cells, Pt.slots] at X_16 l_16 y_16 z_16 st_16 hQ_16 hs_16 hg_16
        subst l_16 y_16 z_16
        refine own_tr st_16 ?_
        obtain ⟨X_16, hS, hZ, hown⟩ := rebS hS (n1 := s₁.heap.size) (by rw [e0]; exact (Nat.le_refl _)) X_16 hs_16 hg_16 hZ hown
        dsimp only [Pt.U] at C_16
        have CH := CH.trans C_16
        obtain ⟨rfl, Nq_16, Kq_16⟩ := hQ_16
        have N_16 := Fr.app N0 Nq_16
        have O_18 : Old Z n0 T_16.heap := O_a.keep Kq_16 all0
        have Z_17 : n0 ≤ T_16.heap.size := Nat.le_trans Z0 Kq_16.1
        show own_Go p e below _ T_16 (mkF m 49 #[.val (.int x0), .val (.int x1), .val (.int (x1 &&& (3 : Int32))), .val (.int (x0 &&& (131071 : Int32)))] [(.int (own_b (((¬ (x0 &&& (131071 : Int32)) < (97 : Int32) ∧ ¬ (122 : Int32) < (x0 &&& (131071 : Int32))) ∨ (¬ (x0 &&& (131071 : Int32)) < (65 : Int32) ∧ ¬ (90 : Int32) < (x0 &&& (131071 : Int32)))) ∨ (¬ (x0 &&& (131071 : Int32)) < (48 : Int32) ∧ ¬ (57 : Int32) < (x0 &&& (131071 : Int32))) ∨ own_in own_bs 15 (x0 &&& (131071 : Int32)))))])
        refine own_iloadN X_16 hx (hb hby at_49) (pc' := 50) rfl rfl ?_
        obtain ⟨_, _, ⟨T_19, L_19, k_19, n_19⟩, -, X_19, ⟨Lc_19, hQ_19, l_19, y_19, z_19⟩, st_19⟩ := Jvm.LawKit.callS X_16 hx (y := (⟨"com/example/verbatim_replay/verbatimreplay/StructuredFieldReaderIsTokenCharacterPinLaw", "expected", "(I)Z"⟩ : MethodName)) hown (mvT hZ (hw _ (List.mem_of_getElem? (i := 67) rfl))) (mvT hZ (hw _ (List.mem_of_getElem? (i := 68) rfl))) (mvT hZ (hw _ (List.mem_of_getElem? (i := 69) rfl))) (mvT hZ (hw _ (List.mem_of_getElem? (i := 70) rfl))) (by decide) (backOf (W := 1) (rm15 l Z a0 hw [] (x0 &&& (131071 : Int32)) T_16.heap n0 Z_17) hZ (hw _ (List.mem_of_getElem? (i := 70) rfl)) (hw _ (List.mem_of_getElem? (i := 69) rfl)) (by decide) (by decide)) (g := (mkF m 50 #[.val (.int x0), .val (.int x1), .val (.int (x1 &&& (3 : Int32))), .val (.int (x0 &&& (131071 : Int32)))] [(.int (x0 &&& (131071 : Int32))), (.int (own_b (((¬ (x0 &&& (131071 : Int32)) < (97 : Int32) ∧ ¬ (122 : Int32) < (x0 &&& (131071 : Int32))) ∨ (¬ (x0 &&& (131071 : Int32)) < (65 : Int32) ∧ ¬ (90 : Int32) < (x0 &&& (131071 : Int32)))) ∨ (¬ (x0 &&& (131071 : Int32)) < (48 : Int32) ∧ ¬ (57 : Int32) < (x0 &&& (131071 : Int32))) ∨ own_in own_bs 15 (x0 &&& (131071 : Int32)))))])) rfl (by rw [hml]; rfl) (argsL := [(.int (x0 &&& (131071 : Int32)))]) (rest := [(.int (own_b (((¬ (x0 &&& (131071 : Int32)) < (97 : Int32) ∧ ¬ (122 : Int32) < (x0 &&& (131071 : Int32))) ∨ (¬ (x0 &&& (131071 : Int32)) < (65 : Int32) ∧ ¬ (90 : Int32) < (x0 &&& (131071 : Int32)))) ∨ (¬ (x0 &&& (131071 : Int32)) < (48 : Int32) ∧ ¬ (57 : Int32) < (x0 &&& (131071 : Int32))) ∨ own_in own_bs 15 (x0 &&& (131071 : Int32)))))]) (lenOf pd0_0 rfl) rfl (by show 2 * 0 + _ ≤ _; exact Nat.le_of_eq rfl) (hb hby at_50) (fun _ _ => ⟨rfl, rfl, (by decide : 2 + 0 ≤ _), (by decide : 64 + 0 ≤ _)⟩)
        dsimp only [Pt.U, Pt.locs, Pt.cells, Pt.slots] at X_19 l_19 y_19 z_19 st_19 hQ_19
        subst l_19 y_19 z_19
        refine own_st st_19 ?_
        obtain ⟨rfl, Nq_19, eq_19⟩ := hQ_19
        have N_19 := Fr.app N_16 Nq_19
        show own_Go p e below _ T_19 (mkF m 53 #[.val (.int x0), .val (.int x1), .val (.int (x1 &&& (3 : Int32))), .val (.int (x0 &&& (131071 : Int32)))] [(.int (own_b ((¬ (x0 &&& (131071 : Int32)) < (33 : Int32) ∧ ¬ (126 : Int32) < (x0 &&& (131071 : Int32))) ∧ ¬ ((x0 &&& (131071 : Int32)) = (34 : Int32) ∨ (x0 &&& (131071 : Int32)) = (40 : Int32) ∨ (x0 &&& (131071 : Int32)) = (41 : Int32) ∨ (x0 &&& (131071 : Int32)) = (44 : Int32) ∨ (x0 &&& (131071 : Int32)) = (47 : Int32) ∨ (x0 &&& (131071 : Int32)) = (58 : Int32) ∨ (x0 &&& (131071 : Int32)) = (59 : Int32) ∨ (x0 &&& (131071 : Int32)) = (60 : Int32) ∨ (x0 &&& (131071 : Int32)) = (61 : Int32) ∨ (x0 &&& (131071 : Int32)) = (62 : Int32) ∨ (x0 &&& (131071 : Int32)) = (63 : Int32) ∨ (x0 &&& (131071 : Int32)) = (64 : Int32) ∨ (x0 &&& (131071 : Int32)) = (91 : Int32) ∨ (x0 &&& (131071 : Int32)) = (92 : Int32) ∨ (x0 &&& (131071 : Int32)) = (93 : Int32) ∨ (x0 &&& (131071 : Int32)) = (123 : Int32) ∨ (x0 &&& (131071 : Int32)) = (125 : Int32))))), (.int (own_b (((¬ (x0 &&& (131071 : Int32)) < (97 : Int32) ∧ ¬ (122 : Int32) < (x0 &&& (131071 : Int32))) ∨ (¬ (x0 &&& (131071 : Int32)) < (65 : Int32) ∧ ¬ (90 : Int32) < (x0 &&& (131071 : Int32)))) ∨ (¬ (x0 &&& (131071 : Int32)) < (48 : Int32) ∧ ¬ (57 : Int32) < (x0 &&& (131071 : Int32))) ∨ own_in own_bs 15 (x0 &&& (131071 : Int32)))))])
        refine own_icmpN X_19 hx (hb hby at_53) (XT.ii_ne_f (own_biff (own_iff _))) (pc' := 56) rfl ?_
        refine own_iconst X_19 hx (1) (hb hby at_56) (pc' := 57) rfl rfl ?_
        refine own_goto X_19 hx (hb hby at_57) (pc' := 61) (by decide) (by decide) ?_
        refine own_retZH X_19 hS (by rw [eq_19]; exact (Nat.le_refl _)) (by rw [hh, eq_19]; exact CH.trans (CHv.at X_19 hZ hEL CH.1)) hx hlk Bd.returns (by simp) (hb hby at_61) (by decide) (by decide) ?_
        exact ⟨rfl, N_19⟩
set_option maxRecDepth 65536 in
set_option maxHeartbeats 40000000 in
theorem comes_1 {Post : Tables → Env → Array Value → State → Outcome → State → Prop} (hpost : ∀ tb e args s v u, (limb_1_1.after args s (.returned v) u = true ∧ limb_1_2.after args s (.returned v) u = true ∧ True) → ReturnedEndW s (.returned v) u (Jvm.fieldLocs frame_1_writes args s ++ Jvm.arrayLocs frame_1_arrays args s ++ Jvm.staticLocs frame_1_statics s) 8 1088 → Post tb e args s (.returned v) u) :
    ArmFor flags0 classFile x code maxLocals ret World_1 tables_1 room_1 Calls_1 rest_1 Pre_1 Post := by
  intro l hfl _ _ p e ha hc hk s m args below hf hA hF happ hP
  obtain ⟨hcalls, hrest, hpre⟩ := hP
  obtain ⟨-, -, -, hnamed, -, -, -, hat⟩ := (Spec.applies_iff hf).mp happ
  obtain ⟨hg, hn⟩ := and_e (Cond.before_iff.mp (show (Jvm.Cond.and given_1 narrow_1).before args s = true from hpre))
  obtain ⟨gc, gr0⟩ := and_e hg
  obtain ⟨ga0, gr1⟩ := and_e gr0
  have ga1 := gr1
  obtain ⟨w0, w1, rfl⟩ : ∃ w0 w1 : Value, args = #[w0, w1] := by
    have hs : args.size = 2 := by simpa [Cond.value, given_1] using gc
    obtain ⟨L⟩ := args
    match L, hs with
    | [w0, w1], _ => exact ⟨w0, w1, rfl⟩
  have hw := fun d (hd : d ∈ tables_1) => atoms_spec (ws := Jvm.Cond.code x code maxLocals ret :: tables_1) hat d (List.mem_cons_of_mem _ hd)
  have hfit : Fit s := fun {y c} hc i hi => by
    obtain ⟨ha, rfl⟩ := Array.getElem?_eq_some_iff.mp hc
    have q := List.all_eq_true.mp ((Array.all_eq_true_iff_forall_mem.mp hF) _ (Array.getElem_mem ha)) i (List.mem_range.mpr hi)
    simpa [Array.getElem?_eq_getElem hi] using q
  obtain ⟨i0, ei0⟩ := is_v ga0
  obtain rfl : w0 = (.int i0) := Option.some.inj ei0
  obtain ⟨i1, ei1⟩ := is_v ga1
  obtain rfl : w1 = (.int i1) := Option.some.inj ei1
  obtain ⟨hsets, hown0⟩ := atoms_of _ (rest_1_c_eq ▸ (show rest_1_c.before _ s = true from hrest))
  obtain ⟨cz, ecz⟩ := is_v (Cond.before_iff.mp (hsets _ (List.mem_of_getElem? (i := 1) rfl)))
  have Sz : Sta s s.heap "java/lang/String" "COMPACT_STRINGS" "Z" (.int cz) := Sta.start ecz (Or.inl (hsets _ (List.mem_of_getElem? (i := 0) rfl)))
  have Pz : ¬ (cz = (0 : Int32)) := gotF (Cond.eq_ints ecz (Term.int_eval (0))) (not_v (Cond.before_iff.mp (hsets _ (List.mem_of_getElem? (i := 2) rfl))))
  have hEL : EW s _ own_EL := EW.cons (hw _ (List.mem_of_getElem? (i := 14) rfl)) (by decide) EW.nil
  have H0 : CHv s own_EL s.vm s.heap := CHv.start hEL (fun p hp => hcalls.1 p hp) (hsets _ (List.mem_of_getElem? (i := 2) rfl)) (hw _ (List.mem_of_getElem? (i := 17) rfl)) (hw _ (List.mem_of_getElem? (i := 16) rfl))
  obtain ⟨n, o, h1, h2, h3, _, L, rfl, ⟨rfl, N⟩, -, hq⟩ := rm0 l s _ hw tables_1 i0 i1 cz s.heap s.heap.size (Nat.le_refl _) (Old.start s) Sz Pz hEL p e ha hc hk s m _ below hf ((Spec.applies_iff_loose hf).mp happ).1 ⟨rfl, State.Warmed39.refl s, rfl, H0⟩ trivial
  refine ⟨n, _, h1, h2, h3, hpost _ _ _ _ _ _ ⟨Cond.after_iff.mpr rfl, Cond.after_iff.mpr (eq_i res_at (Term.int_eval (1)) rfl), trivial⟩ ⟨hq.1, hq.2.1, hq.2.2.1, (hq.2.2.2.sift fun y hy => Or.inr (N y hy)).mono (by decide) (by decide)⟩⟩
theorem main_1_1 : Claimed_1_1 := comes_1 fun _ _ _ _ _ _ h hF => ⟨h.1, hF⟩
theorem main_1_2 : Claimed_1_2 := comes_1 fun _ _ _ _ _ _ h hF => ⟨h.2.1, hF⟩
end Jvm.Pilot.@@N@@
namespace Jvm.Pilot.@@N@@
open Jvm Jvm.ClassFile Sem Op Lib Jvm.Free Jvm.Stand Jvm.Pilot.@@N@@.Jvm.D
/-! MADE BY PROGRAM (witnessworld.py) out of the Statement's table words and the real class files: 18 classes; the members and pool entries that the words name. The judged class is class 1, her method 1. -/
namespace start1
open Jvm.ClassFile
def u (s : String) : CpInfo := .utf8 (stringToUtf16 s)
/-- a pool by its gaps: so many unusable entries, then the entry; so many at the end -/
def gap : Nat → List CpInfo → List CpInfo
  | 0, r => r
  | n + 1, r => .unusable :: gap n r
def poolList (es : List (Nat × CpInfo)) (last : Nat) : List CpInfo := es.foldr (fun e r => gap e.1 (e.2 :: r)) (gap last [])
def pool (es : List (Nat × CpInfo)) (last : Nat) : Array CpInfo := ⟨poolList es last⟩
def fileOf (pool : Array CpInfo) (this : Nat) (attrs : Array Attribute := #[]) (ms : Array MethodInfo := #[]) (fl : Nat := 33) (sup : Nat := 0) (ifs : Array Nat := #[]) (fds : Array FieldInfo := #[]) : ClassFile where
  minorVersion := 0
  majorVersion := 65
  constantPool := pool
  accessFlags := fl
  thisClass := this
  superClass := sup
  interfaces := ifs
  fields := fds
  methods := ms
  attributes := attrs
def plain (name : String) (sup : Option ClassId) : Class where
  name := name
  kind := .ordinary
  loader := none
  accessFlags := 33
  super := sup
  interfaces := #[]
  cf := none
  fields := #[]
  methods := #[]
  instanceTypes := #[]
  staticTypes := #[]
  resolved := #[]
  callSites := []
  init := .initialized
  statics := none
  mirror := none

def pool0 : Array CpInfo := pool [(5, u "<init>"), (0, u "()V"), (1, .class_ 10), (1, u "java/lang/Object")] 113

def k0m0 : Method := { name := "<init>", desc := "()V", sig := { parameters := [], returnType := none }, accessFlags := 1, code := none }
/-- java/lang/Object -/
def k0 : Class := { plain "java/lang/Object" none with
  accessFlags := 33
  interfaces := #[]
  cf := some (fileOf pool0 8 #[] #[{ accessFlags := 1, nameIndex := 5, descriptorIndex := 6, attributes := #[] }] 33 0 #[] #[])
  fields := #[]
  methods := #[k0m0]
  instanceTypes := #[]
  staticTypes := #[]
  resolved := Array.replicate 124 none
  statics := none }

def pool1 : Array CpInfo := pool [(2, .class_ 4), (1, u "java/lang/Object"), (0, u "<init>"), (0, u "()V"), (0, .integer 131071), (0, .methodref 9 10), (0, .class_ 11), (0, .nameAndType 12 13), (0, u "com/example/verbatim_replay/verbatimreplay/StructuredFieldReader"), (0, u "isTokenCharacter"), (0, u "(I)Z"), (0, .methodref 15 16), (0, .class_ 17), (0, .nameAndType 18 13), (0, u "com/example/verbatim_replay/verbatimreplay/StructuredFieldReaderIsTokenCharacterPinLaw"), (0, u "expected"), (2, u "law"), (0, u "(II)Z")] 3

def k1m0 : Method := { name := "<init>", desc := "()V", sig := { parameters := [], returnType := none }, accessFlags := 2, code := none }
def k1c1 : Code := { maxStack := 2, maxLocals := 4, code := code, exceptionTable := #[], attributes := #[] }
def k1m1 : Method := { name := "law", desc := "(II)Z", sig := { parameters := [.int, .int], returnType := some .boolean }, accessFlags := 9, code := some k1c1 }
def k1c2 : Code := { maxStack := 2, maxLocals := 2, code := method_3_code, exceptionTable := #[], attributes := #[] }
def k1m2 : Method := { name := "expected", desc := "(I)Z", sig := { parameters := [.int], returnType := some .boolean }, accessFlags := 10, code := some k1c2 }
/-- com/example/verbatim_replay/verbatimreplay/StructuredFieldReaderIsTokenCharacterPinLaw -/
def k1 : Class := { plain "com/example/verbatim_replay/verbatimreplay/StructuredFieldReaderIsTokenCharacterPinLaw" (some 0) with
  accessFlags := 49
  interfaces := #[]
  cf := some (fileOf pool1 15 #[] #[{ accessFlags := 2, nameIndex := 5, descriptorIndex := 6, attributes := #[] }, { accessFlags := 9, nameIndex := 21, descriptorIndex := 22, attributes := #[] }, { accessFlags := 10, nameIndex := 18, descriptorIndex := 13, attributes := #[] }] 49 2 #[] #[])
  fields := #[]
  methods := #[k1m0, k1m1, k1m2]
  instanceTypes := #[]
  staticTypes := #[]
  resolved := Array.replicate 26 none
  statics := none }

def pool2 : Array CpInfo := pool [(2, .class_ 4), (1, u "java/lang/Object"), (3, .class_ 10), (1, u "com/example/verbatim_replay/verbatimreplay/StructuredFieldReader"), (0, u "input"), (0, u "Ljava/lang/String;"), (2, u "position"), (0, u "I"), (2, u "end"), (14, .class_ 36), (1, u "java/lang/String"), (65, u "indexOf"), (33, u "(I)Z"), (10, .methodref 8 148), (0, .nameAndType 149 136), (0, u "isLowercaseAlpha"), (0, .methodref 8 151), (0, .nameAndType 152 136), (0, u "isDigit"), (0, .methodref 8 154), (0, .nameAndType 155 136), (0, u "isAlpha"), (0, .string 157), (0, u "!#$%&'*+-.^_`|~"), (0, .methodref 34 159), (0, .nameAndType 102 160), (0, u "(I)I"), (2, u "isTokenCharacter"), (0, u "LIST")] 54

def k2c0 : Code := { maxStack := 2, maxLocals := 1, code := prog_27_method_15_code, exceptionTable := #[], attributes := #[] }
def k2m0 : Method := { name := "isDigit", desc := "(I)Z", sig := { parameters := [.int], returnType := some .boolean }, accessFlags := 10, code := some k2c0 }
def k2c1 : Code := { maxStack := 2, maxLocals := 1, code := prog_27_method_16_code, exceptionTable := #[], attributes := #[] }
def k2m1 : Method := { name := "isLowercaseAlpha", desc := "(I)Z", sig := { parameters := [.int], returnType := some .boolean }, accessFlags := 10, code := some k2c1 }
def k2c2 : Code := { maxStack := 2, maxLocals := 1, code := prog_27_method_17_code, exceptionTable := #[], attributes := #[] }
def k2m2 : Method := { name := "isAlpha", desc := "(I)Z", sig := { parameters := [.int], returnType := some .boolean }, accessFlags := 10, code := some k2c2 }
def k2c3 : Code := { maxStack := 2, maxLocals := 1, code := prog_27_method_19_code, exceptionTable := #[], attributes := #[] }
def k2m3 : Method := { name := "isTokenCharacter", desc := "(I)Z", sig := { parameters := [.int], returnType := some .boolean }, accessFlags := 8, code := some k2c3 }
/-- com/example/verbatim_replay/verbatimreplay/StructuredFieldReader -/
def k2 : Class := { plain "com/example/verbatim_replay/verbatimreplay/StructuredFieldReader" (some 0) with
  accessFlags := 48
  interfaces := #[]
  cf := some (fileOf pool2 8 #[] #[{ accessFlags := 10, nameIndex := 152, descriptorIndex := 136, attributes := #[] }, { accessFlags := 10, nameIndex := 149, descriptorIndex := 136, attributes := #[] }, { accessFlags := 10, nameIndex := 155, descriptorIndex := 136, attributes := #[] }, { accessFlags := 8, nameIndex := 163, descriptorIndex := 136, attributes := #[] }] 48 2 #[] #[{ accessFlags := 24, nameIndex := 164, descriptorIndex := 12, attributes := #[] }, { accessFlags := 18, nameIndex := 11, descriptorIndex := 12, attributes := #[] }, { accessFlags := 18, nameIndex := 19, descriptorIndex := 16, attributes := #[] }, { accessFlags := 2, nameIndex := 15, descriptorIndex := 16, attributes := #[] }])
  fields := #[{ name := "LIST", type := (.object "java/lang/String"), accessFlags := 24, slot := 0, constantValue := 0 }, { name := "input", type := (.object "java/lang/String"), accessFlags := 18, slot := 0, constantValue := 0 }, { name := "end", type := .int, accessFlags := 18, slot := 1, constantValue := 0 }, { name := "position", type := .int, accessFlags := 2, slot := 2, constantValue := 0 }]
  methods := #[k2m0, k2m1, k2m2, k2m3]
  instanceTypes := #[(.object "java/lang/String"), .int, .int]
  staticTypes := #[(.object "java/lang/String")]
  resolved := Array.replicate 219 none
  statics := none }

def pool3 : Array CpInfo := pool [(1, .class_ 2), (0, u "java/io/Serializable"), (0, .class_ 4), (0, u "java/lang/Object")] 2

/-- java/io/Serializable -/
def k3 : Class := { plain "java/io/Serializable" (some 0) with
  accessFlags := 1537
  interfaces := #[]
  cf := some (fileOf pool3 1 #[] #[] 1537 3 #[] #[])
  fields := #[]
  methods := #[]
  instanceTypes := #[]
  staticTypes := #[]
  resolved := Array.replicate 7 none
  statics := none }

def pool4 : Array CpInfo := pool [(1, .class_ 2), (0, u "java/lang/Comparable"), (0, .class_ 4), (0, u "java/lang/Object")] 7

/-- java/lang/Comparable -/
def k4 : Class := { plain "java/lang/Comparable" (some 0) with
  accessFlags := 1537
  interfaces := #[]
  cf := some (fileOf pool4 1 #[] #[] 1537 3 #[] #[])
  fields := #[]
  methods := #[]
  instanceTypes := #[]
  staticTypes := #[]
  resolved := Array.replicate 12 none
  statics := none }

def pool5 : Array CpInfo := pool [(2, .class_ 4), (1, u "java/lang/CharSequence"), (42, .class_ 48), (0, u "java/lang/CharSequence$1CodePointIterator"), (10, .class_ 60), (0, u "java/lang/CharSequence$1CharIterator"), (5, .class_ 67), (0, u "java/lang/Object")] 63

/-- java/lang/CharSequence -/
def k5 : Class := { plain "java/lang/CharSequence" (some 0) with
  accessFlags := 1537
  interfaces := #[]
  cf := some (fileOf pool5 2 #[.nestMembers #[47, 59]] #[] 1537 66 #[] #[])
  fields := #[]
  methods := #[]
  instanceTypes := #[]
  staticTypes := #[]
  resolved := Array.replicate 131 none
  statics := none }

def pool6 : Array CpInfo := pool [(1, .class_ 2), (0, u "java/lang/constant/Constable"), (0, .class_ 4), (0, u "java/lang/Object")] 6

/-- java/lang/constant/Constable -/
def k6 : Class := { plain "java/lang/constant/Constable" (some 0) with
  accessFlags := 1537
  interfaces := #[]
  cf := some (fileOf pool6 1 #[] #[] 1537 3 #[] #[])
  fields := #[]
  methods := #[]
  instanceTypes := #[]
  staticTypes := #[]
  resolved := Array.replicate 11 none
  statics := none }

def pool7 : Array CpInfo := pool [(1, .class_ 2), (0, u "java/lang/constant/ConstantDesc"), (0, .class_ 4), (0, u "java/lang/Object")] 32

/-- java/lang/constant/ConstantDesc -/
def k7 : Class := { plain "java/lang/constant/ConstantDesc" (some 0) with
  accessFlags := 1537
  interfaces := #[]
  cf := some (fileOf pool7 1 #[] #[] 1537 3 #[] #[])
  fields := #[]
  methods := #[]
  instanceTypes := #[]
  staticTypes := #[]
  resolved := Array.replicate 37 none
  statics := none }

def pool8 : Array CpInfo := pool [(2, .class_ 4), (1, u "java/lang/Object"), (0, u "<init>"), (0, u "()V"), (2, .fieldref 10 11), (0, .class_ 12), (0, .nameAndType 13 14), (0, u "java/lang/String"), (0, u "value"), (0, u "[B"), (0, .fieldref 10 16), (0, .nameAndType 17 18), (0, u "coder"), (0, u "B"), (2, u "hash"), (0, u "I"), (2, u "hashIsZero"), (0, u "Z"), (11, .fieldref 10 39), (0, .nameAndType 40 26), (0, u "COMPACT_STRINGS"), (66, .class_ 109), (1, u "java/lang/StringLatin1"), (32, u "()Z"), (191, u "()I"), (0, .methodref 10 336), (0, .nameAndType 17 337), (0, u "()B"), (154, .methodref 10 493), (0, .nameAndType 494 142), (0, u "isLatin1"), (10, .methodref 10 506), (0, .nameAndType 507 334), (0, u "length"), (67, .class_ 576), (0, u "java/lang/CharSequence"), (22, u "CASE_INSENSITIVE_ORDER"), (0, u "Ljava/util/Comparator;"), (32, .methodref 10 634), (0, .nameAndType 635 636), (0, u "indexOf"), (0, u "(II)I"), (0, .methodref 107 638), (0, .nameAndType 635 639), (0, u "([BIII)I"), (125, u "(I)I"), (335, u "serialPersistentFields"), (0, u "[Ljava/io/ObjectStreamField;"), (0, .class_ 1104), (0, u "java/lang/String$CaseInsensitiveComparator"), (1, .class_ 1107), (0, u "java/io/Serializable"), (0, .class_ 1109), (0, u "java/lang/Comparable"), (0, .class_ 1111), (0, u "java/lang/constant/Constable"), (0, .class_ 1113), (0, u "java/lang/constant/ConstantDesc"), (2, u "serialVersionUID"), (0, u "J"), (3, u "REPL"), (0, u "C"), (2, u "LATIN1"), (1, u "UTF16")] 323

def k8m0 : Method := { name := "<init>", desc := "()V", sig := { parameters := [], returnType := none }, accessFlags := 1, code := none }
def k8c1 : Code := { maxStack := 2, maxLocals := 1, code := jdk_42_method_54_code, exceptionTable := #[], attributes := #[] }
def k8m1 : Method := { name := "length", desc := "()I", sig := { parameters := [], returnType := some .int }, accessFlags := 1, code := some k8c1 }
def k8c2 : Code := { maxStack := 3, maxLocals := 2, code := jdk_42_method_79_code, exceptionTable := #[], attributes := #[] }
def k8m2 : Method := { name := "indexOf", desc := "(I)I", sig := { parameters := [.int], returnType := some .int }, accessFlags := 1, code := some k8c2 }
def k8c3 : Code := { maxStack := 4, maxLocals := 3, code := jdk_42_method_80_code, exceptionTable := #[], attributes := #[] }
def k8m3 : Method := { name := "indexOf", desc := "(II)I", sig := { parameters := [.int, .int], returnType := some .int }, accessFlags := 1, code := some k8c3 }
def k8c4 : Code := { maxStack := 1, maxLocals := 1, code := jdk_42_method_152_code, exceptionTable := #[], attributes := #[] }
def k8m4 : Method := { name := "coder", desc := "()B", sig := { parameters := [], returnType := some .byte }, accessFlags := 0, code := some k8c4 }
def k8c5 : Code := { maxStack := 1, maxLocals := 1, code := jdk_42_method_154_code, exceptionTable := #[], attributes := #[] }
def k8m5 : Method := { name := "isLatin1", desc := "()Z", sig := { parameters := [], returnType := some .boolean }, accessFlags := 0, code := some k8c5 }
/-- java/lang/String -/
def k8 : Class := { plain "java/lang/String" (some 0) with
  accessFlags := 49
  interfaces := #[3, 4, 5, 6, 7]
  cf := some (fileOf pool8 10 #[.nestMembers #[1103]] #[{ accessFlags := 1, nameIndex := 5, descriptorIndex := 6, attributes := #[] }, { accessFlags := 1, nameIndex := 507, descriptorIndex := 334, attributes := #[] }, { accessFlags := 1, nameIndex := 635, descriptorIndex := 765, attributes := #[] }, { accessFlags := 1, nameIndex := 635, descriptorIndex := 636, attributes := #[] }, { accessFlags := 0, nameIndex := 17, descriptorIndex := 337, attributes := #[] }, { accessFlags := 0, nameIndex := 494, descriptorIndex := 142, attributes := #[] }] 49 2 #[1106, 1108, 575, 1110, 1112] #[{ accessFlags := 18, nameIndex := 13, descriptorIndex := 14, attributes := #[] }, { accessFlags := 18, nameIndex := 17, descriptorIndex := 18, attributes := #[] }, { accessFlags := 2, nameIndex := 21, descriptorIndex := 22, attributes := #[] }, { accessFlags := 2, nameIndex := 25, descriptorIndex := 26, attributes := #[] }, { accessFlags := 26, nameIndex := 1116, descriptorIndex := 1117, attributes := #[] }, { accessFlags := 24, nameIndex := 40, descriptorIndex := 26, attributes := #[] }, { accessFlags := 26, nameIndex := 1101, descriptorIndex := 1102, attributes := #[] }, { accessFlags := 26, nameIndex := 1121, descriptorIndex := 1122, attributes := #[] }, { accessFlags := 25, nameIndex := 599, descriptorIndex := 600, attributes := #[] }, { accessFlags := 24, nameIndex := 1125, descriptorIndex := 18, attributes := #[] }, { accessFlags := 24, nameIndex := 1127, descriptorIndex := 18, attributes := #[] }])
  fields := #[{ name := "value", type := (.array .byte), accessFlags := 18, slot := 0, constantValue := 0 }, { name := "coder", type := .byte, accessFlags := 18, slot := 1, constantValue := 0 }, { name := "hash", type := .int, accessFlags := 2, slot := 2, constantValue := 0 }, { name := "hashIsZero", type := .boolean, accessFlags := 2, slot := 3, constantValue := 0 }, { name := "serialVersionUID", type := .long, accessFlags := 26, slot := 0, constantValue := 0 }, { name := "COMPACT_STRINGS", type := .boolean, accessFlags := 24, slot := 1, constantValue := 0 }, { name := "serialPersistentFields", type := (.array (.object "java/io/ObjectStreamField")), accessFlags := 26, slot := 2, constantValue := 0 }, { name := "REPL", type := .char, accessFlags := 26, slot := 3, constantValue := 0 }, { name := "CASE_INSENSITIVE_ORDER", type := (.object "java/util/Comparator"), accessFlags := 25, slot := 4, constantValue := 0 }, { name := "LATIN1", type := .byte, accessFlags := 24, slot := 5, constantValue := 0 }, { name := "UTF16", type := .byte, accessFlags := 24, slot := 6, constantValue := 0 }]
  methods := #[k8m0, k8m1, k8m2, k8m3, k8m4, k8m5]
  instanceTypes := #[(.array .byte), .byte, .int, .boolean]
  staticTypes := #[.long, .boolean, (.array (.object "java/io/ObjectStreamField")), .char, (.object "java/util/Comparator"), .byte, .byte]
  resolved := Array.replicate 1451 none
  statics := some 0 }

def pool9 : Array CpInfo := pool [(4, .class_ 6), (1, u "java/lang/Object"), (0, u "<init>"), (0, u "()V"), (5, .class_ 16), (1, u "java/lang/StringLatin1"), (21, .methodref 39 40), (0, .class_ 41), (0, .nameAndType 42 43), (0, u "java/lang/Math"), (0, u "min"), (0, u "(II)I"), (44, .methodref 14 89), (0, .nameAndType 90 91), (0, u "canEncode"), (0, u "(I)Z"), (0, .methodref 39 93), (0, .nameAndType 94 43), (0, u "max"), (0, .methodref 14 96), (0, .nameAndType 97 98), (0, u "indexOfChar"), (0, u "([BIII)I"), (2, u "indexOf"), (19, u "$assertionsDisabled"), (0, u "Z"), (98, .class_ 223), (1, u "java/lang/StringLatin1$LinesSpliterator"), (166, .class_ 391), (0, u "java/lang/StringLatin1$CharsSpliterator")] 3

def k9m0 : Method := { name := "<init>", desc := "()V", sig := { parameters := [], returnType := none }, accessFlags := 0, code := none }
def k9c1 : Code := { maxStack := 2, maxLocals := 1, code := jdk_43_method_4_code, exceptionTable := #[], attributes := #[] }
def k9m1 : Method := { name := "canEncode", desc := "(I)Z", sig := { parameters := [.int], returnType := some .boolean }, accessFlags := 9, code := some k9c1 }
def k9c2 : Code := { maxStack := 4, maxLocals := 4, code := jdk_43_method_22_code, exceptionTable := #[], attributes := #[] }
def k9m2 : Method := { name := "indexOf", desc := "([BIII)I", sig := { parameters := [(.array .byte), .int, .int, .int], returnType := some .int }, accessFlags := 9, code := some k9c2 }
def k9c3 : Code := { maxStack := 2, maxLocals := 6, code := jdk_43_method_23_code, exceptionTable := #[], attributes := #[] }
def k9m3 : Method := { name := "indexOfChar", desc := "([BIII)I", sig := { parameters := [(.array .byte), .int, .int, .int], returnType := some .int }, accessFlags := 10, code := some k9c3 }
/-- java/lang/StringLatin1 -/
def k9 : Class := { plain "java/lang/StringLatin1" (some 0) with
  accessFlags := 48
  interfaces := #[]
  cf := some (fileOf pool9 14 #[.nestMembers #[390, 221]] #[{ accessFlags := 0, nameIndex := 7, descriptorIndex := 8, attributes := #[] }, { accessFlags := 9, nameIndex := 90, descriptorIndex := 91, attributes := #[] }, { accessFlags := 9, nameIndex := 101, descriptorIndex := 98, attributes := #[] }, { accessFlags := 10, nameIndex := 97, descriptorIndex := 98, attributes := #[] }] 48 4 #[] #[{ accessFlags := 4120, nameIndex := 121, descriptorIndex := 122, attributes := #[] }])
  fields := #[{ name := "$assertionsDisabled", type := .boolean, accessFlags := 4120, slot := 0, constantValue := 0 }]
  methods := #[k9m0, k9m1, k9m2, k9m3]
  instanceTypes := #[]
  staticTypes := #[.boolean]
  resolved := Array.replicate 395 none
  statics := none }

def pool10 : Array CpInfo := pool [(1, .class_ 2), (0, u "java/lang/Math"), (1, .class_ 6), (1, u "java/lang/Object"), (0, u "<init>"), (0, u "()V"), (89, .class_ 100), (1, u "java/lang/Math$RandomNumberGeneratorHolder"), (71, u "negativeZeroFloatBits"), (0, u "J"), (2, u "negativeZeroDoubleBits"), (21, u "max"), (2, u "min"), (43, u "$assertionsDisabled"), (0, u "Z"), (88, u "(II)I"), (2, u "twoToTheDoubleScaleDown"), (0, u "D"), (4, u "twoToTheDoubleScaleUp"), (9, u "E"), (3, u "PI"), (2, u "TAU"), (2, u "DEGREES_TO_RADIANS"), (0, u "RADIANS_TO_DEGREES")] 94

def k10m0 : Method := { name := "<init>", desc := "()V", sig := { parameters := [], returnType := none }, accessFlags := 2, code := none }
def k10c1 : Code := { maxStack := 2, maxLocals := 2, code := jdk_29_method_65_code, exceptionTable := #[], attributes := #[] }
def k10m1 : Method := { name := "max", desc := "(II)I", sig := { parameters := [.int, .int], returnType := some .int }, accessFlags := 9, code := some k10c1 }
def k10c2 : Code := { maxStack := 2, maxLocals := 2, code := jdk_29_method_69_code, exceptionTable := #[], attributes := #[] }
def k10m2 : Method := { name := "min", desc := "(II)I", sig := { parameters := [.int, .int], returnType := some .int }, accessFlags := 9, code := some k10c2 }
/-- java/lang/Math -/
def k10 : Class := { plain "java/lang/Math" (some 0) with
  accessFlags := 49
  interfaces := #[]
  cf := some (fileOf pool10 1 #[.nestMembers #[98]] #[{ accessFlags := 2, nameIndex := 7, descriptorIndex := 8, attributes := #[] }, { accessFlags := 9, nameIndex := 198, descriptorIndex := 335, attributes := #[] }, { accessFlags := 9, nameIndex := 201, descriptorIndex := 335, attributes := #[] }] 49 4 #[] #[{ accessFlags := 25, nameIndex := 354, descriptorIndex := 339, attributes := #[] }, { accessFlags := 25, nameIndex := 358, descriptorIndex := 339, attributes := #[] }, { accessFlags := 25, nameIndex := 361, descriptorIndex := 339, attributes := #[] }, { accessFlags := 26, nameIndex := 364, descriptorIndex := 339, attributes := #[] }, { accessFlags := 26, nameIndex := 365, descriptorIndex := 339, attributes := #[] }, { accessFlags := 26, nameIndex := 172, descriptorIndex := 173, attributes := #[] }, { accessFlags := 26, nameIndex := 176, descriptorIndex := 173, attributes := #[] }, { accessFlags := 8, nameIndex := 344, descriptorIndex := 339, attributes := #[] }, { accessFlags := 8, nameIndex := 338, descriptorIndex := 339, attributes := #[] }, { accessFlags := 4120, nameIndex := 245, descriptorIndex := 246, attributes := #[] }])
  fields := #[{ name := "E", type := .double, accessFlags := 25, slot := 0, constantValue := 0 }, { name := "PI", type := .double, accessFlags := 25, slot := 1, constantValue := 0 }, { name := "TAU", type := .double, accessFlags := 25, slot := 2, constantValue := 0 }, { name := "DEGREES_TO_RADIANS", type := .double, accessFlags := 26, slot := 3, constantValue := 0 }, { name := "RADIANS_TO_DEGREES", type := .double, accessFlags := 26, slot := 4, constantValue := 0 }, { name := "negativeZeroFloatBits", type := .long, accessFlags := 26, slot := 5, constantValue := 0 }, { name := "negativeZeroDoubleBits", type := .long, accessFlags := 26, slot := 6, constantValue := 0 }, { name := "twoToTheDoubleScaleUp", type := .double, accessFlags := 8, slot := 7, constantValue := 0 }, { name := "twoToTheDoubleScaleDown", type := .double, accessFlags := 8, slot := 8, constantValue := 0 }, { name := "$assertionsDisabled", type := .boolean, accessFlags := 4120, slot := 9, constantValue := 0 }]
  methods := #[k10m0, k10m1, k10m2]
  instanceTypes := #[]
  staticTypes := #[.double, .double, .double, .double, .double, .long, .long, .double, .double, .boolean]
  resolved := Array.replicate 460 none
  statics := none }

def pool11 : Array CpInfo := pool [(2, .class_ 4), (1, u "java/lang/Object"), (0, u "<init>"), (0, u "()V"), (17, .class_ 26), (1, u "jdk/internal/util/Preconditions"), (28, .class_ 56), (0, u "jdk/internal/util/Preconditions$4"), (57, .class_ 115), (0, u "jdk/internal/util/Preconditions$1"), (7, u "SIOOBE_FORMATTER"), (0, u "Ljava/util/function/BiFunction;"), (0, .class_ 126), (0, u "jdk/internal/util/Preconditions$2"), (3, u "AIOOBE_FORMATTER"), (0, .class_ 132), (0, u "jdk/internal/util/Preconditions$3"), (3, u "IOOBE_FORMATTER")] 57

def k11m0 : Method := { name := "<init>", desc := "()V", sig := { parameters := [], returnType := none }, accessFlags := 1, code := none }
/-- jdk/internal/util/Preconditions -/
def k11 : Class := { plain "jdk/internal/util/Preconditions" (some 0) with
  accessFlags := 33
  interfaces := #[]
  cf := some (fileOf pool11 24 #[.nestMembers #[55, 131, 125, 114]] #[{ accessFlags := 1, nameIndex := 5, descriptorIndex := 6, attributes := #[] }] 33 2 #[] #[{ accessFlags := 25, nameIndex := 123, descriptorIndex := 124, attributes := #[] }, { accessFlags := 25, nameIndex := 130, descriptorIndex := 124, attributes := #[] }, { accessFlags := 25, nameIndex := 136, descriptorIndex := 124, attributes := #[] }])
  fields := #[{ name := "SIOOBE_FORMATTER", type := (.object "java/util/function/BiFunction"), accessFlags := 25, slot := 0, constantValue := 0 }, { name := "AIOOBE_FORMATTER", type := (.object "java/util/function/BiFunction"), accessFlags := 25, slot := 1, constantValue := 0 }, { name := "IOOBE_FORMATTER", type := (.object "java/util/function/BiFunction"), accessFlags := 25, slot := 2, constantValue := 0 }]
  methods := #[k11m0]
  instanceTypes := #[]
  staticTypes := #[(.object "java/util/function/BiFunction"), (.object "java/util/function/BiFunction"), (.object "java/util/function/BiFunction")]
  resolved := Array.replicate 194 none
  statics := some 1 }

def pool12 : Array CpInfo := pool [(9, u "<init>"), (6, .class_ 18), (1, u "java/lang/Object"), (0, u "()V"), (1, .class_ 23), (1, u "jdk/internal/util/ArraysSupport"), (0, u "LOG2_ARRAY_LONG_INDEX_SCALE"), (0, u "I"), (2, u "U"), (0, u "Ljdk/internal/misc/Unsafe;"), (8, u "BIG_ENDIAN"), (0, u "Z"), (8, u "LOG2_BYTE_BIT_SIZE"), (4, u "LOG2_ARRAY_INT_INDEX_SCALE"), (54, u "JLA"), (0, u "Ljdk/internal/access/JavaLangAccess;"), (11, u "LOG2_ARRAY_BOOLEAN_INDEX_SCALE"), (9, u "LOG2_ARRAY_BYTE_INDEX_SCALE"), (5, u "LOG2_ARRAY_CHAR_INDEX_SCALE"), (5, u "LOG2_ARRAY_SHORT_INDEX_SCALE"), (18, u "LOG2_ARRAY_FLOAT_INDEX_SCALE"), (24, u "LOG2_ARRAY_DOUBLE_INDEX_SCALE"), (89, u "T_BOOLEAN"), (2, u "T_CHAR"), (1, u "T_FLOAT"), (1, u "T_DOUBLE"), (1, u "T_BYTE"), (1, u "T_SHORT"), (1, u "T_INT"), (1, u "T_LONG"), (1, u "SOFT_MAX_ARRAY_LENGTH")] 83

def k12m0 : Method := { name := "<init>", desc := "()V", sig := { parameters := [], returnType := none }, accessFlags := 2, code := none }
/-- jdk/internal/util/ArraysSupport -/
def k12 : Class := { plain "jdk/internal/util/ArraysSupport" (some 0) with
  accessFlags := 33
  interfaces := #[]
  cf := some (fileOf pool12 21 #[] #[{ accessFlags := 2, nameIndex := 9, descriptorIndex := 19, attributes := #[] }] 33 16 #[] #[{ accessFlags := 24, nameIndex := 28, descriptorIndex := 29, attributes := #[] }, { accessFlags := 26, nameIndex := 38, descriptorIndex := 39, attributes := #[] }, { accessFlags := 25, nameIndex := 121, descriptorIndex := 25, attributes := #[] }, { accessFlags := 25, nameIndex := 131, descriptorIndex := 25, attributes := #[] }, { accessFlags := 25, nameIndex := 137, descriptorIndex := 25, attributes := #[] }, { accessFlags := 25, nameIndex := 143, descriptorIndex := 25, attributes := #[] }, { accessFlags := 25, nameIndex := 53, descriptorIndex := 25, attributes := #[] }, { accessFlags := 25, nameIndex := 24, descriptorIndex := 25, attributes := #[] }, { accessFlags := 25, nameIndex := 162, descriptorIndex := 25, attributes := #[] }, { accessFlags := 25, nameIndex := 187, descriptorIndex := 25, attributes := #[] }, { accessFlags := 26, nameIndex := 48, descriptorIndex := 25, attributes := #[] }, { accessFlags := 25, nameIndex := 277, descriptorIndex := 25, attributes := #[] }, { accessFlags := 25, nameIndex := 280, descriptorIndex := 25, attributes := #[] }, { accessFlags := 25, nameIndex := 282, descriptorIndex := 25, attributes := #[] }, { accessFlags := 25, nameIndex := 284, descriptorIndex := 25, attributes := #[] }, { accessFlags := 25, nameIndex := 286, descriptorIndex := 25, attributes := #[] }, { accessFlags := 25, nameIndex := 288, descriptorIndex := 25, attributes := #[] }, { accessFlags := 25, nameIndex := 290, descriptorIndex := 25, attributes := #[] }, { accessFlags := 25, nameIndex := 292, descriptorIndex := 25, attributes := #[] }, { accessFlags := 26, nameIndex := 108, descriptorIndex := 109, attributes := #[] }, { accessFlags := 25, nameIndex := 294, descriptorIndex := 25, attributes := #[] }])
  fields := #[{ name := "U", type := (.object "jdk/internal/misc/Unsafe"), accessFlags := 24, slot := 0, constantValue := 0 }, { name := "BIG_ENDIAN", type := .boolean, accessFlags := 26, slot := 1, constantValue := 0 }, { name := "LOG2_ARRAY_BOOLEAN_INDEX_SCALE", type := .int, accessFlags := 25, slot := 2, constantValue := 0 }, { name := "LOG2_ARRAY_BYTE_INDEX_SCALE", type := .int, accessFlags := 25, slot := 3, constantValue := 0 }, { name := "LOG2_ARRAY_CHAR_INDEX_SCALE", type := .int, accessFlags := 25, slot := 4, constantValue := 0 }, { name := "LOG2_ARRAY_SHORT_INDEX_SCALE", type := .int, accessFlags := 25, slot := 5, constantValue := 0 }, { name := "LOG2_ARRAY_INT_INDEX_SCALE", type := .int, accessFlags := 25, slot := 6, constantValue := 0 }, { name := "LOG2_ARRAY_LONG_INDEX_SCALE", type := .int, accessFlags := 25, slot := 7, constantValue := 0 }, { name := "LOG2_ARRAY_FLOAT_INDEX_SCALE", type := .int, accessFlags := 25, slot := 8, constantValue := 0 }, { name := "LOG2_ARRAY_DOUBLE_INDEX_SCALE", type := .int, accessFlags := 25, slot := 9, constantValue := 0 }, { name := "LOG2_BYTE_BIT_SIZE", type := .int, accessFlags := 26, slot := 10, constantValue := 0 }, { name := "T_BOOLEAN", type := .int, accessFlags := 25, slot := 11, constantValue := 0 }, { name := "T_CHAR", type := .int, accessFlags := 25, slot := 12, constantValue := 0 }, { name := "T_FLOAT", type := .int, accessFlags := 25, slot := 13, constantValue := 0 }, { name := "T_DOUBLE", type := .int, accessFlags := 25, slot := 14, constantValue := 0 }, { name := "T_BYTE", type := .int, accessFlags := 25, slot := 15, constantValue := 0 }, { name := "T_SHORT", type := .int, accessFlags := 25, slot := 16, constantValue := 0 }, { name := "T_INT", type := .int, accessFlags := 25, slot := 17, constantValue := 0 }, { name := "T_LONG", type := .int, accessFlags := 25, slot := 18, constantValue := 0 }, { name := "JLA", type := (.object "jdk/internal/access/JavaLangAccess"), accessFlags := 26, slot := 19, constantValue := 0 }, { name := "SOFT_MAX_ARRAY_LENGTH", type := .int, accessFlags := 25, slot := 20, constantValue := 0 }]
  methods := #[k12m0]
  instanceTypes := #[]
  staticTypes := #[(.object "jdk/internal/misc/Unsafe"), .boolean, .int, .int, .int, .int, .int, .int, .int, .int, .int, .int, .int, .int, .int, .int, .int, .int, .int, (.object "jdk/internal/access/JavaLangAccess"), .int]
  resolved := Array.replicate 378 none
  statics := none }

def pool13 : Array CpInfo := pool [(1, u "java/lang/Cloneable"), (0, .class_ 1), (0, u "java/lang/Object"), (0, .class_ 3)] 3

/-- java/lang/Cloneable -/
def k13 : Class := { plain "java/lang/Cloneable" (some 0) with
  accessFlags := 1537
  interfaces := #[]
  cf := some (fileOf pool13 2 #[] #[] 1537 4 #[] #[])
  fields := #[]
  methods := #[]
  instanceTypes := #[]
  staticTypes := #[]
  resolved := Array.replicate 8 none
  statics := none }

/-- the primitive byte -/
def k14 : Class := { plain "byte" none with kind := .primitive 'B', accessFlags := 0x411 }
/-- [B -/
def k15 : Class := { plain "[B" (some 0) with kind := .array 14 .byte, interfaces := #[13, 3], accessFlags := 1041 }

/-- the primitive int -/
def k16 : Class := { plain "int" none with kind := .primitive 'I', accessFlags := 0x411 }
/-- [I -/
def k17 : Class := { plain "[I" (some 0) with kind := .array 16 .int, interfaces := #[13, 3], accessFlags := 1041 }

def heap : Heap := #[{ cls := 8, slots := #[.long 0, .int 1, .null, .int 0, .null, .int 0, .int 0], vm := .statics 8 },
  { cls := 11, slots := #[.null, .null, .null], vm := .statics 11 }]
def classes : Array Class := #[k0, k1, k2, k3, k4, k5, k6, k7, k8, k9, k10, k11, k12, k13, k14, k15, k16, k17]
def interned : List (Array UInt16 × Addr) := []
def slotsUsed : Nat := 10
def theMethod : MethodId := ⟨1, 1⟩
def args0 : Array Value := #[.int 5, .int 3]
def aboutOver (below : List Frame) : State where
  vm := { classes := classes, interned := interned.toArray }
  heap := heap
  slotsUsed := slotsUsed
  threads := #[{ frames := .invoking theMethod args0 :: below }]
def below0 : List Frame := [.native { method := ⟨0, 0⟩, args := #[] }]
def about1 : State := aboutOver below0
def p0 : Program := .bare "" "" ""
def e0 : Env := launch0.env 0 0 0
theorem w_frames : about1.frames = Frame.invoking theMethod args0 :: below0 := rfl
set_option maxRecDepth 65536 in
theorem w_args : argsFit about1.vm theMethod args0 = true := by decide +kernel
set_option maxRecDepth 65536 in
theorem w_heap : heapFits about1 = true := by decide +kernel
set_option maxRecDepth 65536 in
theorem w_runnable : about1.curStatus? = some .runnable := by decide +kernel
set_option maxRecDepth 65536 in
theorem w_alone : about1.alone = true := by decide +kernel
set_option maxRecDepth 65536 in
theorem w_named : about1.methodNamed? x = some theMethod := by decide +kernel
set_option maxRecDepth 65536 in
theorem w_hears : about1.hears theMethod below0 = true := by decide +kernel
set_option maxRecDepth 65536 in
theorem w_ripe : about1.ripe theMethod args0 below0 = true := by decide +kernel
theorem w_running : about1.status = .running := rfl
set_option maxRecDepth 65536 in
theorem w_room : about1.hasRoom e0.platform room_1 = true :=
  launch0.hasRoom_least _ room_1 (by decide +kernel) (by decide +kernel) (by decide +kernel) (by decide +kernel) (by decide +kernel) (by decide +kernel)
theorem allAtoms_all (ts : List Jvm.Cond) (a : Array Jvm.Value) (st : Jvm.State) : (allAtoms ts).before a st = ts.all (fun c => c.before a st) := by
  induction ts with
  | nil => rfl
  | cons c t ih =>
    show (Jvm.Cond.and c (allAtoms t)).before a st = _
    rw [Jvm.Cond.before_and, ih, List.all_cons]
def words1 : List Jvm.Cond := Jvm.Cond.code x code maxLocals ret :: tables_1
/-- a 'code' word, met by the world's own term for the bytes: nothing is compared byte by byte -/
theorem code_word {y : MethodName} {bytes : ByteArray} {mx : Nat} {rt : Option FieldType} {a : Array Value} {s : State} {m : MethodId} {meth : Method} {c : Code} (h1 : s.methodNamed? y = some m) (h2 : s.vm.method? m = some meth) (h3 : meth.code = some c) (h4 : c.code = bytes)
    (h5 : (c.maxLocals == mx && c.exceptionTable.isEmpty && decide (c.maxStack ≤ mostOperands) && decide (meth.sig.returnType = rt) && !meth.locks && decide (parseMethodDescriptor y.desc = some meth.sig)) = true) : (Jvm.Cond.code y bytes mx rt).before a s = true := by
  simp only [Bool.and_eq_true, beq_iff_eq, Bool.not_eq_true', decide_eq_true_eq] at h5
  obtain ⟨⟨⟨⟨⟨g1, g2⟩, g3⟩, g4⟩, g5⟩, g6⟩ := h5
  simp [Cond.before, Cond.holds, Cond.value, h1, h2, h3, h4, g1, g2, g3, g4, g5, g6]
def isCode : Jvm.Cond → Bool
  | .code _ _ _ _ => true
  | _ => false
theorem all_split {L : List Jvm.Cond} {P : Jvm.Cond → Bool} (h1 : L.all (fun c => isCode c || P c) = true) (h2 : ∀ c ∈ L.filter isCode, P c = true) : L.all P = true := by
  refine List.all_eq_true.mpr fun c hc => ?_
  have h := List.all_eq_true.mp h1 c hc
  rcases Bool.eq_false_or_eq_true (isCode c) with hi | hi
  · exact h2 c (List.mem_filter.mpr ⟨hc, hi⟩)
  · simpa [hi] using h
set_option maxRecDepth 65536 in
theorem w_c0 : (Jvm.Cond.code x code maxLocals ret).before args0 about1 = true := code_word (m := ⟨1, 1⟩) (meth := k1m1) (c := k1c1) (by decide +kernel) rfl rfl rfl (by decide +kernel)
set_option maxRecDepth 65536 in
theorem w_c1 : (Jvm.Cond.code ({ cls := "com/example/verbatim_replay/verbatimreplay/StructuredFieldReader", name := "isTokenCharacter", desc := "(I)Z" } : Jvm.MethodName) prog_27_method_19_code (1 : Nat) (Option.some Jvm.ClassFile.FieldType.boolean)).before args0 about1 = true := code_word (m := ⟨2, 3⟩) (meth := k2m3) (c := k2c3) (by decide +kernel) rfl rfl rfl (by decide +kernel)
set_option maxRecDepth 65536 in
theorem w_c2 : (Jvm.Cond.code ({ cls := "com/example/verbatim_replay/verbatimreplay/StructuredFieldReader", name := "isAlpha", desc := "(I)Z" } : Jvm.MethodName) prog_27_method_17_code (1 : Nat) (Option.some Jvm.ClassFile.FieldType.boolean)).before args0 about1 = true := code_word (m := ⟨2, 2⟩) (meth := k2m2) (c := k2c2) (by decide +kernel) rfl rfl rfl (by decide +kernel)
set_option maxRecDepth 65536 in
theorem w_c3 : (Jvm.Cond.code ({ cls := "com/example/verbatim_replay/verbatimreplay/StructuredFieldReader", name := "isLowercaseAlpha", desc := "(I)Z" } : Jvm.MethodName) prog_27_method_16_code (1 : Nat) (Option.some Jvm.ClassFile.FieldType.boolean)).before args0 about1 = true := code_word (m := ⟨2, 1⟩) (meth := k2m1) (c := k2c1) (by decide +kernel) rfl rfl rfl (by decide +kernel)
set_option maxRecDepth 65536 in
theorem w_c4 : (Jvm.Cond.code ({ cls := "com/example/verbatim_replay/verbatimreplay/StructuredFieldReader", name := "isDigit", desc := "(I)Z" } : Jvm.MethodName) prog_27_method_15_code (1 : Nat) (Option.some Jvm.ClassFile.FieldType.boolean)).before args0 about1 = true := code_word (m := ⟨2, 0⟩) (meth := k2m0) (c := k2c0) (by decide +kernel) rfl rfl rfl (by decide +kernel)
set_option maxRecDepth 65536 in
theorem w_c5 : (Jvm.Cond.code ({ cls := "java/lang/String", name := "indexOf", desc := "(I)I" } : Jvm.MethodName) jdk_42_method_79_code (2 : Nat) (Option.some Jvm.ClassFile.FieldType.int)).before args0 about1 = true := code_word (m := ⟨8, 2⟩) (meth := k8m2) (c := k8c2) (by decide +kernel) rfl rfl rfl (by decide +kernel)
set_option maxRecDepth 65536 in
theorem w_c6 : (Jvm.Cond.code ({ cls := "java/lang/String", name := "indexOf", desc := "(II)I" } : Jvm.MethodName) jdk_42_method_80_code (3 : Nat) (Option.some Jvm.ClassFile.FieldType.int)).before args0 about1 = true := code_word (m := ⟨8, 3⟩) (meth := k8m3) (c := k8c3) (by decide +kernel) rfl rfl rfl (by decide +kernel)
set_option maxRecDepth 65536 in
theorem w_c7 : (Jvm.Cond.code ({ cls := "java/lang/String", name := "isLatin1", desc := "()Z" } : Jvm.MethodName) jdk_42_method_154_code (1 : Nat) (Option.some Jvm.ClassFile.FieldType.boolean)).before args0 about1 = true := code_word (m := ⟨8, 5⟩) (meth := k8m5) (c := k8c5) (by decide +kernel) rfl rfl rfl (by decide +kernel)
set_option maxRecDepth 65536 in
theorem w_c8 : (Jvm.Cond.code ({ cls := "java/lang/String", name := "length", desc := "()I" } : Jvm.MethodName) jdk_42_method_54_code (1 : Nat) (Option.some Jvm.ClassFile.FieldType.int)).before args0 about1 = true := code_word (m := ⟨8, 1⟩) (meth := k8m1) (c := k8c1) (by decide +kernel) rfl rfl rfl (by decide +kernel)
set_option maxRecDepth 65536 in
theorem w_c9 : (Jvm.Cond.code ({ cls := "java/lang/String", name := "coder", desc := "()B" } : Jvm.MethodName) jdk_42_method_152_code (1 : Nat) (Option.some Jvm.ClassFile.FieldType.byte)).before args0 about1 = true := code_word (m := ⟨8, 4⟩) (meth := k8m4) (c := k8c4) (by decide +kernel) rfl rfl rfl (by decide +kernel)
set_option maxRecDepth 65536 in
theorem w_c10 : (Jvm.Cond.code ({ cls := "java/lang/StringLatin1", name := "indexOf", desc := "([BIII)I" } : Jvm.MethodName) jdk_43_method_22_code (4 : Nat) (Option.some Jvm.ClassFile.FieldType.int)).before args0 about1 = true := code_word (m := ⟨9, 2⟩) (meth := k9m2) (c := k9c2) (by decide +kernel) rfl rfl rfl (by decide +kernel)
set_option maxRecDepth 65536 in
theorem w_c11 : (Jvm.Cond.code ({ cls := "java/lang/StringLatin1", name := "canEncode", desc := "(I)Z" } : Jvm.MethodName) jdk_43_method_4_code (1 : Nat) (Option.some Jvm.ClassFile.FieldType.boolean)).before args0 about1 = true := code_word (m := ⟨9, 1⟩) (meth := k9m1) (c := k9c1) (by decide +kernel) rfl rfl rfl (by decide +kernel)
set_option maxRecDepth 65536 in
theorem w_c12 : (Jvm.Cond.code ({ cls := "java/lang/Math", name := "max", desc := "(II)I" } : Jvm.MethodName) jdk_29_method_65_code (2 : Nat) (Option.some Jvm.ClassFile.FieldType.int)).before args0 about1 = true := code_word (m := ⟨10, 1⟩) (meth := k10m1) (c := k10c1) (by decide +kernel) rfl rfl rfl (by decide +kernel)
set_option maxRecDepth 65536 in
theorem w_c13 : (Jvm.Cond.code ({ cls := "java/lang/Math", name := "min", desc := "(II)I" } : Jvm.MethodName) jdk_29_method_69_code (2 : Nat) (Option.some Jvm.ClassFile.FieldType.int)).before args0 about1 = true := code_word (m := ⟨10, 2⟩) (meth := k10m2) (c := k10c2) (by decide +kernel) rfl rfl rfl (by decide +kernel)
set_option maxRecDepth 65536 in
theorem w_c14 : (Jvm.Cond.code ({ cls := "java/lang/StringLatin1", name := "indexOfChar", desc := "([BIII)I" } : Jvm.MethodName) jdk_43_method_23_code (6 : Nat) (Option.some Jvm.ClassFile.FieldType.int)).before args0 about1 = true := code_word (m := ⟨9, 3⟩) (meth := k9m3) (c := k9c3) (by decide +kernel) rfl rfl rfl (by decide +kernel)
set_option maxRecDepth 65536 in
theorem w_c15 : (Jvm.Cond.code ({ cls := "com/example/verbatim_replay/verbatimreplay/StructuredFieldReaderIsTokenCharacterPinLaw", name := "expected", desc := "(I)Z" } : Jvm.MethodName) method_3_code (2 : Nat) (Option.some Jvm.ClassFile.FieldType.boolean)).before args0 about1 = true := code_word (m := ⟨1, 2⟩) (meth := k1m2) (c := k1c2) (by decide +kernel) rfl rfl rfl (by decide +kernel)
def codes1 : List Jvm.Cond := [Jvm.Cond.code x code maxLocals ret, Jvm.Cond.code ({ cls := "com/example/verbatim_replay/verbatimreplay/StructuredFieldReader", name := "isTokenCharacter", desc := "(I)Z" } : Jvm.MethodName) prog_27_method_19_code (1 : Nat) (Option.some Jvm.ClassFile.FieldType.boolean), Jvm.Cond.code ({ cls := "com/example/verbatim_replay/verbatimreplay/StructuredFieldReader", name := "isAlpha", desc := "(I)Z" } : Jvm.MethodName) prog_27_method_17_code (1 : Nat) (Option.some Jvm.ClassFile.FieldType.boolean), Jvm.Cond.code ({ cls := "com/example/verbatim_replay/verbatimreplay/StructuredFieldReader", name := "isLowercaseAlpha", desc := "(I)Z" } : Jvm.MethodName) prog_27_method_16_code (1 : Nat) (Option.some Jvm.ClassFile.FieldType.boolean), Jvm.Cond.code ({ cls := "com/example/verbatim_replay/verbatimreplay/StructuredFieldReader", name := "isDigit", desc := "(I)Z" } : Jvm.MethodName) prog_27_method_15_code (1 : Nat) (Option.some Jvm.ClassFile.FieldType.boolean), Jvm.Cond.code ({ cls := "java/lang/String", name := "indexOf", desc := "(I)I" } : Jvm.MethodName) jdk_42_method_79_code (2 : Nat) (Option.some Jvm.ClassFile.FieldType.int), Jvm.Cond.code ({ cls := "java/lang/String", name := "indexOf", desc := "(II)I" } : Jvm.MethodName) jdk_42_method_80_code (3 : Nat) (Option.some Jvm.ClassFile.FieldType.int), Jvm.Cond.code ({ cls := "java/lang/String", name := "isLatin1", desc := "()Z" } : Jvm.MethodName) jdk_42_method_154_code (1 : Nat) (Option.some Jvm.ClassFile.FieldType.boolean), Jvm.Cond.code ({ cls := "java/lang/String", name := "length", desc := "()I" } : Jvm.MethodName) jdk_42_method_54_code (1 : Nat) (Option.some Jvm.ClassFile.FieldType.int), Jvm.Cond.code ({ cls := "java/lang/String", name := "coder", desc := "()B" } : Jvm.MethodName) jdk_42_method_152_code (1 : Nat) (Option.some Jvm.ClassFile.FieldType.byte), Jvm.Cond.code ({ cls := "java/lang/StringLatin1", name := "indexOf", desc := "([BIII)I" } : Jvm.MethodName) jdk_43_method_22_code (4 : Nat) (Option.some Jvm.ClassFile.FieldType.int), Jvm.Cond.code ({ cls := "java/lang/StringLatin1", name := "canEncode", desc := "(I)Z" } : Jvm.MethodName) jdk_43_method_4_code (1 : Nat) (Option.some Jvm.ClassFile.FieldType.boolean), Jvm.Cond.code ({ cls := "java/lang/Math", name := "max", desc := "(II)I" } : Jvm.MethodName) jdk_29_method_65_code (2 : Nat) (Option.some Jvm.ClassFile.FieldType.int), Jvm.Cond.code ({ cls := "java/lang/Math", name := "min", desc := "(II)I" } : Jvm.MethodName) jdk_29_method_69_code (2 : Nat) (Option.some Jvm.ClassFile.FieldType.int), Jvm.Cond.code ({ cls := "java/lang/StringLatin1", name := "indexOfChar", desc := "([BIII)I" } : Jvm.MethodName) jdk_43_method_23_code (6 : Nat) (Option.some Jvm.ClassFile.FieldType.int), Jvm.Cond.code ({ cls := "com/example/verbatim_replay/verbatimreplay/StructuredFieldReaderIsTokenCharacterPinLaw", name := "expected", desc := "(I)Z" } : Jvm.MethodName) method_3_code (2 : Nat) (Option.some Jvm.ClassFile.FieldType.boolean)]
set_option maxRecDepth 65536 in
theorem codes_eq : words1.filter isCode = codes1 := rfl
theorem w_codes : ∀ c ∈ words1.filter isCode, c.before args0 about1 = true := by
  rw [codes_eq]
  intro c hc
  simp only [codes1, List.mem_cons, List.not_mem_nil, or_false] at hc
  rcases hc with rfl | rfl | rfl | rfl | rfl | rfl | rfl | rfl | rfl | rfl | rfl | rfl | rfl | rfl | rfl | rfl
  · exact w_c0
  · exact w_c1
  · exact w_c2
  · exact w_c3
  · exact w_c4
  · exact w_c5
  · exact w_c6
  · exact w_c7
  · exact w_c8
  · exact w_c9
  · exact w_c10
  · exact w_c11
  · exact w_c12
  · exact w_c13
  · exact w_c14
  · exact w_c15
set_option maxRecDepth 65536 in
theorem w_t1 : (words1.take 24).all (fun c => isCode c || c.before args0 about1) = true := by decide +kernel
set_option maxRecDepth 65536 in
theorem w_t2 : ((words1.drop 24).take 24).all (fun c => isCode c || c.before args0 about1) = true := by decide +kernel
set_option maxRecDepth 65536 in
theorem w_t3 : ((words1.drop 24).drop 24).all (fun c => isCode c || c.before args0 about1) = true := by decide +kernel
theorem w_tables : (allAtoms (Jvm.Cond.code x code maxLocals ret :: tables_1)).before args0 about1 = true := by
  rw [allAtoms_all]
  show words1.all (fun c => c.before args0 about1) = true
  refine all_split ?_ w_codes
  rw [← List.take_append_drop 24 words1, List.all_append, w_t1, ← List.take_append_drop 24 (words1.drop 24), List.all_append, w_t2, w_t3]
  rfl
set_option maxRecDepth 65536 in
theorem w_rest : rest_1_c.before args0 about1 = true := by decide +kernel
set_option maxRecDepth 65536 in
theorem w_case : (Jvm.Cond.and given_1 narrow_1).before args0 about1 = true := by decide +kernel
set_option maxRecDepth 65536 in
theorem w_consts : constsHeld consts_1 about1 := Jvm.Lit.constsHeldB_iff.mp (by decide +kernel)
theorem w_applies : (headSpec (Jvm.Cond.code x code maxLocals ret :: tables_1) room_1).applies x e0.platform about1 = true :=
  (Spec.applies_iff w_frames).mpr ⟨w_running, w_runnable, w_alone, w_named, w_hears, w_ripe, w_room, w_tables⟩
theorem atStart : AtStart classFile x code maxLocals ret World_1 tables_1 room_1 Calls_1 rest_1 Pre_1 launch0 p0 e0 about1 theMethod args0 below0 :=
  ⟨lists_1, trivial, launch0.admits_env _ _ _, launch0.least_env, fairChoices_fair.cas, fairChoices_fair.clock, w_frames, w_args, w_heap, w_applies, ⟨w_consts, trivial⟩, w_rest, w_case⟩
end start1
theorem witness_1 : WitnessClaimed_1 := ⟨start1.p0, start1.e0, start1.about1, start1.theMethod, start1.args0, start1.below0, start1.atStart⟩
end Jvm.Pilot.@@N@@
