import JvmDerived
import JvmDerived.Pilot.@@N@@Statement
import JvmDerived.Pilot.@@N@@Code
set_option linter.unusedVariables false
set_option linter.unusedSimpArgs false
namespace Jvm.Pilot.@@N@@
open Jvm Jvm.ClassFile Sem Op Lib Jvm.Free Jvm.Stand Jvm.LawKit Jvm.RoadKit Bundle Jvm.Pilot.@@N@@.Jvm.D
/-- a boolean as an int -/
def own_b (P : Prop) [Decidable P] : Int32 := if P then 1 else 0
theorem own_b1 {P : Prop} [Decidable P] (h : P) : own_b P = 1 := if_pos h
theorem own_b0 {P : Prop} [Decidable P] (h : ¬ P) : own_b P = 0 := if_neg h
theorem own_b0_eq_f {P : Prop} [Decidable P] (h : P) : ifCond.holds .eq (own_b P) = false := by rw [own_b1 h]; rfl
theorem own_b0_eq_t {P : Prop} [Decidable P] (h : ¬ P) : ifCond.holds .eq (own_b P) = true := by rw [own_b0 h]; rfl
theorem own_b0_ne_t {P : Prop} [Decidable P] (h : P) : ifCond.holds .ne (own_b P) = true := by rw [own_b1 h]; rfl
theorem own_b0_ne_f {P : Prop} [Decidable P] (h : ¬ P) : ifCond.holds .ne (own_b P) = false := by rw [own_b0 h]; rfl
theorem own_bnar (P : Prop) [Decidable P] : nar .boolean (own_b P) = own_b P := by by_cases h : P <;> simp [own_b, h, nar]
theorem own_biff {P Q : Prop} [Decidable P] [Decidable Q] (h : P ↔ Q) : own_b P = own_b Q := by by_cases q : Q <;> simp [own_b, h, q]
/-! own_Go: from T with the frame g on top the method's run comes to an end of which P holds. One rule a plain instruction, so that a walk may fork anywhere. -/
def own_Go (p : Program) (e : Env) (below : List Frame) (P : State → Outcome → Prop) (T : State) (g : JFrame) : Prop :=
  ∃ s₂ o, Steps p.tables e below (T.setTop g) s₂ ∧ s₂.status = .running ∧ Ended s₂ below o ∧ P s₂ o
section OwnGo
variable {p : Program} {l : Launch} {e : Env} {R : Room} {s : State} {m : MethodId} {args : Array Value} {below : List Frame} {meth : Method} {c : Code} {T T' : State} {locs : List Loc} {cells slots : Nat} {P : State → Outcome → Prop} {Ls Ls' : Array Slot} {st : List Value} {pc pc' : Nat} {g g' : JFrame}
theorem own_st (h : ∀ t, Steps p.tables e below (T'.setTop g') t → Steps p.tables e below (T.setTop g) t) (k : own_Go p e below P T' g') : own_Go p e below P T g := by
  obtain ⟨s₂, o, h1, h2⟩ := k; exact ⟨s₂, o, h _ h1, h2⟩
theorem own_tr (h : Steps p.tables e below (T.setTop g) (T'.setTop g')) (k : own_Go p e below P T' g') : own_Go p e below P T g := by
  obtain ⟨s₂, o, h1, h2⟩ := k; exact ⟨s₂, o, h.trans h1, h2⟩
theorem own_aloadN (X : Stand p l e R s m args below meth c T locs cells slots) (hx : p.tables.exec = Jvm.exec) {k : Fin 4} {v : Value} (hd : decode c.code pc = .ok (.aload_n k, 1)) (hp : pc + 1 = pc') (hl : Ls[k.val]? = some (.val v)) (hv : v.isRef = true) (h : own_Go p e below P T (mkF m pc' Ls (v :: st))) : own_Go p e below P T (mkF m pc Ls st) := by
  subst hp; exact own_st (fun t k => XS.aloadN X.here hx rfl hd hl hv k) h
theorem own_aload (X : Stand p l e R s m args below meth c T locs cells slots) (hx : p.tables.exec = Jvm.exec) {k : Nat} {v : Value} (hd : decode c.code pc = .ok (.aload k, 2)) (hp : pc + 2 = pc') (hl : Ls[k]? = some (.val v)) (hv : v.isRef = true) (h : own_Go p e below P T (mkF m pc' Ls (v :: st))) : own_Go p e below P T (mkF m pc Ls st) := by
  subst hp; exact own_st (fun t k => XS.aload X.here hx rfl hd hl hv k) h
theorem own_iloadN (X : Stand p l e R s m args below meth c T locs cells slots) (hx : p.tables.exec = Jvm.exec) {k : Fin 4} {v : Int32} (hd : decode c.code pc = .ok (.iload_n k, 1)) (hp : pc + 1 = pc') (hl : Ls[k.val]? = some (.val (.int v))) (h : own_Go p e below P T (mkF m pc' Ls (.int v :: st))) : own_Go p e below P T (mkF m pc Ls st) := by
  subst hp; exact own_st (fun t k => XS.iloadN X.here hx rfl hd hl k) h
theorem own_iload (X : Stand p l e R s m args below meth c T locs cells slots) (hx : p.tables.exec = Jvm.exec) {k : Nat} {v : Int32} (hd : decode c.code pc = .ok (.iload k, 2)) (hp : pc + 2 = pc') (hl : Ls[k]? = some (.val (.int v))) (h : own_Go p e below P T (mkF m pc' Ls (.int v :: st))) : own_Go p e below P T (mkF m pc Ls st) := by
  subst hp; exact own_st (fun t k => XS.iload X.here hx rfl hd hl k) h
theorem own_lloadN (X : Stand p l e R s m args below meth c T locs cells slots) (hx : p.tables.exec = Jvm.exec) {k : Fin 4} {v : Int64} (hd : decode c.code pc = .ok (.lload_n k, 1)) (hp : pc + 1 = pc') (hl : Ls[k.val]? = some (.val (.long v))) (h : own_Go p e below P T (mkF m pc' Ls (.long v :: st))) : own_Go p e below P T (mkF m pc Ls st) := by
  subst hp; exact own_st (fun t k => XT.lloadN X.here hx rfl hd hl k) h
theorem own_lload (X : Stand p l e R s m args below meth c T locs cells slots) (hx : p.tables.exec = Jvm.exec) {k : Nat} {v : Int64} (hd : decode c.code pc = .ok (.lload k, 2)) (hp : pc + 2 = pc') (hl : Ls[k]? = some (.val (.long v))) (h : own_Go p e below P T (mkF m pc' Ls (.long v :: st))) : own_Go p e below P T (mkF m pc Ls st) := by
  subst hp; exact own_st (fun t k => XT.lload X.here hx rfl hd hl k) h
theorem own_iconst (X : Stand p l e R s m args below meth c T locs cells slots) (hx : p.tables.exec = Jvm.exec) {i : Int} (v : Int32) (hd : decode c.code pc = .ok (.iconst i, 1)) (hp : pc + 1 = pc') (hv : Int32.ofInt i = v) (h : own_Go p e below P T (mkF m pc' Ls (.int v :: st))) : own_Go p e below P T (mkF m pc Ls st) := by
  subst hp hv; exact own_st (fun t k => XS.iconst X.here hx rfl hd k) h
theorem own_bipush (X : Stand p l e R s m args below meth c T locs cells slots) (hx : p.tables.exec = Jvm.exec) {i : Int} (v : Int32) (hd : decode c.code pc = .ok (.bipush i, 2)) (hp : pc + 2 = pc') (hv : (Int8.ofInt i).toInt32 = v) (h : own_Go p e below P T (mkF m pc' Ls (.int v :: st))) : own_Go p e below P T (mkF m pc Ls st) := by
  subst hp hv; exact own_st (fun t k => XS.bipush X.here hx rfl hd k) h
theorem own_sipush (X : Stand p l e R s m args below meth c T locs cells slots) (hx : p.tables.exec = Jvm.exec) {i : Int} (v : Int32) (hd : decode c.code pc = .ok (.sipush i, 3)) (hp : pc + 3 = pc') (hv : (Int16.ofInt i).toInt32 = v) (h : own_Go p e below P T (mkF m pc' Ls (.int v :: st))) : own_Go p e below P T (mkF m pc Ls st) := by
  subst hp hv; exact own_st (fun t k => XS.sipush X.here hx rfl hd k) h
theorem own_lconst (X : Stand p l e R s m args below meth c T locs cells slots) (hx : p.tables.exec = Jvm.exec) {i : Fin 2} (v : Int64) (hd : decode c.code pc = .ok (.lconst i, 1)) (hp : pc + 1 = pc') (hv : Int64.ofNat i = v) (h : own_Go p e below P T (mkF m pc' Ls (.long v :: st))) : own_Go p e below P T (mkF m pc Ls st) := by
  subst hp hv; exact own_st (fun t k => XT.lconst X.here hx rfl hd k) h
theorem own_ldcI (X : Stand p l e R s m args below meth c T locs cells slots) (hx : p.tables.exec = Jvm.exec) {own : String} {index : Nat} {v : Int32} (hown : s.vm.findClass own = some m.cls) (hc : (Cond.constant own index v).before args s = true) (hd : decode c.code pc = .ok (.ldc index, 2)) (hp : pc + 2 = pc') (h : own_Go p e below P T (mkF m pc' Ls (.int v :: st))) : own_Go p e below P T (mkF m pc Ls st) := by
  subst hp; exact own_st (fun t k => X.ldcI hx hown hc rfl hd k) h
theorem own_ldcJ (X : Stand p l e R s m args below meth c T locs cells slots) (hx : p.tables.exec = Jvm.exec) {own : String} {index : Nat} {v : Int64} (hown : s.vm.findClass own = some m.cls) (hc : (Cond.constantLong own index v).before args s = true) (hd : decode c.code pc = .ok (.ldc2_w index, 3)) (hp : pc + 3 = pc') (h : own_Go p e below P T (mkF m pc' Ls (.long v :: st))) : own_Go p e below P T (mkF m pc Ls st) := by
  subst hp; exact own_st (fun t k => X.ldc2J hx hown hc rfl hd k) h
theorem own_null (X : Stand p l e R s m args below meth c T locs cells slots) (hx : p.tables.exec = Jvm.exec) (hd : decode c.code pc = .ok (.aconst_null, 1)) (hp : pc + 1 = pc') (h : own_Go p e below P T (mkF m pc' Ls (.null :: st))) : own_Go p e below P T (mkF m pc Ls st) := by
  subst hp; exact own_st (fun t k => XS.aconstNull X.here hx rfl hd k) h
theorem own_iadd (X : Stand p l e R s m args below meth c T locs cells slots) (hx : p.tables.exec = Jvm.exec) {x y : Int32} (hd : decode c.code pc = .ok (.iadd, 1)) (hp : pc + 1 = pc') (h : own_Go p e below P T (mkF m pc' Ls (.int (x + y) :: st))) : own_Go p e below P T (mkF m pc Ls (.int y :: .int x :: st)) := by
  subst hp; exact own_st (fun t k => XS.iadd X.here hx rfl hd rfl k) h
theorem own_isub (X : Stand p l e R s m args below meth c T locs cells slots) (hx : p.tables.exec = Jvm.exec) {x y : Int32} (hd : decode c.code pc = .ok (.isub, 1)) (hp : pc + 1 = pc') (h : own_Go p e below P T (mkF m pc' Ls (.int (x - y) :: st))) : own_Go p e below P T (mkF m pc Ls (.int y :: .int x :: st)) := by
  subst hp; exact own_st (fun t k => XS.isub X.here hx rfl hd rfl k) h
theorem own_iand (X : Stand p l e R s m args below meth c T locs cells slots) (hx : p.tables.exec = Jvm.exec) {x y : Int32} (hd : decode c.code pc = .ok (.iand, 1)) (hp : pc + 1 = pc') (h : own_Go p e below P T (mkF m pc' Ls (.int (x &&& y) :: st))) : own_Go p e below P T (mkF m pc Ls (.int y :: .int x :: st)) := by
  subst hp; exact own_st (fun t k => XS.iand X.here hx rfl hd rfl k) h
theorem own_imul (X : Stand p l e R s m args below meth c T locs cells slots) (hx : p.tables.exec = Jvm.exec) {x y : Int32} (hd : decode c.code pc = .ok (.imul, 1)) (hp : pc + 1 = pc') (h : own_Go p e below P T (mkF m pc' Ls (.int (x * y) :: st))) : own_Go p e below P T (mkF m pc Ls (.int y :: .int x :: st)) := by
  subst hp; exact own_st (fun t k => XS.imul X.here hx rfl hd rfl k) h
theorem own_irem (X : Stand p l e R s m args below meth c T locs cells slots) (hx : p.tables.exec = Jvm.exec) {x y : Int32} (hd : decode c.code pc = .ok (.irem, 1)) (hp : pc + 1 = pc') (hy : y ≠ 0) (h : own_Go p e below P T (mkF m pc' Ls (.int (x % y) :: st))) : own_Go p e below P T (mkF m pc Ls (.int y :: .int x :: st)) := by
  subst hp; exact own_st (fun t k => iremM X hx rfl hd rfl hy k) h
theorem own_ishr (X : Stand p l e R s m args below meth c T locs cells slots) (hx : p.tables.exec = Jvm.exec) {x y : Int32} (hd : decode c.code pc = .ok (.ishr, 1)) (hp : pc + 1 = pc') (h : own_Go p e below P T (mkF m pc' Ls (.int (x >>> (y &&& 31)) :: st))) : own_Go p e below P T (mkF m pc Ls (.int y :: .int x :: st)) := by
  subst hp; exact own_st (fun t k => XT.ishr X.here hx rfl hd rfl k) h
theorem own_iushr (X : Stand p l e R s m args below meth c T locs cells slots) (hx : p.tables.exec = Jvm.exec) {x y : Int32} (hd : decode c.code pc = .ok (.iushr, 1)) (hp : pc + 1 = pc') (h : own_Go p e below P T (mkF m pc' Ls (.int (XT.ushr x y) :: st))) : own_Go p e below P T (mkF m pc Ls (.int y :: .int x :: st)) := by
  subst hp; exact own_st (fun t k => XT.iushr X.here hx rfl hd rfl k) h
theorem own_i2b (X : Stand p l e R s m args below meth c T locs cells slots) (hx : p.tables.exec = Jvm.exec) {x : Int32} (hd : decode c.code pc = .ok (.i2b, 1)) (hp : pc + 1 = pc') (h : own_Go p e below P T (mkF m pc' Ls (.int (nar .byte x) :: st))) : own_Go p e below P T (mkF m pc Ls (.int x :: st)) := by
  subst hp; exact own_st (fun t k => XT.i2b X.here hx rfl hd rfl k) h
theorem own_i2c (X : Stand p l e R s m args below meth c T locs cells slots) (hx : p.tables.exec = Jvm.exec) {x : Int32} (hd : decode c.code pc = .ok (.i2c, 1)) (hp : pc + 1 = pc') (h : own_Go p e below P T (mkF m pc' Ls (.int (nar .char x) :: st))) : own_Go p e below P T (mkF m pc Ls (.int x :: st)) := by
  subst hp; exact own_st (fun t k => XT.i2c X.here hx rfl hd rfl k) h
theorem own_i2l (X : Stand p l e R s m args below meth c T locs cells slots) (hx : p.tables.exec = Jvm.exec) {x : Int32} (hd : decode c.code pc = .ok (.i2l, 1)) (hp : pc + 1 = pc') (h : own_Go p e below P T (mkF m pc' Ls (.long x.toInt64 :: st))) : own_Go p e below P T (mkF m pc Ls (.int x :: st)) := by
  subst hp; exact own_st (fun t k => XT.i2l X.here hx rfl hd rfl k) h
theorem own_l2i (X : Stand p l e R s m args below meth c T locs cells slots) (hx : p.tables.exec = Jvm.exec) {x : Int64} (hd : decode c.code pc = .ok (.l2i, 1)) (hp : pc + 1 = pc') (h : own_Go p e below P T (mkF m pc' Ls (.int x.toInt32 :: st))) : own_Go p e below P T (mkF m pc Ls (.long x :: st)) := by
  subst hp; exact own_st (fun t k => XT.l2i X.here hx rfl hd rfl k) h
theorem own_lushr (X : Stand p l e R s m args below meth c T locs cells slots) (hx : p.tables.exec = Jvm.exec) {x : Int64} {y : Int32} (hd : decode c.code pc = .ok (.lushr, 1)) (hp : pc + 1 = pc') (h : own_Go p e below P T (mkF m pc' Ls (.long (XT.ushrL x y) :: st))) : own_Go p e below P T (mkF m pc Ls (.int y :: .long x :: st)) := by
  subst hp; exact own_st (fun t k => XT.lushr X.here hx rfl hd rfl k) h
theorem own_lcmp (X : Stand p l e R s m args below meth c T locs cells slots) (hx : p.tables.exec = Jvm.exec) {x y : Int64} (hd : decode c.code pc = .ok (.lcmp, 1)) (hp : pc + 1 = pc') (h : own_Go p e below P T (mkF m pc' Ls (.int (XT.cmpL x y) :: st))) : own_Go p e below P T (mkF m pc Ls (.long y :: .long x :: st)) := by
  subst hp; exact own_st (fun t k => XT.lcmp X.here hx rfl hd rfl k) h
theorem own_dup (X : Stand p l e R s m args below meth c T locs cells slots) (hx : p.tables.exec = Jvm.exec) {x : Value} (hd : decode c.code pc = .ok (.dup, 1)) (hp : pc + 1 = pc') (hc : x.category = 1) (h : own_Go p e below P T (mkF m pc' Ls (x :: x :: st))) : own_Go p e below P T (mkF m pc Ls (x :: st)) := by
  subst hp; exact own_st (fun t k => XS.dup X.here hx rfl hd rfl hc k) h
theorem own_dupX1 (X : Stand p l e R s m args below meth c T locs cells slots) (hx : p.tables.exec = Jvm.exec) {x y : Value} (hd : decode c.code pc = .ok (.dup_x1, 1)) (hp : pc + 1 = pc') (hc : x.category = 1) (hc' : y.category = 1) (h : own_Go p e below P T (mkF m pc' Ls (x :: y :: x :: st))) : own_Go p e below P T (mkF m pc Ls (x :: y :: st)) := by
  subst hp; exact own_st (fun t k => XT.dupX1 X.here hx rfl hd rfl hc hc' k) h
theorem own_pop (X : Stand p l e R s m args below meth c T locs cells slots) (hx : p.tables.exec = Jvm.exec) {x : Value} (hd : decode c.code pc = .ok (.pop, 1)) (hp : pc + 1 = pc') (hc : x.category = 1) (h : own_Go p e below P T (mkF m pc' Ls st)) : own_Go p e below P T (mkF m pc Ls (x :: st)) := by
  subst hp; exact own_st (fun t k => XT.pop X.here hx rfl hd rfl hc k) h
theorem own_istoreN (X : Stand p l e R s m args below meth c T locs cells slots) (hx : p.tables.exec = Jvm.exec) {k : Fin 4} {x : Int32} (hd : decode c.code pc = .ok (.istore_n k, 1)) (hp : pc + 1 = pc') (hl : storeLocals Ls k.val (.int x) = some Ls') (h : own_Go p e below P T (mkF m pc' Ls' st)) : own_Go p e below P T (mkF m pc Ls (.int x :: st)) := by
  subst hp; exact own_st (fun t k => XS.istoreN X.here hx rfl hd rfl hl k) h
theorem own_istore (X : Stand p l e R s m args below meth c T locs cells slots) (hx : p.tables.exec = Jvm.exec) {k : Nat} {x : Int32} (hd : decode c.code pc = .ok (.istore k, 2)) (hp : pc + 2 = pc') (hl : storeLocals Ls k (.int x) = some Ls') (h : own_Go p e below P T (mkF m pc' Ls' st)) : own_Go p e below P T (mkF m pc Ls (.int x :: st)) := by
  subst hp; exact own_st (fun t k => XS.istore X.here hx rfl hd rfl hl k) h
theorem own_lstoreN (X : Stand p l e R s m args below meth c T locs cells slots) (hx : p.tables.exec = Jvm.exec) {k : Fin 4} {x : Int64} (hd : decode c.code pc = .ok (.lstore_n k, 1)) (hp : pc + 1 = pc') (hl : storeLocals Ls k.val (.long x) = some Ls') (h : own_Go p e below P T (mkF m pc' Ls' st)) : own_Go p e below P T (mkF m pc Ls (.long x :: st)) := by
  subst hp; exact own_st (fun t k => XT.lstoreN X.here hx rfl hd rfl hl k) h
theorem own_lstore (X : Stand p l e R s m args below meth c T locs cells slots) (hx : p.tables.exec = Jvm.exec) {k : Nat} {x : Int64} (hd : decode c.code pc = .ok (.lstore k, 2)) (hp : pc + 2 = pc') (hl : storeLocals Ls k (.long x) = some Ls') (h : own_Go p e below P T (mkF m pc' Ls' st)) : own_Go p e below P T (mkF m pc Ls (.long x :: st)) := by
  subst hp; exact own_st (fun t k => XT.lstore X.here hx rfl hd rfl hl k) h
theorem own_astoreN (X : Stand p l e R s m args below meth c T locs cells slots) (hx : p.tables.exec = Jvm.exec) {k : Fin 4} {x : Value} (hd : decode c.code pc = .ok (.astore_n k, 1)) (hp : pc + 1 = pc') (hv : x.isRef = true) (hl : storeLocals Ls k.val x = some Ls') (h : own_Go p e below P T (mkF m pc' Ls' st)) : own_Go p e below P T (mkF m pc Ls (x :: st)) := by
  subst hp; exact own_st (fun t k => XS.astoreN X.here hx rfl hd rfl hv hl k) h
theorem own_astore (X : Stand p l e R s m args below meth c T locs cells slots) (hx : p.tables.exec = Jvm.exec) {k : Nat} {x : Value} (hd : decode c.code pc = .ok (.astore k, 2)) (hp : pc + 2 = pc') (hv : x.isRef = true) (hl : storeLocals Ls k x = some Ls') (h : own_Go p e below P T (mkF m pc' Ls' st)) : own_Go p e below P T (mkF m pc Ls (x :: st)) := by
  subst hp; exact own_st (fun t k => XS.astore X.here hx rfl hd rfl hv hl k) h
theorem own_goto (X : Stand p l e R s m args below meth c T locs cells slots) (hx : p.tables.exec = Jvm.exec) {o : Int} (hd : decode c.code pc = .ok (.goto o, 3)) (ho : 0 ≤ (pc : Int) + o) (hp : ((pc : Int) + o).toNat = pc') (h : own_Go p e below P T (mkF m pc' Ls st)) : own_Go p e below P T (mkF m pc Ls st) := by
  exact own_st (fun t k => XS.goto X.here hx rfl (pc0 := pc) rfl hd ho hp k) h
theorem own_ifY (X : Stand p l e R s m args below meth c T locs cells slots) (hx : p.tables.exec = Jvm.exec) {cd : ClassFile.Cond} {x : Int32} {o : Int} (hd : decode c.code pc = .ok (.ifCond cd o, 3)) (hc : ifCond.holds cd x = true) (ho : 0 ≤ (pc : Int) + o) (hp : ((pc : Int) + o).toNat = pc') (h : own_Go p e below P T (mkF m pc' Ls st)) : own_Go p e below P T (mkF m pc Ls (.int x :: st)) := by
  exact own_st (fun t k => XS.ifYes X.here hx rfl (pc0 := pc) rfl hd rfl hc ho hp k) h
theorem own_ifN (X : Stand p l e R s m args below meth c T locs cells slots) (hx : p.tables.exec = Jvm.exec) {cd : ClassFile.Cond} {x : Int32} {o : Int} (hd : decode c.code pc = .ok (.ifCond cd o, 3)) (hc : ifCond.holds cd x = false) (hp : pc + 3 = pc') (h : own_Go p e below P T (mkF m pc' Ls st)) : own_Go p e below P T (mkF m pc Ls (.int x :: st)) := by
  subst hp; exact own_st (fun t k => XS.ifNo X.here hx rfl hd rfl hc k) h
theorem own_icmpY (X : Stand p l e R s m args below meth c T locs cells slots) (hx : p.tables.exec = Jvm.exec) {cd : ClassFile.Cond} {x y : Int32} {o : Int} (hd : decode c.code pc = .ok (.if_icmp cd o, 3)) (hc : if_icmp.holds cd x y = true) (ho : 0 ≤ (pc : Int) + o) (hp : ((pc : Int) + o).toNat = pc') (h : own_Go p e below P T (mkF m pc' Ls st)) : own_Go p e below P T (mkF m pc Ls (.int y :: .int x :: st)) := by
  exact own_st (fun t k => XS.icmpYes X.here hx rfl (pc0 := pc) rfl hd rfl hc ho hp k) h
theorem own_icmpN (X : Stand p l e R s m args below meth c T locs cells slots) (hx : p.tables.exec = Jvm.exec) {cd : ClassFile.Cond} {x y : Int32} {o : Int} (hd : decode c.code pc = .ok (.if_icmp cd o, 3)) (hc : if_icmp.holds cd x y = false) (hp : pc + 3 = pc') (h : own_Go p e below P T (mkF m pc' Ls st)) : own_Go p e below P T (mkF m pc Ls (.int y :: .int x :: st)) := by
  subst hp; exact own_st (fun t k => XS.icmpNo X.here hx rfl hd rfl hc k) h
theorem own_ifnullY (X : Stand p l e R s m args below meth c T locs cells slots) (hx : p.tables.exec = Jvm.exec) {o : Int} (hd : decode c.code pc = .ok (.ifnull o, 3)) (ho : 0 ≤ (pc : Int) + o) (hp : ((pc : Int) + o).toNat = pc') (h : own_Go p e below P T (mkF m pc' Ls st)) : own_Go p e below P T (mkF m pc Ls (.null :: st)) := by
  exact own_st (fun t k => XS.ifnullYes X.here hx rfl (pc0 := pc) rfl hd rfl ho hp k) h
theorem own_ifnullN (X : Stand p l e R s m args below meth c T locs cells slots) (hx : p.tables.exec = Jvm.exec) {a : Addr} {o : Int} (hd : decode c.code pc = .ok (.ifnull o, 3)) (hp : pc + 3 = pc') (h : own_Go p e below P T (mkF m pc' Ls st)) : own_Go p e below P T (mkF m pc Ls (.ref a :: st)) := by
  subst hp; exact own_st (fun t k => XS.ifnullNo X.here hx rfl hd rfl k) h
theorem own_ifnonnullY (X : Stand p l e R s m args below meth c T locs cells slots) (hx : p.tables.exec = Jvm.exec) {a : Addr} {o : Int} (hd : decode c.code pc = .ok (.ifnonnull o, 3)) (ho : 0 ≤ (pc : Int) + o) (hp : ((pc : Int) + o).toNat = pc') (h : own_Go p e below P T (mkF m pc' Ls st)) : own_Go p e below P T (mkF m pc Ls (.ref a :: st)) := by
  exact own_st (fun t k => XT.ifnonnullYes X.here hx rfl (pc0 := pc) rfl hd rfl ho hp k) h
theorem own_ifnonnullN (X : Stand p l e R s m args below meth c T locs cells slots) (hx : p.tables.exec = Jvm.exec) {o : Int} (hd : decode c.code pc = .ok (.ifnonnull o, 3)) (hp : pc + 3 = pc') (h : own_Go p e below P T (mkF m pc' Ls st)) : own_Go p e below P T (mkF m pc Ls (.null :: st)) := by
  subst hp; exact own_st (fun t k => XT.ifnonnullNo X.here hx rfl hd rfl k) h
theorem own_acmpY (X : Stand p l e R s m args below meth c T locs cells slots) (hx : p.tables.exec = Jvm.exec) {cd : ACond} {x y : Value} {o : Int} (h1 : x.isRef = true) (h2 : y.isRef = true) (hd : decode c.code pc = .ok (.if_acmp cd o, 3)) (hc : XT.acmp cd x y = true) (ho : 0 ≤ (pc : Int) + o) (hp : ((pc : Int) + o).toNat = pc') (h : own_Go p e below P T (mkF m pc' Ls st)) : own_Go p e below P T (mkF m pc Ls (y :: x :: st)) := by
  exact own_st (fun t k => XT.acmpYes X.here hx rfl (pc0 := pc) rfl hd rfl h1 h2 hc ho hp k) h
theorem own_acmpN (X : Stand p l e R s m args below meth c T locs cells slots) (hx : p.tables.exec = Jvm.exec) {cd : ACond} {x y : Value} {o : Int} (h1 : x.isRef = true) (h2 : y.isRef = true) (hd : decode c.code pc = .ok (.if_acmp cd o, 3)) (hc : XT.acmp cd x y = false) (hp : pc + 3 = pc') (h : own_Go p e below P T (mkF m pc' Ls st)) : own_Go p e below P T (mkF m pc Ls (y :: x :: st)) := by
  subst hp; exact own_st (fun t k => XT.acmpNo X.here hx rfl hd rfl h1 h2 hc k) h
theorem own_cut (h1 : own_Go p e below P T g' → own_Go p e below P T g) (h2 : own_Go p e below P T g') : own_Go p e below P T g := h1 h2
theorem own_iinc (X : Stand p l e R s m args below meth c T locs cells slots) (hx : p.tables.exec = Jvm.exec) {k : Nat} {cst : Int} {x : Int32} (v : Int32) (hd : decode c.code pc = .ok (.iinc k cst, 3)) (hp : pc + 3 = pc') (hl : Ls[k]? = some (.val (.int x))) (hv : x + Int32.ofInt cst = v) (hs : storeLocals Ls k (.int v) = some Ls') (h : own_Go p e below P T (mkF m pc' Ls' st)) : own_Go p e below P T (mkF m pc Ls st) := by
  subst hp hv; exact own_st (fun t k => XS.iinc X.here hx rfl hd hl hs k) h
theorem own_stv {Ls : Array Slot} {k : Nat} {v : Value} {o : Slot} (hv : v.isRef = true) (hold : Ls[k]? = some o) (ho : o = .unset ∨ ∃ w, o = .val w ∧ w.category = 1) : storeLocals Ls k v = some (Ls.setIfInBounds k (.val v)) := XS.store1 hold ho (XT.cat1 hv)
abbrev own_End (s : State) (Q : Option Value → Heap → List Loc → Prop) (k n : Nat) : State → Outcome → Prop := fun u o => ∃ v L, o = .returned v ∧ Q v u.heap L ∧ FrameEnd s o u L k n
variable {Q : Option Value → Heap → List Loc → Prop} {ck sn : Nat}
theorem own_retZ (X : Stand p l e R s m args below meth c T locs cells slots) (hx : p.tables.exec = Jvm.exec) (hk : meth.locks = false) {t : FieldType} (hret : meth.sig.returnType = some t) (ht : t = .boolean ∨ t = .byte ∨ t = .char ∨ t = .short) {z : Int32} (hd : decode c.code pc = .ok (.ireturn, 1)) (hc : cells ≤ ck) (hs : slots ≤ sn) (hQ : Q (some (.int (nar t z))) T.heap locs) :
    own_Go p e below (own_End s Q ck sn) T (mkF m pc Ls (.int z :: st)) := by
  obtain ⟨fs, hr, hrun, hended, hW, hsame⟩ := X.leave (v := some (.int (nar t z))) (fun h => by rw [hret] at h; cases h) hk
  exact ⟨_, _, retN X hx hret ht hd hr, hrun, hended, _, _, rfl, hQ, ⟨_, rfl⟩, hW, hsame.mono hc hs⟩
theorem own_retI (X : Stand p l e R s m args below meth c T locs cells slots) (hx : p.tables.exec = Jvm.exec) (hk : meth.locks = false) (hret : meth.sig.returnType = some .int) {z : Int32} (hd : decode c.code pc = .ok (.ireturn, 1)) (hc : cells ≤ ck) (hs : slots ≤ sn) (hQ : Q (some (.int z)) T.heap locs) :
    own_Go p e below (own_End s Q ck sn) T (mkF m pc Ls (.int z :: st)) := by
  obtain ⟨fs, hr, hrun, hended, hW, hsame⟩ := X.leave (v := some (.int z)) (fun h => by rw [hret] at h; cases h) hk
  exact ⟨_, _, retOut X hx hret rfl (Or.inl ⟨rfl, Or.inl rfl, z, rfl⟩) hd hr, hrun, hended, _, _, rfl, hQ, ⟨_, rfl⟩, hW, hsame.mono hc hs⟩
theorem own_retL (X : Stand p l e R s m args below meth c T locs cells slots) (hx : p.tables.exec = Jvm.exec) (hk : meth.locks = false) (hret : meth.sig.returnType = some .long) {z : Int64} (hd : decode c.code pc = .ok (.lreturn, 1)) (hc : cells ≤ ck) (hs : slots ≤ sn) (hQ : Q (some (.long z)) T.heap locs) :
    own_Go p e below (own_End s Q ck sn) T (mkF m pc Ls (.long z :: st)) := by
  obtain ⟨fs, hr, hrun, hended, hW, hsame⟩ := X.leave (v := some (.long z)) (fun h => by rw [hret] at h; cases h) hk
  exact ⟨_, _, retOut X hx hret rfl (Or.inr (Or.inl ⟨rfl, rfl, z, rfl⟩)) hd hr, hrun, hended, _, _, rfl, hQ, ⟨_, rfl⟩, hW, hsame.mono hc hs⟩
theorem own_narR {t : FieldType} {w : Value} (ht : t.isReference = true) (hw : w.isRef = true) : narrow t w = w := by
  rcases ref_cases hw with rfl | ⟨a, rfl⟩ <;> cases t <;> first | rfl | (cases ht; done)
theorem own_retA (X : Stand p l e R s m args below meth c T locs cells slots) (hx : p.tables.exec = Jvm.exec) (hk : meth.locks = false) {t : FieldType} (hret : meth.sig.returnType = some t) (ht : t.isReference = true) {w : Value} (hw : w.isRef = true) (hd : decode c.code pc = .ok (.areturn, 1)) (hc : cells ≤ ck) (hs : slots ≤ sn) (hQ : Q (some w) T.heap locs) :
    own_Go p e below (own_End s Q ck sn) T (mkF m pc Ls (w :: st)) := by
  obtain ⟨fs, hr, hrun, hended, hW, hsame⟩ := X.leave (v := some w) (fun h => by rw [hret] at h; cases h) hk
  exact ⟨_, _, retOut X hx hret (own_narR ht hw) (Or.inr (Or.inr (Or.inr (Or.inr ⟨rfl, ht, hw⟩)))) hd hr, hrun, hended, _, _, rfl, hQ, ⟨_, rfl⟩, hW, hsame.mono hc hs⟩
theorem own_retV (X : Stand p l e R s m args below meth c T locs cells slots) (hx : p.tables.exec = Jvm.exec) (hk : meth.locks = false) (hret : meth.sig.returnType = none) (hd : decode c.code pc = .ok (.return_, 1)) (hc : cells ≤ ck) (hs : slots ≤ sn) (hQ : Q none T.heap locs) :
    own_Go p e below (own_End s Q ck sn) T (mkF m pc Ls []) := by
  obtain ⟨fs, hr, hrun, hended, hW, hsame⟩ := X.leave (v := none) (fun _ => rfl) hk
  exact ⟨_, _, X.returnOut hx hret hd hr, hrun, hended, _, _, rfl, hQ, ⟨_, rfl⟩, hW, hsame.mono hc hs⟩
end OwnGo
section OwnArr
variable {p : Program} {l : Launch} {e : Env} {R : Room} {s : State} {m : MethodId} {args : Array Value} {below : List Frame} {meth : Method} {c : Code} {T : State} {locs : List Loc} {cells slots : Nat} {P : State → Outcome → Prop} {Ls : Array Slot} {st : List Value} {pc pc' : Nat} {Z : State} {h : Heap} {a : Addr} {k : ClassId} {ty : FieldType} {n j : Int32} {vs : List Value} {dv : Value}
theorem own_alen (X : Stand p l e R s m args below meth c T locs cells slots) (hx : p.tables.exec = Jvm.exec) (hZ : Z.Warmed39 s.vm) (eT : T.heap = h) (V : Arv Z h a k ty n vs dv) (hd : decode c.code pc = .ok (.arraylength, 1)) (hp : pc + 1 = pc') (hk : own_Go p e below P T (mkF m pc' Ls (.int n :: st))) : own_Go p e below P T (mkF m pc Ls (.ref a :: st)) := by
  subst hp
  obtain ⟨cl, A, -, S, q, -, -⟩ := V
  have w := X.arraylength hx (by rw [eT]; exact A.1) (State.isArrayOf_alike hZ.alike A.2.1) (g := mkF m pc Ls (.ref a :: st)) rfl rfl hd
  rw [len_of S q] at w
  exact own_st w hk
theorem own_baload (X : Stand p l e R s m args below meth c T locs cells slots) (hx : p.tables.exec = Jvm.exec) (hZ : Z.Warmed39 s.vm) (eT : T.heap = h) (V : Arv Z h a k .byte n vs dv) {x : Int32} (hj : ¬ j < 0 ∧ j < n) (hv : vs.getD j.toNatClampNeg dv = .int x) (hd : decode c.code pc = .ok (.baload, 1)) (hp : pc + 1 = pc') (hk : own_Go p e below P T (mkF m pc' Ls (.int x :: st))) : own_Go p e below P T (mkF m pc Ls (.int j :: .ref a :: st)) := by
  subst hp
  obtain ⟨cl, A, -, S, q, H, -⟩ := V
  exact own_st (X.baloadBytes hx (j := j) (v := .int x) (by rw [eT]; exact A.1) (State.isArrayOf_alike hZ.alike A.2.1) A.2.2 (inb_of S hj) (H.at (inb_of S hj) hv) (g := mkF m pc Ls (.int j :: .ref a :: st)) rfl rfl hd) hk
theorem own_aaload (X : Stand p l e R s m args below meth c T locs cells slots) (hx : p.tables.exec = Jvm.exec) (hZ : Z.Warmed39 s.vm) (eT : T.heap = h) (V : Arv Z h a k ty n vs dv) (ht : ty.isReference = true) {x : Value} (hj : ¬ j < 0 ∧ j < n) (hv : vs.getD j.toNatClampNeg dv = x) (hd : decode c.code pc = .ok (.aaload, 1)) (hp : pc + 1 = pc') (hk : own_Go p e below P T (mkF m pc' Ls (x :: st))) : own_Go p e below P T (mkF m pc Ls (.int j :: .ref a :: st)) := by
  subst hp
  obtain ⟨cl, A, -, S, q, H, -⟩ := V
  exact own_st (X.aaload hx (j := j) (v := x) (by rw [eT]; exact A.1) (State.isArrayOf_alike hZ.alike A.2.1) ht A.2.2 (inb_of S hj) (H.at (inb_of S hj) hv) (g := mkF m pc Ls (.int j :: .ref a :: st)) rfl rfl hd) hk
/-- a byte stored: the list with that place set -/
theorem own_bastore (X : Stand p l e R s m args below meth c T locs cells slots) (hx : p.tables.exec = Jvm.exec) (hZ : Z.Warmed39 s.vm) (eT : T.heap = h) (V : Arv Z h a k .byte n vs dv) (i : Nat) {x : Int32} (hj : ¬ j < 0 ∧ j < n) (hi : j.toNatClampNeg = i) (hl : i < vs.length) (hd : decode c.code pc = .ok (.bastore, 1)) :
    ∃ T' h', Stand p l e R s m args below meth c T' (locs ++ [⟨a, j.toNatClampNeg⟩]) cells slots ∧ T'.heap = h' ∧ Wr h h' a j.toNatClampNeg (.int (nar .byte x)) ∧ Arv Z h' a k .byte n (vs.set i (.int (nar .byte x))) dv ∧ ∀ target, Steps p.tables e below (T'.setTop (mkF m (pc + 1) Ls st)) target → Steps p.tables e below (T.setTop (mkF m pc Ls (.int x :: .int j :: .ref a :: st))) target := by
  obtain ⟨cl, A, q1, S, q, H, G⟩ := V
  obtain ⟨T', h', X', e', W, st'⟩ := stB X hx hZ eT A (j := j) (x := x) (inb_of S hj) (g := mkF m pc Ls (.int x :: .int j :: .ref a :: st)) rfl rfl hd
  exact ⟨T', h', X', e', W, Arv.set A q1 S q H G (fits_nar_byte x) W i hi hl, st'⟩
end OwnArr
/-- an array of n places, whatever they hold -/
def own_Len (Z : State) (h : Heap) (a : Addr) (ty : FieldType) (n : Int32) : Prop := ∃ c : Cell, Arr Z h a c ty ∧ c.slots.size = n.toNatClampNeg ∧ ¬ n < 0
section OwnLen
variable {p : Program} {l : Launch} {e : Env} {R : Room} {s : State} {m : MethodId} {args : Array Value} {below : List Frame} {meth : Method} {c : Code} {T : State} {locs : List Loc} {cells slots : Nat} {P : State → Outcome → Prop} {Ls : Array Slot} {st : List Value} {pc pc' : Nat} {Z : State} {h h' : Heap} {a b : Addr} {ty : FieldType} {n j : Int32} {sl : Nat} {v : Value}
theorem own_Len.lt (F : own_Len Z h a ty n) : a < h.size := by obtain ⟨c, A, -⟩ := F; exact A.lt
theorem own_Len.ext (F : own_Len Z h a ty n) (E : Ext h h') : own_Len Z h' a ty n := by obtain ⟨c, A, r⟩ := F; exact ⟨c, A.ext E, r⟩
theorem own_Len.wr (F : own_Len Z h b ty n) (W : Wr h h' a sl v) : own_Len Z h' b ty n := by
  obtain ⟨c, A, S, q⟩ := F
  by_cases g : b = a
  · subst g; exact ⟨_, A.same W, by rw [sz_set]; exact S, q⟩
  · exact ⟨c, A.other W g, S, q⟩
theorem own_Len.keep {ws : List Addr} (F : own_Len Z h a ty n) (K : Keep h h' ws) : own_Len Z h' a ty n := by
  obtain ⟨c, ⟨A1, A2, A3⟩, S, q⟩ := F
  obtain ⟨c', h1, h2, h3, h4⟩ := K.2.2 a c A1
  refine ⟨c', ⟨h1, ?_, by rw [h3]; exact A3⟩, by rw [h4]; exact S, q⟩
  obtain ⟨B1, k, B2, B3⟩ := A2
  exact ⟨by rw [h3]; exact B1, k, by rw [h2]; exact B2, B3⟩
theorem own_alenL (X : Stand p l e R s m args below meth c T locs cells slots) (hx : p.tables.exec = Jvm.exec) (hZ : Z.Warmed39 s.vm) (eT : T.heap = h) (V : own_Len Z h a ty n) (hd : decode c.code pc = .ok (.arraylength, 1)) (hp : pc + 1 = pc') (hk : own_Go p e below P T (mkF m pc' Ls (.int n :: st))) : own_Go p e below P T (mkF m pc Ls (.ref a :: st)) := by
  subst hp
  obtain ⟨cl, A, S, q⟩ := V
  have w := X.arraylength hx (by rw [eT]; exact A.1) (State.isArrayOf_alike hZ.alike A.2.1) (g := mkF m pc Ls (.ref a :: st)) rfl rfl hd
  rw [len_of S q] at w
  exact own_st w hk
theorem own_aastoreNull (X : Stand p l e R s m args below meth c T locs cells slots) (hx : p.tables.exec = Jvm.exec) (hZ : Z.Warmed39 s.vm) (eT : T.heap = h) (V : own_Len Z h a ty n) (ht : ty.isReference = true) (hj : ¬ j < 0 ∧ j < n) (hd : decode c.code pc = .ok (.aastore, 1)) :
    ∃ T' h', Stand p l e R s m args below meth c T' (locs ++ [⟨a, j.toNatClampNeg⟩]) cells slots ∧ T'.heap = h' ∧ Wr h h' a j.toNatClampNeg .null ∧ ∀ target, Steps p.tables e below (T'.setTop (mkF m (pc + 1) Ls st)) target → Steps p.tables e below (T.setTop (mkF m pc Ls (.null :: .int j :: .ref a :: st))) target := by
  obtain ⟨cl, A, S, q⟩ := V
  exact stR X hx hZ eT A (inb_of S hj) ht (Or.inl rfl) (g := mkF m pc Ls (.null :: .int j :: .ref a :: st)) rfl rfl hd
theorem own_aastoreRef (X : Stand p l e R s m args below meth c T locs cells slots) (hx : p.tables.exec = Jvm.exec) (hZ : Z.Warmed39 s.vm) (eT : T.heap = h) (V : own_Len Z h a ty n) (ht : ty.isReference = true) (hj : ¬ j < 0 ∧ j < n) (F : Sto Z h a v) (hd : decode c.code pc = .ok (.aastore, 1)) :
    ∃ T' h', Stand p l e R s m args below meth c T' (locs ++ [⟨a, j.toNatClampNeg⟩]) cells slots ∧ T'.heap = h' ∧ Wr h h' a j.toNatClampNeg v ∧ ∀ target, Steps p.tables e below (T'.setTop (mkF m (pc + 1) Ls st)) target → Steps p.tables e below (T.setTop (mkF m pc Ls (v :: .int j :: .ref a :: st))) target := by
  obtain ⟨cl, A, S, q⟩ := V
  exact stR X hx hZ eT A (inb_of S hj) ht F (g := mkF m pc Ls (v :: .int j :: .ref a :: st)) rfl rfl hd
theorem own_lastore (X : Stand p l e R s m args below meth c T locs cells slots) (hx : p.tables.exec = Jvm.exec) (hZ : Z.Warmed39 s.vm) (eT : T.heap = h) (V : own_Len Z h a .long n) {x : Int64} (hj : ¬ j < 0 ∧ j < n) (hd : decode c.code pc = .ok (.lastore, 1)) :
    ∃ T' h', Stand p l e R s m args below meth c T' (locs ++ [⟨a, j.toNatClampNeg⟩]) cells slots ∧ T'.heap = h' ∧ Wr h h' a j.toNatClampNeg (.long x) ∧ ∀ target, Steps p.tables e below (T'.setTop (mkF m (pc + 1) Ls st)) target → Steps p.tables e below (T.setTop (mkF m pc Ls (.long x :: .int j :: .ref a :: st))) target := by
  obtain ⟨cl, A, S, q⟩ := V
  exact stJ X hx hZ eT A (inb_of S hj) (g := mkF m pc Ls (.long x :: .int j :: .ref a :: st)) rfl rfl hd
/-- an array of references to C, of n places -/
def own_LenO (Z : State) (h : Heap) (a : Addr) (C : String) (n : Int32) : Prop := ∃ c : Cell, Arr Z h a c (.object C) ∧ c.slots.size = n.toNatClampNeg ∧ ¬ n < 0 ∧ Ovr Z c.cls C
theorem own_LenO.len {C : String} (F : own_LenO Z h a C n) : own_Len Z h a (.object C) n := by obtain ⟨c, A, S, q, -⟩ := F; exact ⟨c, A, S, q⟩
theorem own_LenO.lt {C : String} (F : own_LenO Z h a C n) : a < h.size := by obtain ⟨c, A, -⟩ := F; exact A.lt
theorem own_LenO.ext {C : String} (F : own_LenO Z h a C n) (E : Ext h h') : own_LenO Z h' a C n := by obtain ⟨c, A, r⟩ := F; exact ⟨c, A.ext E, r⟩
theorem own_LenO.wr {C : String} (F : own_LenO Z h b C n) (W : Wr h h' a sl v) : own_LenO Z h' b C n := by
  obtain ⟨c, A, S, q, O⟩ := F
  by_cases g : b = a
  · subst g; exact ⟨_, A.same W, by rw [sz_set]; exact S, q, O⟩
  · exact ⟨c, A.other W g, S, q, O⟩
theorem own_LenO.keep {C : String} {ws : List Addr} (F : own_LenO Z h a C n) (K : Keep h h' ws) : own_LenO Z h' a C n := by
  obtain ⟨c, ⟨A1, A2, A3⟩, S, q, O⟩ := F
  obtain ⟨c', h1, h2, h3, h4⟩ := K.2.2 a c A1
  refine ⟨c', ⟨h1, ?_, by rw [h3]; exact A3⟩, by rw [h4]; exact S, q, by rw [h2]; exact O⟩
  obtain ⟨B1, k, B2, B3⟩ := A2
  exact ⟨by rw [h3]; exact B1, k, by rw [h2]; exact B2, B3⟩
theorem own_LenO.sto {C : String} {y : Addr} (F : own_LenO Z h a C n) (I : Ins Z h y C true) : Sto Z h a (.ref y) := by obtain ⟨c, A, S, q, O⟩ := F; exact Sto.of A O I
end OwnLen
theorem own_NSroot {Z : State} {a0 : Array Value} {O K : String} {n : Nat} (w : (Cond.noSuperclass O).before a0 Z = true) (wk : (Cond.instantiable K n).before a0 Z = true) (hn : O ≠ K) : NS Z O K := by
  obtain ⟨c, k, h1, h2, h3, -, -⟩ := Cond.noSuperclass_spec w
  obtain ⟨t, kt, g1, -⟩ := Cond.instantiable_spec wk
  have ne := ids_ne h1 g1 hn
  refine ⟨c, t, h1, g1, fun fuel => ?_⟩
  cases fuel with
  | zero => rfl
  | succ f => simp [Vm.isSubclassAux, ne, h2, h3]
theorem own_NSno {Z : State} {a0 : Array Value} {C S K : String} {n : Nat} (w : (Cond.superclass C S).before a0 Z = true) (wk : (Cond.instantiable K n).before a0 Z = true) (ns : NS Z C K) (hn : C ≠ K) : ∃ c t, Z.vm.findClass C = some c ∧ Z.vm.findClass K = some t ∧ Z.vm.assignable c t = false := by
  obtain ⟨c, t, h0, g0, n3⟩ := ns
  obtain ⟨p, k, kp, h1, h2, h3, h4, h5, -, h7⟩ := Cond.superclass_spec h0 w
  obtain ⟨t', kt, g1, g2, g5, g7, -⟩ := Cond.instantiable_spec wk
  cases g0.symm.trans g1
  have ne := ids_ne h0 g0 hn
  have gi : kt.isInterface = false := by cases hq : kt.isInterface <;> simp [hq] at g7 ⊢
  refine ⟨c, t, h0, g0, ?_⟩
  show Z.vm.assignableAux (255 + 1) c t = false
  simp [Vm.assignableAux, ne, h2, g2, h5, g5, gi, Vm.isSubclass, n3]
theorem own_StaKeep {Z : State} {h h' : Heap} {C n d : String} {v : Value} {ws : List Addr} (F : Sta Z h C n d v) (K : Keep h h' ws) (q : ∀ x ∈ ws, ∀ cl : Cell, h[x]? = some cl → cl.vm.isStatics = false) : Sta Z h' C n d v := by
  obtain ⟨cf, i, k, f, st, cell, h1, h2, h3, h4, h5, h6, h7⟩ := F
  refine ⟨cf, i, k, f, st, cell, h1, h2, h3, h4, K.2.1 st cell h5 (fun hm => ?_), h6, h7⟩
  rw [q st hm cell h5] at h6; cases h6
section OwnWide
variable {p : Program} {l : Launch} {e : Env} {R : Room} {s : State} {m : MethodId} {args : Array Value} {below : List Frame} {meth : Method} {c : Code} {T : State} {locs : List Loc} {cells slots : Nat} {Ls : Array Slot} {st : List Value} {pc : Nat} {vm1 : Vm} {kn : Nat} {Q : Option Value → Heap → List Loc → Prop} {ck sn : Nat}
abbrev own_EndW (s : State) (Q : Option Value → Heap → List Loc → Prop) (k n : Nat) : State → Outcome → Prop := fun u o => ∃ v L, o = .returned v ∧ Q v u.heap L ∧ ReturnedEndW s o u L k n
theorem own_wmono {s t : State} {o : Outcome} {L : List Loc} {k n k' n' : Nat} (h : ReturnedEndW s o t L k n) (hk : k ≤ k') (hn : n ≤ n') : ReturnedEndW s o t L k' n' := ⟨h.1, h.2.1, h.2.2.1, h.2.2.2.mono hk hn⟩
theorem own_retZW (X : Stand p l e R (s.setVm vm1) m args below meth c T locs cells slots) (hS : s.Since vm1 kn) (hn : kn ≤ T.heap.size) (hx : p.tables.exec = Jvm.exec) (hk : meth.locks = false) {t : FieldType} (hret : meth.sig.returnType = some t) (ht : t = .boolean ∨ t = .byte ∨ t = .char ∨ t = .short) {z : Int32} (hd : decode c.code pc = .ok (.ireturn, 1)) (hc : cells ≤ ck) (hs : slots ≤ sn) (hQ : Q (some (.int (nar t z))) T.heap locs) :
    own_Go p e below (own_EndW s Q ck sn) T (mkF m pc Ls (.int z :: st)) := by
  obtain ⟨fs, hr, hrun, hended, hW⟩ := X.leaveW hS hn (v := some (.int (nar t z))) (fun h => by rw [hret] at h; cases h) hk
  exact ⟨_, _, retN X hx hret ht hd hr, hrun, hended, _, _, rfl, hQ, own_wmono hW hc hs⟩
theorem own_retIW (X : Stand p l e R (s.setVm vm1) m args below meth c T locs cells slots) (hS : s.Since vm1 kn) (hn : kn ≤ T.heap.size) (hx : p.tables.exec = Jvm.exec) (hk : meth.locks = false) (hret : meth.sig.returnType = some .int) {z : Int32} (hd : decode c.code pc = .ok (.ireturn, 1)) (hc : cells ≤ ck) (hs : slots ≤ sn) (hQ : Q (some (.int z)) T.heap locs) :
    own_Go p e below (own_EndW s Q ck sn) T (mkF m pc Ls (.int z :: st)) := by
  obtain ⟨fs, hr, hrun, hended, hW⟩ := X.leaveW hS hn (v := some (.int z)) (fun h => by rw [hret] at h; cases h) hk
  exact ⟨_, _, retOut X hx hret rfl (Or.inl ⟨rfl, Or.inl rfl, z, rfl⟩) hd hr, hrun, hended, _, _, rfl, hQ, own_wmono hW hc hs⟩
theorem own_retAW (X : Stand p l e R (s.setVm vm1) m args below meth c T locs cells slots) (hS : s.Since vm1 kn) (hn : kn ≤ T.heap.size) (hx : p.tables.exec = Jvm.exec) (hk : meth.locks = false) {t : FieldType} (hret : meth.sig.returnType = some t) (ht : t.isReference = true) {w : Value} (hw : w.isRef = true) (hd : decode c.code pc = .ok (.areturn, 1)) (hc : cells ≤ ck) (hs : slots ≤ sn) (hQ : Q (some w) T.heap locs) :
    own_Go p e below (own_EndW s Q ck sn) T (mkF m pc Ls (w :: st)) := by
  obtain ⟨fs, hr, hrun, hended, hW⟩ := X.leaveW hS hn (v := some w) (fun h => by rw [hret] at h; cases h) hk
  exact ⟨_, _, retOut X hx hret (own_narR ht hw) (Or.inr (Or.inr (Or.inr (Or.inr ⟨rfl, ht, hw⟩)))) hd hr, hrun, hended, _, _, rfl, hQ, own_wmono hW hc hs⟩
theorem own_retVW (X : Stand p l e R (s.setVm vm1) m args below meth c T locs cells slots) (hS : s.Since vm1 kn) (hn : kn ≤ T.heap.size) (hx : p.tables.exec = Jvm.exec) (hk : meth.locks = false) (hret : meth.sig.returnType = none) (hd : decode c.code pc = .ok (.return_, 1)) (hc : cells ≤ ck) (hs : slots ≤ sn) (hQ : Q none T.heap locs) :
    own_Go p e below (own_EndW s Q ck sn) T (mkF m pc Ls []) := by
  obtain ⟨fs, hr, hrun, hended, hW⟩ := X.leaveW hS hn (v := none) (fun _ => rfl) hk
  exact ⟨_, _, X.returnOut hx hret hd hr, hrun, hended, _, _, rfl, hQ, own_wmono hW hc hs⟩
end OwnWide
theorem own_size {Z : State} {args : Array Value} {t : Term} {a : Addr} {cl : Cell} {n : Int32} {k : Nat} (et : t.eval args Z none [] Z = some (.ref a)) (ha : Z.arrayAt? a = some cl) (h : (Jvm.Cond.eq (.length t) (.int n)).value args Z none Z [] = some true) (hn : n.toInt = k) : cl.slots.size = k := by
  have q := eqv_i (Term.int_eval n) h
  by_cases hl : cl.slots.size < 2 ^ 31
  · have e := (len_f et ha hl).symm.trans q
    injection e with e; injection e with e
    have e2 := len_toInt hl
    rw [e, hn] at e2; omega
  · simp [Term.eval, et, ha, hl] at q
theorem own_sub128 {Z : State} {args : Array Value} {j : Int32} (hj : ¬ j < 0) : (Term.sub (.index 0) (.int 128)).eval args Z none [j.toNatClampNeg] Z = some (.int (j - 128)) := Term.sub_int (idx_at hj) (Term.int_eval 128)
theorem own_ix {cl : Cell} {x : Int32} (S : cl.slots.size = (256 : Int32).toNatClampNeg) (h1 : ¬ x < (-128 : Int32)) (h2 : ¬ (127 : Int32) < x) : ¬ ((x + (128 : Int32)) < 0 ∨ cl.slots.size ≤ (x + (128 : Int32)).toNatClampNeg) := by
  rw [S]
  have e1 : (-128 : Int32).toInt = -128 := by decide
  have e2 : (127 : Int32).toInt = 127 := by decide
  have e3 : (128 : Int32).toInt = 128 := by decide
  have e4 : (0 : Int32).toInt = 0 := rfl
  have e5 : (256 : Int32).toNatClampNeg = 256 := by decide
  have h5 := c_iadd x 128
  have h6 := rng32 (x + 128)
  simp only [Int32.lt_iff_toInt_lt, Int32.toNatClampNeg, e4] at *
  omega
theorem d1_0 : decode jdk_22_method_1_code 0 = .ok (.aload_n 0, 1) := by decide +kernel
theorem d1_1 : decode jdk_22_method_1_code 1 = .ok (.invokespecial 1, 3) := by decide +kernel
theorem d1_4 : decode jdk_22_method_1_code 4 = .ok (.return_, 1) := by decide +kernel
theorem pn1 : plainFor (⟨"java/util/AbstractCollection", "<init>", "()V"⟩ : MethodName) = true := by first | exact plainFor_of_name (by first | (simp [plainName, overriddenIn]; done) | decide +kernel) | decide +kernel
theorem ef1 (m : MethodId) (a1 : Addr) : entryFrame m #[(.ref a1)] 1 = mkF m 0 #[.val (.ref a1)] [] := by first | (simp [entryFrame, mkF, argsToLocals, Value.category]; done) | rfl
def Q1 (Z : State) (a1 : Addr) (h0 : Heap) (n0 : Nat) (v : Option Value) (h : Heap) (L : List Loc) : Prop := v = none ∧ Fr n0 L ∧ h = h0
set_option maxRecDepth 65536 in
set_option maxHeartbeats 40000000 in
theorem rm1 (l : Launch) (Z : State) (a0 : Array Value) (hw : ∀ d ∈ tables_1, d.before a0 Z = true) (ws : List Jvm.Cond) (a1 : Addr) (h0 : Heap) (n0 : Nat) (Z0 : n0 ≤ h0.size) :
    MetFree l (⟨"java/util/AbstractCollection", "<init>", "()V"⟩ : MethodName) (head1 (Jvm.Cond.code (⟨"java/util/AbstractCollection", "<init>", "()V"⟩ : MethodName) jdk_22_method_1_code 1 none :: ws) ({ frames := 1, cells := 0, slots := 0, locals := 12 } : Room)) (fun a U => a = #[(.ref a1)] ∧ Z.Warmed39 U.vm ∧ U.heap = h0) (fun _ _ _ _ _ => True) (fun _ U o U' => ∃ v L, o = .returned v ∧ Q1 Z a1 h0 n0 v U'.heap L ∧ FrameEnd U o U' L ({ frames := 1, cells := 0, slots := 0, locals := 12 } : Room).cells ({ frames := 1, cells := 0, slots := 0, locals := 12 } : Room).slots) := by
  refine MetFree.of_bodySF pn1 hisR ?_
  intro p e s m args below meth c s₁ Bd hml0 hP hK
  obtain ⟨rfl, hZ, hh⟩ := hP
  have hx := Bd.exec
  have hby := Bd.bytes
  have hlk : meth.locks = false := BodyLoose.notSynchronized Bd
  have hml : c.maxLocals = 1 := hml0
  have hown : s.vm.findClass "java/util/AbstractCollection" = some m.cls := findClass_of_methodNamed Bd.named
  have hnm := (name_of_methodNamed Bd.named Bd.method).1
  have X0 : Stand p l e ({ frames := 1, cells := 0, slots := 0, locals := 12 } : Room) s m #[(.ref a1)] below meth c s₁ [] 0 0 := Stand.of_body Bd
  have e0 : s₁.heap = h0 := by rw [← hh, Bd.state]; rfl
  have N0 := Fr.nil n0
  rw [ef1 m a1]
  show own_Go p e below (own_End s (Q1 Z a1 h0 n0) ({ frames := 1, cells := 0, slots := 0, locals := 12 } : Room).cells ({ frames := 1, cells := 0, slots := 0, locals := 12 } : Room).slots) s₁ (mkF m 0 #[.val (.ref a1)] [])
  refine own_aloadN X0 hx (hb hby d1_0) (pc' := 1) rfl rfl rfl ?_
  obtain ⟨T_1, X_1, e_1, st_1⟩ := initO X0 hx hZ hown (hw _ (List.mem_of_getElem? (i := 18) rfl)) (hw _ (List.mem_of_getElem? (i := 19) rfl)) (hw _ (List.mem_of_getElem? (i := 20) rfl)) e0 (g := (mkF m 1 #[.val (.ref a1)] [(.ref a1)])) rfl (by rw [hml]; rfl) rfl (hb hby d1_1) (by decide) (W := 0) (by show 2 * 0 + _ ≤ _; exact Nat.le_of_eq rfl) (by decide)
  refine own_st st_1 ?_
  show own_Go p e below _ T_1 (mkF m 4 #[.val (.ref a1)] [])
  refine own_retV X_1 hx hlk Bd.returns (hb hby d1_4) (by decide) (by decide) ?_
  rw [e_1]
  exact ⟨rfl, N0, rfl⟩
theorem d2_0 : decode jdk_39_method_1_code 0 = .ok (.aload_n 0, 1) := by decide +kernel
theorem d2_1 : decode jdk_39_method_1_code 1 = .ok (.invokespecial 1, 3) := by decide +kernel
theorem d2_4 : decode jdk_39_method_1_code 4 = .ok (.aload_n 0, 1) := by decide +kernel
theorem d2_5 : decode jdk_39_method_1_code 5 = .ok (.iconst 0, 1) := by decide +kernel
theorem d2_6 : decode jdk_39_method_1_code 6 = .ok (.putfield 7, 3) := by decide +kernel
theorem d2_9 : decode jdk_39_method_1_code 9 = .ok (.return_, 1) := by decide +kernel
theorem pd2_0 : parseMethodDescriptor "()V" = some ⟨[], none⟩ := by decide +kernel
theorem pn2 : plainFor (⟨"java/util/AbstractList", "<init>", "()V"⟩ : MethodName) = true := by first | exact plainFor_of_name (by first | (simp [plainName, overriddenIn]; done) | decide +kernel) | decide +kernel
theorem ef2 (m : MethodId) (a1 : Addr) : entryFrame m #[(.ref a1)] 1 = mkF m 0 #[.val (.ref a1)] [] := by first | (simp [entryFrame, mkF, argsToLocals, Value.category]; done) | rfl
def Q2 (Z : State) (a1 : Addr) (h0 : Heap) (n0 : Nat) (v : Option Value) (h : Heap) (L : List Loc) : Prop := v = none ∧ Fr n0 L ∧ Keep h0 h [a1] ∧ Fld Z h a1 "java/util/AbstractList" "modCount" "I" (.int (0 : Int32)) ∧ Fld Z h a1 "java/util/ArrayList" "size" "I" (.int (0 : Int32)) ∧ Fld Z h a1 "java/util/ArrayList" "elementData" "[Ljava/lang/Object;" .null
set_option maxRecDepth 65536 in
set_option maxHeartbeats 40000000 in
theorem rm2 (l : Launch) (Z : State) (a0 : Array Value) (hw : ∀ d ∈ tables_1, d.before a0 Z = true) (ws : List Jvm.Cond) (a1 : Addr) (h0 : Heap) (n0 : Nat) (Z0 : n0 ≤ h0.size) (A_a : Exa Z h0 a1 "java/util/ArrayList") (F_m : Fld Z h0 a1 "java/util/AbstractList" "modCount" "I" (.int (0 : Int32))) (F_s : Fld Z h0 a1 "java/util/ArrayList" "size" "I" (.int (0 : Int32))) (F_e : Fld Z h0 a1 "java/util/ArrayList" "elementData" "[Ljava/lang/Object;" (.null)) (ga : n0 ≤ a1) :
    MetFree l (⟨"java/util/AbstractList", "<init>", "()V"⟩ : MethodName) (head1 (Jvm.Cond.code (⟨"java/util/AbstractList", "<init>", "()V"⟩ : MethodName) jdk_39_method_1_code 1 none :: ws) ({ frames := 2, cells := 0, slots := 0, locals := 24 } : Room)) (fun a U => a = #[(.ref a1)] ∧ Z.Warmed39 U.vm ∧ U.heap = h0) (fun _ _ _ _ _ => True) (fun _ U o U' => ∃ v L, o = .returned v ∧ Q2 Z a1 h0 n0 v U'.heap L ∧ FrameEnd U o U' L ({ frames := 2, cells := 0, slots := 0, locals := 24 } : Room).cells ({ frames := 2, cells := 0, slots := 0, locals := 24 } : Room).slots) := by
  refine MetFree.of_bodySF pn2 hisR ?_
  intro p e s m args below meth c s₁ Bd hml0 hP hK
  obtain ⟨rfl, hZ, hh⟩ := hP
  have hx := Bd.exec
  have hby := Bd.bytes
  have hlk : meth.locks = false := BodyLoose.notSynchronized Bd
  have hml : c.maxLocals = 1 := hml0
  have hown : s.vm.findClass "java/util/AbstractList" = some m.cls := findClass_of_methodNamed Bd.named
  have hnm := (name_of_methodNamed Bd.named Bd.method).1
  have X0 : Stand p l e ({ frames := 2, cells := 0, slots := 0, locals := 24 } : Room) s m #[(.ref a1)] below meth c s₁ [] 0 0 := Stand.of_body Bd
  have e0 : s₁.heap = h0 := by rw [← hh, Bd.state]; rfl
  have N0 := Fr.nil n0
  have K0 : Keep h0 h0 [a1] := Keep.refl _ _
  rw [ef2 m a1]
  show own_Go p e below (own_End s (Q2 Z a1 h0 n0) ({ frames := 2, cells := 0, slots := 0, locals := 24 } : Room).cells ({ frames := 2, cells := 0, slots := 0, locals := 24 } : Room).slots) s₁ (mkF m 0 #[.val (.ref a1)] [])
  refine own_aloadN X0 hx (hb hby d2_0) (pc' := 1) rfl rfl rfl ?_
  obtain ⟨_, _, ⟨T_1, L_1, k_1, n_1⟩, -, X_1, ⟨Lc_1, hQ_1, l_1, y_1, z_1⟩, st_1⟩ := X0.specialBack hx  (y := (⟨"java/util/AbstractCollection", "<init>", "()V"⟩ : MethodName)) rfl hown (mvT hZ (hw _ (List.mem_of_getElem? (i := 12) rfl))) (mvT hZ (hw _ (List.mem_of_getElem? (i := 13) rfl))) (mvT hZ (hw _ (List.mem_of_getElem? (i := 17) rfl))) (by decide) (backOf (W := 0) (rm1 l Z a0 hw [] a1 h0 n0 Z0) hZ (hw _ (List.mem_of_getElem? (i := 17) rfl)) (hw _ (List.mem_of_getElem? (i := 16) rfl)) (by decide) (by decide)) (g := (mkF m 1 #[.val (.ref a1)] [(.ref a1)])) rfl (by rw [hml]; rfl) (Steps.refl _) (a := a1) (argsL := []) (rest := []) (lenOf pd2_0 rfl) rfl (by show 2 * 0 + _ ≤ _; exact Nat.le_of_eq rfl) (hb hby d2_1) (fun _ _ => ⟨rfl, e0, (by decide : 0 + 0 ≤ _), (by decide : 0 + 0 ≤ _)⟩)
  dsimp only [Pt.U, Pt.locs, Pt.cells, Pt.slots] at X_1 l_1 y_1 z_1 st_1 hQ_1
  subst l_1 y_1 z_1
  refine own_tr st_1 ?_
  obtain ⟨rfl, Nq_1, eq_1⟩ := hQ_1
  have N_1 := Fr.app N0 Nq_1
  show own_Go p e below _ T_1 (mkF m 4 #[.val (.ref a1)] [])
  refine own_aloadN X_1 hx (hb hby d2_4) (pc' := 5) rfl rfl rfl ?_
  refine own_iconst X_1 hx (0) (hb hby d2_5) (pc' := 6) rfl rfl ?_
  obtain ⟨T_2, h_2, X_2, e_2, W_2, st_2⟩ := putF X_1 hx hZ hown (host := "") (Or.inl (hw _ (List.mem_of_getElem? (i := 21) rfl))) Via.refl eq_1 F_m A_a (Or.inl (hw _ (List.mem_of_getElem? (i := 22) rfl))) (hw _ (List.mem_of_getElem? (i := 1) rfl)) (ty := .int) (by decide) rfl rfl (g := (mkF m 6 #[.val (.ref a1)] [(.int (0 : Int32)), (.ref a1)])) rfl rfl (hb hby d2_6)
  have F_3 : Fld Z h_2 a1 "java/util/AbstractList" "modCount" "I" (.int (0 : Int32)) := F_m.same W_2
  have A_5 : Exa Z h_2 a1 "java/util/ArrayList" := A_a.wr W_2
  have F_6 : Fld Z h_2 a1 "java/util/ArrayList" "size" "I" (.int (0 : Int32)) := F_s.other W_2 (Or.inr (RoadKit.slot_ne (Or.inl (hw _ (List.mem_of_getElem? (i := 41) rfl))) (Or.inl (hw _ (List.mem_of_getElem? (i := 22) rfl))) (by decide) (t := .int) (t' := .int) (by decide) (by decide)))
  have F_7 : Fld Z h_2 a1 "java/util/ArrayList" "elementData" "[Ljava/lang/Object;" (.null) := F_e.other W_2 (Or.inr (RoadKit.slot_ne (Or.inl (hw _ (List.mem_of_getElem? (i := 25) rfl))) (Or.inl (hw _ (List.mem_of_getElem? (i := 22) rfl))) (by decide) (t := (.array (.object "java/lang/Object"))) (t' := .int) (by decide) (by decide)))
  have Z_4 : n0 ≤ h_2.size := by rw [W_2.size]; exact Z0
  have K_4 : Keep h0 h_2 [a1] := K0.wr W_2 (Or.inl (List.mem_of_getElem? (i := 0) rfl))
  have N_2 := Fr.snoc X_2 N_1 ga
  refine own_st st_2 ?_
  show own_Go p e below _ T_2 (mkF m 9 #[.val (.ref a1)] [])
  refine own_retV X_2 hx hlk Bd.returns (hb hby d2_9) (by decide) (by decide) ?_
  rw [e_2]
  exact ⟨rfl, N_2, K_4, F_3, F_6, F_7⟩
theorem d3_0 : decode jdk_38_method_2_code 0 = .ok (.aload_n 0, 1) := by decide +kernel
theorem d3_1 : decode jdk_38_method_2_code 1 = .ok (.invokespecial 1, 3) := by decide +kernel
theorem d3_4 : decode jdk_38_method_2_code 4 = .ok (.aload_n 0, 1) := by decide +kernel
theorem d3_5 : decode jdk_38_method_2_code 5 = .ok (.getstatic 39, 3) := by decide +kernel
theorem d3_8 : decode jdk_38_method_2_code 8 = .ok (.putfield 9, 3) := by decide +kernel
theorem d3_11 : decode jdk_38_method_2_code 11 = .ok (.return_, 1) := by decide +kernel
theorem pd3_0 : parseMethodDescriptor "()V" = some ⟨[], none⟩ := by decide +kernel
theorem pn3 : plainFor (⟨"java/util/ArrayList", "<init>", "()V"⟩ : MethodName) = true := by first | exact plainFor_of_name (by first | (simp [plainName, overriddenIn]; done) | decide +kernel) | decide +kernel
theorem ef3 (m : MethodId) (a1 : Addr) : entryFrame m #[(.ref a1)] 1 = mkF m 0 #[.val (.ref a1)] [] := by first | (simp [entryFrame, mkF, argsToLocals, Value.category]; done) | rfl
def Q3 (Z : State) (a1 : Addr) (da : Addr) (h0 : Heap) (n0 : Nat) (v : Option Value) (h : Heap) (L : List Loc) : Prop := v = none ∧ Fr n0 L ∧ Keep h0 h [a1] ∧ Fld Z h a1 "java/util/AbstractList" "modCount" "I" (.int (0 : Int32)) ∧ Fld Z h a1 "java/util/ArrayList" "size" "I" (.int (0 : Int32)) ∧ Fld Z h a1 "java/util/ArrayList" "elementData" "[Ljava/lang/Object;" (.ref da)
set_option maxRecDepth 65536 in
set_option maxHeartbeats 40000000 in
theorem rm3 (l : Launch) (Z : State) (a0 : Array Value) (hw : ∀ d ∈ tables_1, d.before a0 Z = true) (ws : List Jvm.Cond) (a1 : Addr) (da : Addr) (h0 : Heap) (n0 : Nat) (Z0 : n0 ≤ h0.size) (O_a : Old Z n0 h0) (A_a : Exa Z h0 a1 "java/util/ArrayList") (F_m : Fld Z h0 a1 "java/util/AbstractList" "modCount" "I" (.int (0 : Int32))) (F_s : Fld Z h0 a1 "java/util/ArrayList" "size" "I" (.int (0 : Int32))) (F_e : Fld Z h0 a1 "java/util/ArrayList" "elementData" "[Ljava/lang/Object;" (.null)) (ga : n0 ≤ a1) (Sd : Sta Z Z.heap "java/util/ArrayList" "DEFAULTCAPACITY_EMPTY_ELEMENTDATA" "[Ljava/lang/Object;" (.ref da)) :
    MetFree l (⟨"java/util/ArrayList", "<init>", "()V"⟩ : MethodName) (head1 (Jvm.Cond.code (⟨"java/util/ArrayList", "<init>", "()V"⟩ : MethodName) jdk_38_method_2_code 1 none :: ws) ({ frames := 3, cells := 0, slots := 0, locals := 36 } : Room)) (fun a U => a = #[(.ref a1)] ∧ Z.Warmed39 U.vm ∧ U.heap = h0) (fun _ _ _ _ _ => True) (fun _ U o U' => ∃ v L, o = .returned v ∧ Q3 Z a1 da h0 n0 v U'.heap L ∧ FrameEnd U o U' L ({ frames := 3, cells := 0, slots := 0, locals := 36 } : Room).cells ({ frames := 3, cells := 0, slots := 0, locals := 36 } : Room).slots) := by
  refine MetFree.of_bodySF pn3 hisR ?_
  intro p e s m args below meth c s₁ Bd hml0 hP hK
  obtain ⟨rfl, hZ, hh⟩ := hP
  have hx := Bd.exec
  have hby := Bd.bytes
  have hlk : meth.locks = false := BodyLoose.notSynchronized Bd
  have hml : c.maxLocals = 1 := hml0
  have hown : s.vm.findClass "java/util/ArrayList" = some m.cls := findClass_of_methodNamed Bd.named
  have hnm := (name_of_methodNamed Bd.named Bd.method).1
  have X0 : Stand p l e ({ frames := 3, cells := 0, slots := 0, locals := 36 } : Room) s m #[(.ref a1)] below meth c s₁ [] 0 0 := Stand.of_body Bd
  have e0 : s₁.heap = h0 := by rw [← hh, Bd.state]; rfl
  have N0 := Fr.nil n0
  have K0 : Keep h0 h0 [a1] := Keep.refl _ _
  rw [ef3 m a1]
  show own_Go p e below (own_End s (Q3 Z a1 da h0 n0) ({ frames := 3, cells := 0, slots := 0, locals := 36 } : Room).cells ({ frames := 3, cells := 0, slots := 0, locals := 36 } : Room).slots) s₁ (mkF m 0 #[.val (.ref a1)] [])
  refine own_aloadN X0 hx (hb hby d3_0) (pc' := 1) rfl rfl rfl ?_
  obtain ⟨_, _, ⟨T_1, L_1, k_1, n_1⟩, -, X_1, ⟨Lc_1, hQ_1, l_1, y_1, z_1⟩, st_1⟩ := X0.specialBack hx  (y := (⟨"java/util/AbstractList", "<init>", "()V"⟩ : MethodName)) rfl hown (mvT hZ (hw _ (List.mem_of_getElem? (i := 6) rfl))) (mvT hZ (hw _ (List.mem_of_getElem? (i := 7) rfl))) (mvT hZ (hw _ (List.mem_of_getElem? (i := 11) rfl))) (by decide) (backOf (W := 0) (rm2 l Z a0 hw [] a1 h0 n0 Z0 A_a F_m F_s F_e ga) hZ (hw _ (List.mem_of_getElem? (i := 11) rfl)) (hw _ (List.mem_of_getElem? (i := 10) rfl)) (by decide) (by decide)) (g := (mkF m 1 #[.val (.ref a1)] [(.ref a1)])) rfl (by rw [hml]; rfl) (Steps.refl _) (a := a1) (argsL := []) (rest := []) (lenOf pd3_0 rfl) rfl (by show 2 * 0 + _ ≤ _; exact Nat.le_of_eq rfl) (hb hby d3_1) (fun _ _ => ⟨rfl, e0, (by decide : 0 + 0 ≤ _), (by decide : 0 + 0 ≤ _)⟩)
  dsimp only [Pt.U, Pt.locs, Pt.cells, Pt.slots] at X_1 l_1 y_1 z_1 st_1 hQ_1
  subst l_1 y_1 z_1
  refine own_tr st_1 ?_
  obtain ⟨rfl, Nq_1, Kq_1, q0_1, q1_1, q2_1⟩ := hQ_1
  have N_1 := Fr.app N0 Nq_1
  have F_2 : Fld Z T_1.heap a1 "java/util/AbstractList" "modCount" "I" (.int (0 : Int32)) := q0_1
  have F_3 : Fld Z T_1.heap a1 "java/util/ArrayList" "size" "I" (.int (0 : Int32)) := q1_1
  have F_4 : Fld Z T_1.heap a1 "java/util/ArrayList" "elementData" "[Ljava/lang/Object;" (.null) := q2_1
  have O_6 : Old Z n0 T_1.heap := O_a.keep Kq_1 (allS ga all0)
  have A_7 : Exa Z T_1.heap a1 "java/util/ArrayList" := A_a.keep Kq_1
  have Z_5 : n0 ≤ T_1.heap.size := Nat.le_trans Z0 Kq_1.1
  have K_5 : Keep h0 T_1.heap [a1] := K0.trans Kq_1 (allS (Or.inl (List.mem_of_getElem? (i := 0) rfl)) all0)
  show own_Go p e below _ T_1 (mkF m 4 #[.val (.ref a1)] [])
  refine own_aloadN X_1 hx (hb hby d3_4) (pc' := 5) rfl rfl rfl ?_
  obtain ⟨T_8, X_8, e_8, st_8⟩ := getS2 X_1 hx hZ hown (host := "") (Or.inl (hw _ (List.mem_of_getElem? (i := 23) rfl))) Via.refl rfl (Sd.ext O_6.2) (g := (mkF m 5 #[.val (.ref a1)] [(.ref a1)])) rfl (hb hby d3_5)
  refine own_st st_8 ?_
  show own_Go p e below _ T_8 (mkF m 8 #[.val (.ref a1)] [(.ref da), (.ref a1)])
  obtain ⟨T_9, h_9, X_9, e_9, W_9, st_9⟩ := putF X_8 hx hZ hown (host := "") (Or.inl (hw _ (List.mem_of_getElem? (i := 24) rfl))) Via.refl e_8 F_4 A_7 (Or.inl (hw _ (List.mem_of_getElem? (i := 25) rfl))) (hw _ (List.mem_of_getElem? (i := 1) rfl)) (ty := (.array (.object "java/lang/Object"))) (by decide) rfl rfl (g := (mkF m 8 #[.val (.ref a1)] [(.ref da), (.ref a1)])) rfl rfl (hb hby d3_8)
  have F_10 : Fld Z h_9 a1 "java/util/ArrayList" "elementData" "[Ljava/lang/Object;" (.ref da) := F_4.same W_9
  have F_12 : Fld Z h_9 a1 "java/util/AbstractList" "modCount" "I" (.int (0 : Int32)) := F_2.other W_9 (Or.inr (RoadKit.slot_ne (Or.inl (hw _ (List.mem_of_getElem? (i := 22) rfl))) (Or.inl (hw _ (List.mem_of_getElem? (i := 25) rfl))) (by decide) (t := .int) (t' := (.array (.object "java/lang/Object"))) (by decide) (by decide)))
  have F_13 : Fld Z h_9 a1 "java/util/ArrayList" "size" "I" (.int (0 : Int32)) := F_3.other W_9 (Or.inr (RoadKit.slot_ne (Or.inl (hw _ (List.mem_of_getElem? (i := 41) rfl))) (Or.inl (hw _ (List.mem_of_getElem? (i := 25) rfl))) (by decide) (t := .int) (t' := (.array (.object "java/lang/Object"))) (by decide) (by decide)))
  have O_14 : Old Z n0 h_9 := O_6.wr W_9 ga
  have A_15 : Exa Z h_9 a1 "java/util/ArrayList" := A_7.wr W_9
  have Z_11 : n0 ≤ h_9.size := by rw [W_9.size]; exact Z_5
  have K_11 : Keep h0 h_9 [a1] := K_5.wr W_9 (Or.inl (List.mem_of_getElem? (i := 0) rfl))
  have N_9 := Fr.snoc X_9 N_1 ga
  refine own_st st_9 ?_
  show own_Go p e below _ T_9 (mkF m 11 #[.val (.ref a1)] [])
  refine own_retV X_9 hx hlk Bd.returns (hb hby d3_11) (by decide) (by decide) ?_
  rw [e_9]
  exact ⟨rfl, N_9, K_11, F_12, F_13, F_10⟩
theorem d4_0 : decode jdk_18_method_1_code 0 = .ok (.aload_n 0, 1) := by decide +kernel
theorem d4_1 : decode jdk_18_method_1_code 1 = .ok (.invokespecial 1, 3) := by decide +kernel
theorem d4_4 : decode jdk_18_method_1_code 4 = .ok (.return_, 1) := by decide +kernel
theorem pn4 : plainFor (⟨"java/lang/Number", "<init>", "()V"⟩ : MethodName) = true := by first | exact plainFor_of_name (by first | (simp [plainName, overriddenIn]; done) | decide +kernel) | decide +kernel
theorem ef4 (m : MethodId) (a1 : Addr) : entryFrame m #[(.ref a1)] 1 = mkF m 0 #[.val (.ref a1)] [] := by first | (simp [entryFrame, mkF, argsToLocals, Value.category]; done) | rfl
def Q4 (Z : State) (a1 : Addr) (h0 : Heap) (n0 : Nat) (v : Option Value) (h : Heap) (L : List Loc) : Prop := v = none ∧ Fr n0 L ∧ h = h0
set_option maxRecDepth 65536 in
set_option maxHeartbeats 40000000 in
theorem rm4 (l : Launch) (Z : State) (a0 : Array Value) (hw : ∀ d ∈ tables_1, d.before a0 Z = true) (ws : List Jvm.Cond) (a1 : Addr) (h0 : Heap) (n0 : Nat) (Z0 : n0 ≤ h0.size) :
    MetFree l (⟨"java/lang/Number", "<init>", "()V"⟩ : MethodName) (head1 (Jvm.Cond.code (⟨"java/lang/Number", "<init>", "()V"⟩ : MethodName) jdk_18_method_1_code 1 none :: ws) ({ frames := 1, cells := 0, slots := 0, locals := 12 } : Room)) (fun a U => a = #[(.ref a1)] ∧ Z.Warmed39 U.vm ∧ U.heap = h0) (fun _ _ _ _ _ => True) (fun _ U o U' => ∃ v L, o = .returned v ∧ Q4 Z a1 h0 n0 v U'.heap L ∧ FrameEnd U o U' L ({ frames := 1, cells := 0, slots := 0, locals := 12 } : Room).cells ({ frames := 1, cells := 0, slots := 0, locals := 12 } : Room).slots) := by
  refine MetFree.of_bodySF pn4 hisR ?_
  intro p e s m args below meth c s₁ Bd hml0 hP hK
  obtain ⟨rfl, hZ, hh⟩ := hP
  have hx := Bd.exec
  have hby := Bd.bytes
  have hlk : meth.locks = false := BodyLoose.notSynchronized Bd
  have hml : c.maxLocals = 1 := hml0
  have hown : s.vm.findClass "java/lang/Number" = some m.cls := findClass_of_methodNamed Bd.named
  have hnm := (name_of_methodNamed Bd.named Bd.method).1
  have X0 : Stand p l e ({ frames := 1, cells := 0, slots := 0, locals := 12 } : Room) s m #[(.ref a1)] below meth c s₁ [] 0 0 := Stand.of_body Bd
  have e0 : s₁.heap = h0 := by rw [← hh, Bd.state]; rfl
  have N0 := Fr.nil n0
  rw [ef4 m a1]
  show own_Go p e below (own_End s (Q4 Z a1 h0 n0) ({ frames := 1, cells := 0, slots := 0, locals := 12 } : Room).cells ({ frames := 1, cells := 0, slots := 0, locals := 12 } : Room).slots) s₁ (mkF m 0 #[.val (.ref a1)] [])
  refine own_aloadN X0 hx (hb hby d4_0) (pc' := 1) rfl rfl rfl ?_
  obtain ⟨T_1, X_1, e_1, st_1⟩ := initO X0 hx hZ hown (hw _ (List.mem_of_getElem? (i := 113) rfl)) (hw _ (List.mem_of_getElem? (i := 19) rfl)) (hw _ (List.mem_of_getElem? (i := 20) rfl)) e0 (g := (mkF m 1 #[.val (.ref a1)] [(.ref a1)])) rfl (by rw [hml]; rfl) rfl (hb hby d4_1) (by decide) (W := 0) (by show 2 * 0 + _ ≤ _; exact Nat.le_of_eq rfl) (by decide)
  refine own_st st_1 ?_
  show own_Go p e below _ T_1 (mkF m 4 #[.val (.ref a1)] [])
  refine own_retV X_1 hx hlk Bd.returns (hb hby d4_4) (by decide) (by decide) ?_
  rw [e_1]
  exact ⟨rfl, N0, rfl⟩
theorem d5_0 : decode jdk_33_method_23_code 0 = .ok (.aload_n 0, 1) := by decide +kernel
theorem d5_1 : decode jdk_33_method_23_code 1 = .ok (.invokespecial 202, 3) := by decide +kernel
theorem d5_4 : decode jdk_33_method_23_code 4 = .ok (.aload_n 0, 1) := by decide +kernel
theorem d5_5 : decode jdk_33_method_23_code 5 = .ok (.iload_n 1, 1) := by decide +kernel
theorem d5_6 : decode jdk_33_method_23_code 6 = .ok (.putfield 205, 3) := by decide +kernel
theorem d5_9 : decode jdk_33_method_23_code 9 = .ok (.return_, 1) := by decide +kernel
theorem pd5_0 : parseMethodDescriptor "()V" = some ⟨[], none⟩ := by decide +kernel
theorem pn5 : plainFor (⟨"java/lang/Integer", "<init>", "(I)V"⟩ : MethodName) = true := by first | exact plainFor_of_name (by first | (simp [plainName, overriddenIn]; done) | decide +kernel) | decide +kernel
theorem ef5 (m : MethodId) (a1 : Addr) (x1 : Int32) : entryFrame m #[(.ref a1), (.int x1)] 2 = mkF m 0 #[.val (.ref a1), .val (.int x1)] [] := by first | (simp [entryFrame, mkF, argsToLocals, Value.category]; done) | rfl
def Q5 (Z : State) (a1 : Addr) (x1 : Int32) (h0 : Heap) (n0 : Nat) (v : Option Value) (h : Heap) (L : List Loc) : Prop := v = none ∧ Fr n0 L ∧ Keep h0 h [a1] ∧ Fld Z h a1 "java/lang/Integer" "value" "I" (.int x1)
set_option maxRecDepth 65536 in
set_option maxHeartbeats 40000000 in
theorem rm5 (l : Launch) (Z : State) (a0 : Array Value) (hw : ∀ d ∈ tables_1, d.before a0 Z = true) (ws : List Jvm.Cond) (a1 : Addr) (x1 : Int32) (h0 : Heap) (n0 : Nat) (Z0 : n0 ≤ h0.size) (A_a : Exa Z h0 a1 "java/lang/Integer") (F_v : Fld Z h0 a1 "java/lang/Integer" "value" "I" (.int (0 : Int32))) (ga : n0 ≤ a1) :
    MetFree l (⟨"java/lang/Integer", "<init>", "(I)V"⟩ : MethodName) (head1 (Jvm.Cond.code (⟨"java/lang/Integer", "<init>", "(I)V"⟩ : MethodName) jdk_33_method_23_code 2 none :: ws) ({ frames := 2, cells := 0, slots := 0, locals := 24 } : Room)) (fun a U => a = #[(.ref a1), (.int x1)] ∧ Z.Warmed39 U.vm ∧ U.heap = h0) (fun _ _ _ _ _ => True) (fun _ U o U' => ∃ v L, o = .returned v ∧ Q5 Z a1 x1 h0 n0 v U'.heap L ∧ FrameEnd U o U' L ({ frames := 2, cells := 0, slots := 0, locals := 24 } : Room).cells ({ frames := 2, cells := 0, slots := 0, locals := 24 } : Room).slots) := by
  refine MetFree.of_bodySF pn5 hisR ?_
  intro p e s m args below meth c s₁ Bd hml0 hP hK
  obtain ⟨rfl, hZ, hh⟩ := hP
  have hx := Bd.exec
  have hby := Bd.bytes
  have hlk : meth.locks = false := BodyLoose.notSynchronized Bd
  have hml : c.maxLocals = 2 := hml0
  have hown : s.vm.findClass "java/lang/Integer" = some m.cls := findClass_of_methodNamed Bd.named
  have hnm := (name_of_methodNamed Bd.named Bd.method).1
  have X0 : Stand p l e ({ frames := 2, cells := 0, slots := 0, locals := 24 } : Room) s m #[(.ref a1), (.int x1)] below meth c s₁ [] 0 0 := Stand.of_body Bd
  have e0 : s₁.heap = h0 := by rw [← hh, Bd.state]; rfl
  have N0 := Fr.nil n0
  have K0 : Keep h0 h0 [a1] := Keep.refl _ _
  rw [ef5 m a1 x1]
  show own_Go p e below (own_End s (Q5 Z a1 x1 h0 n0) ({ frames := 2, cells := 0, slots := 0, locals := 24 } : Room).cells ({ frames := 2, cells := 0, slots := 0, locals := 24 } : Room).slots) s₁ (mkF m 0 #[.val (.ref a1), .val (.int x1)] [])
  refine own_aloadN X0 hx (hb hby d5_0) (pc' := 1) rfl rfl rfl ?_
  obtain ⟨_, _, ⟨T_1, L_1, k_1, n_1⟩, -, X_1, ⟨Lc_1, hQ_1, l_1, y_1, z_1⟩, st_1⟩ := X0.specialBack hx  (y := (⟨"java/lang/Number", "<init>", "()V"⟩ : MethodName)) rfl hown (mvT hZ (hw _ (List.mem_of_getElem? (i := 107) rfl))) (mvT hZ (hw _ (List.mem_of_getElem? (i := 108) rfl))) (mvT hZ (hw _ (List.mem_of_getElem? (i := 112) rfl))) (by decide) (backOf (W := 0) (rm4 l Z a0 hw [] a1 h0 n0 Z0) hZ (hw _ (List.mem_of_getElem? (i := 112) rfl)) (hw _ (List.mem_of_getElem? (i := 111) rfl)) (by decide) (by decide)) (g := (mkF m 1 #[.val (.ref a1), .val (.int x1)] [(.ref a1)])) rfl (by rw [hml]; rfl) (Steps.refl _) (a := a1) (argsL := []) (rest := []) (lenOf pd5_0 rfl) rfl (by show 2 * 0 + _ ≤ _; exact Nat.le_of_eq rfl) (hb hby d5_1) (fun _ _ => ⟨rfl, e0, (by decide : 0 + 0 ≤ _), (by decide : 0 + 0 ≤ _)⟩)
  dsimp only [Pt.U, Pt.locs, Pt.cells, Pt.slots] at X_1 l_1 y_1 z_1 st_1 hQ_1
  subst l_1 y_1 z_1
  refine own_tr st_1 ?_
  obtain ⟨rfl, Nq_1, eq_1⟩ := hQ_1
  have N_1 := Fr.app N0 Nq_1
  show own_Go p e below _ T_1 (mkF m 4 #[.val (.ref a1), .val (.int x1)] [])
  refine own_aloadN X_1 hx (hb hby d5_4) (pc' := 5) rfl rfl rfl ?_
  refine own_iloadN X_1 hx (hb hby d5_5) (pc' := 6) rfl rfl ?_
  obtain ⟨T_2, h_2, X_2, e_2, W_2, st_2⟩ := putF X_1 hx hZ hown (host := "") (Or.inl (hw _ (List.mem_of_getElem? (i := 114) rfl))) Via.refl eq_1 F_v A_a (Or.inr ⟨(hw _ (List.mem_of_getElem? (i := 115) rfl)), rfl, hnm⟩) (hw _ (List.mem_of_getElem? (i := 102) rfl)) (ty := .int) (by decide) rfl rfl (g := (mkF m 6 #[.val (.ref a1), .val (.int x1)] [(.int x1), (.ref a1)])) rfl rfl (hb hby d5_6)
  have F_3 : Fld Z h_2 a1 "java/lang/Integer" "value" "I" (.int x1) := F_v.same W_2
  have A_5 : Exa Z h_2 a1 "java/lang/Integer" := A_a.wr W_2
  have Z_4 : n0 ≤ h_2.size := by rw [W_2.size]; exact Z0
  have K_4 : Keep h0 h_2 [a1] := K0.wr W_2 (Or.inl (List.mem_of_getElem? (i := 0) rfl))
  have N_2 := Fr.snoc X_2 N_1 ga
  refine own_st st_2 ?_
  show own_Go p e below _ T_2 (mkF m 9 #[.val (.ref a1), .val (.int x1)] [])
  refine own_retV X_2 hx hlk Bd.returns (hb hby d5_9) (by decide) (by decide) ?_
  rw [e_2]
  exact ⟨rfl, N_2, K_4, F_3⟩
theorem d6_0 : decode jdk_33_method_22_code 0 = .ok (.iload_n 0, 1) := by decide +kernel
theorem d6_1 : decode jdk_33_method_22_code 1 = .ok (.bipush (-128), 2) := by decide +kernel
theorem d6_3 : decode jdk_33_method_22_code 3 = .ok (.if_icmp .lt 20, 3) := by decide +kernel
theorem d6_23 : decode jdk_33_method_22_code 23 = .ok (.new 1, 3) := by decide +kernel
theorem d6_26 : decode jdk_33_method_22_code 26 = .ok (.dup, 1) := by decide +kernel
theorem d6_27 : decode jdk_33_method_22_code 27 = .ok (.iload_n 0, 1) := by decide +kernel
theorem d6_28 : decode jdk_33_method_22_code 28 = .ok (.invokespecial 199, 3) := by decide +kernel
theorem d6_31 : decode jdk_33_method_22_code 31 = .ok (.areturn, 1) := by decide +kernel
theorem d6_6 : decode jdk_33_method_22_code 6 = .ok (.iload_n 0, 1) := by decide +kernel
theorem d6_7 : decode jdk_33_method_22_code 7 = .ok (.getstatic 191, 3) := by decide +kernel
theorem d6_10 : decode jdk_33_method_22_code 10 = .ok (.if_icmp .gt 13, 3) := by decide +kernel
theorem d6_13 : decode jdk_33_method_22_code 13 = .ok (.getstatic 195, 3) := by decide +kernel
theorem d6_16 : decode jdk_33_method_22_code 16 = .ok (.iload_n 0, 1) := by decide +kernel
theorem d6_17 : decode jdk_33_method_22_code 17 = .ok (.sipush 128, 3) := by decide +kernel
theorem d6_20 : decode jdk_33_method_22_code 20 = .ok (.iadd, 1) := by decide +kernel
theorem d6_21 : decode jdk_33_method_22_code 21 = .ok (.aaload, 1) := by decide +kernel
theorem d6_22 : decode jdk_33_method_22_code 22 = .ok (.areturn, 1) := by decide +kernel
theorem pd6_0 : parseMethodDescriptor "(I)V" = some ⟨[.int], none⟩ := by decide +kernel
theorem pn6 : plainFor (⟨"java/lang/Integer", "valueOf", "(I)Ljava/lang/Integer;"⟩ : MethodName) = true := by first | exact plainFor_of_name (by first | (simp [plainName, overriddenIn]; done) | decide +kernel) | decide +kernel
theorem ef6 (m : MethodId) (x1 : Int32) : entryFrame m #[(.int x1)] 1 = mkF m 0 #[.val (.int x1)] [] := by first | (simp [entryFrame, mkF, argsToLocals, Value.category]; done) | rfl
def Q6 (Z : State) (x1 : Int32) (ca : Addr) (cl : Cell) (val : Int32 → Value) (h0 : Heap) (n0 : Nat) (v : Option Value) (h : Heap) (L : List Loc) : Prop := ∃ r : Addr, v = some (.ref r) ∧ Fr n0 L ∧ Keep h0 h [] ∧ Exa Z h r "java/lang/Integer"
set_option maxRecDepth 65536 in
set_option maxHeartbeats 40000000 in
theorem rm6 (l : Launch) (Z : State) (a0 : Array Value) (hw : ∀ d ∈ tables_1, d.before a0 Z = true) (ws : List Jvm.Cond) (x1 : Int32) (ca : Addr) (cl : Cell) (val : Int32 → Value) (h0 : Heap) (n0 : Nat) (Z0 : n0 ≤ h0.size) (O_a : Old Z n0 h0) (Sh : Sta Z Z.heap "java/lang/Integer$IntegerCache" "high" "I" (.int (127 : Int32))) (Sc : Sta Z Z.heap "java/lang/Integer$IntegerCache" "cache" "[Ljava/lang/Integer;" (.ref ca)) (Bx : Bxs Z ca cl "java/lang/Integer" "I" (256 : Int32) val) :
    MetFree l (⟨"java/lang/Integer", "valueOf", "(I)Ljava/lang/Integer;"⟩ : MethodName) (head1 (Jvm.Cond.code (⟨"java/lang/Integer", "valueOf", "(I)Ljava/lang/Integer;"⟩ : MethodName) jdk_33_method_22_code 1 (some (.object "java/lang/Integer")) :: ws) ({ frames := 3, cells := 1, slots := 1, locals := 38 } : Room)) (fun a U => a = #[(.int x1)] ∧ Z.Warmed39 U.vm ∧ U.heap = h0) (fun _ _ _ _ _ => True) (fun _ U o U' => ∃ v L, o = .returned v ∧ Q6 Z x1 ca cl val h0 n0 v U'.heap L ∧ FrameEnd U o U' L ({ frames := 3, cells := 1, slots := 1, locals := 38 } : Room).cells ({ frames := 3, cells := 1, slots := 1, locals := 38 } : Room).slots) := by
  refine MetFree.of_bodySF pn6 hisR ?_
  intro p e s m args below meth c s₁ Bd hml0 hP hK
  obtain ⟨rfl, hZ, hh⟩ := hP
  have hx := Bd.exec
  have hby := Bd.bytes
  have hlk : meth.locks = false := BodyLoose.notSynchronized Bd
  have hml : c.maxLocals = 1 := hml0
  have hown : s.vm.findClass "java/lang/Integer" = some m.cls := findClass_of_methodNamed Bd.named
  have hnm := (name_of_methodNamed Bd.named Bd.method).1
  have X0 : Stand p l e ({ frames := 3, cells := 1, slots := 1, locals := 38 } : Room) s m #[(.int x1)] below meth c s₁ [] 0 0 := Stand.of_body Bd
  have e0 : s₁.heap = h0 := by rw [← hh, Bd.state]; rfl
  have N0 := Fr.nil n0
  have K0 : Keep h0 h0 [] := Keep.refl _ _
  rw [ef6 m x1]
  show own_Go p e below (own_End s (Q6 Z x1 ca cl val h0 n0) ({ frames := 3, cells := 1, slots := 1, locals := 38 } : Room).cells ({ frames := 3, cells := 1, slots := 1, locals := 38 } : Room).slots) s₁ (mkF m 0 #[.val (.int x1)] [])
  refine own_iloadN X0 hx (hb hby d6_0) (pc' := 1) rfl rfl ?_
  refine own_bipush X0 hx (-128) (hb hby d6_1) (pc' := 3) rfl (by decide) ?_
  by_cases c_1 : x1 < (-128 : Int32)
  · skip
    refine own_icmpY X0 hx (hb hby d6_3) (XT.ii_lt_t c_1) (pc' := 23) (by decide) (by decide) ?_
    obtain ⟨T_2, h_2, X_2, e_2, E_2, A_2, D_2, -, st_2⟩ := newO X0 hx hZ hown (hw _ (List.mem_of_getElem? (i := 101) rfl)) (hw _ (List.mem_of_getElem? (i := 102) rfl)) (hw _ (List.mem_of_getElem? (i := 28) rfl)) e0 (g := (mkF m 23 #[.val (.int x1)] [])) rfl (hb hby d6_23) (by decide) (by decide)
    obtain ⟨a_2, g_2⟩ : ∃ z, z = h0.size := ⟨_, rfl⟩
    rw [← g_2] at A_2 D_2 st_2
    have ge_2 : n0 ≤ a_2 := Nat.le_trans Z0 (Nat.le_of_eq g_2.symm)
    have nw_2 : h0.size ≤ a_2 := Nat.le_trans K0.1 (Nat.le_of_eq g_2.symm)
    have O_4 : Old Z n0 h_2 := O_a.ext E_2
    have Z_3 : n0 ≤ h_2.size := Nat.le_trans Z0 E_2.1
    have K_3 : Keep h0 h_2 [] := K0.ext E_2
    have F_5 : Fld Z h_2 a_2 "java/lang/Integer" "value" "I" (.int (0 : Int32)) := D_2 (Or.inr (hw _ (List.mem_of_getElem? (i := 115) rfl))) (ty := .int) (by decide)
    refine own_st st_2 ?_
    show own_Go p e below _ T_2 (mkF m 26 #[.val (.int x1)] [(.ref a_2)])
    refine own_dup X_2 hx (hb hby d6_26) (pc' := 27) rfl rfl ?_
    refine own_iloadN X_2 hx (hb hby d6_27) (pc' := 28) rfl rfl ?_
    obtain ⟨_, _, ⟨T_6, L_6, k_6, n_6⟩, -, X_6, ⟨Lc_6, hQ_6, l_6, y_6, z_6⟩, st_6⟩ := X_2.specialBack hx  (y := (⟨"java/lang/Integer", "<init>", "(I)V"⟩ : MethodName)) rfl hown (mvT hZ (hw _ (List.mem_of_getElem? (i := 103) rfl))) (mvT hZ (hw _ (List.mem_of_getElem? (i := 104) rfl))) (mvT hZ (hw _ (List.mem_of_getElem? (i := 106) rfl))) (by decide) (backOf (W := 1) (rm5 l Z a0 hw [] a_2 x1 h_2 n0 Z_3 A_2 F_5 ge_2) hZ (hw _ (List.mem_of_getElem? (i := 106) rfl)) (hw _ (List.mem_of_getElem? (i := 28) rfl)) (by decide) (by decide)) (g := (mkF m 28 #[.val (.int x1)] [(.int x1), (.ref a_2), (.ref a_2)])) rfl (by rw [hml]; rfl) (Steps.refl _) (a := a_2) (argsL := [(.int x1)]) (rest := [(.ref a_2)]) (lenOf pd6_0 rfl) rfl (by show 2 * 0 + _ ≤ _; exact Nat.le_of_eq rfl) (hb hby d6_28) (fun _ _ => ⟨rfl, e_2, (by decide : 1 + 0 ≤ _), (by decide : 1 + 0 ≤ _)⟩)
    dsimp only [Pt.U, Pt.locs, Pt.cells, Pt.slots] at X_6 l_6 y_6 z_6 st_6 hQ_6
    subst l_6 y_6 z_6
    refine own_tr st_6 ?_
    obtain ⟨rfl, Nq_6, Kq_6, q0_6⟩ := hQ_6
    have N_6 := Fr.app N0 Nq_6
    have F_7 : Fld Z T_6.heap a_2 "java/lang/Integer" "value" "I" (.int x1) := q0_6
    have O_9 : Old Z n0 T_6.heap := O_4.keep Kq_6 (allS ge_2 all0)
    have A_10 : Exa Z T_6.heap a_2 "java/lang/Integer" := A_2.keep Kq_6
    have Z_8 : n0 ≤ T_6.heap.size := Nat.le_trans Z_3 Kq_6.1
    have K_8 : Keep h0 T_6.heap [] := K_3.trans Kq_6 (allS (Or.inr nw_2) all0)
    show own_Go p e below _ T_6 (mkF m 31 #[.val (.int x1)] [(.ref a_2)])
    refine own_retA X_6 hx hlk Bd.returns rfl rfl (hb hby d6_31) (by decide) (by decide) ?_
    exact ⟨a_2, rfl, N_6, K_8, A_10⟩
  · skip
    refine own_icmpN X0 hx (hb hby d6_3) (XT.ii_lt_f c_1) (pc' := 6) rfl ?_
    refine own_iloadN X0 hx (hb hby d6_6) (pc' := 7) rfl rfl ?_
    obtain ⟨T_11, X_11, e_11, st_11⟩ := getS2 X0 hx hZ hown (host := "") (Or.inl (hw _ (List.mem_of_getElem? (i := 30) rfl))) Via.refl e0 (Sh.ext O_a.2) (g := (mkF m 7 #[.val (.int x1)] [(.int x1)])) rfl (hb hby d6_7)
    refine own_st st_11 ?_
    show own_Go p e below _ T_11 (mkF m 10 #[.val (.int x1)] [(.int (127 : Int32)), (.int x1)])
    by_cases c_12 : (127 : Int32) < x1
    · skip
      refine own_icmpY X_11 hx (hb hby d6_10) (XT.ii_gt_t c_12) (pc' := 23) (by decide) (by decide) ?_
      obtain ⟨T_13, h_13, X_13, e_13, E_13, A_13, D_13, -, st_13⟩ := newO X_11 hx hZ hown (hw _ (List.mem_of_getElem? (i := 101) rfl)) (hw _ (List.mem_of_getElem? (i := 102) rfl)) (hw _ (List.mem_of_getElem? (i := 28) rfl)) e_11 (g := (mkF m 23 #[.val (.int x1)] [])) rfl (hb hby d6_23) (by decide) (by decide)
      obtain ⟨a_13, g_13⟩ : ∃ z, z = h0.size := ⟨_, rfl⟩
      rw [← g_13] at A_13 D_13 st_13
      have ge_13 : n0 ≤ a_13 := Nat.le_trans Z0 (Nat.le_of_eq g_13.symm)
      have nw_13 : h0.size ≤ a_13 := Nat.le_trans K0.1 (Nat.le_of_eq g_13.symm)
      have O_15 : Old Z n0 h_13 := O_a.ext E_13
      have Z_14 : n0 ≤ h_13.size := Nat.le_trans Z0 E_13.1
      have K_14 : Keep h0 h_13 [] := K0.ext E_13
      have F_16 : Fld Z h_13 a_13 "java/lang/Integer" "value" "I" (.int (0 : Int32)) := D_13 (Or.inr (hw _ (List.mem_of_getElem? (i := 115) rfl))) (ty := .int) (by decide)
      refine own_st st_13 ?_
      show own_Go p e below _ T_13 (mkF m 26 #[.val (.int x1)] [(.ref a_13)])
      refine own_dup X_13 hx (hb hby d6_26) (pc' := 27) rfl rfl ?_
      refine own_iloadN X_13 hx (hb hby d6_27) (pc' := 28) rfl rfl ?_
      obtain ⟨_, _, ⟨T_17, L_17, k_17, n_17⟩, -, X_17, ⟨Lc_17, hQ_17, l_17, y_17, z_17⟩, st_17⟩ := X_13.specialBack hx  (y := (⟨"java/lang/Integer", "<init>", "(I)V"⟩ : MethodName)) rfl hown (mvT hZ (hw _ (List.mem_of_getElem? (i := 103) rfl))) (mvT hZ (hw _ (List.mem_of_getElem? (i := 104) rfl))) (mvT hZ (hw _ (List.mem_of_getElem? (i := 106) rfl))) (by decide) (backOf (W := 1) (rm5 l Z a0 hw [] a_13 x1 h_13 n0 Z_14 A_13 F_16 ge_13) hZ (hw _ (List.mem_of_getElem? (i := 106) rfl)) (hw _ (List.mem_of_getElem? (i := 28) rfl)) (by decide) (by decide)) (g := (mkF m 28 #[.val (.int x1)] [(.int x1), (.ref a_13), (.ref a_13)])) rfl (by rw [hml]; rfl) (Steps.refl _) (a := a_13) (argsL := [(.int x1)]) (rest := [(.ref a_13)]) (lenOf pd6_0 rfl) rfl (by show 2 * 0 + _ ≤ _; exact Nat.le_of_eq rfl) (hb hby d6_28) (fun _ _ => ⟨rfl, e_13, (by decide : 1 + 0 ≤ _), (by decide : 1 + 0 ≤ _)⟩)
      dsimp only [Pt.U, Pt.locs, Pt.cells, Pt.slots] at X_17 l_17 y_17 z_17 st_17 hQ_17
      subst l_17 y_17 z_17
      refine own_tr st_17 ?_
      obtain ⟨rfl, Nq_17, Kq_17, q0_17⟩ := hQ_17
      have N_17 := Fr.app N0 Nq_17
      have F_18 : Fld Z T_17.heap a_13 "java/lang/Integer" "value" "I" (.int x1) := q0_17
      have O_20 : Old Z n0 T_17.heap := O_15.keep Kq_17 (allS ge_13 all0)
      have A_21 : Exa Z T_17.heap a_13 "java/lang/Integer" := A_13.keep Kq_17
      have Z_19 : n0 ≤ T_17.heap.size := Nat.le_trans Z_14 Kq_17.1
      have K_19 : Keep h0 T_17.heap [] := K_14.trans Kq_17 (allS (Or.inr nw_13) all0)
      show own_Go p e below _ T_17 (mkF m 31 #[.val (.int x1)] [(.ref a_13)])
      refine own_retA X_17 hx hlk Bd.returns rfl rfl (hb hby d6_31) (by decide) (by decide) ?_
      exact ⟨a_13, rfl, N_17, K_19, A_21⟩
    · skip
      refine own_icmpN X_11 hx (hb hby d6_10) (XT.ii_gt_f c_12) (pc' := 13) rfl ?_
      obtain ⟨T_22, X_22, e_22, st_22⟩ := getS2 X_11 hx hZ hown (host := "") (Or.inl (hw _ (List.mem_of_getElem? (i := 32) rfl))) Via.refl e_11 (Sc.ext O_a.2) (g := (mkF m 13 #[.val (.int x1)] [])) rfl (hb hby d6_13)
      refine own_st st_22 ?_
      show own_Go p e below _ T_22 (mkF m 16 #[.val (.int x1)] [(.ref ca)])
      refine own_iloadN X_22 hx (hb hby d6_16) (pc' := 17) rfl rfl ?_
      refine own_sipush X_22 hx (128) (hb hby d6_17) (pc' := 20) rfl (by decide) ?_
      refine own_iadd X_22 hx (hb hby d6_20) (pc' := 21) rfl ?_
      have hix : ¬ ((x1 + (128 : Int32)) < 0 ∨ cl.slots.size ≤ (x1 + (128 : Int32)).toNatClampNeg) := own_ix Bx.2.1 c_1 c_12
      obtain ⟨bx, hb1, hb2, -⟩ := Bx.2.2.2 _ hix
      refine own_st (X_22.aaload hx (j := (x1 + (128 : Int32))) (v := .ref bx) (by rw [e_22]; exact (Bx.ext O_a.2).1.1) (State.isArrayOf_alike hZ.alike (Bx.ext O_a.2).1.2.1) rfl (Bx.ext O_a.2).1.2.2 hix hb1 (g := (mkF m 21 #[.val (.int x1)] [(.int (x1 + (128 : Int32))), (.ref ca)])) rfl rfl (hb hby d6_21)) ?_
      have A_bx : Exa Z h0 bx "java/lang/Integer" := hb2.ext O_a.2
      show own_Go p e below _ T_22 (mkF m 22 #[.val (.int x1)] [(.ref bx)])
      refine own_retA X_22 hx hlk Bd.returns rfl rfl (hb hby d6_22) (by decide) (by decide) ?_
      rw [e_22]
      exact ⟨bx, rfl, N0, K0, A_bx⟩
theorem d7_0 : decode jdk_29_method_65_code 0 = .ok (.iload_n 0, 1) := by decide +kernel
theorem d7_1 : decode jdk_29_method_65_code 1 = .ok (.iload_n 1, 1) := by decide +kernel
theorem d7_2 : decode jdk_29_method_65_code 2 = .ok (.if_icmp .lt 7, 3) := by decide +kernel
theorem d7_9 : decode jdk_29_method_65_code 9 = .ok (.iload_n 1, 1) := by decide +kernel
theorem d7_10 : decode jdk_29_method_65_code 10 = .ok (.ireturn, 1) := by decide +kernel
theorem d7_5 : decode jdk_29_method_65_code 5 = .ok (.iload_n 0, 1) := by decide +kernel
theorem d7_6 : decode jdk_29_method_65_code 6 = .ok (.goto 4, 3) := by decide +kernel
theorem pn7 : plainFor (⟨"java/lang/Math", "max", "(II)I"⟩ : MethodName) = true := by first | exact plainFor_of_name (by first | (simp [plainName, overriddenIn]; done) | decide +kernel) | decide +kernel
theorem ef7 (m : MethodId) (x1 : Int32) (x2 : Int32) : entryFrame m #[(.int x1), (.int x2)] 2 = mkF m 0 #[.val (.int x1), .val (.int x2)] [] := by first | (simp [entryFrame, mkF, argsToLocals, Value.category]; done) | rfl
def Q7 (Z : State) (x1 : Int32) (x2 : Int32) (h0 : Heap) (n0 : Nat) (v : Option Value) (h : Heap) (L : List Loc) : Prop := v = some (.int (if x1 < x2 then x2 else x1)) ∧ Fr n0 L ∧ h = h0
set_option maxRecDepth 65536 in
set_option maxHeartbeats 40000000 in
theorem rm7 (l : Launch) (Z : State) (a0 : Array Value) (hw : ∀ d ∈ tables_1, d.before a0 Z = true) (ws : List Jvm.Cond) (x1 : Int32) (x2 : Int32) (h0 : Heap) (n0 : Nat) (Z0 : n0 ≤ h0.size) :
    MetFree l (⟨"java/lang/Math", "max", "(II)I"⟩ : MethodName) (head1 (Jvm.Cond.code (⟨"java/lang/Math", "max", "(II)I"⟩ : MethodName) jdk_29_method_65_code 2 (some .int) :: ws) ({ frames := 0, cells := 0, slots := 0, locals := 0 } : Room)) (fun a U => a = #[(.int x1), (.int x2)] ∧ Z.Warmed39 U.vm ∧ U.heap = h0) (fun _ _ _ _ _ => True) (fun _ U o U' => ∃ v L, o = .returned v ∧ Q7 Z x1 x2 h0 n0 v U'.heap L ∧ FrameEnd U o U' L ({ frames := 0, cells := 0, slots := 0, locals := 0 } : Room).cells ({ frames := 0, cells := 0, slots := 0, locals := 0 } : Room).slots) := by
  refine MetFree.of_bodySF pn7 hisR ?_
  intro p e s m args below meth c s₁ Bd hml0 hP hK
  obtain ⟨rfl, hZ, hh⟩ := hP
  have hx := Bd.exec
  have hby := Bd.bytes
  have hlk : meth.locks = false := BodyLoose.notSynchronized Bd
  have hml : c.maxLocals = 2 := hml0
  have hown : s.vm.findClass "java/lang/Math" = some m.cls := findClass_of_methodNamed Bd.named
  have hnm := (name_of_methodNamed Bd.named Bd.method).1
  have X0 : Stand p l e ({ frames := 0, cells := 0, slots := 0, locals := 0 } : Room) s m #[(.int x1), (.int x2)] below meth c s₁ [] 0 0 := Stand.of_body Bd
  have e0 : s₁.heap = h0 := by rw [← hh, Bd.state]; rfl
  have N0 := Fr.nil n0
  rw [ef7 m x1 x2]
  show own_Go p e below (own_End s (Q7 Z x1 x2 h0 n0) ({ frames := 0, cells := 0, slots := 0, locals := 0 } : Room).cells ({ frames := 0, cells := 0, slots := 0, locals := 0 } : Room).slots) s₁ (mkF m 0 #[.val (.int x1), .val (.int x2)] [])
  refine own_iloadN X0 hx (hb hby d7_0) (pc' := 1) rfl rfl ?_
  refine own_iloadN X0 hx (hb hby d7_1) (pc' := 2) rfl rfl ?_
  by_cases c_1 : x1 < x2
  · skip
    refine own_icmpY X0 hx (hb hby d7_2) (XT.ii_lt_t c_1) (pc' := 9) (by decide) (by decide) ?_
    refine own_iloadN X0 hx (hb hby d7_9) (pc' := 10) rfl rfl ?_
    refine own_retI X0 hx hlk Bd.returns (hb hby d7_10) (by decide) (by decide) ?_
    rw [e0]
    exact ⟨by simp [c_1], N0, rfl⟩
  · skip
    refine own_icmpN X0 hx (hb hby d7_2) (XT.ii_lt_f c_1) (pc' := 5) rfl ?_
    refine own_iloadN X0 hx (hb hby d7_5) (pc' := 6) rfl rfl ?_
    refine own_goto X0 hx (hb hby d7_6) (pc' := 10) (by decide) (by decide) ?_
    refine own_retI X0 hx hlk Bd.returns (hb hby d7_10) (by decide) (by decide) ?_
    rw [e0]
    exact ⟨by simp [c_1], N0, rfl⟩
theorem d8_0 : decode jdk_38_method_6_code 0 = .ok (.aload_n 0, 1) := by decide +kernel
theorem d8_1 : decode jdk_38_method_6_code 1 = .ok (.getfield 9, 3) := by decide +kernel
theorem d8_4 : decode jdk_38_method_6_code 4 = .ok (.arraylength, 1) := by decide +kernel
theorem d8_5 : decode jdk_38_method_6_code 5 = .ok (.istore_n 2, 1) := by decide +kernel
theorem d8_6 : decode jdk_38_method_6_code 6 = .ok (.iload_n 2, 1) := by decide +kernel
theorem d8_7 : decode jdk_38_method_6_code 7 = .ok (.ifCond .gt 13, 3) := by decide +kernel
theorem d8_10 : decode jdk_38_method_6_code 10 = .ok (.aload_n 0, 1) := by decide +kernel
theorem d8_11 : decode jdk_38_method_6_code 11 = .ok (.getfield 9, 3) := by decide +kernel
theorem d8_14 : decode jdk_38_method_6_code 14 = .ok (.getstatic 39, 3) := by decide +kernel
theorem d8_17 : decode jdk_38_method_6_code 17 = .ok (.if_acmp .eq 28, 3) := by decide +kernel
theorem d8_45 : decode jdk_38_method_6_code 45 = .ok (.aload_n 0, 1) := by decide +kernel
theorem d8_46 : decode jdk_38_method_6_code 46 = .ok (.bipush 10, 2) := by decide +kernel
theorem d8_48 : decode jdk_38_method_6_code 48 = .ok (.iload_n 1, 1) := by decide +kernel
theorem d8_49 : decode jdk_38_method_6_code 49 = .ok (.invokestatic 79, 3) := by decide +kernel
theorem d8_52 : decode jdk_38_method_6_code 52 = .ok (.anewarray 7, 3) := by decide +kernel
theorem d8_55 : decode jdk_38_method_6_code 55 = .ok (.dup_x1, 1) := by decide +kernel
theorem d8_56 : decode jdk_38_method_6_code 56 = .ok (.putfield 9, 3) := by decide +kernel
theorem d8_59 : decode jdk_38_method_6_code 59 = .ok (.areturn, 1) := by decide +kernel
theorem pd8_0 : parseMethodDescriptor "(II)I" = some ⟨[.int, .int], some .int⟩ := by decide +kernel
theorem pn8 : plainFor (⟨"java/util/ArrayList", "grow", "(I)[Ljava/lang/Object;"⟩ : MethodName) = true := by first | exact plainFor_of_name (by first | (simp [plainName, overriddenIn]; done) | decide +kernel) | decide +kernel
theorem ef8 (m : MethodId) (a1 : Addr) : entryFrame m #[(.ref a1), (.int (1 : Int32))] 4 = mkF m 0 #[.val (.ref a1), .val (.int (1 : Int32)), .unset, .unset] [] := by first | (simp [entryFrame, mkF, argsToLocals, Value.category]; done) | rfl
def Q8 (Z : State) (a1 : Addr) (da : Addr) (mc : Int32) (h0 : Heap) (n0 : Nat) (v : Option Value) (h : Heap) (L : List Loc) : Prop := ∃ na : Addr, v = some (.ref na) ∧ Fr n0 L ∧ Keep h0 h [a1] ∧ own_LenO Z h na "java/lang/Object" (10 : Int32) ∧ n0 ≤ na ∧ h0.size ≤ na ∧ Fld Z h a1 "java/util/AbstractList" "modCount" "I" (.int mc) ∧ Fld Z h a1 "java/util/ArrayList" "size" "I" (.int (0 : Int32)) ∧ Fld Z h a1 "java/util/ArrayList" "elementData" "[Ljava/lang/Object;" (.ref na)
set_option maxRecDepth 65536 in
set_option maxHeartbeats 40000000 in
theorem rm8 (l : Launch) (Z : State) (a0 : Array Value) (hw : ∀ d ∈ tables_1, d.before a0 Z = true) (ws : List Jvm.Cond) (a1 : Addr) (da : Addr) (mc : Int32) (h0 : Heap) (n0 : Nat) (Z0 : n0 ≤ h0.size) (O_a : Old Z n0 h0) (A_a : Exa Z h0 a1 "java/util/ArrayList") (F_m : Fld Z h0 a1 "java/util/AbstractList" "modCount" "I" (.int mc)) (F_s : Fld Z h0 a1 "java/util/ArrayList" "size" "I" (.int (0 : Int32))) (F_e : Fld Z h0 a1 "java/util/ArrayList" "elementData" "[Ljava/lang/Object;" (.ref da)) (V_d : own_Len Z h0 da (.object "java/lang/Object") (0 : Int32)) (ga : n0 ≤ a1) (Sd : Sta Z Z.heap "java/util/ArrayList" "DEFAULTCAPACITY_EMPTY_ELEMENTDATA" "[Ljava/lang/Object;" (.ref da)) :
    MetFree l (⟨"java/util/ArrayList", "grow", "(I)[Ljava/lang/Object;"⟩ : MethodName) (head1 (Jvm.Cond.code (⟨"java/util/ArrayList", "grow", "(I)[Ljava/lang/Object;"⟩ : MethodName) jdk_38_method_6_code 4 (some (.array (.object "java/lang/Object"))) :: ws) ({ frames := 1, cells := 1, slots := 10, locals := 14 } : Room)) (fun a U => a = #[(.ref a1), (.int (1 : Int32))] ∧ Z.Warmed39 U.vm ∧ U.heap = h0) (fun _ _ _ _ _ => True) (fun _ U o U' => ∃ v L, o = .returned v ∧ Q8 Z a1 da mc h0 n0 v U'.heap L ∧ FrameEnd U o U' L ({ frames := 1, cells := 1, slots := 10, locals := 14 } : Room).cells ({ frames := 1, cells := 1, slots := 10, locals := 14 } : Room).slots) := by
  refine MetFree.of_bodySF pn8 hisR ?_
  intro p e s m args below meth c s₁ Bd hml0 hP hK
  obtain ⟨rfl, hZ, hh⟩ := hP
  have hx := Bd.exec
  have hby := Bd.bytes
  have hlk : meth.locks = false := BodyLoose.notSynchronized Bd
  have hml : c.maxLocals = 4 := hml0
  have hown : s.vm.findClass "java/util/ArrayList" = some m.cls := findClass_of_methodNamed Bd.named
  have hnm := (name_of_methodNamed Bd.named Bd.method).1
  have X0 : Stand p l e ({ frames := 1, cells := 1, slots := 10, locals := 14 } : Room) s m #[(.ref a1), (.int (1 : Int32))] below meth c s₁ [] 0 0 := Stand.of_body Bd
  have e0 : s₁.heap = h0 := by rw [← hh, Bd.state]; rfl
  have N0 := Fr.nil n0
  have K0 : Keep h0 h0 [a1] := Keep.refl _ _
  rw [ef8 m a1]
  show own_Go p e below (own_End s (Q8 Z a1 da mc h0 n0) ({ frames := 1, cells := 1, slots := 10, locals := 14 } : Room).cells ({ frames := 1, cells := 1, slots := 10, locals := 14 } : Room).slots) s₁ (mkF m 0 #[.val (.ref a1), .val (.int (1 : Int32)), .unset, .unset] [])
  refine own_aloadN X0 hx (hb hby d8_0) (pc' := 1) rfl rfl rfl ?_
  obtain ⟨T_1, X_1, e_1, st_1⟩ := getF X0 hx hZ hown (host := "") (Or.inl (hw _ (List.mem_of_getElem? (i := 24) rfl))) Via.refl e0 F_e (g := (mkF m 1 #[.val (.ref a1), .val (.int (1 : Int32)), .unset, .unset] [(.ref a1)])) rfl rfl (hb hby d8_1)
  refine own_st st_1 ?_
  show own_Go p e below _ T_1 (mkF m 4 #[.val (.ref a1), .val (.int (1 : Int32)), .unset, .unset] [(.ref da)])
  refine own_alenL X_1 hx hZ e_1 V_d (hb hby d8_4) (pc' := 5) rfl ?_
  refine own_istoreN X_1 hx (hb hby d8_5) (pc' := 6) (Ls' := #[.val (.ref a1), .val (.int (1 : Int32)), .val (.int (0 : Int32)), .unset]) rfl rfl ?_
  refine own_iloadN X_1 hx (hb hby d8_6) (pc' := 7) rfl rfl ?_
  refine own_ifN X_1 hx (hb hby d8_7) (by decide) (pc' := 10) rfl ?_
  refine own_aloadN X_1 hx (hb hby d8_10) (pc' := 11) rfl rfl rfl ?_
  obtain ⟨T_2, X_2, e_2, st_2⟩ := getF X_1 hx hZ hown (host := "") (Or.inl (hw _ (List.mem_of_getElem? (i := 24) rfl))) Via.refl e_1 F_e (g := (mkF m 11 #[.val (.ref a1), .val (.int (1 : Int32)), .val (.int (0 : Int32)), .unset] [(.ref a1)])) rfl rfl (hb hby d8_11)
  refine own_st st_2 ?_
  show own_Go p e below _ T_2 (mkF m 14 #[.val (.ref a1), .val (.int (1 : Int32)), .val (.int (0 : Int32)), .unset] [(.ref da)])
  obtain ⟨T_3, X_3, e_3, st_3⟩ := getS2 X_2 hx hZ hown (host := "") (Or.inl (hw _ (List.mem_of_getElem? (i := 23) rfl))) Via.refl e_2 (Sd.ext O_a.2) (g := (mkF m 14 #[.val (.ref a1), .val (.int (1 : Int32)), .val (.int (0 : Int32)), .unset] [(.ref da)])) rfl (hb hby d8_14)
  refine own_st st_3 ?_
  show own_Go p e below _ T_3 (mkF m 17 #[.val (.ref a1), .val (.int (1 : Int32)), .val (.int (0 : Int32)), .unset] [(.ref da), (.ref da)])
  refine own_acmpY X_3 hx rfl rfl (hb hby d8_17) (XT.aa_eq_t rfl) (pc' := 45) (by decide) (by decide) ?_
  refine own_aloadN X_3 hx (hb hby d8_45) (pc' := 46) rfl rfl rfl ?_
  refine own_bipush X_3 hx (10) (hb hby d8_46) (pc' := 48) rfl (by decide) ?_
  refine own_iloadN X_3 hx (hb hby d8_48) (pc' := 49) rfl rfl ?_
  obtain ⟨_, _, ⟨T_4, L_4, k_4, n_4⟩, -, X_4, ⟨Lc_4, hQ_4, l_4, y_4, z_4⟩, st_4⟩ := Jvm.LawKit.callS X_3 hx (y := (⟨"java/lang/Math", "max", "(II)I"⟩ : MethodName)) hown (mvT hZ (hw _ (List.mem_of_getElem? (i := 57) rfl))) (mvT hZ (hw _ (List.mem_of_getElem? (i := 58) rfl))) (mvT hZ (hw _ (List.mem_of_getElem? (i := 59) rfl))) (mvT hZ (hw _ (List.mem_of_getElem? (i := 60) rfl))) (by decide) (backOf (W := 1) (rm7 l Z a0 hw [] (10 : Int32) (1 : Int32) h0 n0 Z0) hZ (hw _ (List.mem_of_getElem? (i := 60) rfl)) (hw _ (List.mem_of_getElem? (i := 59) rfl)) (by decide) (by decide)) (g := (mkF m 49 #[.val (.ref a1), .val (.int (1 : Int32)), .val (.int (0 : Int32)), .unset] [(.int (1 : Int32)), (.int (10 : Int32)), (.ref a1)])) rfl (by rw [hml]; rfl) (argsL := [(.int (10 : Int32)), (.int (1 : Int32))]) (rest := [(.ref a1)]) (lenOf pd8_0 rfl) rfl (by show 2 * 0 + _ ≤ _; exact Nat.le_of_eq rfl) (hb hby d8_49) (fun _ _ => ⟨rfl, e_3, (by decide : 0 + 0 ≤ _), (by decide : 0 + 0 ≤ _)⟩)
  dsimp only [Pt.U, Pt.locs, Pt.cells, Pt.slots] at X_4 l_4 y_4 z_4 st_4 hQ_4
  subst l_4 y_4 z_4
  refine own_st st_4 ?_
  obtain ⟨rfl, Nq_4, eq_4⟩ := hQ_4
  have N_4 := Fr.app N0 Nq_4
  dsimp only [Option.toList, List.cons_append, List.nil_append]
  rw [show (if (10 : Int32) < (1 : Int32) then (1 : Int32) else (10 : Int32)) = (10 : Int32) from by decide]
  show own_Go p e below _ T_4 (mkF m 52 #[.val (.ref a1), .val (.int (1 : Int32)), .val (.int (0 : Int32)), .unset] [(.int (10 : Int32)), (.ref a1)])
  obtain ⟨T_5, h_5, kc_5, X_5, e_5, E_5, A_5, O_5, st_5⟩ := newR X_4 hx hZ hown (hw _ (List.mem_of_getElem? (i := 61) rfl)) (hw _ (List.mem_of_getElem? (i := 62) rfl)) eq_4 (g := (mkF m 52 #[.val (.ref a1), .val (.int (1 : Int32)), .val (.int (0 : Int32)), .unset] [(.int (10 : Int32)), (.ref a1)])) rfl (hb hby d8_52) rfl (by decide) (cap := 10) (by decide) (by decide) (by decide) (by decide)
  obtain ⟨a_5, g_5⟩ : ∃ z, z = h0.size := ⟨_, rfl⟩
  rw [← g_5] at A_5 st_5
  have ge_5 : n0 ≤ a_5 := Nat.le_trans Z0 (Nat.le_of_eq g_5.symm)
  have nw_5 : h0.size ≤ a_5 := Nat.le_trans K0.1 (Nat.le_of_eq g_5.symm)
  have ne_5_a1 : a1 ≠ a_5 := Nat.ne_of_lt (Nat.lt_of_lt_of_eq A_a.lt g_5.symm)
  have ne_5_da : da ≠ a_5 := Nat.ne_of_lt (Nat.lt_of_lt_of_eq V_d.lt g_5.symm)
  have O_7 : Old Z n0 h_5 := O_a.ext E_5
  have A_8 : Exa Z h_5 a1 "java/util/ArrayList" := A_a.ext E_5
  have F_9 : Fld Z h_5 a1 "java/util/AbstractList" "modCount" "I" (.int mc) := F_m.ext E_5
  have F_10 : Fld Z h_5 a1 "java/util/ArrayList" "size" "I" (.int (0 : Int32)) := F_s.ext E_5
  have F_11 : Fld Z h_5 a1 "java/util/ArrayList" "elementData" "[Ljava/lang/Object;" (.ref da) := F_e.ext E_5
  have V_12 : own_Len Z h_5 da (.object "java/lang/Object") (0 : Int32) := V_d.ext E_5
  have Z_6 : n0 ≤ h_5.size := Nat.le_trans Z0 E_5.1
  have K_6 : Keep h0 h_5 [a1] := K0.ext E_5
  have V_13 : own_LenO Z h_5 a_5 "java/lang/Object" (10 : Int32) := ⟨_, A_5, sz_new _ _ _, (by decide), O_5⟩
  refine own_st st_5 ?_
  show own_Go p e below _ T_5 (mkF m 55 #[.val (.ref a1), .val (.int (1 : Int32)), .val (.int (0 : Int32)), .unset] [(.ref a_5), (.ref a1)])
  refine own_dupX1 X_5 hx (hb hby d8_55) (pc' := 56) rfl rfl rfl ?_
  obtain ⟨T_14, h_14, X_14, e_14, W_14, st_14⟩ := putF X_5 hx hZ hown (host := "") (Or.inl (hw _ (List.mem_of_getElem? (i := 24) rfl))) Via.refl e_5 F_11 A_8 (Or.inl (hw _ (List.mem_of_getElem? (i := 25) rfl))) (hw _ (List.mem_of_getElem? (i := 1) rfl)) (ty := (.array (.object "java/lang/Object"))) (by decide) rfl rfl (g := (mkF m 56 #[.val (.ref a1), .val (.int (1 : Int32)), .val (.int (0 : Int32)), .unset] [(.ref a_5), (.ref a1), (.ref a_5)])) rfl rfl (hb hby d8_56)
  have F_15 : Fld Z h_14 a1 "java/util/ArrayList" "elementData" "[Ljava/lang/Object;" (.ref a_5) := F_11.same W_14
  have O_17 : Old Z n0 h_14 := O_7.wr W_14 ga
  have A_18 : Exa Z h_14 a1 "java/util/ArrayList" := A_8.wr W_14
  have F_19 : Fld Z h_14 a1 "java/util/AbstractList" "modCount" "I" (.int mc) := F_9.other W_14 (Or.inr (RoadKit.slot_ne (Or.inl (hw _ (List.mem_of_getElem? (i := 22) rfl))) (Or.inl (hw _ (List.mem_of_getElem? (i := 25) rfl))) (by decide) (t := .int) (t' := (.array (.object "java/lang/Object"))) (by decide) (by decide)))
  have F_20 : Fld Z h_14 a1 "java/util/ArrayList" "size" "I" (.int (0 : Int32)) := F_10.other W_14 (Or.inr (RoadKit.slot_ne (Or.inl (hw _ (List.mem_of_getElem? (i := 41) rfl))) (Or.inl (hw _ (List.mem_of_getElem? (i := 25) rfl))) (by decide) (t := .int) (t' := (.array (.object "java/lang/Object"))) (by decide) (by decide)))
  have V_21 : own_Len Z h_14 da (.object "java/lang/Object") (0 : Int32) := V_12.wr W_14
  have V_22 : own_LenO Z h_14 a_5 "java/lang/Object" (10 : Int32) := V_13.wr W_14
  have Z_16 : n0 ≤ h_14.size := by rw [W_14.size]; exact Z_6
  have K_16 : Keep h0 h_14 [a1] := K_6.wr W_14 (Or.inl (List.mem_of_getElem? (i := 0) rfl))
  have N_14 := Fr.snoc X_14 N_4 ga
  refine own_st st_14 ?_
  show own_Go p e below _ T_14 (mkF m 59 #[.val (.ref a1), .val (.int (1 : Int32)), .val (.int (0 : Int32)), .unset] [(.ref a_5)])
  refine own_retA X_14 hx hlk Bd.returns rfl rfl (hb hby d8_59) (by decide) (by decide) ?_
  rw [e_14]
  exact ⟨a_5, rfl, N_14, K_16, V_22, ge_5, nw_5, F_19, F_20, F_15⟩
theorem d9_0 : decode jdk_38_method_7_code 0 = .ok (.aload_n 0, 1) := by decide +kernel
theorem d9_1 : decode jdk_38_method_7_code 1 = .ok (.aload_n 0, 1) := by decide +kernel
theorem d9_2 : decode jdk_38_method_7_code 2 = .ok (.getfield 48, 3) := by decide +kernel
theorem d9_5 : decode jdk_38_method_7_code 5 = .ok (.iconst 1, 1) := by decide +kernel
theorem d9_6 : decode jdk_38_method_7_code 6 = .ok (.iadd, 1) := by decide +kernel
theorem d9_7 : decode jdk_38_method_7_code 7 = .ok (.invokevirtual 69, 3) := by decide +kernel
theorem d9_10 : decode jdk_38_method_7_code 10 = .ok (.areturn, 1) := by decide +kernel
theorem pd9_0 : parseMethodDescriptor "(I)[Ljava/lang/Object;" = some ⟨[.int], some (.array (.object "java/lang/Object"))⟩ := by decide +kernel
theorem pn9 : plainFor (⟨"java/util/ArrayList", "grow", "()[Ljava/lang/Object;"⟩ : MethodName) = true := by first | exact plainFor_of_name (by first | (simp [plainName, overriddenIn]; done) | decide +kernel) | decide +kernel
theorem ef9 (m : MethodId) (a1 : Addr) : entryFrame m #[(.ref a1)] 1 = mkF m 0 #[.val (.ref a1)] [] := by first | (simp [entryFrame, mkF, argsToLocals, Value.category]; done) | rfl
def Q9 (Z : State) (a1 : Addr) (da : Addr) (mc : Int32) (h0 : Heap) (n0 : Nat) (v : Option Value) (h : Heap) (L : List Loc) : Prop := ∃ na : Addr, v = some (.ref na) ∧ Fr n0 L ∧ Keep h0 h [a1] ∧ own_LenO Z h na "java/lang/Object" (10 : Int32) ∧ n0 ≤ na ∧ h0.size ≤ na ∧ Fld Z h a1 "java/util/AbstractList" "modCount" "I" (.int mc) ∧ Fld Z h a1 "java/util/ArrayList" "size" "I" (.int (0 : Int32)) ∧ Fld Z h a1 "java/util/ArrayList" "elementData" "[Ljava/lang/Object;" (.ref na)
set_option maxRecDepth 65536 in
set_option maxHeartbeats 40000000 in
theorem rm9 (l : Launch) (Z : State) (a0 : Array Value) (hw : ∀ d ∈ tables_1, d.before a0 Z = true) (ws : List Jvm.Cond) (a1 : Addr) (da : Addr) (mc : Int32) (h0 : Heap) (n0 : Nat) (Z0 : n0 ≤ h0.size) (O_a : Old Z n0 h0) (A_a : Exa Z h0 a1 "java/util/ArrayList") (F_m : Fld Z h0 a1 "java/util/AbstractList" "modCount" "I" (.int mc)) (F_s : Fld Z h0 a1 "java/util/ArrayList" "size" "I" (.int (0 : Int32))) (F_e : Fld Z h0 a1 "java/util/ArrayList" "elementData" "[Ljava/lang/Object;" (.ref da)) (V_d : own_Len Z h0 da (.object "java/lang/Object") (0 : Int32)) (ga : n0 ≤ a1) (Sd : Sta Z Z.heap "java/util/ArrayList" "DEFAULTCAPACITY_EMPTY_ELEMENTDATA" "[Ljava/lang/Object;" (.ref da)) :
    MetFree l (⟨"java/util/ArrayList", "grow", "()[Ljava/lang/Object;"⟩ : MethodName) (head1 (Jvm.Cond.code (⟨"java/util/ArrayList", "grow", "()[Ljava/lang/Object;"⟩ : MethodName) jdk_38_method_7_code 1 (some (.array (.object "java/lang/Object"))) :: ws) ({ frames := 2, cells := 1, slots := 10, locals := 29 } : Room)) (fun a U => a = #[(.ref a1)] ∧ Z.Warmed39 U.vm ∧ U.heap = h0) (fun _ _ _ _ _ => True) (fun _ U o U' => ∃ v L, o = .returned v ∧ Q9 Z a1 da mc h0 n0 v U'.heap L ∧ FrameEnd U o U' L ({ frames := 2, cells := 1, slots := 10, locals := 29 } : Room).cells ({ frames := 2, cells := 1, slots := 10, locals := 29 } : Room).slots) := by
  refine MetFree.of_bodySF pn9 hisR ?_
  intro p e s m args below meth c s₁ Bd hml0 hP hK
  obtain ⟨rfl, hZ, hh⟩ := hP
  have hx := Bd.exec
  have hby := Bd.bytes
  have hlk : meth.locks = false := BodyLoose.notSynchronized Bd
  have hml : c.maxLocals = 1 := hml0
  have hown : s.vm.findClass "java/util/ArrayList" = some m.cls := findClass_of_methodNamed Bd.named
  have hnm := (name_of_methodNamed Bd.named Bd.method).1
  have X0 : Stand p l e ({ frames := 2, cells := 1, slots := 10, locals := 29 } : Room) s m #[(.ref a1)] below meth c s₁ [] 0 0 := Stand.of_body Bd
  have e0 : s₁.heap = h0 := by rw [← hh, Bd.state]; rfl
  have N0 := Fr.nil n0
  have K0 : Keep h0 h0 [a1] := Keep.refl _ _
  rw [ef9 m a1]
  show own_Go p e below (own_End s (Q9 Z a1 da mc h0 n0) ({ frames := 2, cells := 1, slots := 10, locals := 29 } : Room).cells ({ frames := 2, cells := 1, slots := 10, locals := 29 } : Room).slots) s₁ (mkF m 0 #[.val (.ref a1)] [])
  refine own_aloadN X0 hx (hb hby d9_0) (pc' := 1) rfl rfl rfl ?_
  refine own_aloadN X0 hx (hb hby d9_1) (pc' := 2) rfl rfl rfl ?_
  obtain ⟨T_1, X_1, e_1, st_1⟩ := getF X0 hx hZ hown (host := "") (Or.inl (hw _ (List.mem_of_getElem? (i := 40) rfl))) Via.refl e0 F_s (g := (mkF m 2 #[.val (.ref a1)] [(.ref a1), (.ref a1)])) rfl rfl (hb hby d9_2)
  refine own_st st_1 ?_
  show own_Go p e below _ T_1 (mkF m 5 #[.val (.ref a1)] [(.int (0 : Int32)), (.ref a1)])
  refine own_iconst X_1 hx (1) (hb hby d9_5) (pc' := 6) rfl rfl ?_
  refine own_iadd X_1 hx (hb hby d9_6) (pc' := 7) rfl ?_
  rw [show ((0 : Int32) + (1 : Int32)) = (1 : Int32) from by decide]
  obtain ⟨cq_2, qa_2, qb_2⟩ := A_a.cell
  obtain ⟨_, _, ⟨T_2, L_2, k_2, n_2⟩, -, X_2, ⟨Lc_2, hQ_2, l_2, y_2, z_2⟩, st_2⟩ := X_1.privateBack hx (y := (⟨"java/util/ArrayList", "grow", "(I)[Ljava/lang/Object;"⟩ : MethodName)) hown (mvT hZ (hw _ (List.mem_of_getElem? (i := 52) rfl))) (mvT hZ (hw _ (List.mem_of_getElem? (i := 53) rfl))) (mvT hZ (hw _ (List.mem_of_getElem? (i := 55) rfl))) (Cond.privateMethod_at (mvP (args := #[]) hZ (hw _ (List.mem_of_getElem? (i := 54) rfl)))) (mvT hZ (hw _ (List.mem_of_getElem? (i := 56) rfl))) (by decide) (backOf (W := 0) (rm8 l Z a0 hw [] a1 da mc h0 n0 Z0 O_a A_a F_m F_s F_e V_d ga Sd) hZ (hw _ (List.mem_of_getElem? (i := 56) rfl)) (hw _ (List.mem_of_getElem? (i := 2) rfl)) (by decide) (by decide)) (g := (mkF m 7 #[.val (.ref a1)] [(.int (1 : Int32)), (.ref a1)])) rfl (by rw [hml]; rfl) (Steps.refl _) (a := a1) (by rw [e_1]; exact qa_2) qb_2 (argsL := [(.int (1 : Int32))]) (rest := []) (lenOf pd9_0 rfl) rfl (by show 2 * 0 + _ ≤ _; exact Nat.le_of_eq rfl) (hb hby d9_7) (fun _ _ => ⟨rfl, e_1, (by decide : 0 + 1 ≤ _), (by decide : 0 + 10 ≤ _)⟩)
  dsimp only [Pt.U, Pt.locs, Pt.cells, Pt.slots] at X_2 l_2 y_2 z_2 st_2 hQ_2
  subst l_2 y_2 z_2
  refine own_tr st_2 ?_
  obtain ⟨na_2, rfl, Nq_2, Kq_2, V_n2, gn_2, hn_2, F_m2, F_s2, F_e2⟩ := hQ_2
  have N_2 := Fr.app N0 Nq_2
  have ne_2_a1 : a1 ≠ na_2 := Nat.ne_of_lt (Nat.lt_of_lt_of_le A_a.lt hn_2)
  have ne_2_da : da ≠ na_2 := Nat.ne_of_lt (Nat.lt_of_lt_of_le V_d.lt hn_2)
  have O_4 : Old Z n0 T_2.heap := O_a.keep Kq_2 (allS ga all0)
  have A_5 : Exa Z T_2.heap a1 "java/util/ArrayList" := A_a.keep Kq_2
  have V_6 : own_Len Z T_2.heap da (.object "java/lang/Object") (0 : Int32) := V_d.keep Kq_2
  have Z_3 : n0 ≤ T_2.heap.size := Nat.le_trans Z0 Kq_2.1
  have K_3 : Keep h0 T_2.heap [a1] := K0.trans Kq_2 (allS (Or.inl (List.mem_of_getElem? (i := 0) rfl)) all0)
  show own_Go p e below _ T_2 (mkF m 10 #[.val (.ref a1)] [(.ref na_2)])
  refine own_retA X_2 hx hlk Bd.returns rfl rfl (hb hby d9_10) (by decide) (by decide) ?_
  exact ⟨na_2, rfl, N_2, K_3, V_n2, gn_2, (Nat.le_trans K0.1 hn_2), F_m2, F_s2, F_e2⟩
theorem d10_0 : decode jdk_38_method_24_code 0 = .ok (.iload_n 3, 1) := by decide +kernel
theorem d10_1 : decode jdk_38_method_24_code 1 = .ok (.aload_n 2, 1) := by decide +kernel
theorem d10_2 : decode jdk_38_method_24_code 2 = .ok (.arraylength, 1) := by decide +kernel
theorem d10_3 : decode jdk_38_method_24_code 3 = .ok (.if_icmp .ne 8, 3) := by decide +kernel
theorem d10_6 : decode jdk_38_method_24_code 6 = .ok (.aload_n 0, 1) := by decide +kernel
theorem d10_7 : decode jdk_38_method_24_code 7 = .ok (.invokevirtual 129, 3) := by decide +kernel
theorem d10_10 : decode jdk_38_method_24_code 10 = .ok (.astore_n 2, 1) := by decide +kernel
theorem d10_11 : decode jdk_38_method_24_code 11 = .ok (.aload_n 2, 1) := by decide +kernel
theorem d10_12 : decode jdk_38_method_24_code 12 = .ok (.iload_n 3, 1) := by decide +kernel
theorem d10_13 : decode jdk_38_method_24_code 13 = .ok (.aload_n 1, 1) := by decide +kernel
theorem d10_14 : decode jdk_38_method_24_code 14 = .ok (.aastore, 1) := by decide +kernel
theorem d10_15 : decode jdk_38_method_24_code 15 = .ok (.aload_n 0, 1) := by decide +kernel
theorem d10_16 : decode jdk_38_method_24_code 16 = .ok (.iload_n 3, 1) := by decide +kernel
theorem d10_17 : decode jdk_38_method_24_code 17 = .ok (.iconst 1, 1) := by decide +kernel
theorem d10_18 : decode jdk_38_method_24_code 18 = .ok (.iadd, 1) := by decide +kernel
theorem d10_19 : decode jdk_38_method_24_code 19 = .ok (.putfield 48, 3) := by decide +kernel
theorem d10_22 : decode jdk_38_method_24_code 22 = .ok (.return_, 1) := by decide +kernel
theorem pd10_0 : parseMethodDescriptor "()[Ljava/lang/Object;" = some ⟨[], some (.array (.object "java/lang/Object"))⟩ := by decide +kernel
theorem pn10 : plainFor (⟨"java/util/ArrayList", "add", "(Ljava/lang/Object;[Ljava/lang/Object;I)V"⟩ : MethodName) = true := by first | exact plainFor_of_name (by first | (simp [plainName, overriddenIn]; done) | decide +kernel) | decide +kernel
theorem ef10 (m : MethodId) (a1 : Addr) (e1 : Addr) (da : Addr) : entryFrame m #[(.ref a1), (.ref e1), (.ref da), (.int (0 : Int32))] 4 = mkF m 0 #[.val (.ref a1), .val (.ref e1), .val (.ref da), .val (.int (0 : Int32))] [] := by first | (simp [entryFrame, mkF, argsToLocals, Value.category]; done) | rfl
def Q10 (Z : State) (a1 : Addr) (e1 : Addr) (da : Addr) (mc : Int32) (h0 : Heap) (n0 : Nat) (v : Option Value) (h : Heap) (L : List Loc) : Prop := v = none ∧ Fr n0 L ∧ Keep h0 h [a1]
set_option maxRecDepth 65536 in
set_option maxHeartbeats 40000000 in
theorem rm10 (l : Launch) (Z : State) (a0 : Array Value) (hw : ∀ d ∈ tables_1, d.before a0 Z = true) (ws : List Jvm.Cond) (a1 : Addr) (e1 : Addr) (da : Addr) (mc : Int32) (h0 : Heap) (n0 : Nat) (Z0 : n0 ≤ h0.size) (O_a : Old Z n0 h0) (A_a : Exa Z h0 a1 "java/util/ArrayList") (A_e : Exa Z h0 e1 "java/lang/Integer") (F_m : Fld Z h0 a1 "java/util/AbstractList" "modCount" "I" (.int mc)) (F_s : Fld Z h0 a1 "java/util/ArrayList" "size" "I" (.int (0 : Int32))) (F_e : Fld Z h0 a1 "java/util/ArrayList" "elementData" "[Ljava/lang/Object;" (.ref da)) (V_d : own_Len Z h0 da (.object "java/lang/Object") (0 : Int32)) (ga : n0 ≤ a1) (Sd : Sta Z Z.heap "java/util/ArrayList" "DEFAULTCAPACITY_EMPTY_ELEMENTDATA" "[Ljava/lang/Object;" (.ref da)) :
    MetFree l (⟨"java/util/ArrayList", "add", "(Ljava/lang/Object;[Ljava/lang/Object;I)V"⟩ : MethodName) (head1 (Jvm.Cond.code (⟨"java/util/ArrayList", "add", "(Ljava/lang/Object;[Ljava/lang/Object;I)V"⟩ : MethodName) jdk_38_method_24_code 4 none :: ws) ({ frames := 3, cells := 1, slots := 10, locals := 41 } : Room)) (fun a U => a = #[(.ref a1), (.ref e1), (.ref da), (.int (0 : Int32))] ∧ Z.Warmed39 U.vm ∧ U.heap = h0) (fun _ _ _ _ _ => True) (fun _ U o U' => ∃ v L, o = .returned v ∧ Q10 Z a1 e1 da mc h0 n0 v U'.heap L ∧ FrameEnd U o U' L ({ frames := 3, cells := 1, slots := 10, locals := 41 } : Room).cells ({ frames := 3, cells := 1, slots := 10, locals := 41 } : Room).slots) := by
  refine MetFree.of_bodySF pn10 hisR ?_
  intro p e s m args below meth c s₁ Bd hml0 hP hK
  obtain ⟨rfl, hZ, hh⟩ := hP
  have hx := Bd.exec
  have hby := Bd.bytes
  have hlk : meth.locks = false := BodyLoose.notSynchronized Bd
  have hml : c.maxLocals = 4 := hml0
  have hown : s.vm.findClass "java/util/ArrayList" = some m.cls := findClass_of_methodNamed Bd.named
  have hnm := (name_of_methodNamed Bd.named Bd.method).1
  have X0 : Stand p l e ({ frames := 3, cells := 1, slots := 10, locals := 41 } : Room) s m #[(.ref a1), (.ref e1), (.ref da), (.int (0 : Int32))] below meth c s₁ [] 0 0 := Stand.of_body Bd
  have e0 : s₁.heap = h0 := by rw [← hh, Bd.state]; rfl
  have N0 := Fr.nil n0
  have K0 : Keep h0 h0 [a1] := Keep.refl _ _
  rw [ef10 m a1 e1 da]
  show own_Go p e below (own_End s (Q10 Z a1 e1 da mc h0 n0) ({ frames := 3, cells := 1, slots := 10, locals := 41 } : Room).cells ({ frames := 3, cells := 1, slots := 10, locals := 41 } : Room).slots) s₁ (mkF m 0 #[.val (.ref a1), .val (.ref e1), .val (.ref da), .val (.int (0 : Int32))] [])
  refine own_iloadN X0 hx (hb hby d10_0) (pc' := 1) rfl rfl ?_
  refine own_aloadN X0 hx (hb hby d10_1) (pc' := 2) rfl rfl rfl ?_
  refine own_alenL X0 hx hZ e0 V_d (hb hby d10_2) (pc' := 3) rfl ?_
  refine own_icmpN X0 hx (hb hby d10_3) (by decide) (pc' := 6) rfl ?_
  refine own_aloadN X0 hx (hb hby d10_6) (pc' := 7) rfl rfl rfl ?_
  obtain ⟨cq_1, qa_1, qb_1⟩ := A_a.cell
  obtain ⟨_, _, ⟨T_1, L_1, k_1, n_1⟩, -, X_1, ⟨Lc_1, hQ_1, l_1, y_1, z_1⟩, st_1⟩ := X0.privateBack hx (y := (⟨"java/util/ArrayList", "grow", "()[Ljava/lang/Object;"⟩ : MethodName)) hown (mvT hZ (hw _ (List.mem_of_getElem? (i := 47) rfl))) (mvT hZ (hw _ (List.mem_of_getElem? (i := 48) rfl))) (mvT hZ (hw _ (List.mem_of_getElem? (i := 50) rfl))) (Cond.privateMethod_at (mvP (args := #[]) hZ (hw _ (List.mem_of_getElem? (i := 49) rfl)))) (mvT hZ (hw _ (List.mem_of_getElem? (i := 51) rfl))) (by decide) (backOf (W := 0) (rm9 l Z a0 hw [] a1 da mc h0 n0 Z0 O_a A_a F_m F_s F_e V_d ga Sd) hZ (hw _ (List.mem_of_getElem? (i := 51) rfl)) (hw _ (List.mem_of_getElem? (i := 2) rfl)) (by decide) (by decide)) (g := (mkF m 7 #[.val (.ref a1), .val (.ref e1), .val (.ref da), .val (.int (0 : Int32))] [(.ref a1)])) rfl (by rw [hml]; rfl) (Steps.refl _) (a := a1) (by rw [e0]; exact qa_1) qb_1 (argsL := []) (rest := []) (lenOf pd10_0 rfl) rfl (by show 2 * 0 + _ ≤ _; exact Nat.le_of_eq rfl) (hb hby d10_7) (fun _ _ => ⟨rfl, e0, (by decide : 0 + 1 ≤ _), (by decide : 0 + 10 ≤ _)⟩)
  dsimp only [Pt.U, Pt.locs, Pt.cells, Pt.slots] at X_1 l_1 y_1 z_1 st_1 hQ_1
  subst l_1 y_1 z_1
  refine own_tr st_1 ?_
  obtain ⟨na_1, rfl, Nq_1, Kq_1, V_n1, gn_1, hn_1, F_m1, F_s1, F_e1⟩ := hQ_1
  have N_1 := Fr.app N0 Nq_1
  have ne_1_a1 : a1 ≠ na_1 := Nat.ne_of_lt (Nat.lt_of_lt_of_le A_a.lt hn_1)
  have ne_1_e1 : e1 ≠ na_1 := Nat.ne_of_lt (Nat.lt_of_lt_of_le A_e.lt hn_1)
  have ne_1_da : da ≠ na_1 := Nat.ne_of_lt (Nat.lt_of_lt_of_le V_d.lt hn_1)
  have O_3 : Old Z n0 T_1.heap := O_a.keep Kq_1 (allS ga all0)
  have A_4 : Exa Z T_1.heap a1 "java/util/ArrayList" := A_a.keep Kq_1
  have A_5 : Exa Z T_1.heap e1 "java/lang/Integer" := A_e.keep Kq_1
  have V_6 : own_Len Z T_1.heap da (.object "java/lang/Object") (0 : Int32) := V_d.keep Kq_1
  have Z_2 : n0 ≤ T_1.heap.size := Nat.le_trans Z0 Kq_1.1
  have K_2 : Keep h0 T_1.heap [a1] := K0.trans Kq_1 (allS (Or.inl (List.mem_of_getElem? (i := 0) rfl)) all0)
  show own_Go p e below _ T_1 (mkF m 10 #[.val (.ref a1), .val (.ref e1), .val (.ref da), .val (.int (0 : Int32))] [(.ref na_1)])
  refine own_astoreN X_1 hx (hb hby d10_10) (pc' := 11) (Ls' := #[.val (.ref a1), .val (.ref e1), .val (.ref na_1), .val (.int (0 : Int32))]) rfl rfl rfl ?_
  refine own_aloadN X_1 hx (hb hby d10_11) (pc' := 12) rfl rfl rfl ?_
  refine own_iloadN X_1 hx (hb hby d10_12) (pc' := 13) rfl rfl ?_
  refine own_aloadN X_1 hx (hb hby d10_13) (pc' := 14) rfl rfl rfl ?_
  obtain ⟨T_7, h_7, X_7, e_7, W_7, st_7⟩ := own_aastoreRef X_1 hx hZ rfl V_n1.len rfl (j := (0 : Int32)) (Ls := #[.val (.ref a1), .val (.ref e1), .val (.ref na_1), .val (.int (0 : Int32))]) (st := []) ⟨by decide, by decide⟩ (V_n1.sto (Ins.of_exa A_5 (hw _ (List.mem_of_getElem? (i := 63) rfl)))) (hb hby d10_14)
  have V_9 : own_LenO Z h_7 na_1 "java/lang/Object" (10 : Int32) := V_n1.wr W_7
  have F_10 : Fld Z h_7 a1 "java/util/AbstractList" "modCount" "I" (.int mc) := F_m1.other W_7 (Or.inl ne_1_a1)
  have F_11 : Fld Z h_7 a1 "java/util/ArrayList" "size" "I" (.int (0 : Int32)) := F_s1.other W_7 (Or.inl ne_1_a1)
  have F_12 : Fld Z h_7 a1 "java/util/ArrayList" "elementData" "[Ljava/lang/Object;" (.ref na_1) := F_e1.other W_7 (Or.inl ne_1_a1)
  have O_13 : Old Z n0 h_7 := O_3.wr W_7 gn_1
  have A_14 : Exa Z h_7 a1 "java/util/ArrayList" := A_4.wr W_7
  have A_15 : Exa Z h_7 e1 "java/lang/Integer" := A_5.wr W_7
  have V_16 : own_Len Z h_7 da (.object "java/lang/Object") (0 : Int32) := V_6.wr W_7
  have Z_8 : n0 ≤ h_7.size := by rw [W_7.size]; exact Z_2
  have K_8 : Keep h0 h_7 [a1] := K_2.wr W_7 (Or.inr (Nat.le_trans K0.1 hn_1))
  have N_7 := Fr.snoc X_7 N_1 gn_1
  refine own_st st_7 ?_
  show own_Go p e below _ T_7 (mkF m 15 #[.val (.ref a1), .val (.ref e1), .val (.ref na_1), .val (.int (0 : Int32))] [])
  refine own_aloadN X_7 hx (hb hby d10_15) (pc' := 16) rfl rfl rfl ?_
  refine own_iloadN X_7 hx (hb hby d10_16) (pc' := 17) rfl rfl ?_
  refine own_iconst X_7 hx (1) (hb hby d10_17) (pc' := 18) rfl rfl ?_
  refine own_iadd X_7 hx (hb hby d10_18) (pc' := 19) rfl ?_
  rw [show ((0 : Int32) + (1 : Int32)) = (1 : Int32) from by decide]
  obtain ⟨T_17, h_17, X_17, e_17, W_17, st_17⟩ := putF X_7 hx hZ hown (host := "") (Or.inl (hw _ (List.mem_of_getElem? (i := 40) rfl))) Via.refl e_7 F_11 A_14 (Or.inl (hw _ (List.mem_of_getElem? (i := 41) rfl))) (hw _ (List.mem_of_getElem? (i := 1) rfl)) (ty := .int) (by decide) rfl rfl (g := (mkF m 19 #[.val (.ref a1), .val (.ref e1), .val (.ref na_1), .val (.int (0 : Int32))] [(.int (1 : Int32)), (.ref a1)])) rfl rfl (hb hby d10_19)
  have F_18 : Fld Z h_17 a1 "java/util/ArrayList" "size" "I" (.int (1 : Int32)) := F_11.same W_17
  have V_20 : own_LenO Z h_17 na_1 "java/lang/Object" (10 : Int32) := V_9.wr W_17
  have F_21 : Fld Z h_17 a1 "java/util/AbstractList" "modCount" "I" (.int mc) := F_10.other W_17 (Or.inr (RoadKit.slot_ne (Or.inl (hw _ (List.mem_of_getElem? (i := 22) rfl))) (Or.inl (hw _ (List.mem_of_getElem? (i := 41) rfl))) (by decide) (t := .int) (t' := .int) (by decide) (by decide)))
  have F_22 : Fld Z h_17 a1 "java/util/ArrayList" "elementData" "[Ljava/lang/Object;" (.ref na_1) := F_12.other W_17 (Or.inr (RoadKit.slot_ne (Or.inl (hw _ (List.mem_of_getElem? (i := 25) rfl))) (Or.inl (hw _ (List.mem_of_getElem? (i := 41) rfl))) (by decide) (t := (.array (.object "java/lang/Object"))) (t' := .int) (by decide) (by decide)))
  have O_23 : Old Z n0 h_17 := O_13.wr W_17 ga
  have A_24 : Exa Z h_17 a1 "java/util/ArrayList" := A_14.wr W_17
  have A_25 : Exa Z h_17 e1 "java/lang/Integer" := A_15.wr W_17
  have V_26 : own_Len Z h_17 da (.object "java/lang/Object") (0 : Int32) := V_16.wr W_17
  have Z_19 : n0 ≤ h_17.size := by rw [W_17.size]; exact Z_8
  have K_19 : Keep h0 h_17 [a1] := K_8.wr W_17 (Or.inl (List.mem_of_getElem? (i := 0) rfl))
  have N_17 := Fr.snoc X_17 N_7 ga
  refine own_st st_17 ?_
  show own_Go p e below _ T_17 (mkF m 22 #[.val (.ref a1), .val (.ref e1), .val (.ref na_1), .val (.int (0 : Int32))] [])
  refine own_retV X_17 hx hlk Bd.returns (hb hby d10_22) (by decide) (by decide) ?_
  rw [e_17]
  exact ⟨rfl, N_17, K_19⟩
theorem d11_0 : decode jdk_38_method_25_code 0 = .ok (.aload_n 0, 1) := by decide +kernel
theorem d11_1 : decode jdk_38_method_25_code 1 = .ok (.dup, 1) := by decide +kernel
theorem d11_2 : decode jdk_38_method_25_code 2 = .ok (.getfield 63, 3) := by decide +kernel
theorem d11_5 : decode jdk_38_method_25_code 5 = .ok (.iconst 1, 1) := by decide +kernel
theorem d11_6 : decode jdk_38_method_25_code 6 = .ok (.iadd, 1) := by decide +kernel
theorem d11_7 : decode jdk_38_method_25_code 7 = .ok (.putfield 63, 3) := by decide +kernel
theorem d11_10 : decode jdk_38_method_25_code 10 = .ok (.aload_n 0, 1) := by decide +kernel
theorem d11_11 : decode jdk_38_method_25_code 11 = .ok (.aload_n 1, 1) := by decide +kernel
theorem d11_12 : decode jdk_38_method_25_code 12 = .ok (.aload_n 0, 1) := by decide +kernel
theorem d11_13 : decode jdk_38_method_25_code 13 = .ok (.getfield 9, 3) := by decide +kernel
theorem d11_16 : decode jdk_38_method_25_code 16 = .ok (.aload_n 0, 1) := by decide +kernel
theorem d11_17 : decode jdk_38_method_25_code 17 = .ok (.getfield 48, 3) := by decide +kernel
theorem d11_20 : decode jdk_38_method_25_code 20 = .ok (.invokevirtual 131, 3) := by decide +kernel
theorem d11_23 : decode jdk_38_method_25_code 23 = .ok (.iconst 1, 1) := by decide +kernel
theorem d11_24 : decode jdk_38_method_25_code 24 = .ok (.ireturn, 1) := by decide +kernel
theorem pd11_0 : parseMethodDescriptor "(Ljava/lang/Object;[Ljava/lang/Object;I)V" = some ⟨[(.object "java/lang/Object"), (.array (.object "java/lang/Object")), .int], none⟩ := by decide +kernel
theorem pn11 : plainFor (⟨"java/util/ArrayList", "add", "(Ljava/lang/Object;)Z"⟩ : MethodName) = true := by first | exact plainFor_of_name (by first | (simp [plainName, overriddenIn]; done) | decide +kernel) | decide +kernel
theorem ef11 (m : MethodId) (a1 : Addr) (e1 : Addr) : entryFrame m #[(.ref a1), (.ref e1)] 2 = mkF m 0 #[.val (.ref a1), .val (.ref e1)] [] := by first | (simp [entryFrame, mkF, argsToLocals, Value.category]; done) | rfl
def Q11 (Z : State) (a1 : Addr) (e1 : Addr) (da : Addr) (h0 : Heap) (n0 : Nat) (v : Option Value) (h : Heap) (L : List Loc) : Prop := v = some (.int 1) ∧ Fr n0 L ∧ Keep h0 h [a1]
set_option maxRecDepth 65536 in
set_option maxHeartbeats 40000000 in
theorem rm11 (l : Launch) (Z : State) (a0 : Array Value) (hw : ∀ d ∈ tables_1, d.before a0 Z = true) (ws : List Jvm.Cond) (a1 : Addr) (e1 : Addr) (da : Addr) (h0 : Heap) (n0 : Nat) (Z0 : n0 ≤ h0.size) (O_a : Old Z n0 h0) (A_a : Exa Z h0 a1 "java/util/ArrayList") (A_e : Exa Z h0 e1 "java/lang/Integer") (F_m : Fld Z h0 a1 "java/util/AbstractList" "modCount" "I" (.int (0 : Int32))) (F_s : Fld Z h0 a1 "java/util/ArrayList" "size" "I" (.int (0 : Int32))) (F_e : Fld Z h0 a1 "java/util/ArrayList" "elementData" "[Ljava/lang/Object;" (.ref da)) (V_d : own_Len Z h0 da (.object "java/lang/Object") (0 : Int32)) (ga : n0 ≤ a1) (Sd : Sta Z Z.heap "java/util/ArrayList" "DEFAULTCAPACITY_EMPTY_ELEMENTDATA" "[Ljava/lang/Object;" (.ref da)) :
    MetFree l (⟨"java/util/ArrayList", "add", "(Ljava/lang/Object;)Z"⟩ : MethodName) (head1 (Jvm.Cond.code (⟨"java/util/ArrayList", "add", "(Ljava/lang/Object;)Z"⟩ : MethodName) jdk_38_method_25_code 2 (some .boolean) :: ws) ({ frames := 4, cells := 1, slots := 10, locals := 56 } : Room)) (fun a U => a = #[(.ref a1), (.ref e1)] ∧ Z.Warmed39 U.vm ∧ U.heap = h0) (fun _ _ _ _ _ => True) (fun _ U o U' => ∃ v L, o = .returned v ∧ Q11 Z a1 e1 da h0 n0 v U'.heap L ∧ FrameEnd U o U' L ({ frames := 4, cells := 1, slots := 10, locals := 56 } : Room).cells ({ frames := 4, cells := 1, slots := 10, locals := 56 } : Room).slots) := by
  refine MetFree.of_bodySF pn11 hisR ?_
  intro p e s m args below meth c s₁ Bd hml0 hP hK
  obtain ⟨rfl, hZ, hh⟩ := hP
  have hx := Bd.exec
  have hby := Bd.bytes
  have hlk : meth.locks = false := BodyLoose.notSynchronized Bd
  have hml : c.maxLocals = 2 := hml0
  have hown : s.vm.findClass "java/util/ArrayList" = some m.cls := findClass_of_methodNamed Bd.named
  have hnm := (name_of_methodNamed Bd.named Bd.method).1
  have X0 : Stand p l e ({ frames := 4, cells := 1, slots := 10, locals := 56 } : Room) s m #[(.ref a1), (.ref e1)] below meth c s₁ [] 0 0 := Stand.of_body Bd
  have e0 : s₁.heap = h0 := by rw [← hh, Bd.state]; rfl
  have N0 := Fr.nil n0
  have K0 : Keep h0 h0 [a1] := Keep.refl _ _
  rw [ef11 m a1 e1]
  show own_Go p e below (own_End s (Q11 Z a1 e1 da h0 n0) ({ frames := 4, cells := 1, slots := 10, locals := 56 } : Room).cells ({ frames := 4, cells := 1, slots := 10, locals := 56 } : Room).slots) s₁ (mkF m 0 #[.val (.ref a1), .val (.ref e1)] [])
  refine own_aloadN X0 hx (hb hby d11_0) (pc' := 1) rfl rfl rfl ?_
  refine own_dup X0 hx (hb hby d11_1) (pc' := 2) rfl rfl ?_
  obtain ⟨T_1, X_1, e_1, st_1⟩ := getF X0 hx hZ hown (host := "") (Or.inl (hw _ (List.mem_of_getElem? (i := 38) rfl))) (Via.of (hw _ (List.mem_of_getElem? (i := 39) rfl))) e0 F_m (g := (mkF m 2 #[.val (.ref a1), .val (.ref e1)] [(.ref a1), (.ref a1)])) rfl rfl (hb hby d11_2)
  refine own_st st_1 ?_
  show own_Go p e below _ T_1 (mkF m 5 #[.val (.ref a1), .val (.ref e1)] [(.int (0 : Int32)), (.ref a1)])
  refine own_iconst X_1 hx (1) (hb hby d11_5) (pc' := 6) rfl rfl ?_
  refine own_iadd X_1 hx (hb hby d11_6) (pc' := 7) rfl ?_
  rw [show ((0 : Int32) + (1 : Int32)) = (1 : Int32) from by decide]
  obtain ⟨T_2, h_2, X_2, e_2, W_2, st_2⟩ := putF X_1 hx hZ hown (host := "") (Or.inl (hw _ (List.mem_of_getElem? (i := 38) rfl))) (Via.of (hw _ (List.mem_of_getElem? (i := 39) rfl))) e_1 F_m A_a (Or.inl (hw _ (List.mem_of_getElem? (i := 22) rfl))) (hw _ (List.mem_of_getElem? (i := 1) rfl)) (ty := .int) (by decide) rfl rfl (g := (mkF m 7 #[.val (.ref a1), .val (.ref e1)] [(.int (1 : Int32)), (.ref a1)])) rfl rfl (hb hby d11_7)
  have F_3 : Fld Z h_2 a1 "java/util/AbstractList" "modCount" "I" (.int (1 : Int32)) := F_m.same W_2
  have O_5 : Old Z n0 h_2 := O_a.wr W_2 ga
  have A_6 : Exa Z h_2 a1 "java/util/ArrayList" := A_a.wr W_2
  have A_7 : Exa Z h_2 e1 "java/lang/Integer" := A_e.wr W_2
  have F_8 : Fld Z h_2 a1 "java/util/ArrayList" "size" "I" (.int (0 : Int32)) := F_s.other W_2 (Or.inr (RoadKit.slot_ne (Or.inl (hw _ (List.mem_of_getElem? (i := 41) rfl))) (Or.inl (hw _ (List.mem_of_getElem? (i := 22) rfl))) (by decide) (t := .int) (t' := .int) (by decide) (by decide)))
  have F_9 : Fld Z h_2 a1 "java/util/ArrayList" "elementData" "[Ljava/lang/Object;" (.ref da) := F_e.other W_2 (Or.inr (RoadKit.slot_ne (Or.inl (hw _ (List.mem_of_getElem? (i := 25) rfl))) (Or.inl (hw _ (List.mem_of_getElem? (i := 22) rfl))) (by decide) (t := (.array (.object "java/lang/Object"))) (t' := .int) (by decide) (by decide)))
  have V_10 : own_Len Z h_2 da (.object "java/lang/Object") (0 : Int32) := V_d.wr W_2
  have Z_4 : n0 ≤ h_2.size := by rw [W_2.size]; exact Z0
  have K_4 : Keep h0 h_2 [a1] := K0.wr W_2 (Or.inl (List.mem_of_getElem? (i := 0) rfl))
  have N_2 := Fr.snoc X_2 N0 ga
  refine own_st st_2 ?_
  show own_Go p e below _ T_2 (mkF m 10 #[.val (.ref a1), .val (.ref e1)] [])
  refine own_aloadN X_2 hx (hb hby d11_10) (pc' := 11) rfl rfl rfl ?_
  refine own_aloadN X_2 hx (hb hby d11_11) (pc' := 12) rfl rfl rfl ?_
  refine own_aloadN X_2 hx (hb hby d11_12) (pc' := 13) rfl rfl rfl ?_
  obtain ⟨T_11, X_11, e_11, st_11⟩ := getF X_2 hx hZ hown (host := "") (Or.inl (hw _ (List.mem_of_getElem? (i := 24) rfl))) Via.refl e_2 F_9 (g := (mkF m 13 #[.val (.ref a1), .val (.ref e1)] [(.ref a1), (.ref e1), (.ref a1)])) rfl rfl (hb hby d11_13)
  refine own_st st_11 ?_
  show own_Go p e below _ T_11 (mkF m 16 #[.val (.ref a1), .val (.ref e1)] [(.ref da), (.ref e1), (.ref a1)])
  refine own_aloadN X_11 hx (hb hby d11_16) (pc' := 17) rfl rfl rfl ?_
  obtain ⟨T_12, X_12, e_12, st_12⟩ := getF X_11 hx hZ hown (host := "") (Or.inl (hw _ (List.mem_of_getElem? (i := 40) rfl))) Via.refl e_11 F_8 (g := (mkF m 17 #[.val (.ref a1), .val (.ref e1)] [(.ref a1), (.ref da), (.ref e1), (.ref a1)])) rfl rfl (hb hby d11_17)
  refine own_st st_12 ?_
  show own_Go p e below _ T_12 (mkF m 20 #[.val (.ref a1), .val (.ref e1)] [(.int (0 : Int32)), (.ref da), (.ref e1), (.ref a1)])
  obtain ⟨cq_13, qa_13, qb_13⟩ := A_6.cell
  obtain ⟨_, _, ⟨T_13, L_13, k_13, n_13⟩, -, X_13, ⟨Lc_13, hQ_13, l_13, y_13, z_13⟩, st_13⟩ := X_12.privateBack hx (y := (⟨"java/util/ArrayList", "add", "(Ljava/lang/Object;[Ljava/lang/Object;I)V"⟩ : MethodName)) hown (mvT hZ (hw _ (List.mem_of_getElem? (i := 42) rfl))) (mvT hZ (hw _ (List.mem_of_getElem? (i := 43) rfl))) (mvT hZ (hw _ (List.mem_of_getElem? (i := 45) rfl))) (Cond.privateMethod_at (mvP (args := #[]) hZ (hw _ (List.mem_of_getElem? (i := 44) rfl)))) (mvT hZ (hw _ (List.mem_of_getElem? (i := 46) rfl))) (by decide) (backOf (W := 0) (rm10 l Z a0 hw [] a1 e1 da (1 : Int32) h_2 n0 Z_4 O_5 A_6 A_7 F_3 F_8 F_9 V_10 ga Sd) hZ (hw _ (List.mem_of_getElem? (i := 46) rfl)) (hw _ (List.mem_of_getElem? (i := 2) rfl)) (by decide) (by decide)) (g := (mkF m 20 #[.val (.ref a1), .val (.ref e1)] [(.int (0 : Int32)), (.ref da), (.ref e1), (.ref a1)])) rfl (by rw [hml]; rfl) (Steps.refl _) (a := a1) (by rw [e_12]; exact qa_13) qb_13 (argsL := [(.ref e1), (.ref da), (.int (0 : Int32))]) (rest := []) (lenOf pd11_0 rfl) rfl (by show 2 * 0 + _ ≤ _; exact Nat.le_of_eq rfl) (hb hby d11_20) (fun _ _ => ⟨rfl, e_12, (by decide : 0 + 1 ≤ _), (by decide : 0 + 10 ≤ _)⟩)
  dsimp only [Pt.U, Pt.locs, Pt.cells, Pt.slots] at X_13 l_13 y_13 z_13 st_13 hQ_13
  subst l_13 y_13 z_13
  refine own_tr st_13 ?_
  obtain ⟨rfl, Nq_13, Kq_13⟩ := hQ_13
  have N_13 := Fr.app N_2 Nq_13
  have O_15 : Old Z n0 T_13.heap := O_5.keep Kq_13 (allS ga all0)
  have A_16 : Exa Z T_13.heap a1 "java/util/ArrayList" := A_6.keep Kq_13
  have A_17 : Exa Z T_13.heap e1 "java/lang/Integer" := A_7.keep Kq_13
  have V_18 : own_Len Z T_13.heap da (.object "java/lang/Object") (0 : Int32) := V_10.keep Kq_13
  have Z_14 : n0 ≤ T_13.heap.size := Nat.le_trans Z_4 Kq_13.1
  have K_14 : Keep h0 T_13.heap [a1] := K_4.trans Kq_13 (allS (Or.inl (List.mem_of_getElem? (i := 0) rfl)) all0)
  show own_Go p e below _ T_13 (mkF m 23 #[.val (.ref a1), .val (.ref e1)] [])
  refine own_iconst X_13 hx (1) (hb hby d11_23) (pc' := 24) rfl rfl ?_
  refine own_retZ X_13 hx hlk Bd.returns (by simp) (hb hby d11_24) (by decide) (by decide) ?_
  exact ⟨rfl, N_13, K_14⟩
theorem d12_0 : decode prog_166_method_1_code 0 = .ok (.aload_n 0, 1) := by decide +kernel
theorem d12_1 : decode prog_166_method_1_code 1 = .ok (.invokespecial 3, 3) := by decide +kernel
theorem d12_4 : decode prog_166_method_1_code 4 = .ok (.return_, 1) := by decide +kernel
theorem pn12 : plainFor (⟨"com/example/goalwright/goalwright/model/Value", "<init>", "()V"⟩ : MethodName) = true := by first | exact plainFor_of_name (by first | (simp [plainName, overriddenIn]; done) | decide +kernel) | decide +kernel
theorem ef12 (m : MethodId) (a1 : Addr) : entryFrame m #[(.ref a1)] 1 = mkF m 0 #[.val (.ref a1)] [] := by first | (simp [entryFrame, mkF, argsToLocals, Value.category]; done) | rfl
def Q12 (Z : State) (a1 : Addr) (h0 : Heap) (n0 : Nat) (v : Option Value) (h : Heap) (L : List Loc) : Prop := v = none ∧ Fr n0 L ∧ h = h0
set_option maxRecDepth 65536 in
set_option maxHeartbeats 40000000 in
theorem rm12 (l : Launch) (Z : State) (a0 : Array Value) (hw : ∀ d ∈ tables_1, d.before a0 Z = true) (ws : List Jvm.Cond) (a1 : Addr) (h0 : Heap) (n0 : Nat) (Z0 : n0 ≤ h0.size) :
    MetFree l (⟨"com/example/goalwright/goalwright/model/Value", "<init>", "()V"⟩ : MethodName) (head1 (Jvm.Cond.code (⟨"com/example/goalwright/goalwright/model/Value", "<init>", "()V"⟩ : MethodName) prog_166_method_1_code 1 none :: ws) ({ frames := 1, cells := 0, slots := 0, locals := 12 } : Room)) (fun a U => a = #[(.ref a1)] ∧ Z.Warmed39 U.vm ∧ U.heap = h0) (fun _ _ _ _ _ => True) (fun _ U o U' => ∃ v L, o = .returned v ∧ Q12 Z a1 h0 n0 v U'.heap L ∧ FrameEnd U o U' L ({ frames := 1, cells := 0, slots := 0, locals := 12 } : Room).cells ({ frames := 1, cells := 0, slots := 0, locals := 12 } : Room).slots) := by
  refine MetFree.of_bodySF pn12 hisR ?_
  intro p e s m args below meth c s₁ Bd hml0 hP hK
  obtain ⟨rfl, hZ, hh⟩ := hP
  have hx := Bd.exec
  have hby := Bd.bytes
  have hlk : meth.locks = false := BodyLoose.notSynchronized Bd
  have hml : c.maxLocals = 1 := hml0
  have hown : s.vm.findClass "com/example/goalwright/goalwright/model/Value" = some m.cls := findClass_of_methodNamed Bd.named
  have hnm := (name_of_methodNamed Bd.named Bd.method).1
  have X0 : Stand p l e ({ frames := 1, cells := 0, slots := 0, locals := 12 } : Room) s m #[(.ref a1)] below meth c s₁ [] 0 0 := Stand.of_body Bd
  have e0 : s₁.heap = h0 := by rw [← hh, Bd.state]; rfl
  have N0 := Fr.nil n0
  rw [ef12 m a1]
  show own_Go p e below (own_End s (Q12 Z a1 h0 n0) ({ frames := 1, cells := 0, slots := 0, locals := 12 } : Room).cells ({ frames := 1, cells := 0, slots := 0, locals := 12 } : Room).slots) s₁ (mkF m 0 #[.val (.ref a1)] [])
  refine own_aloadN X0 hx (hb hby d12_0) (pc' := 1) rfl rfl rfl ?_
  obtain ⟨T_1, X_1, e_1, st_1⟩ := initO X0 hx hZ hown (hw _ (List.mem_of_getElem? (i := 75) rfl)) (hw _ (List.mem_of_getElem? (i := 19) rfl)) (hw _ (List.mem_of_getElem? (i := 20) rfl)) e0 (g := (mkF m 1 #[.val (.ref a1)] [(.ref a1)])) rfl (by rw [hml]; rfl) rfl (hb hby d12_1) (by decide) (W := 0) (by show 2 * 0 + _ ≤ _; exact Nat.le_of_eq rfl) (by decide)
  refine own_st st_1 ?_
  show own_Go p e below _ T_1 (mkF m 4 #[.val (.ref a1)] [])
  refine own_retV X_1 hx hlk Bd.returns (hb hby d12_4) (by decide) (by decide) ?_
  rw [e_1]
  exact ⟨rfl, N0, rfl⟩
theorem d13_0 : decode prog_149_method_1_code 0 = .ok (.aload_n 0, 1) := by decide +kernel
theorem d13_1 : decode prog_149_method_1_code 1 = .ok (.invokespecial 1, 3) := by decide +kernel
theorem d13_4 : decode prog_149_method_1_code 4 = .ok (.aload_n 0, 1) := by decide +kernel
theorem d13_5 : decode prog_149_method_1_code 5 = .ok (.lload_n 1, 1) := by decide +kernel
theorem d13_6 : decode prog_149_method_1_code 6 = .ok (.putfield 7, 3) := by decide +kernel
theorem d13_9 : decode prog_149_method_1_code 9 = .ok (.return_, 1) := by decide +kernel
theorem pd13_0 : parseMethodDescriptor "()V" = some ⟨[], none⟩ := by decide +kernel
theorem pn13 : plainFor (⟨"com/example/goalwright/goalwright/model/IntegerValue", "<init>", "(J)V"⟩ : MethodName) = true := by first | exact plainFor_of_name (by first | (simp [plainName, overriddenIn]; done) | decide +kernel) | decide +kernel
theorem ef13 (m : MethodId) (a1 : Addr) (x1 : Int64) : entryFrame m #[(.ref a1), (.long x1)] 3 = mkF m 0 #[.val (.ref a1), .val (.long x1), .second] [] := by first | (simp [entryFrame, mkF, argsToLocals, Value.category]; done) | rfl
def Q13 (Z : State) (a1 : Addr) (x1 : Int64) (h0 : Heap) (n0 : Nat) (v : Option Value) (h : Heap) (L : List Loc) : Prop := v = none ∧ Fr n0 L ∧ Keep h0 h [a1]
set_option maxRecDepth 65536 in
set_option maxHeartbeats 40000000 in
theorem rm13 (l : Launch) (Z : State) (a0 : Array Value) (hw : ∀ d ∈ tables_1, d.before a0 Z = true) (ws : List Jvm.Cond) (a1 : Addr) (x1 : Int64) (h0 : Heap) (n0 : Nat) (Z0 : n0 ≤ h0.size) (A_a : Exa Z h0 a1 "com/example/goalwright/goalwright/model/IntegerValue") (F_v : Fld Z h0 a1 "com/example/goalwright/goalwright/model/IntegerValue" "value" "J" (.long (0 : Int64))) (ga : n0 ≤ a1) :
    MetFree l (⟨"com/example/goalwright/goalwright/model/IntegerValue", "<init>", "(J)V"⟩ : MethodName) (head1 (Jvm.Cond.code (⟨"com/example/goalwright/goalwright/model/IntegerValue", "<init>", "(J)V"⟩ : MethodName) prog_149_method_1_code 3 none :: ws) ({ frames := 2, cells := 0, slots := 0, locals := 24 } : Room)) (fun a U => a = #[(.ref a1), (.long x1)] ∧ Z.Warmed39 U.vm ∧ U.heap = h0) (fun _ _ _ _ _ => True) (fun _ U o U' => ∃ v L, o = .returned v ∧ Q13 Z a1 x1 h0 n0 v U'.heap L ∧ FrameEnd U o U' L ({ frames := 2, cells := 0, slots := 0, locals := 24 } : Room).cells ({ frames := 2, cells := 0, slots := 0, locals := 24 } : Room).slots) := by
  refine MetFree.of_bodySF pn13 hisR ?_
  intro p e s m args below meth c s₁ Bd hml0 hP hK
  obtain ⟨rfl, hZ, hh⟩ := hP
  have hx := Bd.exec
  have hby := Bd.bytes
  have hlk : meth.locks = false := BodyLoose.notSynchronized Bd
  have hml : c.maxLocals = 3 := hml0
  have hown : s.vm.findClass "com/example/goalwright/goalwright/model/IntegerValue" = some m.cls := findClass_of_methodNamed Bd.named
  have hnm := (name_of_methodNamed Bd.named Bd.method).1
  have X0 : Stand p l e ({ frames := 2, cells := 0, slots := 0, locals := 24 } : Room) s m #[(.ref a1), (.long x1)] below meth c s₁ [] 0 0 := Stand.of_body Bd
  have e0 : s₁.heap = h0 := by rw [← hh, Bd.state]; rfl
  have N0 := Fr.nil n0
  have K0 : Keep h0 h0 [a1] := Keep.refl _ _
  rw [ef13 m a1 x1]
  show own_Go p e below (own_End s (Q13 Z a1 x1 h0 n0) ({ frames := 2, cells := 0, slots := 0, locals := 24 } : Room).cells ({ frames := 2, cells := 0, slots := 0, locals := 24 } : Room).slots) s₁ (mkF m 0 #[.val (.ref a1), .val (.long x1), .second] [])
  refine own_aloadN X0 hx (hb hby d13_0) (pc' := 1) rfl rfl rfl ?_
  obtain ⟨_, _, ⟨T_1, L_1, k_1, n_1⟩, -, X_1, ⟨Lc_1, hQ_1, l_1, y_1, z_1⟩, st_1⟩ := X0.specialBack hx  (y := (⟨"com/example/goalwright/goalwright/model/Value", "<init>", "()V"⟩ : MethodName)) rfl hown (mvT hZ (hw _ (List.mem_of_getElem? (i := 122) rfl))) (mvT hZ (hw _ (List.mem_of_getElem? (i := 71) rfl))) (mvT hZ (hw _ (List.mem_of_getElem? (i := 74) rfl))) (by decide) (backOf (W := 0) (rm12 l Z a0 hw [] a1 h0 n0 Z0) hZ (hw _ (List.mem_of_getElem? (i := 74) rfl)) (hw _ (List.mem_of_getElem? (i := 73) rfl)) (by decide) (by decide)) (g := (mkF m 1 #[.val (.ref a1), .val (.long x1), .second] [(.ref a1)])) rfl (by rw [hml]; rfl) (Steps.refl _) (a := a1) (argsL := []) (rest := []) (lenOf pd13_0 rfl) rfl (by show 2 * 0 + _ ≤ _; exact Nat.le_of_eq rfl) (hb hby d13_1) (fun _ _ => ⟨rfl, e0, (by decide : 0 + 0 ≤ _), (by decide : 0 + 0 ≤ _)⟩)
  dsimp only [Pt.U, Pt.locs, Pt.cells, Pt.slots] at X_1 l_1 y_1 z_1 st_1 hQ_1
  subst l_1 y_1 z_1
  refine own_tr st_1 ?_
  obtain ⟨rfl, Nq_1, eq_1⟩ := hQ_1
  have N_1 := Fr.app N0 Nq_1
  show own_Go p e below _ T_1 (mkF m 4 #[.val (.ref a1), .val (.long x1), .second] [])
  refine own_aloadN X_1 hx (hb hby d13_4) (pc' := 5) rfl rfl rfl ?_
  refine own_lloadN X_1 hx (hb hby d13_5) (pc' := 6) rfl rfl ?_
  obtain ⟨T_2, h_2, X_2, e_2, W_2, st_2⟩ := putF X_1 hx hZ hown (host := "") (Or.inl (hw _ (List.mem_of_getElem? (i := 123) rfl))) Via.refl eq_1 F_v A_a (Or.inr ⟨(hw _ (List.mem_of_getElem? (i := 124) rfl)), rfl, hnm⟩) (hw _ (List.mem_of_getElem? (i := 117) rfl)) (ty := .long) (by decide) rfl rfl (g := (mkF m 6 #[.val (.ref a1), .val (.long x1), .second] [(.long x1), (.ref a1)])) rfl rfl (hb hby d13_6)
  have F_3 : Fld Z h_2 a1 "com/example/goalwright/goalwright/model/IntegerValue" "value" "J" (.long x1) := F_v.same W_2
  have A_5 : Exa Z h_2 a1 "com/example/goalwright/goalwright/model/IntegerValue" := A_a.wr W_2
  have Z_4 : n0 ≤ h_2.size := by rw [W_2.size]; exact Z0
  have K_4 : Keep h0 h_2 [a1] := K0.wr W_2 (Or.inl (List.mem_of_getElem? (i := 0) rfl))
  have N_2 := Fr.snoc X_2 N_1 ga
  refine own_st st_2 ?_
  show own_Go p e below _ T_2 (mkF m 9 #[.val (.ref a1), .val (.long x1), .second] [])
  refine own_retV X_2 hx hlk Bd.returns (hb hby d13_9) (by decide) (by decide) ?_
  rw [e_2]
  exact ⟨rfl, N_2, K_4⟩
theorem d14_0 : decode jdk_31_method_11_code 0 = .ok (.aload_n 0, 1) := by decide +kernel
theorem d14_1 : decode jdk_31_method_11_code 1 = .ok (.ifnonnull 12, 3) := by decide +kernel
theorem d14_13 : decode jdk_31_method_11_code 13 = .ok (.aload_n 0, 1) := by decide +kernel
theorem d14_14 : decode jdk_31_method_11_code 14 = .ok (.areturn, 1) := by decide +kernel
theorem pn14 : plainFor (⟨"java/util/Objects", "requireNonNull", "(Ljava/lang/Object;Ljava/lang/String;)Ljava/lang/Object;"⟩ : MethodName) = true := by first | exact plainFor_of_name (by first | (simp [plainName, overriddenIn]; done) | decide +kernel) | decide +kernel
theorem ef14 (m : MethodId) (o1 : Addr) (s1 : Addr) : entryFrame m #[(.ref o1), (.ref s1)] 2 = mkF m 0 #[.val (.ref o1), .val (.ref s1)] [] := by first | (simp [entryFrame, mkF, argsToLocals, Value.category]; done) | rfl
def Q14 (Z : State) (o1 : Addr) (s1 : Addr) (h0 : Heap) (n0 : Nat) (v : Option Value) (h : Heap) (L : List Loc) : Prop := v = some (.ref o1) ∧ Fr n0 L ∧ h = h0
set_option maxRecDepth 65536 in
set_option maxHeartbeats 40000000 in
theorem rm14 (l : Launch) (Z : State) (a0 : Array Value) (hw : ∀ d ∈ tables_1, d.before a0 Z = true) (ws : List Jvm.Cond) (o1 : Addr) (s1 : Addr) (h0 : Heap) (n0 : Nat) (Z0 : n0 ≤ h0.size) :
    MetFree l (⟨"java/util/Objects", "requireNonNull", "(Ljava/lang/Object;Ljava/lang/String;)Ljava/lang/Object;"⟩ : MethodName) (head1 (Jvm.Cond.code (⟨"java/util/Objects", "requireNonNull", "(Ljava/lang/Object;Ljava/lang/String;)Ljava/lang/Object;"⟩ : MethodName) jdk_31_method_11_code 2 (some (.object "java/lang/Object")) :: ws) ({ frames := 0, cells := 0, slots := 0, locals := 0 } : Room)) (fun a U => a = #[(.ref o1), (.ref s1)] ∧ Z.Warmed39 U.vm ∧ U.heap = h0) (fun _ _ _ _ _ => True) (fun _ U o U' => ∃ v L, o = .returned v ∧ Q14 Z o1 s1 h0 n0 v U'.heap L ∧ FrameEnd U o U' L ({ frames := 0, cells := 0, slots := 0, locals := 0 } : Room).cells ({ frames := 0, cells := 0, slots := 0, locals := 0 } : Room).slots) := by
  refine MetFree.of_bodySF pn14 hisR ?_
  intro p e s m args below meth c s₁ Bd hml0 hP hK
  obtain ⟨rfl, hZ, hh⟩ := hP
  have hx := Bd.exec
  have hby := Bd.bytes
  have hlk : meth.locks = false := BodyLoose.notSynchronized Bd
  have hml : c.maxLocals = 2 := hml0
  have hown : s.vm.findClass "java/util/Objects" = some m.cls := findClass_of_methodNamed Bd.named
  have hnm := (name_of_methodNamed Bd.named Bd.method).1
  have X0 : Stand p l e ({ frames := 0, cells := 0, slots := 0, locals := 0 } : Room) s m #[(.ref o1), (.ref s1)] below meth c s₁ [] 0 0 := Stand.of_body Bd
  have e0 : s₁.heap = h0 := by rw [← hh, Bd.state]; rfl
  have N0 := Fr.nil n0
  rw [ef14 m o1 s1]
  show own_Go p e below (own_End s (Q14 Z o1 s1 h0 n0) ({ frames := 0, cells := 0, slots := 0, locals := 0 } : Room).cells ({ frames := 0, cells := 0, slots := 0, locals := 0 } : Room).slots) s₁ (mkF m 0 #[.val (.ref o1), .val (.ref s1)] [])
  refine own_aloadN X0 hx (hb hby d14_0) (pc' := 1) rfl rfl rfl ?_
  refine own_ifnonnullY X0 hx (hb hby d14_1) (pc' := 13) (by decide) (by decide) ?_
  refine own_aloadN X0 hx (hb hby d14_13) (pc' := 14) rfl rfl rfl ?_
  refine own_retA X0 hx hlk Bd.returns rfl rfl (hb hby d14_14) (by decide) (by decide) ?_
  rw [e0]
  exact ⟨rfl, N0, rfl⟩
theorem d15_0 : decode prog_154_method_1_code 0 = .ok (.aload_n 0, 1) := by decide +kernel
theorem d15_1 : decode prog_154_method_1_code 1 = .ok (.invokespecial 1, 3) := by decide +kernel
theorem d15_4 : decode prog_154_method_1_code 4 = .ok (.aload_n 0, 1) := by decide +kernel
theorem d15_5 : decode prog_154_method_1_code 5 = .ok (.aload_n 1, 1) := by decide +kernel
theorem d15_6 : decode prog_154_method_1_code 6 = .ok (.ldc 7, 2) := by decide +kernel
theorem d15_8 : decode prog_154_method_1_code 8 = .ok (.invokestatic 9, 3) := by decide +kernel
theorem d15_11 : decode prog_154_method_1_code 11 = .ok (.putfield 15, 3) := by decide +kernel
theorem d15_14 : decode prog_154_method_1_code 14 = .ok (.return_, 1) := by decide +kernel
theorem pd15_0 : parseMethodDescriptor "()V" = some ⟨[], none⟩ := by decide +kernel
theorem pd15_1 : parseMethodDescriptor "(Ljava/lang/Object;Ljava/lang/String;)Ljava/lang/Object;" = some ⟨[(.object "java/lang/Object"), (.object "java/lang/String")], some (.object "java/lang/Object")⟩ := by decide +kernel
theorem pn15 : plainFor (⟨"com/example/goalwright/goalwright/model/OpaqueValue", "<init>", "(Ljava/lang/Object;)V"⟩ : MethodName) = true := by first | exact plainFor_of_name (by first | (simp [plainName, overriddenIn]; done) | decide +kernel) | decide +kernel
theorem ef15 (m : MethodId) (a1 : Addr) (o1 : Addr) : entryFrame m #[(.ref a1), (.ref o1)] 2 = mkF m 0 #[.val (.ref a1), .val (.ref o1)] [] := by first | (simp [entryFrame, mkF, argsToLocals, Value.category]; done) | rfl
def Q15 (Z : State) (a1 : Addr) (o1 : Addr) (h0 : Heap) (n0 : Nat) (v : Option Value) (h : Heap) (L : List Loc) : Prop := v = none ∧ Fr n0 L ∧ Keep h0 h [a1] ∧ Fld Z h a1 "com/example/goalwright/goalwright/model/OpaqueValue" "object" "Ljava/lang/Object;" (.ref o1)
set_option maxRecDepth 65536 in
set_option maxHeartbeats 40000000 in
theorem rm15 (l : Launch) (Z : State) (a0 : Array Value) (hw : ∀ d ∈ tables_1, d.before a0 Z = true) (ws : List Jvm.Cond) (a1 : Addr) (o1 : Addr) (h0 : Heap) (n0 : Nat) (Z0 : n0 ≤ h0.size) (A_a : Exa Z h0 a1 "com/example/goalwright/goalwright/model/OpaqueValue") (F_o : Fld Z h0 a1 "com/example/goalwright/goalwright/model/OpaqueValue" "object" "Ljava/lang/Object;" (.null)) (ga : n0 ≤ a1) :
    MetFree l (⟨"com/example/goalwright/goalwright/model/OpaqueValue", "<init>", "(Ljava/lang/Object;)V"⟩ : MethodName) (head1 (Jvm.Cond.code (⟨"com/example/goalwright/goalwright/model/OpaqueValue", "<init>", "(Ljava/lang/Object;)V"⟩ : MethodName) prog_154_method_1_code 2 none :: ws) ({ frames := 2, cells := 2, slots := 28, locals := 24 } : Room)) (fun a U => a = #[(.ref a1), (.ref o1)] ∧ Z.Warmed39 U.vm ∧ U.heap = h0) (fun _ _ _ _ _ => True) (fun _ U o U' => ∃ v L, o = .returned v ∧ Q15 Z a1 o1 h0 n0 v U'.heap L ∧ ReturnedEndW U o U' L ({ frames := 2, cells := 2, slots := 28, locals := 24 } : Room).cells ({ frames := 2, cells := 2, slots := 28, locals := 24 } : Room).slots) := by
  refine MetFree.of_bodySF pn15 hisR ?_
  intro p e s m args below meth c s₁ Bd hml0 hP hK
  obtain ⟨rfl, hZ, hh⟩ := hP
  have hx := Bd.exec
  have hby := Bd.bytes
  have hlk : meth.locks = false := BodyLoose.notSynchronized Bd
  have hml : c.maxLocals = 2 := hml0
  have hown : s.vm.findClass "com/example/goalwright/goalwright/model/OpaqueValue" = some m.cls := findClass_of_methodNamed Bd.named
  have hnm := (name_of_methodNamed Bd.named Bd.method).1
  have X0 : Stand p l e ({ frames := 2, cells := 2, slots := 28, locals := 24 } : Room) s m #[(.ref a1), (.ref o1)] below meth c s₁ [] 0 0 := Stand.of_body Bd
  have e0 : s₁.heap = h0 := by rw [← hh, Bd.state]; rfl
  have hS : s.Since s.vm h0.size := (State.WarmedH.refl s).since _
  have X0 : Stand p l e ({ frames := 2, cells := 2, slots := 28, locals := 24 } : Room) (s.setVm s.vm) m #[(.ref a1), (.ref o1)] below meth c s₁ [] 0 0 := X0
  have hZ : Z.Warmed39 (s.setVm s.vm).vm := hZ
  have hown : (s.setVm s.vm).vm.findClass "com/example/goalwright/goalwright/model/OpaqueValue" = some m.cls := hown
  have own_wS : ∀ a ∈ Bundle.stringAtoms, a.before a0 Z = true := fun a ha => hw a ((by decide +kernel : ∀ a ∈ Bundle.stringAtoms, a ∈ tables_1) a ha)
  have N0 := Fr.nil n0
  have K0 : Keep h0 h0 [a1] := Keep.refl _ _
  rw [ef15 m a1 o1]
  show own_Go p e below (own_EndW s (Q15 Z a1 o1 h0 n0) ({ frames := 2, cells := 2, slots := 28, locals := 24 } : Room).cells ({ frames := 2, cells := 2, slots := 28, locals := 24 } : Room).slots) s₁ (mkF m 0 #[.val (.ref a1), .val (.ref o1)] [])
  refine own_aloadN X0 hx (hb hby d15_0) (pc' := 1) rfl rfl rfl ?_
  obtain ⟨_, _, ⟨T_1, L_1, k_1, n_1⟩, -, X_1, ⟨Lc_1, hQ_1, l_1, y_1, z_1⟩, st_1⟩ := X0.specialBack hx  (y := (⟨"com/example/goalwright/goalwright/model/Value", "<init>", "()V"⟩ : MethodName)) rfl hown (mvT hZ (hw _ (List.mem_of_getElem? (i := 70) rfl))) (mvT hZ (hw _ (List.mem_of_getElem? (i := 71) rfl))) (mvT hZ (hw _ (List.mem_of_getElem? (i := 74) rfl))) (by decide) (backOf (W := 0) (rm12 l Z a0 hw [] a1 h0 n0 Z0) hZ (hw _ (List.mem_of_getElem? (i := 74) rfl)) (hw _ (List.mem_of_getElem? (i := 73) rfl)) (by decide) (by decide)) (g := (mkF m 1 #[.val (.ref a1), .val (.ref o1)] [(.ref a1)])) rfl (by rw [hml]; rfl) (Steps.refl _) (a := a1) (argsL := []) (rest := []) (lenOf pd15_0 rfl) rfl (by show 2 * 0 + _ ≤ _; exact Nat.le_of_eq rfl) (hb hby d15_1) (fun _ _ => ⟨rfl, e0, (by decide : 0 + 0 ≤ _), (by decide : 0 + 0 ≤ _)⟩)
  dsimp only [Pt.U, Pt.locs, Pt.cells, Pt.slots] at X_1 l_1 y_1 z_1 st_1 hQ_1
  subst l_1 y_1 z_1
  refine own_tr st_1 ?_
  obtain ⟨rfl, Nq_1, eq_1⟩ := hQ_1
  have N_1 := Fr.app N0 Nq_1
  show own_Go p e below _ T_1 (mkF m 4 #[.val (.ref a1), .val (.ref o1)] [])
  refine own_aloadN X_1 hx (hb hby d15_4) (pc' := 5) rfl rfl rfl ?_
  refine own_aloadN X_1 hx (hb hby d15_5) (pc' := 6) rfl rfl rfl ?_
  obtain ⟨la_2, T_2, h_2, kn_2, X_2, e_2, E_2, hS, hkn_2, hZ, hown, st_2⟩ := ldcS X_1 hx hZ hown (hw _ (List.mem_of_getElem? (i := 76) rfl)) own_wS eq_1 hS (Nat.le_refl _) (g := (mkF m 6 #[.val (.ref a1), .val (.ref o1)] [(.ref o1), (.ref a1)])) rfl (hb hby d15_6) (n := 24) (by decide) (by decide) (by decide) (by decide)
  have A_4 : Exa Z h_2 a1 "com/example/goalwright/goalwright/model/OpaqueValue" := A_a.ext E_2
  have F_5 : Fld Z h_2 a1 "com/example/goalwright/goalwright/model/OpaqueValue" "object" "Ljava/lang/Object;" (.null) := F_o.ext E_2
  have Z_3 : n0 ≤ h_2.size := Nat.le_trans Z0 E_2.1
  have K_3 : Keep h0 h_2 [a1] := K0.ext E_2
  refine own_st st_2 ?_
  show own_Go p e below _ T_2 (mkF m 8 #[.val (.ref a1), .val (.ref o1)] [(.ref la_2), (.ref o1), (.ref a1)])
  obtain ⟨_, _, ⟨T_6, L_6, k_6, n_6⟩, -, X_6, ⟨Lc_6, hQ_6, l_6, y_6, z_6⟩, st_6⟩ := Jvm.LawKit.callS X_2 hx (y := (⟨"java/util/Objects", "requireNonNull", "(Ljava/lang/Object;Ljava/lang/String;)Ljava/lang/Object;"⟩ : MethodName)) hown (mvT hZ (hw _ (List.mem_of_getElem? (i := 84) rfl))) (mvT hZ (hw _ (List.mem_of_getElem? (i := 85) rfl))) (mvT hZ (hw _ (List.mem_of_getElem? (i := 86) rfl))) (mvT hZ (hw _ (List.mem_of_getElem? (i := 87) rfl))) (by decide) (backOf (W := 1) (rm14 l Z a0 hw [] o1 la_2 h_2 n0 Z_3) hZ (hw _ (List.mem_of_getElem? (i := 87) rfl)) (hw _ (List.mem_of_getElem? (i := 86) rfl)) (by decide) (by decide)) (g := (mkF m 8 #[.val (.ref a1), .val (.ref o1)] [(.ref la_2), (.ref o1), (.ref a1)])) rfl (by rw [hml]; rfl) (argsL := [(.ref o1), (.ref la_2)]) (rest := [(.ref a1)]) (lenOf pd15_1 rfl) rfl (by show 2 * 0 + _ ≤ _; exact Nat.le_of_eq rfl) (hb hby d15_8) (fun _ _ => ⟨rfl, e_2, (by decide : 2 + 0 ≤ _), (by decide : 28 + 0 ≤ _)⟩)
  dsimp only [Pt.U, Pt.locs, Pt.cells, Pt.slots] at X_6 l_6 y_6 z_6 st_6 hQ_6
  subst l_6 y_6 z_6
  refine own_st st_6 ?_
  obtain ⟨rfl, Nq_6, eq_6⟩ := hQ_6
  have N_6 := Fr.app N_1 Nq_6
  show own_Go p e below _ T_6 (mkF m 11 #[.val (.ref a1), .val (.ref o1)] [(.ref o1), (.ref a1)])
  obtain ⟨T_7, h_7, X_7, e_7, W_7, st_7⟩ := putF X_6 hx hZ hown (host := "") (Or.inl (hw _ (List.mem_of_getElem? (i := 88) rfl))) Via.refl eq_6 F_5 A_4 (Or.inr ⟨(hw _ (List.mem_of_getElem? (i := 89) rfl)), rfl, hnm⟩) (hw _ (List.mem_of_getElem? (i := 65) rfl)) (ty := (.object "java/lang/Object")) (by decide) rfl rfl (g := (mkF m 11 #[.val (.ref a1), .val (.ref o1)] [(.ref o1), (.ref a1)])) rfl rfl (hb hby d15_11)
  have F_8 : Fld Z h_7 a1 "com/example/goalwright/goalwright/model/OpaqueValue" "object" "Ljava/lang/Object;" (.ref o1) := F_5.same W_7
  have A_10 : Exa Z h_7 a1 "com/example/goalwright/goalwright/model/OpaqueValue" := A_4.wr W_7
  have Z_9 : n0 ≤ h_7.size := by rw [W_7.size]; exact Z_3
  have K1_9 := Nat.le_trans hkn_2 (Nat.le_of_eq W_7.size.symm)
  have K_9 : Keep h0 h_7 [a1] := K_3.wr W_7 (Or.inl (List.mem_of_getElem? (i := 0) rfl))
  have N_7 := Fr.snoc X_7 N_6 ga
  refine own_st st_7 ?_
  show own_Go p e below _ T_7 (mkF m 14 #[.val (.ref a1), .val (.ref o1)] [])
  refine own_retVW X_7 hS (by rw [e_7]; exact K1_9) hx hlk Bd.returns (hb hby d15_14) (by decide) (by decide) ?_
  rw [e_7]
  exact ⟨rfl, N_7, K_9, F_8⟩
theorem d16_0 : decode prog_154_method_4_code 0 = .ok (.aload_n 1, 1) := by decide +kernel
theorem d16_1 : decode prog_154_method_4_code 1 = .ok (.instanceof 16, 3) := by decide +kernel
theorem d16_4 : decode prog_154_method_4_code 4 = .ok (.ifCond .eq 23, 3) := by decide +kernel
theorem d16_7 : decode prog_154_method_4_code 7 = .ok (.aload_n 1, 1) := by decide +kernel
theorem d16_8 : decode prog_154_method_4_code 8 = .ok (.checkcast 16, 3) := by decide +kernel
theorem d16_11 : decode prog_154_method_4_code 11 = .ok (.astore_n 2, 1) := by decide +kernel
theorem d16_12 : decode prog_154_method_4_code 12 = .ok (.aload_n 2, 1) := by decide +kernel
theorem d16_13 : decode prog_154_method_4_code 13 = .ok (.getfield 15, 3) := by decide +kernel
theorem d16_16 : decode prog_154_method_4_code 16 = .ok (.aload_n 0, 1) := by decide +kernel
theorem d16_17 : decode prog_154_method_4_code 17 = .ok (.getfield 15, 3) := by decide +kernel
theorem d16_20 : decode prog_154_method_4_code 20 = .ok (.if_acmp .ne 7, 3) := by decide +kernel
theorem d16_23 : decode prog_154_method_4_code 23 = .ok (.iconst 1, 1) := by decide +kernel
theorem d16_24 : decode prog_154_method_4_code 24 = .ok (.goto 4, 3) := by decide +kernel
theorem d16_28 : decode prog_154_method_4_code 28 = .ok (.ireturn, 1) := by decide +kernel
theorem pn16 : plainFor (⟨"com/example/goalwright/goalwright/model/OpaqueValue", "equals", "(Ljava/lang/Object;)Z"⟩ : MethodName) = true := by first | exact plainFor_of_name (by first | (simp [plainName, overriddenIn]; done) | decide +kernel) | decide +kernel
theorem ef16 (m : MethodId) (a1 : Addr) (a2 : Addr) : entryFrame m #[(.ref a1), (.ref a2)] 3 = mkF m 0 #[.val (.ref a1), .val (.ref a2), .unset] [] := by first | (simp [entryFrame, mkF, argsToLocals, Value.category]; done) | rfl
def Q16 (Z : State) (a1 : Addr) (a2 : Addr) (o1 : Addr) (h0 : Heap) (n0 : Nat) (v : Option Value) (h : Heap) (L : List Loc) : Prop := v = some (.int 1) ∧ Fr n0 L ∧ h = h0
set_option maxRecDepth 65536 in
set_option maxHeartbeats 40000000 in
theorem rm16 (l : Launch) (Z : State) (a0 : Array Value) (hw : ∀ d ∈ tables_1, d.before a0 Z = true) (ws : List Jvm.Cond) (a1 : Addr) (a2 : Addr) (o1 : Addr) (h0 : Heap) (n0 : Nat) (Z0 : n0 ≤ h0.size) (A_a : Exa Z h0 a2 "com/example/goalwright/goalwright/model/OpaqueValue") (F_a1 : Fld Z h0 a1 "com/example/goalwright/goalwright/model/OpaqueValue" "object" "Ljava/lang/Object;" (.ref o1)) (F_a2 : Fld Z h0 a2 "com/example/goalwright/goalwright/model/OpaqueValue" "object" "Ljava/lang/Object;" (.ref o1)) :
    MetFree l (⟨"com/example/goalwright/goalwright/model/OpaqueValue", "equals", "(Ljava/lang/Object;)Z"⟩ : MethodName) (head1 (Jvm.Cond.code (⟨"com/example/goalwright/goalwright/model/OpaqueValue", "equals", "(Ljava/lang/Object;)Z"⟩ : MethodName) prog_154_method_4_code 3 (some .boolean) :: ws) ({ frames := 0, cells := 0, slots := 0, locals := 0 } : Room)) (fun a U => a = #[(.ref a1), (.ref a2)] ∧ Z.Warmed39 U.vm ∧ U.heap = h0) (fun _ _ _ _ _ => True) (fun _ U o U' => ∃ v L, o = .returned v ∧ Q16 Z a1 a2 o1 h0 n0 v U'.heap L ∧ FrameEnd U o U' L ({ frames := 0, cells := 0, slots := 0, locals := 0 } : Room).cells ({ frames := 0, cells := 0, slots := 0, locals := 0 } : Room).slots) := by
  refine MetFree.of_bodySF pn16 hisR ?_
  intro p e s m args below meth c s₁ Bd hml0 hP hK
  obtain ⟨rfl, hZ, hh⟩ := hP
  have hx := Bd.exec
  have hby := Bd.bytes
  have hlk : meth.locks = false := BodyLoose.notSynchronized Bd
  have hml : c.maxLocals = 3 := hml0
  have hown : s.vm.findClass "com/example/goalwright/goalwright/model/OpaqueValue" = some m.cls := findClass_of_methodNamed Bd.named
  have hnm := (name_of_methodNamed Bd.named Bd.method).1
  have X0 : Stand p l e ({ frames := 0, cells := 0, slots := 0, locals := 0 } : Room) s m #[(.ref a1), (.ref a2)] below meth c s₁ [] 0 0 := Stand.of_body Bd
  have e0 : s₁.heap = h0 := by rw [← hh, Bd.state]; rfl
  have N0 := Fr.nil n0
  rw [ef16 m a1 a2]
  show own_Go p e below (own_End s (Q16 Z a1 a2 o1 h0 n0) ({ frames := 0, cells := 0, slots := 0, locals := 0 } : Room).cells ({ frames := 0, cells := 0, slots := 0, locals := 0 } : Room).slots) s₁ (mkF m 0 #[.val (.ref a1), .val (.ref a2), .unset] [])
  refine own_aloadN X0 hx (hb hby d16_0) (pc' := 1) rfl rfl rfl ?_
  obtain ⟨T_1, X_1, e_1, st_1⟩ := instY X0 hx hZ hown (hw _ (List.mem_of_getElem? (i := 95) rfl)) e0 (Ins.self A_a) (g := (mkF m 1 #[.val (.ref a1), .val (.ref a2), .unset] [(.ref a2)])) rfl rfl (hb hby d16_1)
  refine own_st st_1 ?_
  show own_Go p e below _ T_1 (mkF m 4 #[.val (.ref a1), .val (.ref a2), .unset] [(.int (1 : Int32))])
  refine own_ifN X_1 hx (hb hby d16_4) (by decide) (pc' := 7) rfl ?_
  refine own_aloadN X_1 hx (hb hby d16_7) (pc' := 8) rfl rfl rfl ?_
  obtain ⟨T_2, X_2, e_2, st_2⟩ := castY X_1 hx hZ hown (hw _ (List.mem_of_getElem? (i := 95) rfl)) e_1 (Ins.self A_a) (g := (mkF m 8 #[.val (.ref a1), .val (.ref a2), .unset] [(.ref a2)])) rfl rfl (hb hby d16_8)
  refine own_st st_2 ?_
  show own_Go p e below _ T_2 (mkF m 11 #[.val (.ref a1), .val (.ref a2), .unset] [(.ref a2)])
  refine own_astoreN X_2 hx (hb hby d16_11) (pc' := 12) (Ls' := #[.val (.ref a1), .val (.ref a2), .val (.ref a2)]) rfl rfl rfl ?_
  refine own_aloadN X_2 hx (hb hby d16_12) (pc' := 13) rfl rfl rfl ?_
  obtain ⟨T_3, X_3, e_3, st_3⟩ := getF X_2 hx hZ hown (host := "") (Or.inl (hw _ (List.mem_of_getElem? (i := 88) rfl))) Via.refl e_2 F_a2 (g := (mkF m 13 #[.val (.ref a1), .val (.ref a2), .val (.ref a2)] [(.ref a2)])) rfl rfl (hb hby d16_13)
  refine own_st st_3 ?_
  show own_Go p e below _ T_3 (mkF m 16 #[.val (.ref a1), .val (.ref a2), .val (.ref a2)] [(.ref o1)])
  refine own_aloadN X_3 hx (hb hby d16_16) (pc' := 17) rfl rfl rfl ?_
  obtain ⟨T_4, X_4, e_4, st_4⟩ := getF X_3 hx hZ hown (host := "") (Or.inl (hw _ (List.mem_of_getElem? (i := 88) rfl))) Via.refl e_3 F_a1 (g := (mkF m 17 #[.val (.ref a1), .val (.ref a2), .val (.ref a2)] [(.ref a1), (.ref o1)])) rfl rfl (hb hby d16_17)
  refine own_st st_4 ?_
  show own_Go p e below _ T_4 (mkF m 20 #[.val (.ref a1), .val (.ref a2), .val (.ref a2)] [(.ref o1), (.ref o1)])
  refine own_acmpN X_4 hx rfl rfl (hb hby d16_20) (XT.aa_ne_f rfl) (pc' := 23) rfl ?_
  refine own_iconst X_4 hx (1) (hb hby d16_23) (pc' := 24) rfl rfl ?_
  refine own_goto X_4 hx (hb hby d16_24) (pc' := 28) (by decide) (by decide) ?_
  refine own_retZ X_4 hx hlk Bd.returns (by simp) (hb hby d16_28) (by decide) (by decide) ?_
  rw [e_4]
  exact ⟨rfl, N0, rfl⟩
theorem d17_0 : decode prog_154_method_4_code 0 = .ok (.aload_n 1, 1) := by decide +kernel
theorem d17_1 : decode prog_154_method_4_code 1 = .ok (.instanceof 16, 3) := by decide +kernel
theorem d17_4 : decode prog_154_method_4_code 4 = .ok (.ifCond .eq 23, 3) := by decide +kernel
theorem d17_7 : decode prog_154_method_4_code 7 = .ok (.aload_n 1, 1) := by decide +kernel
theorem d17_8 : decode prog_154_method_4_code 8 = .ok (.checkcast 16, 3) := by decide +kernel
theorem d17_11 : decode prog_154_method_4_code 11 = .ok (.astore_n 2, 1) := by decide +kernel
theorem d17_12 : decode prog_154_method_4_code 12 = .ok (.aload_n 2, 1) := by decide +kernel
theorem d17_13 : decode prog_154_method_4_code 13 = .ok (.getfield 15, 3) := by decide +kernel
theorem d17_16 : decode prog_154_method_4_code 16 = .ok (.aload_n 0, 1) := by decide +kernel
theorem d17_17 : decode prog_154_method_4_code 17 = .ok (.getfield 15, 3) := by decide +kernel
theorem d17_20 : decode prog_154_method_4_code 20 = .ok (.if_acmp .ne 7, 3) := by decide +kernel
theorem d17_27 : decode prog_154_method_4_code 27 = .ok (.iconst 0, 1) := by decide +kernel
theorem d17_28 : decode prog_154_method_4_code 28 = .ok (.ireturn, 1) := by decide +kernel
theorem pn17 : plainFor (⟨"com/example/goalwright/goalwright/model/OpaqueValue", "equals", "(Ljava/lang/Object;)Z"⟩ : MethodName) = true := by first | exact plainFor_of_name (by first | (simp [plainName, overriddenIn]; done) | decide +kernel) | decide +kernel
theorem ef17 (m : MethodId) (a1 : Addr) (a2 : Addr) : entryFrame m #[(.ref a1), (.ref a2)] 3 = mkF m 0 #[.val (.ref a1), .val (.ref a2), .unset] [] := by first | (simp [entryFrame, mkF, argsToLocals, Value.category]; done) | rfl
def Q17 (Z : State) (a1 : Addr) (a2 : Addr) (o1 : Addr) (o2 : Addr) (h0 : Heap) (n0 : Nat) (v : Option Value) (h : Heap) (L : List Loc) : Prop := v = some (.int 0) ∧ Fr n0 L ∧ h = h0
set_option maxRecDepth 65536 in
set_option maxHeartbeats 40000000 in
theorem rm17 (l : Launch) (Z : State) (a0 : Array Value) (hw : ∀ d ∈ tables_1, d.before a0 Z = true) (ws : List Jvm.Cond) (a1 : Addr) (a2 : Addr) (o1 : Addr) (o2 : Addr) (h0 : Heap) (n0 : Nat) (Z0 : n0 ≤ h0.size) (A_a : Exa Z h0 a2 "com/example/goalwright/goalwright/model/OpaqueValue") (F_a1 : Fld Z h0 a1 "com/example/goalwright/goalwright/model/OpaqueValue" "object" "Ljava/lang/Object;" (.ref o1)) (F_a2 : Fld Z h0 a2 "com/example/goalwright/goalwright/model/OpaqueValue" "object" "Ljava/lang/Object;" (.ref o2)) (no : o2 ≠ o1) :
    MetFree l (⟨"com/example/goalwright/goalwright/model/OpaqueValue", "equals", "(Ljava/lang/Object;)Z"⟩ : MethodName) (head1 (Jvm.Cond.code (⟨"com/example/goalwright/goalwright/model/OpaqueValue", "equals", "(Ljava/lang/Object;)Z"⟩ : MethodName) prog_154_method_4_code 3 (some .boolean) :: ws) ({ frames := 0, cells := 0, slots := 0, locals := 0 } : Room)) (fun a U => a = #[(.ref a1), (.ref a2)] ∧ Z.Warmed39 U.vm ∧ U.heap = h0) (fun _ _ _ _ _ => True) (fun _ U o U' => ∃ v L, o = .returned v ∧ Q17 Z a1 a2 o1 o2 h0 n0 v U'.heap L ∧ FrameEnd U o U' L ({ frames := 0, cells := 0, slots := 0, locals := 0 } : Room).cells ({ frames := 0, cells := 0, slots := 0, locals := 0 } : Room).slots) := by
  refine MetFree.of_bodySF pn17 hisR ?_
  intro p e s m args below meth c s₁ Bd hml0 hP hK
  obtain ⟨rfl, hZ, hh⟩ := hP
  have hx := Bd.exec
  have hby := Bd.bytes
  have hlk : meth.locks = false := BodyLoose.notSynchronized Bd
  have hml : c.maxLocals = 3 := hml0
  have hown : s.vm.findClass "com/example/goalwright/goalwright/model/OpaqueValue" = some m.cls := findClass_of_methodNamed Bd.named
  have hnm := (name_of_methodNamed Bd.named Bd.method).1
  have X0 : Stand p l e ({ frames := 0, cells := 0, slots := 0, locals := 0 } : Room) s m #[(.ref a1), (.ref a2)] below meth c s₁ [] 0 0 := Stand.of_body Bd
  have e0 : s₁.heap = h0 := by rw [← hh, Bd.state]; rfl
  have N0 := Fr.nil n0
  rw [ef17 m a1 a2]
  show own_Go p e below (own_End s (Q17 Z a1 a2 o1 o2 h0 n0) ({ frames := 0, cells := 0, slots := 0, locals := 0 } : Room).cells ({ frames := 0, cells := 0, slots := 0, locals := 0 } : Room).slots) s₁ (mkF m 0 #[.val (.ref a1), .val (.ref a2), .unset] [])
  refine own_aloadN X0 hx (hb hby d17_0) (pc' := 1) rfl rfl rfl ?_
  obtain ⟨T_1, X_1, e_1, st_1⟩ := instY X0 hx hZ hown (hw _ (List.mem_of_getElem? (i := 95) rfl)) e0 (Ins.self A_a) (g := (mkF m 1 #[.val (.ref a1), .val (.ref a2), .unset] [(.ref a2)])) rfl rfl (hb hby d17_1)
  refine own_st st_1 ?_
  show own_Go p e below _ T_1 (mkF m 4 #[.val (.ref a1), .val (.ref a2), .unset] [(.int (1 : Int32))])
  refine own_ifN X_1 hx (hb hby d17_4) (by decide) (pc' := 7) rfl ?_
  refine own_aloadN X_1 hx (hb hby d17_7) (pc' := 8) rfl rfl rfl ?_
  obtain ⟨T_2, X_2, e_2, st_2⟩ := castY X_1 hx hZ hown (hw _ (List.mem_of_getElem? (i := 95) rfl)) e_1 (Ins.self A_a) (g := (mkF m 8 #[.val (.ref a1), .val (.ref a2), .unset] [(.ref a2)])) rfl rfl (hb hby d17_8)
  refine own_st st_2 ?_
  show own_Go p e below _ T_2 (mkF m 11 #[.val (.ref a1), .val (.ref a2), .unset] [(.ref a2)])
  refine own_astoreN X_2 hx (hb hby d17_11) (pc' := 12) (Ls' := #[.val (.ref a1), .val (.ref a2), .val (.ref a2)]) rfl rfl rfl ?_
  refine own_aloadN X_2 hx (hb hby d17_12) (pc' := 13) rfl rfl rfl ?_
  obtain ⟨T_3, X_3, e_3, st_3⟩ := getF X_2 hx hZ hown (host := "") (Or.inl (hw _ (List.mem_of_getElem? (i := 88) rfl))) Via.refl e_2 F_a2 (g := (mkF m 13 #[.val (.ref a1), .val (.ref a2), .val (.ref a2)] [(.ref a2)])) rfl rfl (hb hby d17_13)
  refine own_st st_3 ?_
  show own_Go p e below _ T_3 (mkF m 16 #[.val (.ref a1), .val (.ref a2), .val (.ref a2)] [(.ref o2)])
  refine own_aloadN X_3 hx (hb hby d17_16) (pc' := 17) rfl rfl rfl ?_
  obtain ⟨T_4, X_4, e_4, st_4⟩ := getF X_3 hx hZ hown (host := "") (Or.inl (hw _ (List.mem_of_getElem? (i := 88) rfl))) Via.refl e_3 F_a1 (g := (mkF m 17 #[.val (.ref a1), .val (.ref a2), .val (.ref a2)] [(.ref a1), (.ref o2)])) rfl rfl (hb hby d17_17)
  refine own_st st_4 ?_
  show own_Go p e below _ T_4 (mkF m 20 #[.val (.ref a1), .val (.ref a2), .val (.ref a2)] [(.ref o1), (.ref o2)])
  refine own_acmpY X_4 hx rfl rfl (hb hby d17_20) (XT.aa_ne_t (by intro q; first | exact absurd (Value.ref.inj q) no | cases q)) (pc' := 27) (by decide) (by decide) ?_
  refine own_iconst X_4 hx (0) (hb hby d17_27) (pc' := 28) rfl rfl ?_
  refine own_retZ X_4 hx hlk Bd.returns (by simp) (hb hby d17_28) (by decide) (by decide) ?_
  rw [e_4]
  exact ⟨rfl, N0, rfl⟩
theorem d18_0 : decode prog_154_method_4_code 0 = .ok (.aload_n 1, 1) := by decide +kernel
theorem d18_1 : decode prog_154_method_4_code 1 = .ok (.instanceof 16, 3) := by decide +kernel
theorem d18_4 : decode prog_154_method_4_code 4 = .ok (.ifCond .eq 23, 3) := by decide +kernel
theorem d18_27 : decode prog_154_method_4_code 27 = .ok (.iconst 0, 1) := by decide +kernel
theorem d18_28 : decode prog_154_method_4_code 28 = .ok (.ireturn, 1) := by decide +kernel
theorem pn18 : plainFor (⟨"com/example/goalwright/goalwright/model/OpaqueValue", "equals", "(Ljava/lang/Object;)Z"⟩ : MethodName) = true := by first | exact plainFor_of_name (by first | (simp [plainName, overriddenIn]; done) | decide +kernel) | decide +kernel
theorem ef18 (m : MethodId) (a1 : Addr) (a2 : Addr) : entryFrame m #[(.ref a1), (.ref a2)] 3 = mkF m 0 #[.val (.ref a1), .val (.ref a2), .unset] [] := by first | (simp [entryFrame, mkF, argsToLocals, Value.category]; done) | rfl
def Q18 (Z : State) (a1 : Addr) (a2 : Addr) (h0 : Heap) (n0 : Nat) (v : Option Value) (h : Heap) (L : List Loc) : Prop := v = some (.int 0) ∧ Fr n0 L ∧ h = h0
set_option maxRecDepth 65536 in
set_option maxHeartbeats 40000000 in
theorem rm18 (l : Launch) (Z : State) (a0 : Array Value) (hw : ∀ d ∈ tables_1, d.before a0 Z = true) (ws : List Jvm.Cond) (a1 : Addr) (a2 : Addr) (h0 : Heap) (n0 : Nat) (Z0 : n0 ≤ h0.size) (A_a : Exa Z h0 a2 "java/util/ArrayList") :
    MetFree l (⟨"com/example/goalwright/goalwright/model/OpaqueValue", "equals", "(Ljava/lang/Object;)Z"⟩ : MethodName) (head1 (Jvm.Cond.code (⟨"com/example/goalwright/goalwright/model/OpaqueValue", "equals", "(Ljava/lang/Object;)Z"⟩ : MethodName) prog_154_method_4_code 3 (some .boolean) :: ws) ({ frames := 0, cells := 0, slots := 0, locals := 0 } : Room)) (fun a U => a = #[(.ref a1), (.ref a2)] ∧ Z.Warmed39 U.vm ∧ U.heap = h0) (fun _ _ _ _ _ => True) (fun _ U o U' => ∃ v L, o = .returned v ∧ Q18 Z a1 a2 h0 n0 v U'.heap L ∧ FrameEnd U o U' L ({ frames := 0, cells := 0, slots := 0, locals := 0 } : Room).cells ({ frames := 0, cells := 0, slots := 0, locals := 0 } : Room).slots) := by
  refine MetFree.of_bodySF pn18 hisR ?_
  intro p e s m args below meth c s₁ Bd hml0 hP hK
  obtain ⟨rfl, hZ, hh⟩ := hP
  have hx := Bd.exec
  have hby := Bd.bytes
  have hlk : meth.locks = false := BodyLoose.notSynchronized Bd
  have hml : c.maxLocals = 3 := hml0
  have hown : s.vm.findClass "com/example/goalwright/goalwright/model/OpaqueValue" = some m.cls := findClass_of_methodNamed Bd.named
  have hnm := (name_of_methodNamed Bd.named Bd.method).1
  have X0 : Stand p l e ({ frames := 0, cells := 0, slots := 0, locals := 0 } : Room) s m #[(.ref a1), (.ref a2)] below meth c s₁ [] 0 0 := Stand.of_body Bd
  have e0 : s₁.heap = h0 := by rw [← hh, Bd.state]; rfl
  have N0 := Fr.nil n0
  rw [ef18 m a1 a2]
  show own_Go p e below (own_End s (Q18 Z a1 a2 h0 n0) ({ frames := 0, cells := 0, slots := 0, locals := 0 } : Room).cells ({ frames := 0, cells := 0, slots := 0, locals := 0 } : Room).slots) s₁ (mkF m 0 #[.val (.ref a1), .val (.ref a2), .unset] [])
  refine own_aloadN X0 hx (hb hby d18_0) (pc' := 1) rfl rfl rfl ?_
  obtain ⟨T_1, X_1, e_1, st_1⟩ := instNo X0 hx hZ hown (hw _ (List.mem_of_getElem? (i := 95) rfl)) e0 A_a (own_NSno (hw _ (List.mem_of_getElem? (i := 97) rfl)) (hw _ (List.mem_of_getElem? (i := 65) rfl)) (NS.step (hw _ (List.mem_of_getElem? (i := 97) rfl)) (NS.step (hw _ (List.mem_of_getElem? (i := 98) rfl)) (NS.step (hw _ (List.mem_of_getElem? (i := 99) rfl)) (own_NSroot (hw _ (List.mem_of_getElem? (i := 100) rfl)) (hw _ (List.mem_of_getElem? (i := 65) rfl)) (by decide)) (by decide)) (by decide)) (by decide)) (by decide)) (g := (mkF m 1 #[.val (.ref a1), .val (.ref a2), .unset] [(.ref a2)])) rfl rfl (hb hby d18_1)
  refine own_st st_1 ?_
  show own_Go p e below _ T_1 (mkF m 4 #[.val (.ref a1), .val (.ref a2), .unset] [(.int (0 : Int32))])
  refine own_ifY X_1 hx (hb hby d18_4) (by decide) (pc' := 27) (by decide) (by decide) ?_
  refine own_iconst X_1 hx (0) (hb hby d18_27) (pc' := 28) rfl rfl ?_
  refine own_retZ X_1 hx hlk Bd.returns (by simp) (hb hby d18_28) (by decide) (by decide) ?_
  rw [e_1]
  exact ⟨rfl, N0, rfl⟩
theorem d19_0 : decode prog_154_method_4_code 0 = .ok (.aload_n 1, 1) := by decide +kernel
theorem d19_1 : decode prog_154_method_4_code 1 = .ok (.instanceof 16, 3) := by decide +kernel
theorem d19_4 : decode prog_154_method_4_code 4 = .ok (.ifCond .eq 23, 3) := by decide +kernel
theorem d19_27 : decode prog_154_method_4_code 27 = .ok (.iconst 0, 1) := by decide +kernel
theorem d19_28 : decode prog_154_method_4_code 28 = .ok (.ireturn, 1) := by decide +kernel
theorem pn19 : plainFor (⟨"com/example/goalwright/goalwright/model/OpaqueValue", "equals", "(Ljava/lang/Object;)Z"⟩ : MethodName) = true := by first | exact plainFor_of_name (by first | (simp [plainName, overriddenIn]; done) | decide +kernel) | decide +kernel
theorem ef19 (m : MethodId) (a1 : Addr) (a2 : Addr) : entryFrame m #[(.ref a1), (.ref a2)] 3 = mkF m 0 #[.val (.ref a1), .val (.ref a2), .unset] [] := by first | (simp [entryFrame, mkF, argsToLocals, Value.category]; done) | rfl
def Q19 (Z : State) (a1 : Addr) (a2 : Addr) (h0 : Heap) (n0 : Nat) (v : Option Value) (h : Heap) (L : List Loc) : Prop := v = some (.int 0) ∧ Fr n0 L ∧ h = h0
set_option maxRecDepth 65536 in
set_option maxHeartbeats 40000000 in
theorem rm19 (l : Launch) (Z : State) (a0 : Array Value) (hw : ∀ d ∈ tables_1, d.before a0 Z = true) (ws : List Jvm.Cond) (a1 : Addr) (a2 : Addr) (h0 : Heap) (n0 : Nat) (Z0 : n0 ≤ h0.size) (A_a : Exa Z h0 a2 "com/example/goalwright/goalwright/model/IntegerValue") :
    MetFree l (⟨"com/example/goalwright/goalwright/model/OpaqueValue", "equals", "(Ljava/lang/Object;)Z"⟩ : MethodName) (head1 (Jvm.Cond.code (⟨"com/example/goalwright/goalwright/model/OpaqueValue", "equals", "(Ljava/lang/Object;)Z"⟩ : MethodName) prog_154_method_4_code 3 (some .boolean) :: ws) ({ frames := 0, cells := 0, slots := 0, locals := 0 } : Room)) (fun a U => a = #[(.ref a1), (.ref a2)] ∧ Z.Warmed39 U.vm ∧ U.heap = h0) (fun _ _ _ _ _ => True) (fun _ U o U' => ∃ v L, o = .returned v ∧ Q19 Z a1 a2 h0 n0 v U'.heap L ∧ FrameEnd U o U' L ({ frames := 0, cells := 0, slots := 0, locals := 0 } : Room).cells ({ frames := 0, cells := 0, slots := 0, locals := 0 } : Room).slots) := by
  refine MetFree.of_bodySF pn19 hisR ?_
  intro p e s m args below meth c s₁ Bd hml0 hP hK
  obtain ⟨rfl, hZ, hh⟩ := hP
  have hx := Bd.exec
  have hby := Bd.bytes
  have hlk : meth.locks = false := BodyLoose.notSynchronized Bd
  have hml : c.maxLocals = 3 := hml0
  have hown : s.vm.findClass "com/example/goalwright/goalwright/model/OpaqueValue" = some m.cls := findClass_of_methodNamed Bd.named
  have hnm := (name_of_methodNamed Bd.named Bd.method).1
  have X0 : Stand p l e ({ frames := 0, cells := 0, slots := 0, locals := 0 } : Room) s m #[(.ref a1), (.ref a2)] below meth c s₁ [] 0 0 := Stand.of_body Bd
  have e0 : s₁.heap = h0 := by rw [← hh, Bd.state]; rfl
  have N0 := Fr.nil n0
  rw [ef19 m a1 a2]
  show own_Go p e below (own_End s (Q19 Z a1 a2 h0 n0) ({ frames := 0, cells := 0, slots := 0, locals := 0 } : Room).cells ({ frames := 0, cells := 0, slots := 0, locals := 0 } : Room).slots) s₁ (mkF m 0 #[.val (.ref a1), .val (.ref a2), .unset] [])
  refine own_aloadN X0 hx (hb hby d19_0) (pc' := 1) rfl rfl rfl ?_
  obtain ⟨T_1, X_1, e_1, st_1⟩ := instNo X0 hx hZ hown (hw _ (List.mem_of_getElem? (i := 95) rfl)) e0 A_a (own_NSno (hw _ (List.mem_of_getElem? (i := 125) rfl)) (hw _ (List.mem_of_getElem? (i := 65) rfl)) (NS.step (hw _ (List.mem_of_getElem? (i := 125) rfl)) (NS.step (hw _ (List.mem_of_getElem? (i := 126) rfl)) (own_NSroot (hw _ (List.mem_of_getElem? (i := 100) rfl)) (hw _ (List.mem_of_getElem? (i := 65) rfl)) (by decide)) (by decide)) (by decide)) (by decide)) (g := (mkF m 1 #[.val (.ref a1), .val (.ref a2), .unset] [(.ref a2)])) rfl rfl (hb hby d19_1)
  refine own_st st_1 ?_
  show own_Go p e below _ T_1 (mkF m 4 #[.val (.ref a1), .val (.ref a2), .unset] [(.int (0 : Int32))])
  refine own_ifY X_1 hx (hb hby d19_4) (by decide) (pc' := 27) (by decide) (by decide) ?_
  refine own_iconst X_1 hx (0) (hb hby d19_27) (pc' := 28) rfl rfl ?_
  refine own_retZ X_1 hx hlk Bd.returns (by simp) (hb hby d19_28) (by decide) (by decide) ?_
  rw [e_1]
  exact ⟨rfl, N0, rfl⟩
theorem d20_0 : decode prog_154_method_4_code 0 = .ok (.aload_n 1, 1) := by decide +kernel
theorem d20_1 : decode prog_154_method_4_code 1 = .ok (.instanceof 16, 3) := by decide +kernel
theorem d20_4 : decode prog_154_method_4_code 4 = .ok (.ifCond .eq 23, 3) := by decide +kernel
theorem d20_27 : decode prog_154_method_4_code 27 = .ok (.iconst 0, 1) := by decide +kernel
theorem d20_28 : decode prog_154_method_4_code 28 = .ok (.ireturn, 1) := by decide +kernel
theorem pn20 : plainFor (⟨"com/example/goalwright/goalwright/model/OpaqueValue", "equals", "(Ljava/lang/Object;)Z"⟩ : MethodName) = true := by first | exact plainFor_of_name (by first | (simp [plainName, overriddenIn]; done) | decide +kernel) | decide +kernel
theorem ef20 (m : MethodId) (a1 : Addr) : entryFrame m #[(.ref a1), (.null)] 3 = mkF m 0 #[.val (.ref a1), .val (.null), .unset] [] := by first | (simp [entryFrame, mkF, argsToLocals, Value.category]; done) | rfl
def Q20 (Z : State) (a1 : Addr) (h0 : Heap) (n0 : Nat) (v : Option Value) (h : Heap) (L : List Loc) : Prop := v = some (.int 0) ∧ Fr n0 L ∧ h = h0
set_option maxRecDepth 65536 in
set_option maxHeartbeats 40000000 in
theorem rm20 (l : Launch) (Z : State) (a0 : Array Value) (hw : ∀ d ∈ tables_1, d.before a0 Z = true) (ws : List Jvm.Cond) (a1 : Addr) (h0 : Heap) (n0 : Nat) (Z0 : n0 ≤ h0.size) :
    MetFree l (⟨"com/example/goalwright/goalwright/model/OpaqueValue", "equals", "(Ljava/lang/Object;)Z"⟩ : MethodName) (head1 (Jvm.Cond.code (⟨"com/example/goalwright/goalwright/model/OpaqueValue", "equals", "(Ljava/lang/Object;)Z"⟩ : MethodName) prog_154_method_4_code 3 (some .boolean) :: ws) ({ frames := 0, cells := 0, slots := 0, locals := 0 } : Room)) (fun a U => a = #[(.ref a1), (.null)] ∧ Z.Warmed39 U.vm ∧ U.heap = h0) (fun _ _ _ _ _ => True) (fun _ U o U' => ∃ v L, o = .returned v ∧ Q20 Z a1 h0 n0 v U'.heap L ∧ FrameEnd U o U' L ({ frames := 0, cells := 0, slots := 0, locals := 0 } : Room).cells ({ frames := 0, cells := 0, slots := 0, locals := 0 } : Room).slots) := by
  refine MetFree.of_bodySF pn20 hisR ?_
  intro p e s m args below meth c s₁ Bd hml0 hP hK
  obtain ⟨rfl, hZ, hh⟩ := hP
  have hx := Bd.exec
  have hby := Bd.bytes
  have hlk : meth.locks = false := BodyLoose.notSynchronized Bd
  have hml : c.maxLocals = 3 := hml0
  have hown : s.vm.findClass "com/example/goalwright/goalwright/model/OpaqueValue" = some m.cls := findClass_of_methodNamed Bd.named
  have hnm := (name_of_methodNamed Bd.named Bd.method).1
  have X0 : Stand p l e ({ frames := 0, cells := 0, slots := 0, locals := 0 } : Room) s m #[(.ref a1), (.null)] below meth c s₁ [] 0 0 := Stand.of_body Bd
  have e0 : s₁.heap = h0 := by rw [← hh, Bd.state]; rfl
  have N0 := Fr.nil n0
  rw [ef20 m a1]
  show own_Go p e below (own_End s (Q20 Z a1 h0 n0) ({ frames := 0, cells := 0, slots := 0, locals := 0 } : Room).cells ({ frames := 0, cells := 0, slots := 0, locals := 0 } : Room).slots) s₁ (mkF m 0 #[.val (.ref a1), .val (.null), .unset] [])
  refine own_aloadN X0 hx (hb hby d20_0) (pc' := 1) rfl rfl rfl ?_
  refine own_st (X0.instanceofNull hx (g := (mkF m 1 #[.val (.ref a1), .val (.null), .unset] [(.null)])) rfl rfl (hb hby d20_1)) ?_
  show own_Go p e below _ s₁ (mkF m 4 #[.val (.ref a1), .val (.null), .unset] [(.int (0 : Int32))])
  refine own_ifY X0 hx (hb hby d20_4) (by decide) (pc' := 27) (by decide) (by decide) ?_
  refine own_iconst X0 hx (0) (hb hby d20_27) (pc' := 28) rfl rfl ?_
  refine own_retZ X0 hx hlk Bd.returns (by simp) (hb hby d20_28) (by decide) (by decide) ?_
  rw [e0]
  exact ⟨rfl, N0, rfl⟩
theorem pd0_0 : parseMethodDescriptor "()V" = some ⟨[], none⟩ := by decide +kernel
theorem pd0_1 : parseMethodDescriptor "(I)Ljava/lang/Integer;" = some ⟨[.int], some (.object "java/lang/Integer")⟩ := by decide +kernel
theorem pd0_2 : parseMethodDescriptor "(Ljava/lang/Object;)Z" = some ⟨[(.object "java/lang/Object")], some .boolean⟩ := by decide +kernel
theorem pd0_3 : parseMethodDescriptor "(Ljava/lang/Object;)V" = some ⟨[(.object "java/lang/Object")], none⟩ := by decide +kernel
theorem pd0_4 : parseMethodDescriptor "(J)V" = some ⟨[.long], none⟩ := by decide +kernel
theorem pn0 : plainFor x = true := by first | exact plainFor_of_name (by first | (simp [plainName, overriddenIn]; done) | decide +kernel) | decide +kernel
theorem ef0 (m : MethodId) (x0 : Int32) (x1 : Int32) (x2 : Int32) : entryFrame m #[(.int x0), (.int x1), (.int x2)] maxLocals = mkF m 0 #[.val (.int x0), .val (.int x1), .val (.int x2), .unset, .unset, .unset, .unset, .unset, .unset, .unset, .unset] [] := by first | (simp [entryFrame, mkF, argsToLocals, Value.category, maxLocals]; done) | rfl
def Q0 (Z : State) (x0 : Int32) (x1 : Int32) (x2 : Int32) (da : Addr) (ca : Addr) (cl : Cell) (val : Int32 → Value) (h0 : Heap) (n0 : Nat) (v : Option Value) (h : Heap) (L : List Loc) : Prop := v = some (.int 1) ∧ Fr n0 L
set_option maxRecDepth 65536 in
set_option maxHeartbeats 40000000 in
theorem rm0 (l : Launch) (Z : State) (a0 : Array Value) (hw : ∀ d ∈ tables_1, d.before a0 Z = true) (ws : List Jvm.Cond) (x0 : Int32) (x1 : Int32) (x2 : Int32) (da : Addr) (ca : Addr) (cl : Cell) (val : Int32 → Value) (h0 : Heap) (n0 : Nat) (Z0 : n0 ≤ h0.size) (O_a : Old Z n0 h0) (V_d : own_Len Z h0 da (.object "java/lang/Object") (0 : Int32)) (Sd : Sta Z Z.heap "java/util/ArrayList" "DEFAULTCAPACITY_EMPTY_ELEMENTDATA" "[Ljava/lang/Object;" (.ref da)) (Sh : Sta Z Z.heap "java/lang/Integer$IntegerCache" "high" "I" (.int (127 : Int32))) (Sc : Sta Z Z.heap "java/lang/Integer$IntegerCache" "cache" "[Ljava/lang/Integer;" (.ref ca)) (Bx : Bxs Z ca cl "java/lang/Integer" "I" (256 : Int32) val) :
    MetFree l x (head1 (Jvm.Cond.code x code maxLocals ret :: ws) room_1) (fun a U => a = #[(.int x0), (.int x1), (.int x2)] ∧ Z.Warmed39 U.vm ∧ U.heap = h0) (fun _ _ _ _ _ => True) (fun _ U o U' => ∃ v L, o = .returned v ∧ Q0 Z x0 x1 x2 da ca cl val h0 n0 v U'.heap L ∧ ReturnedEndW U o U' L 13 87) := by
  refine MetFree.of_bodySF pn0 hisR ?_
  intro p e s m args below meth c s₁ Bd hml0 hP hK
  obtain ⟨rfl, hZ, hh⟩ := hP
  have hx := Bd.exec
  have hby := Bd.bytes
  have hlk : meth.locks = false := BodyLoose.notSynchronized Bd
  have hml : c.maxLocals = 11 := hml0
  have hown : s.vm.findClass "com/example/goalwright/goalwright/model/OpaqueValueEqualsPinLaw" = some m.cls := findClass_of_methodNamed Bd.named
  have hnm := (name_of_methodNamed Bd.named Bd.method).1
  have X0 : Stand p l e room_1 s m #[(.int x0), (.int x1), (.int x2)] below meth c s₁ [] 0 0 := Stand.of_body Bd
  have e0 : s₁.heap = h0 := by rw [← hh, Bd.state]; rfl
  have hS : s.Since s.vm h0.size := (State.WarmedH.refl s).since _
  have X0 : Stand p l e room_1 (s.setVm s.vm) m #[(.int x0), (.int x1), (.int x2)] below meth c s₁ [] 0 0 := X0
  have hZ : Z.Warmed39 (s.setVm s.vm).vm := hZ
  have hown : (s.setVm s.vm).vm.findClass "com/example/goalwright/goalwright/model/OpaqueValueEqualsPinLaw" = some m.cls := hown
  have own_wS : ∀ a ∈ Bundle.stringAtoms, a.before a0 Z = true := fun a ha => hw a ((by decide +kernel : ∀ a ∈ Bundle.stringAtoms, a ∈ tables_1) a ha)
  have N0 := Fr.nil n0
  rw [ef0 m x0 x1 x2]
  show own_Go p e below (own_EndW s (Q0 Z x0 x1 x2 da ca cl val h0 n0) 13 87) s₁ (mkF m 0 #[.val (.int x0), .val (.int x1), .val (.int x2), .unset, .unset, .unset, .unset, .unset, .unset, .unset, .unset] [])
  obtain ⟨T_1, h_1, X_1, e_1, E_1, A_1, D_1, -, st_1⟩ := newO X0 hx hZ hown (hw _ (List.mem_of_getElem? (i := 0) rfl)) (hw _ (List.mem_of_getElem? (i := 1) rfl)) (hw _ (List.mem_of_getElem? (i := 2) rfl)) e0 (g := (mkF m 0 #[.val (.int x0), .val (.int x1), .val (.int x2), .unset, .unset, .unset, .unset, .unset, .unset, .unset, .unset] [])) rfl (hb hby at_0) (by decide) (by decide)
  obtain ⟨a_1, g_1⟩ : ∃ z, z = h0.size := ⟨_, rfl⟩
  rw [← g_1] at A_1 D_1 st_1
  have ge_1 : n0 ≤ a_1 := Nat.le_trans Z0 (Nat.le_of_eq g_1.symm)
  have ne_1_da : da ≠ a_1 := Nat.ne_of_lt (Nat.lt_of_lt_of_eq V_d.lt g_1.symm)
  have O_3 : Old Z n0 h_1 := O_a.ext E_1
  have V_4 : own_Len Z h_1 da (.object "java/lang/Object") (0 : Int32) := V_d.ext E_1
  have Z_2 : n0 ≤ h_1.size := Nat.le_trans Z0 E_1.1
  have K1_2 := Nat.le_trans (Nat.le_refl _) E_1.1
  have F_5 : Fld Z h_1 a_1 "java/util/AbstractList" "modCount" "I" (.int (0 : Int32)) := D_1 (Or.inl (hw _ (List.mem_of_getElem? (i := 22) rfl))) (ty := .int) (by decide)
  have F_6 : Fld Z h_1 a_1 "java/util/ArrayList" "elementData" "[Ljava/lang/Object;" (.null) := D_1 (Or.inl (hw _ (List.mem_of_getElem? (i := 25) rfl))) (ty := (.array (.object "java/lang/Object"))) (by decide)
  have F_7 : Fld Z h_1 a_1 "java/util/ArrayList" "size" "I" (.int (0 : Int32)) := D_1 (Or.inl (hw _ (List.mem_of_getElem? (i := 41) rfl))) (ty := .int) (by decide)
  refine own_st st_1 ?_
  show own_Go p e below _ T_1 (mkF m 3 #[.val (.int x0), .val (.int x1), .val (.int x2), .unset, .unset, .unset, .unset, .unset, .unset, .unset, .unset] [(.ref a_1)])
  refine own_dup X_1 hx (hb hby at_3) (pc' := 4) rfl rfl ?_
  obtain ⟨_, _, ⟨T_8, L_8, k_8, n_8⟩, -, X_8, ⟨Lc_8, hQ_8, l_8, y_8, z_8⟩, st_8⟩ := X_1.specialBack hx  (y := (⟨"java/util/ArrayList", "<init>", "()V"⟩ : MethodName)) rfl hown (mvT hZ (hw _ (List.mem_of_getElem? (i := 3) rfl))) (mvT hZ (hw _ (List.mem_of_getElem? (i := 4) rfl))) (mvT hZ (hw _ (List.mem_of_getElem? (i := 5) rfl))) (by decide) (backOf (W := 1) (rm3 l Z a0 hw [] a_1 da h_1 n0 Z_2 O_3 A_1 F_5 F_7 F_6 ge_1 Sd) hZ (hw _ (List.mem_of_getElem? (i := 5) rfl)) (hw _ (List.mem_of_getElem? (i := 2) rfl)) (by decide) (by decide)) (g := (mkF m 4 #[.val (.int x0), .val (.int x1), .val (.int x2), .unset, .unset, .unset, .unset, .unset, .unset, .unset, .unset] [(.ref a_1), (.ref a_1)])) rfl (by rw [hml]; rfl) (Steps.refl _) (a := a_1) (argsL := []) (rest := [(.ref a_1)]) (lenOf pd0_0 rfl) rfl (by show 2 * 0 + _ ≤ _; exact Nat.le_of_eq rfl) (hb hby at_4) (fun _ _ => ⟨rfl, e_1, (by decide : 1 + 0 ≤ _), (by decide : 3 + 0 ≤ _)⟩)
  dsimp only [Pt.U, Pt.locs, Pt.cells, Pt.slots] at X_8 l_8 y_8 z_8 st_8 hQ_8
  subst l_8 y_8 z_8
  refine own_tr st_8 ?_
  obtain ⟨rfl, Nq_8, Kq_8, q0_8, q1_8, q2_8⟩ := hQ_8
  have N_8 := Fr.app N0 Nq_8
  have F_9 : Fld Z T_8.heap a_1 "java/util/AbstractList" "modCount" "I" (.int (0 : Int32)) := q0_8
  have F_10 : Fld Z T_8.heap a_1 "java/util/ArrayList" "size" "I" (.int (0 : Int32)) := q1_8
  have F_11 : Fld Z T_8.heap a_1 "java/util/ArrayList" "elementData" "[Ljava/lang/Object;" (.ref da) := q2_8
  have O_13 : Old Z n0 T_8.heap := O_3.keep Kq_8 (allS ge_1 all0)
  have V_14 : own_Len Z T_8.heap da (.object "java/lang/Object") (0 : Int32) := V_4.keep Kq_8
  have A_15 : Exa Z T_8.heap a_1 "java/util/ArrayList" := A_1.keep Kq_8
  have Z_12 : n0 ≤ T_8.heap.size := Nat.le_trans Z_2 Kq_8.1
  have K1_12 := Nat.le_trans K1_2 Kq_8.1
  show own_Go p e below _ T_8 (mkF m 7 #[.val (.int x0), .val (.int x1), .val (.int x2), .unset, .unset, .unset, .unset, .unset, .unset, .unset, .unset] [(.ref a_1)])
  refine own_astoreN X_8 hx (hb hby at_7) (pc' := 8) (Ls' := #[.val (.int x0), .val (.int x1), .val (.int x2), .val (.ref a_1), .unset, .unset, .unset, .unset, .unset, .unset, .unset]) rfl rfl rfl ?_
  refine own_aloadN X_8 hx (hb hby at_8) (pc' := 9) rfl rfl rfl ?_
  refine own_iloadN X_8 hx (hb hby at_9) (pc' := 10) rfl rfl ?_
  obtain ⟨_, _, ⟨T_16, L_16, k_16, n_16⟩, -, X_16, ⟨Lc_16, hQ_16, l_16, y_16, z_16⟩, st_16⟩ := Jvm.LawKit.callS X_8 hx (y := (⟨"java/lang/Integer", "valueOf", "(I)Ljava/lang/Integer;"⟩ : MethodName)) hown (mvT hZ (hw _ (List.mem_of_getElem? (i := 26) rfl))) (mvT hZ (hw _ (List.mem_of_getElem? (i := 27) rfl))) (mvT hZ (hw _ (List.mem_of_getElem? (i := 28) rfl))) (mvT hZ (hw _ (List.mem_of_getElem? (i := 29) rfl))) (by decide) (backOf (W := 1) (rm6 l Z a0 hw [] x0 ca cl val T_8.heap n0 Z_12 O_13 Sh Sc Bx) hZ (hw _ (List.mem_of_getElem? (i := 29) rfl)) (hw _ (List.mem_of_getElem? (i := 28) rfl)) (by decide) (by decide)) (g := (mkF m 10 #[.val (.int x0), .val (.int x1), .val (.int x2), .val (.ref a_1), .unset, .unset, .unset, .unset, .unset, .unset, .unset] [(.int x0), (.ref a_1)])) rfl (by rw [hml]; rfl) (argsL := [(.int x0)]) (rest := [(.ref a_1)]) (lenOf pd0_1 rfl) rfl (by show 2 * 0 + _ ≤ _; exact Nat.le_of_eq rfl) (hb hby at_10) (fun _ _ => ⟨rfl, rfl, (by decide : 1 + 1 ≤ _), (by decide : 3 + 1 ≤ _)⟩)
  dsimp only [Pt.U, Pt.locs, Pt.cells, Pt.slots] at X_16 l_16 y_16 z_16 st_16 hQ_16
  subst l_16 y_16 z_16
  refine own_st st_16 ?_
  obtain ⟨r_16, rfl, Nq_16, Kq_16, A_r16⟩ := hQ_16
  have N_16 := Fr.app N_8 Nq_16
  have F_18 : Fld Z T_16.heap a_1 "java/util/AbstractList" "modCount" "I" (.int (0 : Int32)) := F_9.keep Kq_16 nin0
  have F_19 : Fld Z T_16.heap a_1 "java/util/ArrayList" "size" "I" (.int (0 : Int32)) := F_10.keep Kq_16 nin0
  have F_20 : Fld Z T_16.heap a_1 "java/util/ArrayList" "elementData" "[Ljava/lang/Object;" (.ref da) := F_11.keep Kq_16 nin0
  have O_21 : Old Z n0 T_16.heap := O_13.keep Kq_16 all0
  have V_22 : own_Len Z T_16.heap da (.object "java/lang/Object") (0 : Int32) := V_14.keep Kq_16
  have A_23 : Exa Z T_16.heap a_1 "java/util/ArrayList" := A_15.keep Kq_16
  have Z_17 : n0 ≤ T_16.heap.size := Nat.le_trans Z_12 Kq_16.1
  have K1_17 := Nat.le_trans K1_12 Kq_16.1
  show own_Go p e below _ T_16 (mkF m 13 #[.val (.int x0), .val (.int x1), .val (.int x2), .val (.ref a_1), .unset, .unset, .unset, .unset, .unset, .unset, .unset] [(.ref r_16), (.ref a_1)])
  obtain ⟨cq_24, kq_24, qa_24, qb_24, qc_24⟩ := isOf hZ rfl A_23
  obtain ⟨_, _, ⟨T_24, L_24, k_24, n_24⟩, -, X_24, ⟨Lc_24, hQ_24, l_24, y_24, z_24⟩, st_24⟩ := X_16.virtualBack hx  (y := (⟨"java/util/ArrayList", "add", "(Ljava/lang/Object;)Z"⟩ : MethodName)) (z := (⟨"java/util/ArrayList", "add", "(Ljava/lang/Object;)Z"⟩ : MethodName)) hown (mvT hZ (hw _ (List.mem_of_getElem? (i := 33) rfl))) (mvT hZ (hw _ (List.mem_of_getElem? (i := 34) rfl))) (notFace_of_selects (args := #[]) (mvT hZ (hw _ (List.mem_of_getElem? (i := 36) rfl)))) (mvT hZ (hw _ (List.mem_of_getElem? (i := 36) rfl))) (mvT hZ (hw _ (List.mem_of_getElem? (i := 35) rfl))) (by decide) (backOf (W := 0) (rm11 l Z a0 hw [] a_1 r_16 da T_16.heap n0 Z_17 O_21 A_23 A_r16 F_18 F_19 F_20 V_22 ge_1 Sd) hZ (hw _ (List.mem_of_getElem? (i := 37) rfl)) (hw _ (List.mem_of_getElem? (i := 2) rfl)) (by decide) (by decide)) qa_24 qc_24 (g := (mkF m 13 #[.val (.int x0), .val (.int x1), .val (.int x2), .val (.ref a_1), .unset, .unset, .unset, .unset, .unset, .unset, .unset] [(.ref r_16), (.ref a_1)])) rfl (by rw [hml]; rfl) (Steps.refl _) (argsL := [(.ref r_16)]) (rest := []) (lenOf pd0_2 rfl) rfl (by show 2 * 0 + _ ≤ _; exact Nat.le_of_eq rfl) (hb hby at_13) (fun _ _ => ⟨rfl, rfl, (by decide : 2 + 1 ≤ _), (by decide : 4 + 10 ≤ _)⟩)
  dsimp only [Pt.U, Pt.locs, Pt.cells, Pt.slots] at X_24 l_24 y_24 z_24 st_24 hQ_24
  subst l_24 y_24 z_24
  refine own_tr st_24 ?_
  obtain ⟨rfl, Nq_24, Kq_24⟩ := hQ_24
  have N_24 := Fr.app N_16 Nq_24
  have A_26 : Exa Z T_24.heap r_16 "java/lang/Integer" := A_r16.keep Kq_24
  have O_27 : Old Z n0 T_24.heap := O_21.keep Kq_24 (allS ge_1 all0)
  have V_28 : own_Len Z T_24.heap da (.object "java/lang/Object") (0 : Int32) := V_22.keep Kq_24
  have A_29 : Exa Z T_24.heap a_1 "java/util/ArrayList" := A_23.keep Kq_24
  have Z_25 : n0 ≤ T_24.heap.size := Nat.le_trans Z_17 Kq_24.1
  have K1_25 := Nat.le_trans K1_17 Kq_24.1
  show own_Go p e below _ T_24 (mkF m 16 #[.val (.int x0), .val (.int x1), .val (.int x2), .val (.ref a_1), .unset, .unset, .unset, .unset, .unset, .unset, .unset] [(.int (1 : Int32))])
  refine own_pop X_24 hx (hb hby at_16) (pc' := 17) rfl rfl ?_
  obtain ⟨T_30, h_30, X_30, e_30, E_30, A_30, D_30, -, st_30⟩ := newO X_24 hx hZ hown (hw _ (List.mem_of_getElem? (i := 0) rfl)) (hw _ (List.mem_of_getElem? (i := 1) rfl)) (hw _ (List.mem_of_getElem? (i := 2) rfl)) rfl (g := (mkF m 17 #[.val (.int x0), .val (.int x1), .val (.int x2), .val (.ref a_1), .unset, .unset, .unset, .unset, .unset, .unset, .unset] [])) rfl (hb hby at_17) (by decide) (by decide)
  obtain ⟨a_30, g_30⟩ : ∃ z, z = T_24.heap.size := ⟨_, rfl⟩
  rw [← g_30] at A_30 D_30 st_30
  have ge_30 : n0 ≤ a_30 := Nat.le_trans Z_25 (Nat.le_of_eq g_30.symm)
  have ne_30_r_16 : r_16 ≠ a_30 := Nat.ne_of_lt (Nat.lt_of_lt_of_eq A_26.lt g_30.symm)
  have ne_30_da : da ≠ a_30 := Nat.ne_of_lt (Nat.lt_of_lt_of_eq V_28.lt g_30.symm)
  have ne_30_a_1 : a_1 ≠ a_30 := Nat.ne_of_lt (Nat.lt_of_lt_of_eq A_29.lt g_30.symm)
  have A_32 : Exa Z h_30 r_16 "java/lang/Integer" := A_26.ext E_30
  have O_33 : Old Z n0 h_30 := O_27.ext E_30
  have V_34 : own_Len Z h_30 da (.object "java/lang/Object") (0 : Int32) := V_28.ext E_30
  have A_35 : Exa Z h_30 a_1 "java/util/ArrayList" := A_29.ext E_30
  have Z_31 : n0 ≤ h_30.size := Nat.le_trans Z_25 E_30.1
  have K1_31 := Nat.le_trans K1_25 E_30.1
  have F_36 : Fld Z h_30 a_30 "java/util/AbstractList" "modCount" "I" (.int (0 : Int32)) := D_30 (Or.inl (hw _ (List.mem_of_getElem? (i := 22) rfl))) (ty := .int) (by decide)
  have F_37 : Fld Z h_30 a_30 "java/util/ArrayList" "elementData" "[Ljava/lang/Object;" (.null) := D_30 (Or.inl (hw _ (List.mem_of_getElem? (i := 25) rfl))) (ty := (.array (.object "java/lang/Object"))) (by decide)
  have F_38 : Fld Z h_30 a_30 "java/util/ArrayList" "size" "I" (.int (0 : Int32)) := D_30 (Or.inl (hw _ (List.mem_of_getElem? (i := 41) rfl))) (ty := .int) (by decide)
  refine own_st st_30 ?_
  show own_Go p e below _ T_30 (mkF m 20 #[.val (.int x0), .val (.int x1), .val (.int x2), .val (.ref a_1), .unset, .unset, .unset, .unset, .unset, .unset, .unset] [(.ref a_30)])
  refine own_dup X_30 hx (hb hby at_20) (pc' := 21) rfl rfl ?_
  obtain ⟨_, _, ⟨T_39, L_39, k_39, n_39⟩, -, X_39, ⟨Lc_39, hQ_39, l_39, y_39, z_39⟩, st_39⟩ := X_30.specialBack hx  (y := (⟨"java/util/ArrayList", "<init>", "()V"⟩ : MethodName)) rfl hown (mvT hZ (hw _ (List.mem_of_getElem? (i := 3) rfl))) (mvT hZ (hw _ (List.mem_of_getElem? (i := 4) rfl))) (mvT hZ (hw _ (List.mem_of_getElem? (i := 5) rfl))) (by decide) (backOf (W := 1) (rm3 l Z a0 hw [] a_30 da h_30 n0 Z_31 O_33 A_30 F_36 F_38 F_37 ge_30 Sd) hZ (hw _ (List.mem_of_getElem? (i := 5) rfl)) (hw _ (List.mem_of_getElem? (i := 2) rfl)) (by decide) (by decide)) (g := (mkF m 21 #[.val (.int x0), .val (.int x1), .val (.int x2), .val (.ref a_1), .unset, .unset, .unset, .unset, .unset, .unset, .unset] [(.ref a_30), (.ref a_30)])) rfl (by rw [hml]; rfl) (Steps.refl _) (a := a_30) (argsL := []) (rest := [(.ref a_30)]) (lenOf pd0_0 rfl) rfl (by show 2 * 0 + _ ≤ _; exact Nat.le_of_eq rfl) (hb hby at_21) (fun _ _ => ⟨rfl, e_30, (by decide : 4 + 0 ≤ _), (by decide : 17 + 0 ≤ _)⟩)
  dsimp only [Pt.U, Pt.locs, Pt.cells, Pt.slots] at X_39 l_39 y_39 z_39 st_39 hQ_39
  subst l_39 y_39 z_39
  refine own_tr st_39 ?_
  obtain ⟨rfl, Nq_39, Kq_39, q0_39, q1_39, q2_39⟩ := hQ_39
  have N_39 := Fr.app N_24 Nq_39
  have F_40 : Fld Z T_39.heap a_30 "java/util/AbstractList" "modCount" "I" (.int (0 : Int32)) := q0_39
  have F_41 : Fld Z T_39.heap a_30 "java/util/ArrayList" "size" "I" (.int (0 : Int32)) := q1_39
  have F_42 : Fld Z T_39.heap a_30 "java/util/ArrayList" "elementData" "[Ljava/lang/Object;" (.ref da) := q2_39
  have A_44 : Exa Z T_39.heap r_16 "java/lang/Integer" := A_32.keep Kq_39
  have O_45 : Old Z n0 T_39.heap := O_33.keep Kq_39 (allS ge_30 all0)
  have V_46 : own_Len Z T_39.heap da (.object "java/lang/Object") (0 : Int32) := V_34.keep Kq_39
  have A_47 : Exa Z T_39.heap a_1 "java/util/ArrayList" := A_35.keep Kq_39
  have A_48 : Exa Z T_39.heap a_30 "java/util/ArrayList" := A_30.keep Kq_39
  have Z_43 : n0 ≤ T_39.heap.size := Nat.le_trans Z_31 Kq_39.1
  have K1_43 := Nat.le_trans K1_31 Kq_39.1
  show own_Go p e below _ T_39 (mkF m 24 #[.val (.int x0), .val (.int x1), .val (.int x2), .val (.ref a_1), .unset, .unset, .unset, .unset, .unset, .unset, .unset] [(.ref a_30)])
  refine own_astore X_39 hx (hb hby at_24) (pc' := 26) (Ls' := #[.val (.int x0), .val (.int x1), .val (.int x2), .val (.ref a_1), .val (.ref a_30), .unset, .unset, .unset, .unset, .unset, .unset]) rfl rfl rfl ?_
  refine own_aload X_39 hx (hb hby at_26) (pc' := 28) rfl rfl rfl ?_
  refine own_iloadN X_39 hx (hb hby at_28) (pc' := 29) rfl rfl ?_
  obtain ⟨_, _, ⟨T_49, L_49, k_49, n_49⟩, -, X_49, ⟨Lc_49, hQ_49, l_49, y_49, z_49⟩, st_49⟩ := Jvm.LawKit.callS X_39 hx (y := (⟨"java/lang/Integer", "valueOf", "(I)Ljava/lang/Integer;"⟩ : MethodName)) hown (mvT hZ (hw _ (List.mem_of_getElem? (i := 26) rfl))) (mvT hZ (hw _ (List.mem_of_getElem? (i := 27) rfl))) (mvT hZ (hw _ (List.mem_of_getElem? (i := 28) rfl))) (mvT hZ (hw _ (List.mem_of_getElem? (i := 29) rfl))) (by decide) (backOf (W := 1) (rm6 l Z a0 hw [] x1 ca cl val T_39.heap n0 Z_43 O_45 Sh Sc Bx) hZ (hw _ (List.mem_of_getElem? (i := 29) rfl)) (hw _ (List.mem_of_getElem? (i := 28) rfl)) (by decide) (by decide)) (g := (mkF m 29 #[.val (.int x0), .val (.int x1), .val (.int x2), .val (.ref a_1), .val (.ref a_30), .unset, .unset, .unset, .unset, .unset, .unset] [(.int x1), (.ref a_30)])) rfl (by rw [hml]; rfl) (argsL := [(.int x1)]) (rest := [(.ref a_30)]) (lenOf pd0_1 rfl) rfl (by show 2 * 0 + _ ≤ _; exact Nat.le_of_eq rfl) (hb hby at_29) (fun _ _ => ⟨rfl, rfl, (by decide : 4 + 1 ≤ _), (by decide : 17 + 1 ≤ _)⟩)
  dsimp only [Pt.U, Pt.locs, Pt.cells, Pt.slots] at X_49 l_49 y_49 z_49 st_49 hQ_49
  subst l_49 y_49 z_49
  refine own_st st_49 ?_
  obtain ⟨r_49, rfl, Nq_49, Kq_49, A_r49⟩ := hQ_49
  have N_49 := Fr.app N_39 Nq_49
  have F_51 : Fld Z T_49.heap a_30 "java/util/AbstractList" "modCount" "I" (.int (0 : Int32)) := F_40.keep Kq_49 nin0
  have F_52 : Fld Z T_49.heap a_30 "java/util/ArrayList" "size" "I" (.int (0 : Int32)) := F_41.keep Kq_49 nin0
  have F_53 : Fld Z T_49.heap a_30 "java/util/ArrayList" "elementData" "[Ljava/lang/Object;" (.ref da) := F_42.keep Kq_49 nin0
  have A_54 : Exa Z T_49.heap r_16 "java/lang/Integer" := A_44.keep Kq_49
  have O_55 : Old Z n0 T_49.heap := O_45.keep Kq_49 all0
  have V_56 : own_Len Z T_49.heap da (.object "java/lang/Object") (0 : Int32) := V_46.keep Kq_49
  have A_57 : Exa Z T_49.heap a_1 "java/util/ArrayList" := A_47.keep Kq_49
  have A_58 : Exa Z T_49.heap a_30 "java/util/ArrayList" := A_48.keep Kq_49
  have Z_50 : n0 ≤ T_49.heap.size := Nat.le_trans Z_43 Kq_49.1
  have K1_50 := Nat.le_trans K1_43 Kq_49.1
  show own_Go p e below _ T_49 (mkF m 32 #[.val (.int x0), .val (.int x1), .val (.int x2), .val (.ref a_1), .val (.ref a_30), .unset, .unset, .unset, .unset, .unset, .unset] [(.ref r_49), (.ref a_30)])
  obtain ⟨cq_59, kq_59, qa_59, qb_59, qc_59⟩ := isOf hZ rfl A_58
  obtain ⟨_, _, ⟨T_59, L_59, k_59, n_59⟩, -, X_59, ⟨Lc_59, hQ_59, l_59, y_59, z_59⟩, st_59⟩ := X_49.virtualBack hx  (y := (⟨"java/util/ArrayList", "add", "(Ljava/lang/Object;)Z"⟩ : MethodName)) (z := (⟨"java/util/ArrayList", "add", "(Ljava/lang/Object;)Z"⟩ : MethodName)) hown (mvT hZ (hw _ (List.mem_of_getElem? (i := 33) rfl))) (mvT hZ (hw _ (List.mem_of_getElem? (i := 34) rfl))) (notFace_of_selects (args := #[]) (mvT hZ (hw _ (List.mem_of_getElem? (i := 36) rfl)))) (mvT hZ (hw _ (List.mem_of_getElem? (i := 36) rfl))) (mvT hZ (hw _ (List.mem_of_getElem? (i := 35) rfl))) (by decide) (backOf (W := 0) (rm11 l Z a0 hw [] a_30 r_49 da T_49.heap n0 Z_50 O_55 A_58 A_r49 F_51 F_52 F_53 V_56 ge_30 Sd) hZ (hw _ (List.mem_of_getElem? (i := 37) rfl)) (hw _ (List.mem_of_getElem? (i := 2) rfl)) (by decide) (by decide)) qa_59 qc_59 (g := (mkF m 32 #[.val (.int x0), .val (.int x1), .val (.int x2), .val (.ref a_1), .val (.ref a_30), .unset, .unset, .unset, .unset, .unset, .unset] [(.ref r_49), (.ref a_30)])) rfl (by rw [hml]; rfl) (Steps.refl _) (argsL := [(.ref r_49)]) (rest := []) (lenOf pd0_2 rfl) rfl (by show 2 * 0 + _ ≤ _; exact Nat.le_of_eq rfl) (hb hby at_32) (fun _ _ => ⟨rfl, rfl, (by decide : 5 + 1 ≤ _), (by decide : 18 + 10 ≤ _)⟩)
  dsimp only [Pt.U, Pt.locs, Pt.cells, Pt.slots] at X_59 l_59 y_59 z_59 st_59 hQ_59
  subst l_59 y_59 z_59
  refine own_tr st_59 ?_
  obtain ⟨rfl, Nq_59, Kq_59⟩ := hQ_59
  have N_59 := Fr.app N_49 Nq_59
  have A_61 : Exa Z T_59.heap r_49 "java/lang/Integer" := A_r49.keep Kq_59
  have A_62 : Exa Z T_59.heap r_16 "java/lang/Integer" := A_54.keep Kq_59
  have O_63 : Old Z n0 T_59.heap := O_55.keep Kq_59 (allS ge_30 all0)
  have V_64 : own_Len Z T_59.heap da (.object "java/lang/Object") (0 : Int32) := V_56.keep Kq_59
  have A_65 : Exa Z T_59.heap a_1 "java/util/ArrayList" := A_57.keep Kq_59
  have A_66 : Exa Z T_59.heap a_30 "java/util/ArrayList" := A_58.keep Kq_59
  have Z_60 : n0 ≤ T_59.heap.size := Nat.le_trans Z_50 Kq_59.1
  have K1_60 := Nat.le_trans K1_50 Kq_59.1
  show own_Go p e below _ T_59 (mkF m 35 #[.val (.int x0), .val (.int x1), .val (.int x2), .val (.ref a_1), .val (.ref a_30), .unset, .unset, .unset, .unset, .unset, .unset] [(.int (1 : Int32))])
  refine own_pop X_59 hx (hb hby at_35) (pc' := 36) rfl rfl ?_
  obtain ⟨T_67, h_67, X_67, e_67, E_67, A_67, D_67, -, st_67⟩ := newO X_59 hx hZ hown (hw _ (List.mem_of_getElem? (i := 64) rfl)) (hw _ (List.mem_of_getElem? (i := 65) rfl)) (hw _ (List.mem_of_getElem? (i := 66) rfl)) rfl (g := (mkF m 36 #[.val (.int x0), .val (.int x1), .val (.int x2), .val (.ref a_1), .val (.ref a_30), .unset, .unset, .unset, .unset, .unset, .unset] [])) rfl (hb hby at_36) (by decide) (by decide)
  obtain ⟨a_67, g_67⟩ : ∃ z, z = T_59.heap.size := ⟨_, rfl⟩
  rw [← g_67] at A_67 D_67 st_67
  have ge_67 : n0 ≤ a_67 := Nat.le_trans Z_60 (Nat.le_of_eq g_67.symm)
  have ne_67_r_49 : r_49 ≠ a_67 := Nat.ne_of_lt (Nat.lt_of_lt_of_eq A_61.lt g_67.symm)
  have ne_67_r_16 : r_16 ≠ a_67 := Nat.ne_of_lt (Nat.lt_of_lt_of_eq A_62.lt g_67.symm)
  have ne_67_da : da ≠ a_67 := Nat.ne_of_lt (Nat.lt_of_lt_of_eq V_64.lt g_67.symm)
  have ne_67_a_1 : a_1 ≠ a_67 := Nat.ne_of_lt (Nat.lt_of_lt_of_eq A_65.lt g_67.symm)
  have ne_67_a_30 : a_30 ≠ a_67 := Nat.ne_of_lt (Nat.lt_of_lt_of_eq A_66.lt g_67.symm)
  have A_69 : Exa Z h_67 r_49 "java/lang/Integer" := A_61.ext E_67
  have A_70 : Exa Z h_67 r_16 "java/lang/Integer" := A_62.ext E_67
  have O_71 : Old Z n0 h_67 := O_63.ext E_67
  have V_72 : own_Len Z h_67 da (.object "java/lang/Object") (0 : Int32) := V_64.ext E_67
  have A_73 : Exa Z h_67 a_1 "java/util/ArrayList" := A_65.ext E_67
  have A_74 : Exa Z h_67 a_30 "java/util/ArrayList" := A_66.ext E_67
  have Z_68 : n0 ≤ h_67.size := Nat.le_trans Z_60 E_67.1
  have K1_68 := Nat.le_trans K1_60 E_67.1
  have F_75 : Fld Z h_67 a_67 "com/example/goalwright/goalwright/model/OpaqueValue" "object" "Ljava/lang/Object;" (.null) := D_67 (Or.inr (hw _ (List.mem_of_getElem? (i := 89) rfl))) (ty := (.object "java/lang/Object")) (by decide)
  refine own_st st_67 ?_
  show own_Go p e below _ T_67 (mkF m 39 #[.val (.int x0), .val (.int x1), .val (.int x2), .val (.ref a_1), .val (.ref a_30), .unset, .unset, .unset, .unset, .unset, .unset] [(.ref a_67)])
  refine own_dup X_67 hx (hb hby at_39) (pc' := 40) rfl rfl ?_
  refine own_aloadN X_67 hx (hb hby at_40) (pc' := 41) rfl rfl rfl ?_
  obtain ⟨_, _, ⟨T_76, L_76, k_76, n_76⟩, -, X_76, hs_76, hg_76, ⟨Lc_76, hQ_76, l_76, y_76, z_76⟩, st_76⟩ := X_67.specialBackS hx  (y := (⟨"com/example/goalwright/goalwright/model/OpaqueValue", "<init>", "(Ljava/lang/Object;)V"⟩ : MethodName)) rfl hown (mvT hZ (hw _ (List.mem_of_getElem? (i := 67) rfl))) (mvT hZ (hw _ (List.mem_of_getElem? (i := 68) rfl))) (mvT hZ (hw _ (List.mem_of_getElem? (i := 69) rfl))) (by decide) (backOfS (W := 1) (rm15 l Z a0 hw [] a_67 a_1 h_67 n0 Z_68 A_67 F_75 ge_67) hZ (hw _ (List.mem_of_getElem? (i := 69) rfl)) (hw _ (List.mem_of_getElem? (i := 66) rfl)) (by decide) (by decide)) (g := (mkF m 41 #[.val (.int x0), .val (.int x1), .val (.int x2), .val (.ref a_1), .val (.ref a_30), .unset, .unset, .unset, .unset, .unset, .unset] [(.ref a_1), (.ref a_67), (.ref a_67)])) rfl (by rw [hml]; rfl) (Steps.refl _) (a := a_67) (argsL := [(.ref a_1)]) (rest := [(.ref a_67)]) (lenOf pd0_3 rfl) rfl (by show 2 * 0 + _ ≤ _; exact Nat.le_of_eq rfl) (hb hby at_41) (fun _ _ => ⟨rfl, e_67, (by decide : 7 + 2 ≤ _), (by decide : 29 + 28 ≤ _)⟩)
  dsimp only [Pt.U, Pt.locs, Pt.cells, Pt.slots] at X_76 l_76 y_76 z_76 st_76 hQ_76 hs_76 hg_76
  subst l_76 y_76 z_76
  refine own_tr st_76 ?_
  obtain ⟨X_76, hS, hZ, hown⟩ := rebS hS (n1 := T_67.heap.size) (by rw [e_67]; exact K1_68) X_76 hs_76 hg_76 hZ hown
  obtain ⟨rfl, Nq_76, Kq_76, q0_76⟩ := hQ_76
  have N_76 := Fr.app N_59 Nq_76
  have F_77 : Fld Z T_76.heap a_67 "com/example/goalwright/goalwright/model/OpaqueValue" "object" "Ljava/lang/Object;" (.ref a_1) := q0_76
  have A_79 : Exa Z T_76.heap r_49 "java/lang/Integer" := A_69.keep Kq_76
  have A_80 : Exa Z T_76.heap r_16 "java/lang/Integer" := A_70.keep Kq_76
  have O_81 : Old Z n0 T_76.heap := O_71.keep Kq_76 (allS ge_67 all0)
  have V_82 : own_Len Z T_76.heap da (.object "java/lang/Object") (0 : Int32) := V_72.keep Kq_76
  have A_83 : Exa Z T_76.heap a_1 "java/util/ArrayList" := A_73.keep Kq_76
  have A_84 : Exa Z T_76.heap a_30 "java/util/ArrayList" := A_74.keep Kq_76
  have A_85 : Exa Z T_76.heap a_67 "com/example/goalwright/goalwright/model/OpaqueValue" := A_67.keep Kq_76
  have Z_78 : n0 ≤ T_76.heap.size := Nat.le_trans Z_68 Kq_76.1
  show own_Go p e below _ T_76 (mkF m 44 #[.val (.int x0), .val (.int x1), .val (.int x2), .val (.ref a_1), .val (.ref a_30), .unset, .unset, .unset, .unset, .unset, .unset] [(.ref a_67)])
  refine own_astore X_76 hx (hb hby at_44) (pc' := 46) (Ls' := #[.val (.int x0), .val (.int x1), .val (.int x2), .val (.ref a_1), .val (.ref a_30), .val (.ref a_67), .unset, .unset, .unset, .unset, .unset]) rfl rfl rfl ?_
  refine own_iloadN X_76 hx (hb hby at_46) (pc' := 47) rfl rfl ?_
  refine own_bipush X_76 hx (7) (hb hby at_47) (pc' := 49) rfl (by decide) ?_
  refine own_iand X_76 hx (hb hby at_49) (pc' := 50) rfl ?_
  refine own_istore X_76 hx (hb hby at_50) (pc' := 52) (Ls' := #[.val (.int x0), .val (.int x1), .val (.int x2), .val (.ref a_1), .val (.ref a_30), .val (.ref a_67), .val (.int (x2 &&& (7 : Int32))), .unset, .unset, .unset, .unset]) rfl rfl ?_
  refine own_iload X_76 hx (hb hby at_52) (pc' := 54) rfl rfl ?_
  by_cases c_86 : (x2 &&& (7 : Int32)) = (0 : Int32)
  · skip
    refine own_ifN X_76 hx (hb hby at_54) (XT.i0_ne_f c_86) (pc' := 57) rfl ?_
    obtain ⟨T_87, h_87, X_87, e_87, E_87, A_87, D_87, -, st_87⟩ := newO X_76 hx hZ hown (hw _ (List.mem_of_getElem? (i := 64) rfl)) (hw _ (List.mem_of_getElem? (i := 65) rfl)) (hw _ (List.mem_of_getElem? (i := 66) rfl)) rfl (g := (mkF m 57 #[.val (.int x0), .val (.int x1), .val (.int x2), .val (.ref a_1), .val (.ref a_30), .val (.ref a_67), .val (.int (x2 &&& (7 : Int32))), .unset, .unset, .unset, .unset] [])) rfl (hb hby at_57) (by decide) (by decide)
    obtain ⟨a_87, g_87⟩ : ∃ z, z = T_76.heap.size := ⟨_, rfl⟩
    rw [← g_87] at A_87 D_87 st_87
    have ge_87 : n0 ≤ a_87 := Nat.le_trans Z_78 (Nat.le_of_eq g_87.symm)
    have ne_87_a_67 : a_67 ≠ a_87 := Nat.ne_of_lt (Nat.lt_of_lt_of_eq F_77.lt g_87.symm)
    have ne_87_r_49 : r_49 ≠ a_87 := Nat.ne_of_lt (Nat.lt_of_lt_of_eq A_79.lt g_87.symm)
    have ne_87_r_16 : r_16 ≠ a_87 := Nat.ne_of_lt (Nat.lt_of_lt_of_eq A_80.lt g_87.symm)
    have ne_87_da : da ≠ a_87 := Nat.ne_of_lt (Nat.lt_of_lt_of_eq V_82.lt g_87.symm)
    have ne_87_a_1 : a_1 ≠ a_87 := Nat.ne_of_lt (Nat.lt_of_lt_of_eq A_83.lt g_87.symm)
    have ne_87_a_30 : a_30 ≠ a_87 := Nat.ne_of_lt (Nat.lt_of_lt_of_eq A_84.lt g_87.symm)
    have F_89 : Fld Z h_87 a_67 "com/example/goalwright/goalwright/model/OpaqueValue" "object" "Ljava/lang/Object;" (.ref a_1) := F_77.ext E_87
    have A_90 : Exa Z h_87 r_49 "java/lang/Integer" := A_79.ext E_87
    have A_91 : Exa Z h_87 r_16 "java/lang/Integer" := A_80.ext E_87
    have O_92 : Old Z n0 h_87 := O_81.ext E_87
    have V_93 : own_Len Z h_87 da (.object "java/lang/Object") (0 : Int32) := V_82.ext E_87
    have A_94 : Exa Z h_87 a_1 "java/util/ArrayList" := A_83.ext E_87
    have A_95 : Exa Z h_87 a_30 "java/util/ArrayList" := A_84.ext E_87
    have A_96 : Exa Z h_87 a_67 "com/example/goalwright/goalwright/model/OpaqueValue" := A_85.ext E_87
    have Z_88 : n0 ≤ h_87.size := Nat.le_trans Z_78 E_87.1
    have K1_88 := Nat.le_trans (Nat.le_refl _) E_87.1
    have F_97 : Fld Z h_87 a_87 "com/example/goalwright/goalwright/model/OpaqueValue" "object" "Ljava/lang/Object;" (.null) := D_87 (Or.inr (hw _ (List.mem_of_getElem? (i := 89) rfl))) (ty := (.object "java/lang/Object")) (by decide)
    refine own_st st_87 ?_
    show own_Go p e below _ T_87 (mkF m 60 #[.val (.int x0), .val (.int x1), .val (.int x2), .val (.ref a_1), .val (.ref a_30), .val (.ref a_67), .val (.int (x2 &&& (7 : Int32))), .unset, .unset, .unset, .unset] [(.ref a_87)])
    refine own_dup X_87 hx (hb hby at_60) (pc' := 61) rfl rfl ?_
    refine own_aloadN X_87 hx (hb hby at_61) (pc' := 62) rfl rfl rfl ?_
    obtain ⟨_, _, ⟨T_98, L_98, k_98, n_98⟩, -, X_98, hs_98, hg_98, ⟨Lc_98, hQ_98, l_98, y_98, z_98⟩, st_98⟩ := X_87.specialBackS hx  (y := (⟨"com/example/goalwright/goalwright/model/OpaqueValue", "<init>", "(Ljava/lang/Object;)V"⟩ : MethodName)) rfl hown (mvT hZ (hw _ (List.mem_of_getElem? (i := 67) rfl))) (mvT hZ (hw _ (List.mem_of_getElem? (i := 68) rfl))) (mvT hZ (hw _ (List.mem_of_getElem? (i := 69) rfl))) (by decide) (backOfS (W := 1) (rm15 l Z a0 hw [] a_87 a_1 h_87 n0 Z_88 A_87 F_97 ge_87) hZ (hw _ (List.mem_of_getElem? (i := 69) rfl)) (hw _ (List.mem_of_getElem? (i := 66) rfl)) (by decide) (by decide)) (g := (mkF m 62 #[.val (.int x0), .val (.int x1), .val (.int x2), .val (.ref a_1), .val (.ref a_30), .val (.ref a_67), .val (.int (x2 &&& (7 : Int32))), .unset, .unset, .unset, .unset] [(.ref a_1), (.ref a_87), (.ref a_87)])) rfl (by rw [hml]; rfl) (Steps.refl _) (a := a_87) (argsL := [(.ref a_1)]) (rest := [(.ref a_87)]) (lenOf pd0_3 rfl) rfl (by show 2 * 0 + _ ≤ _; exact Nat.le_of_eq rfl) (hb hby at_62) (fun _ _ => ⟨rfl, e_87, (by decide : 10 + 2 ≤ _), (by decide : 58 + 28 ≤ _)⟩)
    dsimp only [Pt.U, Pt.locs, Pt.cells, Pt.slots] at X_98 l_98 y_98 z_98 st_98 hQ_98 hs_98 hg_98
    subst l_98 y_98 z_98
    refine own_tr st_98 ?_
    obtain ⟨X_98, hS, hZ, hown⟩ := rebS hS (n1 := T_87.heap.size) (by rw [e_87]; exact K1_88) X_98 hs_98 hg_98 hZ hown
    obtain ⟨rfl, Nq_98, Kq_98, q0_98⟩ := hQ_98
    have N_98 := Fr.app N_76 Nq_98
    have F_99 : Fld Z T_98.heap a_87 "com/example/goalwright/goalwright/model/OpaqueValue" "object" "Ljava/lang/Object;" (.ref a_1) := q0_98
    have F_101 : Fld Z T_98.heap a_67 "com/example/goalwright/goalwright/model/OpaqueValue" "object" "Ljava/lang/Object;" (.ref a_1) := F_89.keep Kq_98 (ninS ne_87_a_67 nin0)
    have A_102 : Exa Z T_98.heap r_49 "java/lang/Integer" := A_90.keep Kq_98
    have A_103 : Exa Z T_98.heap r_16 "java/lang/Integer" := A_91.keep Kq_98
    have O_104 : Old Z n0 T_98.heap := O_92.keep Kq_98 (allS ge_87 all0)
    have V_105 : own_Len Z T_98.heap da (.object "java/lang/Object") (0 : Int32) := V_93.keep Kq_98
    have A_106 : Exa Z T_98.heap a_1 "java/util/ArrayList" := A_94.keep Kq_98
    have A_107 : Exa Z T_98.heap a_30 "java/util/ArrayList" := A_95.keep Kq_98
    have A_108 : Exa Z T_98.heap a_67 "com/example/goalwright/goalwright/model/OpaqueValue" := A_96.keep Kq_98
    have A_109 : Exa Z T_98.heap a_87 "com/example/goalwright/goalwright/model/OpaqueValue" := A_87.keep Kq_98
    have Z_100 : n0 ≤ T_98.heap.size := Nat.le_trans Z_88 Kq_98.1
    show own_Go p e below _ T_98 (mkF m 65 #[.val (.int x0), .val (.int x1), .val (.int x2), .val (.ref a_1), .val (.ref a_30), .val (.ref a_67), .val (.int (x2 &&& (7 : Int32))), .unset, .unset, .unset, .unset] [(.ref a_87)])
    refine own_astore X_98 hx (hb hby at_65) (pc' := 67) (Ls' := #[.val (.int x0), .val (.int x1), .val (.int x2), .val (.ref a_1), .val (.ref a_30), .val (.ref a_67), .val (.int (x2 &&& (7 : Int32))), .val (.ref a_87), .unset, .unset, .unset]) rfl rfl rfl ?_
    refine own_iconst X_98 hx (1) (hb hby at_67) (pc' := 68) rfl rfl ?_
    refine own_istore X_98 hx (hb hby at_68) (pc' := 70) (Ls' := #[.val (.int x0), .val (.int x1), .val (.int x2), .val (.ref a_1), .val (.ref a_30), .val (.ref a_67), .val (.int (x2 &&& (7 : Int32))), .val (.ref a_87), .val (.int (1 : Int32)), .unset, .unset]) rfl rfl ?_
    refine own_goto X_98 hx (hb hby at_70) (pc' := 210) (by decide) (by decide) ?_
    refine own_aload X_98 hx (hb hby at_210) (pc' := 212) rfl rfl rfl ?_
    refine own_aload X_98 hx (hb hby at_212) (pc' := 214) rfl rfl rfl ?_
    obtain ⟨cq_110, kq_110, qa_110, qb_110, qc_110⟩ := isOf hZ rfl A_108
    obtain ⟨_, _, ⟨T_110, L_110, k_110, n_110⟩, -, X_110, ⟨Lc_110, hQ_110, l_110, y_110, z_110⟩, st_110⟩ := X_98.virtualBack hx  (y := (⟨"com/example/goalwright/goalwright/model/OpaqueValue", "equals", "(Ljava/lang/Object;)Z"⟩ : MethodName)) (z := (⟨"com/example/goalwright/goalwright/model/OpaqueValue", "equals", "(Ljava/lang/Object;)Z"⟩ : MethodName)) hown (mvT hZ (hw _ (List.mem_of_getElem? (i := 90) rfl))) (mvT hZ (hw _ (List.mem_of_getElem? (i := 91) rfl))) (notFace_of_selects (args := #[]) (mvT hZ (hw _ (List.mem_of_getElem? (i := 93) rfl)))) (mvT hZ (hw _ (List.mem_of_getElem? (i := 93) rfl))) (mvT hZ (hw _ (List.mem_of_getElem? (i := 92) rfl))) (by decide) (backOf (W := 0) (rm16 l Z a0 hw [] a_67 a_87 a_1 T_98.heap n0 Z_100 A_109 F_101 F_99) hZ (hw _ (List.mem_of_getElem? (i := 94) rfl)) (hw _ (List.mem_of_getElem? (i := 66) rfl)) (by decide) (by decide)) qa_110 qc_110 (g := (mkF m 214 #[.val (.int x0), .val (.int x1), .val (.int x2), .val (.ref a_1), .val (.ref a_30), .val (.ref a_67), .val (.int (x2 &&& (7 : Int32))), .val (.ref a_87), .val (.int (1 : Int32)), .unset, .unset] [(.ref a_87), (.ref a_67)])) rfl (by rw [hml]; rfl) (Steps.refl _) (argsL := [(.ref a_87)]) (rest := []) (lenOf pd0_2 rfl) rfl (by show 2 * 0 + _ ≤ _; exact Nat.le_of_eq rfl) (hb hby at_214) (fun _ _ => ⟨rfl, rfl, (by decide : 12 + 0 ≤ _), (by decide : 86 + 0 ≤ _)⟩)
    dsimp only [Pt.U, Pt.locs, Pt.cells, Pt.slots] at X_110 l_110 y_110 z_110 st_110 hQ_110
    subst l_110 y_110 z_110
    refine own_tr st_110 ?_
    obtain ⟨rfl, Nq_110, eq_110⟩ := hQ_110
    have N_110 := Fr.app N_98 Nq_110
    show own_Go p e below _ T_110 (mkF m 217 #[.val (.int x0), .val (.int x1), .val (.int x2), .val (.ref a_1), .val (.ref a_30), .val (.ref a_67), .val (.int (x2 &&& (7 : Int32))), .val (.ref a_87), .val (.int (1 : Int32)), .unset, .unset] [(.int (1 : Int32))])
    refine own_iload X_110 hx (hb hby at_217) (pc' := 219) rfl rfl ?_
    refine own_icmpN X_110 hx (hb hby at_219) (by decide) (pc' := 222) rfl ?_
    refine own_iconst X_110 hx (1) (hb hby at_222) (pc' := 223) rfl rfl ?_
    refine own_goto X_110 hx (hb hby at_223) (pc' := 227) (by decide) (by decide) ?_
    refine own_istore X_110 hx (hb hby at_227) (pc' := 229) (Ls' := #[.val (.int x0), .val (.int x1), .val (.int x2), .val (.ref a_1), .val (.ref a_30), .val (.ref a_67), .val (.int (x2 &&& (7 : Int32))), .val (.ref a_87), .val (.int (1 : Int32)), .val (.int (1 : Int32)), .unset]) rfl rfl ?_
    refine own_aload X_110 hx (hb hby at_229) (pc' := 231) rfl rfl rfl ?_
    obtain ⟨T_111, X_111, e_111, st_111⟩ := instY X_110 hx hZ hown (hw _ (List.mem_of_getElem? (i := 64) rfl)) eq_110 (Ins.self A_109) (g := (mkF m 231 #[.val (.int x0), .val (.int x1), .val (.int x2), .val (.ref a_1), .val (.ref a_30), .val (.ref a_67), .val (.int (x2 &&& (7 : Int32))), .val (.ref a_87), .val (.int (1 : Int32)), .val (.int (1 : Int32)), .unset] [(.ref a_87)])) rfl rfl (hb hby at_231)
    refine own_st st_111 ?_
    show own_Go p e below _ T_111 (mkF m 234 #[.val (.int x0), .val (.int x1), .val (.int x2), .val (.ref a_1), .val (.ref a_30), .val (.ref a_67), .val (.int (x2 &&& (7 : Int32))), .val (.ref a_87), .val (.int (1 : Int32)), .val (.int (1 : Int32)), .unset] [(.int (1 : Int32))])
    refine own_ifN X_111 hx (hb hby at_234) (by decide) (pc' := 237) rfl ?_
    refine own_aload X_111 hx (hb hby at_237) (pc' := 239) rfl rfl rfl ?_
    obtain ⟨T_112, X_112, e_112, st_112⟩ := castY X_111 hx hZ hown (hw _ (List.mem_of_getElem? (i := 64) rfl)) e_111 (Ins.self A_109) (g := (mkF m 239 #[.val (.int x0), .val (.int x1), .val (.int x2), .val (.ref a_1), .val (.ref a_30), .val (.ref a_67), .val (.int (x2 &&& (7 : Int32))), .val (.ref a_87), .val (.int (1 : Int32)), .val (.int (1 : Int32)), .unset] [(.ref a_87)])) rfl rfl (hb hby at_239)
    refine own_st st_112 ?_
    show own_Go p e below _ T_112 (mkF m 242 #[.val (.int x0), .val (.int x1), .val (.int x2), .val (.ref a_1), .val (.ref a_30), .val (.ref a_67), .val (.int (x2 &&& (7 : Int32))), .val (.ref a_87), .val (.int (1 : Int32)), .val (.int (1 : Int32)), .unset] [(.ref a_87)])
    refine own_astore X_112 hx (hb hby at_242) (pc' := 244) (Ls' := #[.val (.int x0), .val (.int x1), .val (.int x2), .val (.ref a_1), .val (.ref a_30), .val (.ref a_67), .val (.int (x2 &&& (7 : Int32))), .val (.ref a_87), .val (.int (1 : Int32)), .val (.int (1 : Int32)), .val (.ref a_87)]) rfl rfl rfl ?_
    refine own_iload X_112 hx (hb hby at_244) (pc' := 246) rfl rfl ?_
    refine own_ifN X_112 hx (hb hby at_246) (by decide) (pc' := 249) rfl ?_
    refine own_aload X_112 hx (hb hby at_249) (pc' := 251) rfl rfl rfl ?_
    refine own_aload X_112 hx (hb hby at_251) (pc' := 253) rfl rfl rfl ?_
    obtain ⟨cq_113, kq_113, qa_113, qb_113, qc_113⟩ := isOf hZ e_112 A_109
    obtain ⟨_, _, ⟨T_113, L_113, k_113, n_113⟩, -, X_113, ⟨Lc_113, hQ_113, l_113, y_113, z_113⟩, st_113⟩ := X_112.virtualBack hx  (y := (⟨"com/example/goalwright/goalwright/model/OpaqueValue", "equals", "(Ljava/lang/Object;)Z"⟩ : MethodName)) (z := (⟨"com/example/goalwright/goalwright/model/OpaqueValue", "equals", "(Ljava/lang/Object;)Z"⟩ : MethodName)) hown (mvT hZ (hw _ (List.mem_of_getElem? (i := 90) rfl))) (mvT hZ (hw _ (List.mem_of_getElem? (i := 91) rfl))) (notFace_of_selects (args := #[]) (mvT hZ (hw _ (List.mem_of_getElem? (i := 93) rfl)))) (mvT hZ (hw _ (List.mem_of_getElem? (i := 93) rfl))) (mvT hZ (hw _ (List.mem_of_getElem? (i := 92) rfl))) (by decide) (backOf (W := 0) (rm16 l Z a0 hw [] a_87 a_67 a_1 T_98.heap n0 Z_100 A_108 F_99 F_101) hZ (hw _ (List.mem_of_getElem? (i := 94) rfl)) (hw _ (List.mem_of_getElem? (i := 66) rfl)) (by decide) (by decide)) qa_113 qc_113 (g := (mkF m 253 #[.val (.int x0), .val (.int x1), .val (.int x2), .val (.ref a_1), .val (.ref a_30), .val (.ref a_67), .val (.int (x2 &&& (7 : Int32))), .val (.ref a_87), .val (.int (1 : Int32)), .val (.int (1 : Int32)), .val (.ref a_87)] [(.ref a_67), (.ref a_87)])) rfl (by rw [hml]; rfl) (Steps.refl _) (argsL := [(.ref a_67)]) (rest := []) (lenOf pd0_2 rfl) rfl (by show 2 * 0 + _ ≤ _; exact Nat.le_of_eq rfl) (hb hby at_253) (fun _ _ => ⟨rfl, e_112, (by decide : 12 + 0 ≤ _), (by decide : 86 + 0 ≤ _)⟩)
    dsimp only [Pt.U, Pt.locs, Pt.cells, Pt.slots] at X_113 l_113 y_113 z_113 st_113 hQ_113
    subst l_113 y_113 z_113
    refine own_tr st_113 ?_
    obtain ⟨rfl, Nq_113, eq_113⟩ := hQ_113
    have N_113 := Fr.app N_110 Nq_113
    show own_Go p e below _ T_113 (mkF m 256 #[.val (.int x0), .val (.int x1), .val (.int x2), .val (.ref a_1), .val (.ref a_30), .val (.ref a_67), .val (.int (x2 &&& (7 : Int32))), .val (.ref a_87), .val (.int (1 : Int32)), .val (.int (1 : Int32)), .val (.ref a_87)] [(.int (1 : Int32))])
    refine own_iload X_113 hx (hb hby at_256) (pc' := 258) rfl rfl ?_
    refine own_icmpN X_113 hx (hb hby at_258) (by decide) (pc' := 261) rfl ?_
    refine own_iconst X_113 hx (1) (hb hby at_261) (pc' := 262) rfl rfl ?_
    refine own_goto X_113 hx (hb hby at_262) (pc' := 266) (by decide) (by decide) ?_
    refine own_istore X_113 hx (hb hby at_266) (pc' := 268) (Ls' := #[.val (.int x0), .val (.int x1), .val (.int x2), .val (.ref a_1), .val (.ref a_30), .val (.ref a_67), .val (.int (x2 &&& (7 : Int32))), .val (.ref a_87), .val (.int (1 : Int32)), .val (.int (1 : Int32)), .val (.ref a_87)]) rfl rfl ?_
    refine own_iload X_113 hx (hb hby at_268) (pc' := 270) rfl rfl ?_
    refine own_retZW X_113 hS (by rw [eq_113]; exact (Nat.le_refl _)) hx hlk Bd.returns (by simp) (hb hby at_270) (by decide) (by decide) ?_
    exact ⟨rfl, N_113⟩
  · skip
    refine own_ifY X_76 hx (hb hby at_54) (XT.i0_ne_t c_86) (pc' := 73) (by decide) (by decide) ?_
    refine own_iload X_76 hx (hb hby at_73) (pc' := 75) rfl rfl ?_
    refine own_iconst X_76 hx (1) (hb hby at_75) (pc' := 76) rfl rfl ?_
    by_cases c_114 : (x2 &&& (7 : Int32)) = (1 : Int32)
    · skip
      refine own_icmpN X_76 hx (hb hby at_76) (XT.ii_ne_f c_114) (pc' := 79) rfl ?_
      obtain ⟨T_115, h_115, X_115, e_115, E_115, A_115, D_115, -, st_115⟩ := newO X_76 hx hZ hown (hw _ (List.mem_of_getElem? (i := 64) rfl)) (hw _ (List.mem_of_getElem? (i := 65) rfl)) (hw _ (List.mem_of_getElem? (i := 66) rfl)) rfl (g := (mkF m 79 #[.val (.int x0), .val (.int x1), .val (.int x2), .val (.ref a_1), .val (.ref a_30), .val (.ref a_67), .val (.int (x2 &&& (7 : Int32))), .unset, .unset, .unset, .unset] [])) rfl (hb hby at_79) (by decide) (by decide)
      obtain ⟨a_115, g_115⟩ : ∃ z, z = T_76.heap.size := ⟨_, rfl⟩
      rw [← g_115] at A_115 D_115 st_115
      have ge_115 : n0 ≤ a_115 := Nat.le_trans Z_78 (Nat.le_of_eq g_115.symm)
      have ne_115_a_67 : a_67 ≠ a_115 := Nat.ne_of_lt (Nat.lt_of_lt_of_eq F_77.lt g_115.symm)
      have ne_115_r_49 : r_49 ≠ a_115 := Nat.ne_of_lt (Nat.lt_of_lt_of_eq A_79.lt g_115.symm)
      have ne_115_r_16 : r_16 ≠ a_115 := Nat.ne_of_lt (Nat.lt_of_lt_of_eq A_80.lt g_115.symm)
      have ne_115_da : da ≠ a_115 := Nat.ne_of_lt (Nat.lt_of_lt_of_eq V_82.lt g_115.symm)
      have ne_115_a_1 : a_1 ≠ a_115 := Nat.ne_of_lt (Nat.lt_of_lt_of_eq A_83.lt g_115.symm)
      have ne_115_a_30 : a_30 ≠ a_115 := Nat.ne_of_lt (Nat.lt_of_lt_of_eq A_84.lt g_115.symm)
      have F_117 : Fld Z h_115 a_67 "com/example/goalwright/goalwright/model/OpaqueValue" "object" "Ljava/lang/Object;" (.ref a_1) := F_77.ext E_115
      have A_118 : Exa Z h_115 r_49 "java/lang/Integer" := A_79.ext E_115
      have A_119 : Exa Z h_115 r_16 "java/lang/Integer" := A_80.ext E_115
      have O_120 : Old Z n0 h_115 := O_81.ext E_115
      have V_121 : own_Len Z h_115 da (.object "java/lang/Object") (0 : Int32) := V_82.ext E_115
      have A_122 : Exa Z h_115 a_1 "java/util/ArrayList" := A_83.ext E_115
      have A_123 : Exa Z h_115 a_30 "java/util/ArrayList" := A_84.ext E_115
      have A_124 : Exa Z h_115 a_67 "com/example/goalwright/goalwright/model/OpaqueValue" := A_85.ext E_115
      have Z_116 : n0 ≤ h_115.size := Nat.le_trans Z_78 E_115.1
      have K1_116 := Nat.le_trans (Nat.le_refl _) E_115.1
      have F_125 : Fld Z h_115 a_115 "com/example/goalwright/goalwright/model/OpaqueValue" "object" "Ljava/lang/Object;" (.null) := D_115 (Or.inr (hw _ (List.mem_of_getElem? (i := 89) rfl))) (ty := (.object "java/lang/Object")) (by decide)
      refine own_st st_115 ?_
      show own_Go p e below _ T_115 (mkF m 82 #[.val (.int x0), .val (.int x1), .val (.int x2), .val (.ref a_1), .val (.ref a_30), .val (.ref a_67), .val (.int (x2 &&& (7 : Int32))), .unset, .unset, .unset, .unset] [(.ref a_115)])
      refine own_dup X_115 hx (hb hby at_82) (pc' := 83) rfl rfl ?_
      refine own_aload X_115 hx (hb hby at_83) (pc' := 85) rfl rfl rfl ?_
      obtain ⟨_, _, ⟨T_126, L_126, k_126, n_126⟩, -, X_126, hs_126, hg_126, ⟨Lc_126, hQ_126, l_126, y_126, z_126⟩, st_126⟩ := X_115.specialBackS hx  (y := (⟨"com/example/goalwright/goalwright/model/OpaqueValue", "<init>", "(Ljava/lang/Object;)V"⟩ : MethodName)) rfl hown (mvT hZ (hw _ (List.mem_of_getElem? (i := 67) rfl))) (mvT hZ (hw _ (List.mem_of_getElem? (i := 68) rfl))) (mvT hZ (hw _ (List.mem_of_getElem? (i := 69) rfl))) (by decide) (backOfS (W := 1) (rm15 l Z a0 hw [] a_115 a_30 h_115 n0 Z_116 A_115 F_125 ge_115) hZ (hw _ (List.mem_of_getElem? (i := 69) rfl)) (hw _ (List.mem_of_getElem? (i := 66) rfl)) (by decide) (by decide)) (g := (mkF m 85 #[.val (.int x0), .val (.int x1), .val (.int x2), .val (.ref a_1), .val (.ref a_30), .val (.ref a_67), .val (.int (x2 &&& (7 : Int32))), .unset, .unset, .unset, .unset] [(.ref a_30), (.ref a_115), (.ref a_115)])) rfl (by rw [hml]; rfl) (Steps.refl _) (a := a_115) (argsL := [(.ref a_30)]) (rest := [(.ref a_115)]) (lenOf pd0_3 rfl) rfl (by show 2 * 0 + _ ≤ _; exact Nat.le_of_eq rfl) (hb hby at_85) (fun _ _ => ⟨rfl, e_115, (by decide : 10 + 2 ≤ _), (by decide : 58 + 28 ≤ _)⟩)
      dsimp only [Pt.U, Pt.locs, Pt.cells, Pt.slots] at X_126 l_126 y_126 z_126 st_126 hQ_126 hs_126 hg_126
      subst l_126 y_126 z_126
      refine own_tr st_126 ?_
      obtain ⟨X_126, hS, hZ, hown⟩ := rebS hS (n1 := T_115.heap.size) (by rw [e_115]; exact K1_116) X_126 hs_126 hg_126 hZ hown
      obtain ⟨rfl, Nq_126, Kq_126, q0_126⟩ := hQ_126
      have N_126 := Fr.app N_76 Nq_126
      have F_127 : Fld Z T_126.heap a_115 "com/example/goalwright/goalwright/model/OpaqueValue" "object" "Ljava/lang/Object;" (.ref a_30) := q0_126
      have F_129 : Fld Z T_126.heap a_67 "com/example/goalwright/goalwright/model/OpaqueValue" "object" "Ljava/lang/Object;" (.ref a_1) := F_117.keep Kq_126 (ninS ne_115_a_67 nin0)
      have A_130 : Exa Z T_126.heap r_49 "java/lang/Integer" := A_118.keep Kq_126
      have A_131 : Exa Z T_126.heap r_16 "java/lang/Integer" := A_119.keep Kq_126
      have O_132 : Old Z n0 T_126.heap := O_120.keep Kq_126 (allS ge_115 all0)
      have V_133 : own_Len Z T_126.heap da (.object "java/lang/Object") (0 : Int32) := V_121.keep Kq_126
      have A_134 : Exa Z T_126.heap a_1 "java/util/ArrayList" := A_122.keep Kq_126
      have A_135 : Exa Z T_126.heap a_30 "java/util/ArrayList" := A_123.keep Kq_126
      have A_136 : Exa Z T_126.heap a_67 "com/example/goalwright/goalwright/model/OpaqueValue" := A_124.keep Kq_126
      have A_137 : Exa Z T_126.heap a_115 "com/example/goalwright/goalwright/model/OpaqueValue" := A_115.keep Kq_126
      have Z_128 : n0 ≤ T_126.heap.size := Nat.le_trans Z_116 Kq_126.1
      show own_Go p e below _ T_126 (mkF m 88 #[.val (.int x0), .val (.int x1), .val (.int x2), .val (.ref a_1), .val (.ref a_30), .val (.ref a_67), .val (.int (x2 &&& (7 : Int32))), .unset, .unset, .unset, .unset] [(.ref a_115)])
      refine own_astore X_126 hx (hb hby at_88) (pc' := 90) (Ls' := #[.val (.int x0), .val (.int x1), .val (.int x2), .val (.ref a_1), .val (.ref a_30), .val (.ref a_67), .val (.int (x2 &&& (7 : Int32))), .val (.ref a_115), .unset, .unset, .unset]) rfl rfl rfl ?_
      refine own_iconst X_126 hx (0) (hb hby at_90) (pc' := 91) rfl rfl ?_
      refine own_istore X_126 hx (hb hby at_91) (pc' := 93) (Ls' := #[.val (.int x0), .val (.int x1), .val (.int x2), .val (.ref a_1), .val (.ref a_30), .val (.ref a_67), .val (.int (x2 &&& (7 : Int32))), .val (.ref a_115), .val (.int (0 : Int32)), .unset, .unset]) rfl rfl ?_
      refine own_goto X_126 hx (hb hby at_93) (pc' := 210) (by decide) (by decide) ?_
      refine own_aload X_126 hx (hb hby at_210) (pc' := 212) rfl rfl rfl ?_
      refine own_aload X_126 hx (hb hby at_212) (pc' := 214) rfl rfl rfl ?_
      obtain ⟨cq_138, kq_138, qa_138, qb_138, qc_138⟩ := isOf hZ rfl A_136
      obtain ⟨_, _, ⟨T_138, L_138, k_138, n_138⟩, -, X_138, ⟨Lc_138, hQ_138, l_138, y_138, z_138⟩, st_138⟩ := X_126.virtualBack hx  (y := (⟨"com/example/goalwright/goalwright/model/OpaqueValue", "equals", "(Ljava/lang/Object;)Z"⟩ : MethodName)) (z := (⟨"com/example/goalwright/goalwright/model/OpaqueValue", "equals", "(Ljava/lang/Object;)Z"⟩ : MethodName)) hown (mvT hZ (hw _ (List.mem_of_getElem? (i := 90) rfl))) (mvT hZ (hw _ (List.mem_of_getElem? (i := 91) rfl))) (notFace_of_selects (args := #[]) (mvT hZ (hw _ (List.mem_of_getElem? (i := 93) rfl)))) (mvT hZ (hw _ (List.mem_of_getElem? (i := 93) rfl))) (mvT hZ (hw _ (List.mem_of_getElem? (i := 92) rfl))) (by decide) (backOf (W := 0) (rm17 l Z a0 hw [] a_67 a_115 a_1 a_30 T_126.heap n0 Z_128 A_137 F_129 F_127 (Ne.symm ne_30_a_1)) hZ (hw _ (List.mem_of_getElem? (i := 94) rfl)) (hw _ (List.mem_of_getElem? (i := 66) rfl)) (by decide) (by decide)) qa_138 qc_138 (g := (mkF m 214 #[.val (.int x0), .val (.int x1), .val (.int x2), .val (.ref a_1), .val (.ref a_30), .val (.ref a_67), .val (.int (x2 &&& (7 : Int32))), .val (.ref a_115), .val (.int (0 : Int32)), .unset, .unset] [(.ref a_115), (.ref a_67)])) rfl (by rw [hml]; rfl) (Steps.refl _) (argsL := [(.ref a_115)]) (rest := []) (lenOf pd0_2 rfl) rfl (by show 2 * 0 + _ ≤ _; exact Nat.le_of_eq rfl) (hb hby at_214) (fun _ _ => ⟨rfl, rfl, (by decide : 12 + 0 ≤ _), (by decide : 86 + 0 ≤ _)⟩)
      dsimp only [Pt.U, Pt.locs, Pt.cells, Pt.slots] at X_138 l_138 y_138 z_138 st_138 hQ_138
      subst l_138 y_138 z_138
      refine own_tr st_138 ?_
      obtain ⟨rfl, Nq_138, eq_138⟩ := hQ_138
      have N_138 := Fr.app N_126 Nq_138
      show own_Go p e below _ T_138 (mkF m 217 #[.val (.int x0), .val (.int x1), .val (.int x2), .val (.ref a_1), .val (.ref a_30), .val (.ref a_67), .val (.int (x2 &&& (7 : Int32))), .val (.ref a_115), .val (.int (0 : Int32)), .unset, .unset] [(.int (0 : Int32))])
      refine own_iload X_138 hx (hb hby at_217) (pc' := 219) rfl rfl ?_
      refine own_icmpN X_138 hx (hb hby at_219) (by decide) (pc' := 222) rfl ?_
      refine own_iconst X_138 hx (1) (hb hby at_222) (pc' := 223) rfl rfl ?_
      refine own_goto X_138 hx (hb hby at_223) (pc' := 227) (by decide) (by decide) ?_
      refine own_istore X_138 hx (hb hby at_227) (pc' := 229) (Ls' := #[.val (.int x0), .val (.int x1), .val (.int x2), .val (.ref a_1), .val (.ref a_30), .val (.ref a_67), .val (.int (x2 &&& (7 : Int32))), .val (.ref a_115), .val (.int (0 : Int32)), .val (.int (1 : Int32)), .unset]) rfl rfl ?_
      refine own_aload X_138 hx (hb hby at_229) (pc' := 231) rfl rfl rfl ?_
      obtain ⟨T_139, X_139, e_139, st_139⟩ := instY X_138 hx hZ hown (hw _ (List.mem_of_getElem? (i := 64) rfl)) eq_138 (Ins.self A_137) (g := (mkF m 231 #[.val (.int x0), .val (.int x1), .val (.int x2), .val (.ref a_1), .val (.ref a_30), .val (.ref a_67), .val (.int (x2 &&& (7 : Int32))), .val (.ref a_115), .val (.int (0 : Int32)), .val (.int (1 : Int32)), .unset] [(.ref a_115)])) rfl rfl (hb hby at_231)
      refine own_st st_139 ?_
      show own_Go p e below _ T_139 (mkF m 234 #[.val (.int x0), .val (.int x1), .val (.int x2), .val (.ref a_1), .val (.ref a_30), .val (.ref a_67), .val (.int (x2 &&& (7 : Int32))), .val (.ref a_115), .val (.int (0 : Int32)), .val (.int (1 : Int32)), .unset] [(.int (1 : Int32))])
      refine own_ifN X_139 hx (hb hby at_234) (by decide) (pc' := 237) rfl ?_
      refine own_aload X_139 hx (hb hby at_237) (pc' := 239) rfl rfl rfl ?_
      obtain ⟨T_140, X_140, e_140, st_140⟩ := castY X_139 hx hZ hown (hw _ (List.mem_of_getElem? (i := 64) rfl)) e_139 (Ins.self A_137) (g := (mkF m 239 #[.val (.int x0), .val (.int x1), .val (.int x2), .val (.ref a_1), .val (.ref a_30), .val (.ref a_67), .val (.int (x2 &&& (7 : Int32))), .val (.ref a_115), .val (.int (0 : Int32)), .val (.int (1 : Int32)), .unset] [(.ref a_115)])) rfl rfl (hb hby at_239)
      refine own_st st_140 ?_
      show own_Go p e below _ T_140 (mkF m 242 #[.val (.int x0), .val (.int x1), .val (.int x2), .val (.ref a_1), .val (.ref a_30), .val (.ref a_67), .val (.int (x2 &&& (7 : Int32))), .val (.ref a_115), .val (.int (0 : Int32)), .val (.int (1 : Int32)), .unset] [(.ref a_115)])
      refine own_astore X_140 hx (hb hby at_242) (pc' := 244) (Ls' := #[.val (.int x0), .val (.int x1), .val (.int x2), .val (.ref a_1), .val (.ref a_30), .val (.ref a_67), .val (.int (x2 &&& (7 : Int32))), .val (.ref a_115), .val (.int (0 : Int32)), .val (.int (1 : Int32)), .val (.ref a_115)]) rfl rfl rfl ?_
      refine own_iload X_140 hx (hb hby at_244) (pc' := 246) rfl rfl ?_
      refine own_ifN X_140 hx (hb hby at_246) (by decide) (pc' := 249) rfl ?_
      refine own_aload X_140 hx (hb hby at_249) (pc' := 251) rfl rfl rfl ?_
      refine own_aload X_140 hx (hb hby at_251) (pc' := 253) rfl rfl rfl ?_
      obtain ⟨cq_141, kq_141, qa_141, qb_141, qc_141⟩ := isOf hZ e_140 A_137
      obtain ⟨_, _, ⟨T_141, L_141, k_141, n_141⟩, -, X_141, ⟨Lc_141, hQ_141, l_141, y_141, z_141⟩, st_141⟩ := X_140.virtualBack hx  (y := (⟨"com/example/goalwright/goalwright/model/OpaqueValue", "equals", "(Ljava/lang/Object;)Z"⟩ : MethodName)) (z := (⟨"com/example/goalwright/goalwright/model/OpaqueValue", "equals", "(Ljava/lang/Object;)Z"⟩ : MethodName)) hown (mvT hZ (hw _ (List.mem_of_getElem? (i := 90) rfl))) (mvT hZ (hw _ (List.mem_of_getElem? (i := 91) rfl))) (notFace_of_selects (args := #[]) (mvT hZ (hw _ (List.mem_of_getElem? (i := 93) rfl)))) (mvT hZ (hw _ (List.mem_of_getElem? (i := 93) rfl))) (mvT hZ (hw _ (List.mem_of_getElem? (i := 92) rfl))) (by decide) (backOf (W := 0) (rm17 l Z a0 hw [] a_115 a_67 a_30 a_1 T_126.heap n0 Z_128 A_136 F_127 F_129 ne_30_a_1) hZ (hw _ (List.mem_of_getElem? (i := 94) rfl)) (hw _ (List.mem_of_getElem? (i := 66) rfl)) (by decide) (by decide)) qa_141 qc_141 (g := (mkF m 253 #[.val (.int x0), .val (.int x1), .val (.int x2), .val (.ref a_1), .val (.ref a_30), .val (.ref a_67), .val (.int (x2 &&& (7 : Int32))), .val (.ref a_115), .val (.int (0 : Int32)), .val (.int (1 : Int32)), .val (.ref a_115)] [(.ref a_67), (.ref a_115)])) rfl (by rw [hml]; rfl) (Steps.refl _) (argsL := [(.ref a_67)]) (rest := []) (lenOf pd0_2 rfl) rfl (by show 2 * 0 + _ ≤ _; exact Nat.le_of_eq rfl) (hb hby at_253) (fun _ _ => ⟨rfl, e_140, (by decide : 12 + 0 ≤ _), (by decide : 86 + 0 ≤ _)⟩)
      dsimp only [Pt.U, Pt.locs, Pt.cells, Pt.slots] at X_141 l_141 y_141 z_141 st_141 hQ_141
      subst l_141 y_141 z_141
      refine own_tr st_141 ?_
      obtain ⟨rfl, Nq_141, eq_141⟩ := hQ_141
      have N_141 := Fr.app N_138 Nq_141
      show own_Go p e below _ T_141 (mkF m 256 #[.val (.int x0), .val (.int x1), .val (.int x2), .val (.ref a_1), .val (.ref a_30), .val (.ref a_67), .val (.int (x2 &&& (7 : Int32))), .val (.ref a_115), .val (.int (0 : Int32)), .val (.int (1 : Int32)), .val (.ref a_115)] [(.int (0 : Int32))])
      refine own_iload X_141 hx (hb hby at_256) (pc' := 258) rfl rfl ?_
      refine own_icmpN X_141 hx (hb hby at_258) (by decide) (pc' := 261) rfl ?_
      refine own_iconst X_141 hx (1) (hb hby at_261) (pc' := 262) rfl rfl ?_
      refine own_goto X_141 hx (hb hby at_262) (pc' := 266) (by decide) (by decide) ?_
      refine own_istore X_141 hx (hb hby at_266) (pc' := 268) (Ls' := #[.val (.int x0), .val (.int x1), .val (.int x2), .val (.ref a_1), .val (.ref a_30), .val (.ref a_67), .val (.int (x2 &&& (7 : Int32))), .val (.ref a_115), .val (.int (0 : Int32)), .val (.int (1 : Int32)), .val (.ref a_115)]) rfl rfl ?_
      refine own_iload X_141 hx (hb hby at_268) (pc' := 270) rfl rfl ?_
      refine own_retZW X_141 hS (by rw [eq_141]; exact (Nat.le_refl _)) hx hlk Bd.returns (by simp) (hb hby at_270) (by decide) (by decide) ?_
      exact ⟨rfl, N_141⟩
    · skip
      refine own_icmpY X_76 hx (hb hby at_76) (XT.ii_ne_t c_114) (pc' := 96) (by decide) (by decide) ?_
      refine own_iload X_76 hx (hb hby at_96) (pc' := 98) rfl rfl ?_
      refine own_iconst X_76 hx (2) (hb hby at_98) (pc' := 99) rfl rfl ?_
      by_cases c_142 : (x2 &&& (7 : Int32)) = (2 : Int32)
      · skip
        refine own_icmpN X_76 hx (hb hby at_99) (XT.ii_ne_f c_142) (pc' := 102) rfl ?_
        refine own_aload X_76 hx (hb hby at_102) (pc' := 104) rfl rfl rfl ?_
        refine own_astore X_76 hx (hb hby at_104) (pc' := 106) (Ls' := #[.val (.int x0), .val (.int x1), .val (.int x2), .val (.ref a_1), .val (.ref a_30), .val (.ref a_67), .val (.int (x2 &&& (7 : Int32))), .val (.ref a_67), .unset, .unset, .unset]) rfl rfl rfl ?_
        refine own_iconst X_76 hx (1) (hb hby at_106) (pc' := 107) rfl rfl ?_
        refine own_istore X_76 hx (hb hby at_107) (pc' := 109) (Ls' := #[.val (.int x0), .val (.int x1), .val (.int x2), .val (.ref a_1), .val (.ref a_30), .val (.ref a_67), .val (.int (x2 &&& (7 : Int32))), .val (.ref a_67), .val (.int (1 : Int32)), .unset, .unset]) rfl rfl ?_
        refine own_goto X_76 hx (hb hby at_109) (pc' := 210) (by decide) (by decide) ?_
        refine own_aload X_76 hx (hb hby at_210) (pc' := 212) rfl rfl rfl ?_
        refine own_aload X_76 hx (hb hby at_212) (pc' := 214) rfl rfl rfl ?_
        obtain ⟨cq_143, kq_143, qa_143, qb_143, qc_143⟩ := isOf hZ rfl A_85
        obtain ⟨_, _, ⟨T_143, L_143, k_143, n_143⟩, -, X_143, ⟨Lc_143, hQ_143, l_143, y_143, z_143⟩, st_143⟩ := X_76.virtualBack hx  (y := (⟨"com/example/goalwright/goalwright/model/OpaqueValue", "equals", "(Ljava/lang/Object;)Z"⟩ : MethodName)) (z := (⟨"com/example/goalwright/goalwright/model/OpaqueValue", "equals", "(Ljava/lang/Object;)Z"⟩ : MethodName)) hown (mvT hZ (hw _ (List.mem_of_getElem? (i := 90) rfl))) (mvT hZ (hw _ (List.mem_of_getElem? (i := 91) rfl))) (notFace_of_selects (args := #[]) (mvT hZ (hw _ (List.mem_of_getElem? (i := 93) rfl)))) (mvT hZ (hw _ (List.mem_of_getElem? (i := 93) rfl))) (mvT hZ (hw _ (List.mem_of_getElem? (i := 92) rfl))) (by decide) (backOf (W := 0) (rm16 l Z a0 hw [] a_67 a_67 a_1 T_76.heap n0 Z_78 A_85 F_77 F_77) hZ (hw _ (List.mem_of_getElem? (i := 94) rfl)) (hw _ (List.mem_of_getElem? (i := 66) rfl)) (by decide) (by decide)) qa_143 qc_143 (g := (mkF m 214 #[.val (.int x0), .val (.int x1), .val (.int x2), .val (.ref a_1), .val (.ref a_30), .val (.ref a_67), .val (.int (x2 &&& (7 : Int32))), .val (.ref a_67), .val (.int (1 : Int32)), .unset, .unset] [(.ref a_67), (.ref a_67)])) rfl (by rw [hml]; rfl) (Steps.refl _) (argsL := [(.ref a_67)]) (rest := []) (lenOf pd0_2 rfl) rfl (by show 2 * 0 + _ ≤ _; exact Nat.le_of_eq rfl) (hb hby at_214) (fun _ _ => ⟨rfl, rfl, (by decide : 9 + 0 ≤ _), (by decide : 57 + 0 ≤ _)⟩)
        dsimp only [Pt.U, Pt.locs, Pt.cells, Pt.slots] at X_143 l_143 y_143 z_143 st_143 hQ_143
        subst l_143 y_143 z_143
        refine own_tr st_143 ?_
        obtain ⟨rfl, Nq_143, eq_143⟩ := hQ_143
        have N_143 := Fr.app N_76 Nq_143
        show own_Go p e below _ T_143 (mkF m 217 #[.val (.int x0), .val (.int x1), .val (.int x2), .val (.ref a_1), .val (.ref a_30), .val (.ref a_67), .val (.int (x2 &&& (7 : Int32))), .val (.ref a_67), .val (.int (1 : Int32)), .unset, .unset] [(.int (1 : Int32))])
        refine own_iload X_143 hx (hb hby at_217) (pc' := 219) rfl rfl ?_
        refine own_icmpN X_143 hx (hb hby at_219) (by decide) (pc' := 222) rfl ?_
        refine own_iconst X_143 hx (1) (hb hby at_222) (pc' := 223) rfl rfl ?_
        refine own_goto X_143 hx (hb hby at_223) (pc' := 227) (by decide) (by decide) ?_
        refine own_istore X_143 hx (hb hby at_227) (pc' := 229) (Ls' := #[.val (.int x0), .val (.int x1), .val (.int x2), .val (.ref a_1), .val (.ref a_30), .val (.ref a_67), .val (.int (x2 &&& (7 : Int32))), .val (.ref a_67), .val (.int (1 : Int32)), .val (.int (1 : Int32)), .unset]) rfl rfl ?_
        refine own_aload X_143 hx (hb hby at_229) (pc' := 231) rfl rfl rfl ?_
        obtain ⟨T_144, X_144, e_144, st_144⟩ := instY X_143 hx hZ hown (hw _ (List.mem_of_getElem? (i := 64) rfl)) eq_143 (Ins.self A_85) (g := (mkF m 231 #[.val (.int x0), .val (.int x1), .val (.int x2), .val (.ref a_1), .val (.ref a_30), .val (.ref a_67), .val (.int (x2 &&& (7 : Int32))), .val (.ref a_67), .val (.int (1 : Int32)), .val (.int (1 : Int32)), .unset] [(.ref a_67)])) rfl rfl (hb hby at_231)
        refine own_st st_144 ?_
        show own_Go p e below _ T_144 (mkF m 234 #[.val (.int x0), .val (.int x1), .val (.int x2), .val (.ref a_1), .val (.ref a_30), .val (.ref a_67), .val (.int (x2 &&& (7 : Int32))), .val (.ref a_67), .val (.int (1 : Int32)), .val (.int (1 : Int32)), .unset] [(.int (1 : Int32))])
        refine own_ifN X_144 hx (hb hby at_234) (by decide) (pc' := 237) rfl ?_
        refine own_aload X_144 hx (hb hby at_237) (pc' := 239) rfl rfl rfl ?_
        obtain ⟨T_145, X_145, e_145, st_145⟩ := castY X_144 hx hZ hown (hw _ (List.mem_of_getElem? (i := 64) rfl)) e_144 (Ins.self A_85) (g := (mkF m 239 #[.val (.int x0), .val (.int x1), .val (.int x2), .val (.ref a_1), .val (.ref a_30), .val (.ref a_67), .val (.int (x2 &&& (7 : Int32))), .val (.ref a_67), .val (.int (1 : Int32)), .val (.int (1 : Int32)), .unset] [(.ref a_67)])) rfl rfl (hb hby at_239)
        refine own_st st_145 ?_
        show own_Go p e below _ T_145 (mkF m 242 #[.val (.int x0), .val (.int x1), .val (.int x2), .val (.ref a_1), .val (.ref a_30), .val (.ref a_67), .val (.int (x2 &&& (7 : Int32))), .val (.ref a_67), .val (.int (1 : Int32)), .val (.int (1 : Int32)), .unset] [(.ref a_67)])
        refine own_astore X_145 hx (hb hby at_242) (pc' := 244) (Ls' := #[.val (.int x0), .val (.int x1), .val (.int x2), .val (.ref a_1), .val (.ref a_30), .val (.ref a_67), .val (.int (x2 &&& (7 : Int32))), .val (.ref a_67), .val (.int (1 : Int32)), .val (.int (1 : Int32)), .val (.ref a_67)]) rfl rfl rfl ?_
        refine own_iload X_145 hx (hb hby at_244) (pc' := 246) rfl rfl ?_
        refine own_ifN X_145 hx (hb hby at_246) (by decide) (pc' := 249) rfl ?_
        refine own_aload X_145 hx (hb hby at_249) (pc' := 251) rfl rfl rfl ?_
        refine own_aload X_145 hx (hb hby at_251) (pc' := 253) rfl rfl rfl ?_
        obtain ⟨cq_146, kq_146, qa_146, qb_146, qc_146⟩ := isOf hZ e_145 A_85
        obtain ⟨_, _, ⟨T_146, L_146, k_146, n_146⟩, -, X_146, ⟨Lc_146, hQ_146, l_146, y_146, z_146⟩, st_146⟩ := X_145.virtualBack hx  (y := (⟨"com/example/goalwright/goalwright/model/OpaqueValue", "equals", "(Ljava/lang/Object;)Z"⟩ : MethodName)) (z := (⟨"com/example/goalwright/goalwright/model/OpaqueValue", "equals", "(Ljava/lang/Object;)Z"⟩ : MethodName)) hown (mvT hZ (hw _ (List.mem_of_getElem? (i := 90) rfl))) (mvT hZ (hw _ (List.mem_of_getElem? (i := 91) rfl))) (notFace_of_selects (args := #[]) (mvT hZ (hw _ (List.mem_of_getElem? (i := 93) rfl)))) (mvT hZ (hw _ (List.mem_of_getElem? (i := 93) rfl))) (mvT hZ (hw _ (List.mem_of_getElem? (i := 92) rfl))) (by decide) (backOf (W := 0) (rm16 l Z a0 hw [] a_67 a_67 a_1 T_76.heap n0 Z_78 A_85 F_77 F_77) hZ (hw _ (List.mem_of_getElem? (i := 94) rfl)) (hw _ (List.mem_of_getElem? (i := 66) rfl)) (by decide) (by decide)) qa_146 qc_146 (g := (mkF m 253 #[.val (.int x0), .val (.int x1), .val (.int x2), .val (.ref a_1), .val (.ref a_30), .val (.ref a_67), .val (.int (x2 &&& (7 : Int32))), .val (.ref a_67), .val (.int (1 : Int32)), .val (.int (1 : Int32)), .val (.ref a_67)] [(.ref a_67), (.ref a_67)])) rfl (by rw [hml]; rfl) (Steps.refl _) (argsL := [(.ref a_67)]) (rest := []) (lenOf pd0_2 rfl) rfl (by show 2 * 0 + _ ≤ _; exact Nat.le_of_eq rfl) (hb hby at_253) (fun _ _ => ⟨rfl, e_145, (by decide : 9 + 0 ≤ _), (by decide : 57 + 0 ≤ _)⟩)
        dsimp only [Pt.U, Pt.locs, Pt.cells, Pt.slots] at X_146 l_146 y_146 z_146 st_146 hQ_146
        subst l_146 y_146 z_146
        refine own_tr st_146 ?_
        obtain ⟨rfl, Nq_146, eq_146⟩ := hQ_146
        have N_146 := Fr.app N_143 Nq_146
        show own_Go p e below _ T_146 (mkF m 256 #[.val (.int x0), .val (.int x1), .val (.int x2), .val (.ref a_1), .val (.ref a_30), .val (.ref a_67), .val (.int (x2 &&& (7 : Int32))), .val (.ref a_67), .val (.int (1 : Int32)), .val (.int (1 : Int32)), .val (.ref a_67)] [(.int (1 : Int32))])
        refine own_iload X_146 hx (hb hby at_256) (pc' := 258) rfl rfl ?_
        refine own_icmpN X_146 hx (hb hby at_258) (by decide) (pc' := 261) rfl ?_
        refine own_iconst X_146 hx (1) (hb hby at_261) (pc' := 262) rfl rfl ?_
        refine own_goto X_146 hx (hb hby at_262) (pc' := 266) (by decide) (by decide) ?_
        refine own_istore X_146 hx (hb hby at_266) (pc' := 268) (Ls' := #[.val (.int x0), .val (.int x1), .val (.int x2), .val (.ref a_1), .val (.ref a_30), .val (.ref a_67), .val (.int (x2 &&& (7 : Int32))), .val (.ref a_67), .val (.int (1 : Int32)), .val (.int (1 : Int32)), .val (.ref a_67)]) rfl rfl ?_
        refine own_iload X_146 hx (hb hby at_268) (pc' := 270) rfl rfl ?_
        refine own_retZW X_146 hS (by rw [eq_146]; exact (Nat.le_refl _)) hx hlk Bd.returns (by simp) (hb hby at_270) (by decide) (by decide) ?_
        exact ⟨rfl, N_146⟩
      · skip
        refine own_icmpY X_76 hx (hb hby at_99) (XT.ii_ne_t c_142) (pc' := 112) (by decide) (by decide) ?_
        refine own_iload X_76 hx (hb hby at_112) (pc' := 114) rfl rfl ?_
        refine own_iconst X_76 hx (3) (hb hby at_114) (pc' := 115) rfl rfl ?_
        by_cases c_147 : (x2 &&& (7 : Int32)) = (3 : Int32)
        · skip
          refine own_icmpN X_76 hx (hb hby at_115) (XT.ii_ne_f c_147) (pc' := 118) rfl ?_
          refine own_aloadN X_76 hx (hb hby at_118) (pc' := 119) rfl rfl rfl ?_
          refine own_astore X_76 hx (hb hby at_119) (pc' := 121) (Ls' := #[.val (.int x0), .val (.int x1), .val (.int x2), .val (.ref a_1), .val (.ref a_30), .val (.ref a_67), .val (.int (x2 &&& (7 : Int32))), .val (.ref a_1), .unset, .unset, .unset]) rfl rfl rfl ?_
          refine own_iconst X_76 hx (0) (hb hby at_121) (pc' := 122) rfl rfl ?_
          refine own_istore X_76 hx (hb hby at_122) (pc' := 124) (Ls' := #[.val (.int x0), .val (.int x1), .val (.int x2), .val (.ref a_1), .val (.ref a_30), .val (.ref a_67), .val (.int (x2 &&& (7 : Int32))), .val (.ref a_1), .val (.int (0 : Int32)), .unset, .unset]) rfl rfl ?_
          refine own_goto X_76 hx (hb hby at_124) (pc' := 210) (by decide) (by decide) ?_
          refine own_aload X_76 hx (hb hby at_210) (pc' := 212) rfl rfl rfl ?_
          refine own_aload X_76 hx (hb hby at_212) (pc' := 214) rfl rfl rfl ?_
          obtain ⟨cq_148, kq_148, qa_148, qb_148, qc_148⟩ := isOf hZ rfl A_85
          obtain ⟨_, _, ⟨T_148, L_148, k_148, n_148⟩, -, X_148, ⟨Lc_148, hQ_148, l_148, y_148, z_148⟩, st_148⟩ := X_76.virtualBack hx  (y := (⟨"com/example/goalwright/goalwright/model/OpaqueValue", "equals", "(Ljava/lang/Object;)Z"⟩ : MethodName)) (z := (⟨"com/example/goalwright/goalwright/model/OpaqueValue", "equals", "(Ljava/lang/Object;)Z"⟩ : MethodName)) hown (mvT hZ (hw _ (List.mem_of_getElem? (i := 90) rfl))) (mvT hZ (hw _ (List.mem_of_getElem? (i := 91) rfl))) (notFace_of_selects (args := #[]) (mvT hZ (hw _ (List.mem_of_getElem? (i := 93) rfl)))) (mvT hZ (hw _ (List.mem_of_getElem? (i := 93) rfl))) (mvT hZ (hw _ (List.mem_of_getElem? (i := 92) rfl))) (by decide) (backOf (W := 0) (rm18 l Z a0 hw [] a_67 a_1 T_76.heap n0 Z_78 A_83) hZ (hw _ (List.mem_of_getElem? (i := 94) rfl)) (hw _ (List.mem_of_getElem? (i := 66) rfl)) (by decide) (by decide)) qa_148 qc_148 (g := (mkF m 214 #[.val (.int x0), .val (.int x1), .val (.int x2), .val (.ref a_1), .val (.ref a_30), .val (.ref a_67), .val (.int (x2 &&& (7 : Int32))), .val (.ref a_1), .val (.int (0 : Int32)), .unset, .unset] [(.ref a_1), (.ref a_67)])) rfl (by rw [hml]; rfl) (Steps.refl _) (argsL := [(.ref a_1)]) (rest := []) (lenOf pd0_2 rfl) rfl (by show 2 * 0 + _ ≤ _; exact Nat.le_of_eq rfl) (hb hby at_214) (fun _ _ => ⟨rfl, rfl, (by decide : 9 + 0 ≤ _), (by decide : 57 + 0 ≤ _)⟩)
          dsimp only [Pt.U, Pt.locs, Pt.cells, Pt.slots] at X_148 l_148 y_148 z_148 st_148 hQ_148
          subst l_148 y_148 z_148
          refine own_tr st_148 ?_
          obtain ⟨rfl, Nq_148, eq_148⟩ := hQ_148
          have N_148 := Fr.app N_76 Nq_148
          show own_Go p e below _ T_148 (mkF m 217 #[.val (.int x0), .val (.int x1), .val (.int x2), .val (.ref a_1), .val (.ref a_30), .val (.ref a_67), .val (.int (x2 &&& (7 : Int32))), .val (.ref a_1), .val (.int (0 : Int32)), .unset, .unset] [(.int (0 : Int32))])
          refine own_iload X_148 hx (hb hby at_217) (pc' := 219) rfl rfl ?_
          refine own_icmpN X_148 hx (hb hby at_219) (by decide) (pc' := 222) rfl ?_
          refine own_iconst X_148 hx (1) (hb hby at_222) (pc' := 223) rfl rfl ?_
          refine own_goto X_148 hx (hb hby at_223) (pc' := 227) (by decide) (by decide) ?_
          refine own_istore X_148 hx (hb hby at_227) (pc' := 229) (Ls' := #[.val (.int x0), .val (.int x1), .val (.int x2), .val (.ref a_1), .val (.ref a_30), .val (.ref a_67), .val (.int (x2 &&& (7 : Int32))), .val (.ref a_1), .val (.int (0 : Int32)), .val (.int (1 : Int32)), .unset]) rfl rfl ?_
          refine own_aload X_148 hx (hb hby at_229) (pc' := 231) rfl rfl rfl ?_
          obtain ⟨T_149, X_149, e_149, st_149⟩ := instNo X_148 hx hZ hown (hw _ (List.mem_of_getElem? (i := 64) rfl)) eq_148 A_83 (own_NSno (hw _ (List.mem_of_getElem? (i := 97) rfl)) (hw _ (List.mem_of_getElem? (i := 65) rfl)) (NS.step (hw _ (List.mem_of_getElem? (i := 97) rfl)) (NS.step (hw _ (List.mem_of_getElem? (i := 98) rfl)) (NS.step (hw _ (List.mem_of_getElem? (i := 99) rfl)) (own_NSroot (hw _ (List.mem_of_getElem? (i := 100) rfl)) (hw _ (List.mem_of_getElem? (i := 65) rfl)) (by decide)) (by decide)) (by decide)) (by decide)) (by decide)) (g := (mkF m 231 #[.val (.int x0), .val (.int x1), .val (.int x2), .val (.ref a_1), .val (.ref a_30), .val (.ref a_67), .val (.int (x2 &&& (7 : Int32))), .val (.ref a_1), .val (.int (0 : Int32)), .val (.int (1 : Int32)), .unset] [(.ref a_1)])) rfl rfl (hb hby at_231)
          refine own_st st_149 ?_
          show own_Go p e below _ T_149 (mkF m 234 #[.val (.int x0), .val (.int x1), .val (.int x2), .val (.ref a_1), .val (.ref a_30), .val (.ref a_67), .val (.int (x2 &&& (7 : Int32))), .val (.ref a_1), .val (.int (0 : Int32)), .val (.int (1 : Int32)), .unset] [(.int (0 : Int32))])
          refine own_ifY X_149 hx (hb hby at_234) (by decide) (pc' := 268) (by decide) (by decide) ?_
          refine own_iload X_149 hx (hb hby at_268) (pc' := 270) rfl rfl ?_
          refine own_retZW X_149 hS (by rw [e_149]; exact (Nat.le_refl _)) hx hlk Bd.returns (by simp) (hb hby at_270) (by decide) (by decide) ?_
          exact ⟨rfl, N_148⟩
        · skip
          refine own_icmpY X_76 hx (hb hby at_115) (XT.ii_ne_t c_147) (pc' := 127) (by decide) (by decide) ?_
          refine own_iload X_76 hx (hb hby at_127) (pc' := 129) rfl rfl ?_
          refine own_iconst X_76 hx (4) (hb hby at_129) (pc' := 130) rfl rfl ?_
          by_cases c_150 : (x2 &&& (7 : Int32)) = (4 : Int32)
          · skip
            refine own_icmpN X_76 hx (hb hby at_130) (XT.ii_ne_f c_150) (pc' := 133) rfl ?_
            refine own_null X_76 hx (hb hby at_133) (pc' := 134) rfl ?_
            refine own_astore X_76 hx (hb hby at_134) (pc' := 136) (Ls' := #[.val (.int x0), .val (.int x1), .val (.int x2), .val (.ref a_1), .val (.ref a_30), .val (.ref a_67), .val (.int (x2 &&& (7 : Int32))), .val (.null), .unset, .unset, .unset]) rfl rfl rfl ?_
            refine own_iconst X_76 hx (0) (hb hby at_136) (pc' := 137) rfl rfl ?_
            refine own_istore X_76 hx (hb hby at_137) (pc' := 139) (Ls' := #[.val (.int x0), .val (.int x1), .val (.int x2), .val (.ref a_1), .val (.ref a_30), .val (.ref a_67), .val (.int (x2 &&& (7 : Int32))), .val (.null), .val (.int (0 : Int32)), .unset, .unset]) rfl rfl ?_
            refine own_goto X_76 hx (hb hby at_139) (pc' := 210) (by decide) (by decide) ?_
            refine own_aload X_76 hx (hb hby at_210) (pc' := 212) rfl rfl rfl ?_
            refine own_aload X_76 hx (hb hby at_212) (pc' := 214) rfl rfl rfl ?_
            obtain ⟨cq_151, kq_151, qa_151, qb_151, qc_151⟩ := isOf hZ rfl A_85
            obtain ⟨_, _, ⟨T_151, L_151, k_151, n_151⟩, -, X_151, ⟨Lc_151, hQ_151, l_151, y_151, z_151⟩, st_151⟩ := X_76.virtualBack hx  (y := (⟨"com/example/goalwright/goalwright/model/OpaqueValue", "equals", "(Ljava/lang/Object;)Z"⟩ : MethodName)) (z := (⟨"com/example/goalwright/goalwright/model/OpaqueValue", "equals", "(Ljava/lang/Object;)Z"⟩ : MethodName)) hown (mvT hZ (hw _ (List.mem_of_getElem? (i := 90) rfl))) (mvT hZ (hw _ (List.mem_of_getElem? (i := 91) rfl))) (notFace_of_selects (args := #[]) (mvT hZ (hw _ (List.mem_of_getElem? (i := 93) rfl)))) (mvT hZ (hw _ (List.mem_of_getElem? (i := 93) rfl))) (mvT hZ (hw _ (List.mem_of_getElem? (i := 92) rfl))) (by decide) (backOf (W := 0) (rm20 l Z a0 hw [] a_67 T_76.heap n0 Z_78) hZ (hw _ (List.mem_of_getElem? (i := 94) rfl)) (hw _ (List.mem_of_getElem? (i := 66) rfl)) (by decide) (by decide)) qa_151 qc_151 (g := (mkF m 214 #[.val (.int x0), .val (.int x1), .val (.int x2), .val (.ref a_1), .val (.ref a_30), .val (.ref a_67), .val (.int (x2 &&& (7 : Int32))), .val (.null), .val (.int (0 : Int32)), .unset, .unset] [(.null), (.ref a_67)])) rfl (by rw [hml]; rfl) (Steps.refl _) (argsL := [(.null)]) (rest := []) (lenOf pd0_2 rfl) rfl (by show 2 * 0 + _ ≤ _; exact Nat.le_of_eq rfl) (hb hby at_214) (fun _ _ => ⟨rfl, rfl, (by decide : 9 + 0 ≤ _), (by decide : 57 + 0 ≤ _)⟩)
            dsimp only [Pt.U, Pt.locs, Pt.cells, Pt.slots] at X_151 l_151 y_151 z_151 st_151 hQ_151
            subst l_151 y_151 z_151
            refine own_tr st_151 ?_
            obtain ⟨rfl, Nq_151, eq_151⟩ := hQ_151
            have N_151 := Fr.app N_76 Nq_151
            show own_Go p e below _ T_151 (mkF m 217 #[.val (.int x0), .val (.int x1), .val (.int x2), .val (.ref a_1), .val (.ref a_30), .val (.ref a_67), .val (.int (x2 &&& (7 : Int32))), .val (.null), .val (.int (0 : Int32)), .unset, .unset] [(.int (0 : Int32))])
            refine own_iload X_151 hx (hb hby at_217) (pc' := 219) rfl rfl ?_
            refine own_icmpN X_151 hx (hb hby at_219) (by decide) (pc' := 222) rfl ?_
            refine own_iconst X_151 hx (1) (hb hby at_222) (pc' := 223) rfl rfl ?_
            refine own_goto X_151 hx (hb hby at_223) (pc' := 227) (by decide) (by decide) ?_
            refine own_istore X_151 hx (hb hby at_227) (pc' := 229) (Ls' := #[.val (.int x0), .val (.int x1), .val (.int x2), .val (.ref a_1), .val (.ref a_30), .val (.ref a_67), .val (.int (x2 &&& (7 : Int32))), .val (.null), .val (.int (0 : Int32)), .val (.int (1 : Int32)), .unset]) rfl rfl ?_
            refine own_aload X_151 hx (hb hby at_229) (pc' := 231) rfl rfl rfl ?_
            refine own_st (X_151.instanceofNull hx (g := (mkF m 231 #[.val (.int x0), .val (.int x1), .val (.int x2), .val (.ref a_1), .val (.ref a_30), .val (.ref a_67), .val (.int (x2 &&& (7 : Int32))), .val (.null), .val (.int (0 : Int32)), .val (.int (1 : Int32)), .unset] [(.null)])) rfl rfl (hb hby at_231)) ?_
            show own_Go p e below _ T_151 (mkF m 234 #[.val (.int x0), .val (.int x1), .val (.int x2), .val (.ref a_1), .val (.ref a_30), .val (.ref a_67), .val (.int (x2 &&& (7 : Int32))), .val (.null), .val (.int (0 : Int32)), .val (.int (1 : Int32)), .unset] [(.int (0 : Int32))])
            refine own_ifY X_151 hx (hb hby at_234) (by decide) (pc' := 268) (by decide) (by decide) ?_
            refine own_iload X_151 hx (hb hby at_268) (pc' := 270) rfl rfl ?_
            refine own_retZW X_151 hS (by rw [eq_151]; exact (Nat.le_refl _)) hx hlk Bd.returns (by simp) (hb hby at_270) (by decide) (by decide) ?_
            exact ⟨rfl, N_151⟩
          · skip
            refine own_icmpY X_76 hx (hb hby at_130) (XT.ii_ne_t c_150) (pc' := 142) (by decide) (by decide) ?_
            refine own_iload X_76 hx (hb hby at_142) (pc' := 144) rfl rfl ?_
            refine own_iconst X_76 hx (5) (hb hby at_144) (pc' := 145) rfl rfl ?_
            by_cases c_153 : (x2 &&& (7 : Int32)) = (5 : Int32)
            · skip
              refine own_icmpN X_76 hx (hb hby at_145) (XT.ii_ne_f c_153) (pc' := 148) rfl ?_
              obtain ⟨T_154, h_154, X_154, e_154, E_154, A_154, D_154, -, st_154⟩ := newO X_76 hx hZ hown (hw _ (List.mem_of_getElem? (i := 116) rfl)) (hw _ (List.mem_of_getElem? (i := 117) rfl)) (hw _ (List.mem_of_getElem? (i := 118) rfl)) rfl (g := (mkF m 148 #[.val (.int x0), .val (.int x1), .val (.int x2), .val (.ref a_1), .val (.ref a_30), .val (.ref a_67), .val (.int (x2 &&& (7 : Int32))), .unset, .unset, .unset, .unset] [])) rfl (hb hby at_148) (by decide) (by decide)
              obtain ⟨a_154, g_154⟩ : ∃ z, z = T_76.heap.size := ⟨_, rfl⟩
              rw [← g_154] at A_154 D_154 st_154
              have ge_154 : n0 ≤ a_154 := Nat.le_trans Z_78 (Nat.le_of_eq g_154.symm)
              have ne_154_a_67 : a_67 ≠ a_154 := Nat.ne_of_lt (Nat.lt_of_lt_of_eq F_77.lt g_154.symm)
              have ne_154_r_49 : r_49 ≠ a_154 := Nat.ne_of_lt (Nat.lt_of_lt_of_eq A_79.lt g_154.symm)
              have ne_154_r_16 : r_16 ≠ a_154 := Nat.ne_of_lt (Nat.lt_of_lt_of_eq A_80.lt g_154.symm)
              have ne_154_da : da ≠ a_154 := Nat.ne_of_lt (Nat.lt_of_lt_of_eq V_82.lt g_154.symm)
              have ne_154_a_1 : a_1 ≠ a_154 := Nat.ne_of_lt (Nat.lt_of_lt_of_eq A_83.lt g_154.symm)
              have ne_154_a_30 : a_30 ≠ a_154 := Nat.ne_of_lt (Nat.lt_of_lt_of_eq A_84.lt g_154.symm)
              have F_156 : Fld Z h_154 a_67 "com/example/goalwright/goalwright/model/OpaqueValue" "object" "Ljava/lang/Object;" (.ref a_1) := F_77.ext E_154
              have A_157 : Exa Z h_154 r_49 "java/lang/Integer" := A_79.ext E_154
              have A_158 : Exa Z h_154 r_16 "java/lang/Integer" := A_80.ext E_154
              have O_159 : Old Z n0 h_154 := O_81.ext E_154
              have V_160 : own_Len Z h_154 da (.object "java/lang/Object") (0 : Int32) := V_82.ext E_154
              have A_161 : Exa Z h_154 a_1 "java/util/ArrayList" := A_83.ext E_154
              have A_162 : Exa Z h_154 a_30 "java/util/ArrayList" := A_84.ext E_154
              have A_163 : Exa Z h_154 a_67 "com/example/goalwright/goalwright/model/OpaqueValue" := A_85.ext E_154
              have Z_155 : n0 ≤ h_154.size := Nat.le_trans Z_78 E_154.1
              have K1_155 := Nat.le_trans (Nat.le_refl _) E_154.1
              have F_164 : Fld Z h_154 a_154 "com/example/goalwright/goalwright/model/IntegerValue" "value" "J" (.long (0 : Int64)) := D_154 (Or.inr (hw _ (List.mem_of_getElem? (i := 124) rfl))) (ty := .long) (by decide)
              refine own_st st_154 ?_
              show own_Go p e below _ T_154 (mkF m 151 #[.val (.int x0), .val (.int x1), .val (.int x2), .val (.ref a_1), .val (.ref a_30), .val (.ref a_67), .val (.int (x2 &&& (7 : Int32))), .unset, .unset, .unset, .unset] [(.ref a_154)])
              refine own_dup X_154 hx (hb hby at_151) (pc' := 152) rfl rfl ?_
              refine own_iloadN X_154 hx (hb hby at_152) (pc' := 153) rfl rfl ?_
              refine own_i2l X_154 hx (hb hby at_153) (pc' := 154) rfl ?_
              obtain ⟨_, _, ⟨T_165, L_165, k_165, n_165⟩, -, X_165, ⟨Lc_165, hQ_165, l_165, y_165, z_165⟩, st_165⟩ := X_154.specialBack hx  (y := (⟨"com/example/goalwright/goalwright/model/IntegerValue", "<init>", "(J)V"⟩ : MethodName)) rfl hown (mvT hZ (hw _ (List.mem_of_getElem? (i := 119) rfl))) (mvT hZ (hw _ (List.mem_of_getElem? (i := 120) rfl))) (mvT hZ (hw _ (List.mem_of_getElem? (i := 121) rfl))) (by decide) (backOf (W := 1) (rm13 l Z a0 hw [] a_154 x0.toInt64 h_154 n0 Z_155 A_154 F_164 ge_154) hZ (hw _ (List.mem_of_getElem? (i := 121) rfl)) (hw _ (List.mem_of_getElem? (i := 118) rfl)) (by decide) (by decide)) (g := (mkF m 154 #[.val (.int x0), .val (.int x1), .val (.int x2), .val (.ref a_1), .val (.ref a_30), .val (.ref a_67), .val (.int (x2 &&& (7 : Int32))), .unset, .unset, .unset, .unset] [(.long x0.toInt64), (.ref a_154), (.ref a_154)])) rfl (by rw [hml]; rfl) (Steps.refl _) (a := a_154) (argsL := [(.long x0.toInt64)]) (rest := [(.ref a_154)]) (lenOf pd0_4 rfl) rfl (by show 2 * 0 + _ ≤ _; exact Nat.le_of_eq rfl) (hb hby at_154) (fun _ _ => ⟨rfl, e_154, (by decide : 10 + 0 ≤ _), (by decide : 58 + 0 ≤ _)⟩)
              dsimp only [Pt.U, Pt.locs, Pt.cells, Pt.slots] at X_165 l_165 y_165 z_165 st_165 hQ_165
              subst l_165 y_165 z_165
              refine own_tr st_165 ?_
              obtain ⟨rfl, Nq_165, Kq_165⟩ := hQ_165
              have N_165 := Fr.app N_76 Nq_165
              have F_167 : Fld Z T_165.heap a_67 "com/example/goalwright/goalwright/model/OpaqueValue" "object" "Ljava/lang/Object;" (.ref a_1) := F_156.keep Kq_165 (ninS ne_154_a_67 nin0)
              have A_168 : Exa Z T_165.heap r_49 "java/lang/Integer" := A_157.keep Kq_165
              have A_169 : Exa Z T_165.heap r_16 "java/lang/Integer" := A_158.keep Kq_165
              have O_170 : Old Z n0 T_165.heap := O_159.keep Kq_165 (allS ge_154 all0)
              have V_171 : own_Len Z T_165.heap da (.object "java/lang/Object") (0 : Int32) := V_160.keep Kq_165
              have A_172 : Exa Z T_165.heap a_1 "java/util/ArrayList" := A_161.keep Kq_165
              have A_173 : Exa Z T_165.heap a_30 "java/util/ArrayList" := A_162.keep Kq_165
              have A_174 : Exa Z T_165.heap a_67 "com/example/goalwright/goalwright/model/OpaqueValue" := A_163.keep Kq_165
              have A_175 : Exa Z T_165.heap a_154 "com/example/goalwright/goalwright/model/IntegerValue" := A_154.keep Kq_165
              have Z_166 : n0 ≤ T_165.heap.size := Nat.le_trans Z_155 Kq_165.1
              have K1_166 := Nat.le_trans K1_155 Kq_165.1
              show own_Go p e below _ T_165 (mkF m 157 #[.val (.int x0), .val (.int x1), .val (.int x2), .val (.ref a_1), .val (.ref a_30), .val (.ref a_67), .val (.int (x2 &&& (7 : Int32))), .unset, .unset, .unset, .unset] [(.ref a_154)])
              refine own_astore X_165 hx (hb hby at_157) (pc' := 159) (Ls' := #[.val (.int x0), .val (.int x1), .val (.int x2), .val (.ref a_1), .val (.ref a_30), .val (.ref a_67), .val (.int (x2 &&& (7 : Int32))), .val (.ref a_154), .unset, .unset, .unset]) rfl rfl rfl ?_
              refine own_iconst X_165 hx (0) (hb hby at_159) (pc' := 160) rfl rfl ?_
              refine own_istore X_165 hx (hb hby at_160) (pc' := 162) (Ls' := #[.val (.int x0), .val (.int x1), .val (.int x2), .val (.ref a_1), .val (.ref a_30), .val (.ref a_67), .val (.int (x2 &&& (7 : Int32))), .val (.ref a_154), .val (.int (0 : Int32)), .unset, .unset]) rfl rfl ?_
              refine own_goto X_165 hx (hb hby at_162) (pc' := 210) (by decide) (by decide) ?_
              refine own_aload X_165 hx (hb hby at_210) (pc' := 212) rfl rfl rfl ?_
              refine own_aload X_165 hx (hb hby at_212) (pc' := 214) rfl rfl rfl ?_
              obtain ⟨cq_176, kq_176, qa_176, qb_176, qc_176⟩ := isOf hZ rfl A_174
              obtain ⟨_, _, ⟨T_176, L_176, k_176, n_176⟩, -, X_176, ⟨Lc_176, hQ_176, l_176, y_176, z_176⟩, st_176⟩ := X_165.virtualBack hx  (y := (⟨"com/example/goalwright/goalwright/model/OpaqueValue", "equals", "(Ljava/lang/Object;)Z"⟩ : MethodName)) (z := (⟨"com/example/goalwright/goalwright/model/OpaqueValue", "equals", "(Ljava/lang/Object;)Z"⟩ : MethodName)) hown (mvT hZ (hw _ (List.mem_of_getElem? (i := 90) rfl))) (mvT hZ (hw _ (List.mem_of_getElem? (i := 91) rfl))) (notFace_of_selects (args := #[]) (mvT hZ (hw _ (List.mem_of_getElem? (i := 93) rfl)))) (mvT hZ (hw _ (List.mem_of_getElem? (i := 93) rfl))) (mvT hZ (hw _ (List.mem_of_getElem? (i := 92) rfl))) (by decide) (backOf (W := 0) (rm19 l Z a0 hw [] a_67 a_154 T_165.heap n0 Z_166 A_175) hZ (hw _ (List.mem_of_getElem? (i := 94) rfl)) (hw _ (List.mem_of_getElem? (i := 66) rfl)) (by decide) (by decide)) qa_176 qc_176 (g := (mkF m 214 #[.val (.int x0), .val (.int x1), .val (.int x2), .val (.ref a_1), .val (.ref a_30), .val (.ref a_67), .val (.int (x2 &&& (7 : Int32))), .val (.ref a_154), .val (.int (0 : Int32)), .unset, .unset] [(.ref a_154), (.ref a_67)])) rfl (by rw [hml]; rfl) (Steps.refl _) (argsL := [(.ref a_154)]) (rest := []) (lenOf pd0_2 rfl) rfl (by show 2 * 0 + _ ≤ _; exact Nat.le_of_eq rfl) (hb hby at_214) (fun _ _ => ⟨rfl, rfl, (by decide : 10 + 0 ≤ _), (by decide : 58 + 0 ≤ _)⟩)
              dsimp only [Pt.U, Pt.locs, Pt.cells, Pt.slots] at X_176 l_176 y_176 z_176 st_176 hQ_176
              subst l_176 y_176 z_176
              refine own_tr st_176 ?_
              obtain ⟨rfl, Nq_176, eq_176⟩ := hQ_176
              have N_176 := Fr.app N_165 Nq_176
              show own_Go p e below _ T_176 (mkF m 217 #[.val (.int x0), .val (.int x1), .val (.int x2), .val (.ref a_1), .val (.ref a_30), .val (.ref a_67), .val (.int (x2 &&& (7 : Int32))), .val (.ref a_154), .val (.int (0 : Int32)), .unset, .unset] [(.int (0 : Int32))])
              refine own_iload X_176 hx (hb hby at_217) (pc' := 219) rfl rfl ?_
              refine own_icmpN X_176 hx (hb hby at_219) (by decide) (pc' := 222) rfl ?_
              refine own_iconst X_176 hx (1) (hb hby at_222) (pc' := 223) rfl rfl ?_
              refine own_goto X_176 hx (hb hby at_223) (pc' := 227) (by decide) (by decide) ?_
              refine own_istore X_176 hx (hb hby at_227) (pc' := 229) (Ls' := #[.val (.int x0), .val (.int x1), .val (.int x2), .val (.ref a_1), .val (.ref a_30), .val (.ref a_67), .val (.int (x2 &&& (7 : Int32))), .val (.ref a_154), .val (.int (0 : Int32)), .val (.int (1 : Int32)), .unset]) rfl rfl ?_
              refine own_aload X_176 hx (hb hby at_229) (pc' := 231) rfl rfl rfl ?_
              obtain ⟨T_177, X_177, e_177, st_177⟩ := instNo X_176 hx hZ hown (hw _ (List.mem_of_getElem? (i := 64) rfl)) eq_176 A_175 (own_NSno (hw _ (List.mem_of_getElem? (i := 125) rfl)) (hw _ (List.mem_of_getElem? (i := 65) rfl)) (NS.step (hw _ (List.mem_of_getElem? (i := 125) rfl)) (NS.step (hw _ (List.mem_of_getElem? (i := 126) rfl)) (own_NSroot (hw _ (List.mem_of_getElem? (i := 100) rfl)) (hw _ (List.mem_of_getElem? (i := 65) rfl)) (by decide)) (by decide)) (by decide)) (by decide)) (g := (mkF m 231 #[.val (.int x0), .val (.int x1), .val (.int x2), .val (.ref a_1), .val (.ref a_30), .val (.ref a_67), .val (.int (x2 &&& (7 : Int32))), .val (.ref a_154), .val (.int (0 : Int32)), .val (.int (1 : Int32)), .unset] [(.ref a_154)])) rfl rfl (hb hby at_231)
              refine own_st st_177 ?_
              show own_Go p e below _ T_177 (mkF m 234 #[.val (.int x0), .val (.int x1), .val (.int x2), .val (.ref a_1), .val (.ref a_30), .val (.ref a_67), .val (.int (x2 &&& (7 : Int32))), .val (.ref a_154), .val (.int (0 : Int32)), .val (.int (1 : Int32)), .unset] [(.int (0 : Int32))])
              refine own_ifY X_177 hx (hb hby at_234) (by decide) (pc' := 268) (by decide) (by decide) ?_
              refine own_iload X_177 hx (hb hby at_268) (pc' := 270) rfl rfl ?_
              refine own_retZW X_177 hS (by rw [e_177]; exact K1_166) hx hlk Bd.returns (by simp) (hb hby at_270) (by decide) (by decide) ?_
              exact ⟨rfl, N_176⟩
            · skip
              refine own_icmpY X_76 hx (hb hby at_145) (XT.ii_ne_t c_153) (pc' := 165) (by decide) (by decide) ?_
              refine own_iload X_76 hx (hb hby at_165) (pc' := 167) rfl rfl ?_
              refine own_bipush X_76 hx (6) (hb hby at_167) (pc' := 169) rfl (by decide) ?_
              by_cases c_178 : (x2 &&& (7 : Int32)) = (6 : Int32)
              · skip
                refine own_icmpN X_76 hx (hb hby at_169) (XT.ii_ne_f c_178) (pc' := 172) rfl ?_
                obtain ⟨T_179, h_179, X_179, e_179, E_179, A_179, D_179, -, st_179⟩ := newO X_76 hx hZ hown (hw _ (List.mem_of_getElem? (i := 64) rfl)) (hw _ (List.mem_of_getElem? (i := 65) rfl)) (hw _ (List.mem_of_getElem? (i := 66) rfl)) rfl (g := (mkF m 172 #[.val (.int x0), .val (.int x1), .val (.int x2), .val (.ref a_1), .val (.ref a_30), .val (.ref a_67), .val (.int (x2 &&& (7 : Int32))), .unset, .unset, .unset, .unset] [])) rfl (hb hby at_172) (by decide) (by decide)
                obtain ⟨a_179, g_179⟩ : ∃ z, z = T_76.heap.size := ⟨_, rfl⟩
                rw [← g_179] at A_179 D_179 st_179
                have ge_179 : n0 ≤ a_179 := Nat.le_trans Z_78 (Nat.le_of_eq g_179.symm)
                have ne_179_a_67 : a_67 ≠ a_179 := Nat.ne_of_lt (Nat.lt_of_lt_of_eq F_77.lt g_179.symm)
                have ne_179_r_49 : r_49 ≠ a_179 := Nat.ne_of_lt (Nat.lt_of_lt_of_eq A_79.lt g_179.symm)
                have ne_179_r_16 : r_16 ≠ a_179 := Nat.ne_of_lt (Nat.lt_of_lt_of_eq A_80.lt g_179.symm)
                have ne_179_da : da ≠ a_179 := Nat.ne_of_lt (Nat.lt_of_lt_of_eq V_82.lt g_179.symm)
                have ne_179_a_1 : a_1 ≠ a_179 := Nat.ne_of_lt (Nat.lt_of_lt_of_eq A_83.lt g_179.symm)
                have ne_179_a_30 : a_30 ≠ a_179 := Nat.ne_of_lt (Nat.lt_of_lt_of_eq A_84.lt g_179.symm)
                have F_181 : Fld Z h_179 a_67 "com/example/goalwright/goalwright/model/OpaqueValue" "object" "Ljava/lang/Object;" (.ref a_1) := F_77.ext E_179
                have A_182 : Exa Z h_179 r_49 "java/lang/Integer" := A_79.ext E_179
                have A_183 : Exa Z h_179 r_16 "java/lang/Integer" := A_80.ext E_179
                have O_184 : Old Z n0 h_179 := O_81.ext E_179
                have V_185 : own_Len Z h_179 da (.object "java/lang/Object") (0 : Int32) := V_82.ext E_179
                have A_186 : Exa Z h_179 a_1 "java/util/ArrayList" := A_83.ext E_179
                have A_187 : Exa Z h_179 a_30 "java/util/ArrayList" := A_84.ext E_179
                have A_188 : Exa Z h_179 a_67 "com/example/goalwright/goalwright/model/OpaqueValue" := A_85.ext E_179
                have Z_180 : n0 ≤ h_179.size := Nat.le_trans Z_78 E_179.1
                have K1_180 := Nat.le_trans (Nat.le_refl _) E_179.1
                have F_189 : Fld Z h_179 a_179 "com/example/goalwright/goalwright/model/OpaqueValue" "object" "Ljava/lang/Object;" (.null) := D_179 (Or.inr (hw _ (List.mem_of_getElem? (i := 89) rfl))) (ty := (.object "java/lang/Object")) (by decide)
                refine own_st st_179 ?_
                show own_Go p e below _ T_179 (mkF m 175 #[.val (.int x0), .val (.int x1), .val (.int x2), .val (.ref a_1), .val (.ref a_30), .val (.ref a_67), .val (.int (x2 &&& (7 : Int32))), .unset, .unset, .unset, .unset] [(.ref a_179)])
                refine own_dup X_179 hx (hb hby at_175) (pc' := 176) rfl rfl ?_
                obtain ⟨T_190, h_190, X_190, e_190, E_190, A_190, D_190, -, st_190⟩ := newO X_179 hx hZ hown (hw _ (List.mem_of_getElem? (i := 116) rfl)) (hw _ (List.mem_of_getElem? (i := 117) rfl)) (hw _ (List.mem_of_getElem? (i := 118) rfl)) e_179 (g := (mkF m 176 #[.val (.int x0), .val (.int x1), .val (.int x2), .val (.ref a_1), .val (.ref a_30), .val (.ref a_67), .val (.int (x2 &&& (7 : Int32))), .unset, .unset, .unset, .unset] [(.ref a_179), (.ref a_179)])) rfl (hb hby at_176) (by decide) (by decide)
                obtain ⟨a_190, g_190⟩ : ∃ z, z = h_179.size := ⟨_, rfl⟩
                rw [← g_190] at A_190 D_190 st_190
                have ge_190 : n0 ≤ a_190 := Nat.le_trans Z_180 (Nat.le_of_eq g_190.symm)
                have ne_190_a_67 : a_67 ≠ a_190 := Nat.ne_of_lt (Nat.lt_of_lt_of_eq F_181.lt g_190.symm)
                have ne_190_r_49 : r_49 ≠ a_190 := Nat.ne_of_lt (Nat.lt_of_lt_of_eq A_182.lt g_190.symm)
                have ne_190_r_16 : r_16 ≠ a_190 := Nat.ne_of_lt (Nat.lt_of_lt_of_eq A_183.lt g_190.symm)
                have ne_190_da : da ≠ a_190 := Nat.ne_of_lt (Nat.lt_of_lt_of_eq V_185.lt g_190.symm)
                have ne_190_a_1 : a_1 ≠ a_190 := Nat.ne_of_lt (Nat.lt_of_lt_of_eq A_186.lt g_190.symm)
                have ne_190_a_30 : a_30 ≠ a_190 := Nat.ne_of_lt (Nat.lt_of_lt_of_eq A_187.lt g_190.symm)
                have ne_190_a_179 : a_179 ≠ a_190 := Nat.ne_of_lt (Nat.lt_of_lt_of_eq A_179.lt g_190.symm)
                have F_192 : Fld Z h_190 a_67 "com/example/goalwright/goalwright/model/OpaqueValue" "object" "Ljava/lang/Object;" (.ref a_1) := F_181.ext E_190
                have A_193 : Exa Z h_190 r_49 "java/lang/Integer" := A_182.ext E_190
                have A_194 : Exa Z h_190 r_16 "java/lang/Integer" := A_183.ext E_190
                have O_195 : Old Z n0 h_190 := O_184.ext E_190
                have V_196 : own_Len Z h_190 da (.object "java/lang/Object") (0 : Int32) := V_185.ext E_190
                have A_197 : Exa Z h_190 a_1 "java/util/ArrayList" := A_186.ext E_190
                have A_198 : Exa Z h_190 a_30 "java/util/ArrayList" := A_187.ext E_190
                have A_199 : Exa Z h_190 a_67 "com/example/goalwright/goalwright/model/OpaqueValue" := A_188.ext E_190
                have A_200 : Exa Z h_190 a_179 "com/example/goalwright/goalwright/model/OpaqueValue" := A_179.ext E_190
                have F_201 : Fld Z h_190 a_179 "com/example/goalwright/goalwright/model/OpaqueValue" "object" "Ljava/lang/Object;" (.null) := F_189.ext E_190
                have Z_191 : n0 ≤ h_190.size := Nat.le_trans Z_180 E_190.1
                have K1_191 := Nat.le_trans K1_180 E_190.1
                have F_202 : Fld Z h_190 a_190 "com/example/goalwright/goalwright/model/IntegerValue" "value" "J" (.long (0 : Int64)) := D_190 (Or.inr (hw _ (List.mem_of_getElem? (i := 124) rfl))) (ty := .long) (by decide)
                refine own_st st_190 ?_
                show own_Go p e below _ T_190 (mkF m 179 #[.val (.int x0), .val (.int x1), .val (.int x2), .val (.ref a_1), .val (.ref a_30), .val (.ref a_67), .val (.int (x2 &&& (7 : Int32))), .unset, .unset, .unset, .unset] [(.ref a_190), (.ref a_179), (.ref a_179)])
                refine own_dup X_190 hx (hb hby at_179) (pc' := 180) rfl rfl ?_
                refine own_iloadN X_190 hx (hb hby at_180) (pc' := 181) rfl rfl ?_
                refine own_i2l X_190 hx (hb hby at_181) (pc' := 182) rfl ?_
                obtain ⟨_, _, ⟨T_203, L_203, k_203, n_203⟩, -, X_203, ⟨Lc_203, hQ_203, l_203, y_203, z_203⟩, st_203⟩ := X_190.specialBack hx  (y := (⟨"com/example/goalwright/goalwright/model/IntegerValue", "<init>", "(J)V"⟩ : MethodName)) rfl hown (mvT hZ (hw _ (List.mem_of_getElem? (i := 119) rfl))) (mvT hZ (hw _ (List.mem_of_getElem? (i := 120) rfl))) (mvT hZ (hw _ (List.mem_of_getElem? (i := 121) rfl))) (by decide) (backOf (W := 3) (rm13 l Z a0 hw [] a_190 x0.toInt64 h_190 n0 Z_191 A_190 F_202 ge_190) hZ (hw _ (List.mem_of_getElem? (i := 121) rfl)) (hw _ (List.mem_of_getElem? (i := 118) rfl)) (by decide) (by decide)) (g := (mkF m 182 #[.val (.int x0), .val (.int x1), .val (.int x2), .val (.ref a_1), .val (.ref a_30), .val (.ref a_67), .val (.int (x2 &&& (7 : Int32))), .unset, .unset, .unset, .unset] [(.long x0.toInt64), (.ref a_190), (.ref a_190), (.ref a_179), (.ref a_179)])) rfl (by rw [hml]; rfl) (Steps.refl _) (a := a_190) (argsL := [(.long x0.toInt64)]) (rest := [(.ref a_190), (.ref a_179), (.ref a_179)]) (lenOf pd0_4 rfl) rfl (by show 2 * 0 + _ ≤ _; exact Nat.le_of_eq rfl) (hb hby at_182) (fun _ _ => ⟨rfl, e_190, (by decide : 11 + 0 ≤ _), (by decide : 59 + 0 ≤ _)⟩)
                dsimp only [Pt.U, Pt.locs, Pt.cells, Pt.slots] at X_203 l_203 y_203 z_203 st_203 hQ_203
                subst l_203 y_203 z_203
                refine own_tr st_203 ?_
                obtain ⟨rfl, Nq_203, Kq_203⟩ := hQ_203
                have N_203 := Fr.app N_76 Nq_203
                have F_205 : Fld Z T_203.heap a_67 "com/example/goalwright/goalwright/model/OpaqueValue" "object" "Ljava/lang/Object;" (.ref a_1) := F_192.keep Kq_203 (ninS ne_190_a_67 nin0)
                have A_206 : Exa Z T_203.heap r_49 "java/lang/Integer" := A_193.keep Kq_203
                have A_207 : Exa Z T_203.heap r_16 "java/lang/Integer" := A_194.keep Kq_203
                have O_208 : Old Z n0 T_203.heap := O_195.keep Kq_203 (allS ge_190 all0)
                have V_209 : own_Len Z T_203.heap da (.object "java/lang/Object") (0 : Int32) := V_196.keep Kq_203
                have A_210 : Exa Z T_203.heap a_1 "java/util/ArrayList" := A_197.keep Kq_203
                have A_211 : Exa Z T_203.heap a_30 "java/util/ArrayList" := A_198.keep Kq_203
                have A_212 : Exa Z T_203.heap a_67 "com/example/goalwright/goalwright/model/OpaqueValue" := A_199.keep Kq_203
                have A_213 : Exa Z T_203.heap a_179 "com/example/goalwright/goalwright/model/OpaqueValue" := A_200.keep Kq_203
                have F_214 : Fld Z T_203.heap a_179 "com/example/goalwright/goalwright/model/OpaqueValue" "object" "Ljava/lang/Object;" (.null) := F_201.keep Kq_203 (ninS ne_190_a_179 nin0)
                have A_215 : Exa Z T_203.heap a_190 "com/example/goalwright/goalwright/model/IntegerValue" := A_190.keep Kq_203
                have Z_204 : n0 ≤ T_203.heap.size := Nat.le_trans Z_191 Kq_203.1
                have K1_204 := Nat.le_trans K1_191 Kq_203.1
                show own_Go p e below _ T_203 (mkF m 185 #[.val (.int x0), .val (.int x1), .val (.int x2), .val (.ref a_1), .val (.ref a_30), .val (.ref a_67), .val (.int (x2 &&& (7 : Int32))), .unset, .unset, .unset, .unset] [(.ref a_190), (.ref a_179), (.ref a_179)])
                obtain ⟨_, _, ⟨T_216, L_216, k_216, n_216⟩, -, X_216, hs_216, hg_216, ⟨Lc_216, hQ_216, l_216, y_216, z_216⟩, st_216⟩ := X_203.specialBackS hx  (y := (⟨"com/example/goalwright/goalwright/model/OpaqueValue", "<init>", "(Ljava/lang/Object;)V"⟩ : MethodName)) rfl hown (mvT hZ (hw _ (List.mem_of_getElem? (i := 67) rfl))) (mvT hZ (hw _ (List.mem_of_getElem? (i := 68) rfl))) (mvT hZ (hw _ (List.mem_of_getElem? (i := 69) rfl))) (by decide) (backOfS (W := 1) (rm15 l Z a0 hw [] a_179 a_190 T_203.heap n0 Z_204 A_213 F_214 ge_179) hZ (hw _ (List.mem_of_getElem? (i := 69) rfl)) (hw _ (List.mem_of_getElem? (i := 66) rfl)) (by decide) (by decide)) (g := (mkF m 185 #[.val (.int x0), .val (.int x1), .val (.int x2), .val (.ref a_1), .val (.ref a_30), .val (.ref a_67), .val (.int (x2 &&& (7 : Int32))), .unset, .unset, .unset, .unset] [(.ref a_190), (.ref a_179), (.ref a_179)])) rfl (by rw [hml]; rfl) (Steps.refl _) (a := a_179) (argsL := [(.ref a_190)]) (rest := [(.ref a_179)]) (lenOf pd0_3 rfl) rfl (by show 2 * 0 + _ ≤ _; exact Nat.le_of_eq rfl) (hb hby at_185) (fun _ _ => ⟨rfl, rfl, (by decide : 11 + 2 ≤ _), (by decide : 59 + 28 ≤ _)⟩)
                dsimp only [Pt.U, Pt.locs, Pt.cells, Pt.slots] at X_216 l_216 y_216 z_216 st_216 hQ_216 hs_216 hg_216
                subst l_216 y_216 z_216
                refine own_tr st_216 ?_
                obtain ⟨X_216, hS, hZ, hown⟩ := rebS hS (n1 := T_203.heap.size) K1_204 X_216 hs_216 hg_216 hZ hown
                obtain ⟨rfl, Nq_216, Kq_216, q0_216⟩ := hQ_216
                have N_216 := Fr.app N_203 Nq_216
                have F_217 : Fld Z T_216.heap a_179 "com/example/goalwright/goalwright/model/OpaqueValue" "object" "Ljava/lang/Object;" (.ref a_190) := q0_216
                have F_219 : Fld Z T_216.heap a_67 "com/example/goalwright/goalwright/model/OpaqueValue" "object" "Ljava/lang/Object;" (.ref a_1) := F_205.keep Kq_216 (ninS ne_179_a_67 nin0)
                have A_220 : Exa Z T_216.heap r_49 "java/lang/Integer" := A_206.keep Kq_216
                have A_221 : Exa Z T_216.heap r_16 "java/lang/Integer" := A_207.keep Kq_216
                have O_222 : Old Z n0 T_216.heap := O_208.keep Kq_216 (allS ge_179 all0)
                have V_223 : own_Len Z T_216.heap da (.object "java/lang/Object") (0 : Int32) := V_209.keep Kq_216
                have A_224 : Exa Z T_216.heap a_1 "java/util/ArrayList" := A_210.keep Kq_216
                have A_225 : Exa Z T_216.heap a_30 "java/util/ArrayList" := A_211.keep Kq_216
                have A_226 : Exa Z T_216.heap a_67 "com/example/goalwright/goalwright/model/OpaqueValue" := A_212.keep Kq_216
                have A_227 : Exa Z T_216.heap a_179 "com/example/goalwright/goalwright/model/OpaqueValue" := A_213.keep Kq_216
                have A_228 : Exa Z T_216.heap a_190 "com/example/goalwright/goalwright/model/IntegerValue" := A_215.keep Kq_216
                have Z_218 : n0 ≤ T_216.heap.size := Nat.le_trans Z_204 Kq_216.1
                show own_Go p e below _ T_216 (mkF m 188 #[.val (.int x0), .val (.int x1), .val (.int x2), .val (.ref a_1), .val (.ref a_30), .val (.ref a_67), .val (.int (x2 &&& (7 : Int32))), .unset, .unset, .unset, .unset] [(.ref a_179)])
                refine own_astore X_216 hx (hb hby at_188) (pc' := 190) (Ls' := #[.val (.int x0), .val (.int x1), .val (.int x2), .val (.ref a_1), .val (.ref a_30), .val (.ref a_67), .val (.int (x2 &&& (7 : Int32))), .val (.ref a_179), .unset, .unset, .unset]) rfl rfl rfl ?_
                refine own_iconst X_216 hx (0) (hb hby at_190) (pc' := 191) rfl rfl ?_
                refine own_istore X_216 hx (hb hby at_191) (pc' := 193) (Ls' := #[.val (.int x0), .val (.int x1), .val (.int x2), .val (.ref a_1), .val (.ref a_30), .val (.ref a_67), .val (.int (x2 &&& (7 : Int32))), .val (.ref a_179), .val (.int (0 : Int32)), .unset, .unset]) rfl rfl ?_
                refine own_goto X_216 hx (hb hby at_193) (pc' := 210) (by decide) (by decide) ?_
                refine own_aload X_216 hx (hb hby at_210) (pc' := 212) rfl rfl rfl ?_
                refine own_aload X_216 hx (hb hby at_212) (pc' := 214) rfl rfl rfl ?_
                obtain ⟨cq_229, kq_229, qa_229, qb_229, qc_229⟩ := isOf hZ rfl A_226
                obtain ⟨_, _, ⟨T_229, L_229, k_229, n_229⟩, -, X_229, ⟨Lc_229, hQ_229, l_229, y_229, z_229⟩, st_229⟩ := X_216.virtualBack hx  (y := (⟨"com/example/goalwright/goalwright/model/OpaqueValue", "equals", "(Ljava/lang/Object;)Z"⟩ : MethodName)) (z := (⟨"com/example/goalwright/goalwright/model/OpaqueValue", "equals", "(Ljava/lang/Object;)Z"⟩ : MethodName)) hown (mvT hZ (hw _ (List.mem_of_getElem? (i := 90) rfl))) (mvT hZ (hw _ (List.mem_of_getElem? (i := 91) rfl))) (notFace_of_selects (args := #[]) (mvT hZ (hw _ (List.mem_of_getElem? (i := 93) rfl)))) (mvT hZ (hw _ (List.mem_of_getElem? (i := 93) rfl))) (mvT hZ (hw _ (List.mem_of_getElem? (i := 92) rfl))) (by decide) (backOf (W := 0) (rm17 l Z a0 hw [] a_67 a_179 a_1 a_190 T_216.heap n0 Z_218 A_227 F_219 F_217 (Ne.symm ne_190_a_1)) hZ (hw _ (List.mem_of_getElem? (i := 94) rfl)) (hw _ (List.mem_of_getElem? (i := 66) rfl)) (by decide) (by decide)) qa_229 qc_229 (g := (mkF m 214 #[.val (.int x0), .val (.int x1), .val (.int x2), .val (.ref a_1), .val (.ref a_30), .val (.ref a_67), .val (.int (x2 &&& (7 : Int32))), .val (.ref a_179), .val (.int (0 : Int32)), .unset, .unset] [(.ref a_179), (.ref a_67)])) rfl (by rw [hml]; rfl) (Steps.refl _) (argsL := [(.ref a_179)]) (rest := []) (lenOf pd0_2 rfl) rfl (by show 2 * 0 + _ ≤ _; exact Nat.le_of_eq rfl) (hb hby at_214) (fun _ _ => ⟨rfl, rfl, (by decide : 13 + 0 ≤ _), (by decide : 87 + 0 ≤ _)⟩)
                dsimp only [Pt.U, Pt.locs, Pt.cells, Pt.slots] at X_229 l_229 y_229 z_229 st_229 hQ_229
                subst l_229 y_229 z_229
                refine own_tr st_229 ?_
                obtain ⟨rfl, Nq_229, eq_229⟩ := hQ_229
                have N_229 := Fr.app N_216 Nq_229
                show own_Go p e below _ T_229 (mkF m 217 #[.val (.int x0), .val (.int x1), .val (.int x2), .val (.ref a_1), .val (.ref a_30), .val (.ref a_67), .val (.int (x2 &&& (7 : Int32))), .val (.ref a_179), .val (.int (0 : Int32)), .unset, .unset] [(.int (0 : Int32))])
                refine own_iload X_229 hx (hb hby at_217) (pc' := 219) rfl rfl ?_
                refine own_icmpN X_229 hx (hb hby at_219) (by decide) (pc' := 222) rfl ?_
                refine own_iconst X_229 hx (1) (hb hby at_222) (pc' := 223) rfl rfl ?_
                refine own_goto X_229 hx (hb hby at_223) (pc' := 227) (by decide) (by decide) ?_
                refine own_istore X_229 hx (hb hby at_227) (pc' := 229) (Ls' := #[.val (.int x0), .val (.int x1), .val (.int x2), .val (.ref a_1), .val (.ref a_30), .val (.ref a_67), .val (.int (x2 &&& (7 : Int32))), .val (.ref a_179), .val (.int (0 : Int32)), .val (.int (1 : Int32)), .unset]) rfl rfl ?_
                refine own_aload X_229 hx (hb hby at_229) (pc' := 231) rfl rfl rfl ?_
                obtain ⟨T_230, X_230, e_230, st_230⟩ := instY X_229 hx hZ hown (hw _ (List.mem_of_getElem? (i := 64) rfl)) eq_229 (Ins.self A_227) (g := (mkF m 231 #[.val (.int x0), .val (.int x1), .val (.int x2), .val (.ref a_1), .val (.ref a_30), .val (.ref a_67), .val (.int (x2 &&& (7 : Int32))), .val (.ref a_179), .val (.int (0 : Int32)), .val (.int (1 : Int32)), .unset] [(.ref a_179)])) rfl rfl (hb hby at_231)
                refine own_st st_230 ?_
                show own_Go p e below _ T_230 (mkF m 234 #[.val (.int x0), .val (.int x1), .val (.int x2), .val (.ref a_1), .val (.ref a_30), .val (.ref a_67), .val (.int (x2 &&& (7 : Int32))), .val (.ref a_179), .val (.int (0 : Int32)), .val (.int (1 : Int32)), .unset] [(.int (1 : Int32))])
                refine own_ifN X_230 hx (hb hby at_234) (by decide) (pc' := 237) rfl ?_
                refine own_aload X_230 hx (hb hby at_237) (pc' := 239) rfl rfl rfl ?_
                obtain ⟨T_231, X_231, e_231, st_231⟩ := castY X_230 hx hZ hown (hw _ (List.mem_of_getElem? (i := 64) rfl)) e_230 (Ins.self A_227) (g := (mkF m 239 #[.val (.int x0), .val (.int x1), .val (.int x2), .val (.ref a_1), .val (.ref a_30), .val (.ref a_67), .val (.int (x2 &&& (7 : Int32))), .val (.ref a_179), .val (.int (0 : Int32)), .val (.int (1 : Int32)), .unset] [(.ref a_179)])) rfl rfl (hb hby at_239)
                refine own_st st_231 ?_
                show own_Go p e below _ T_231 (mkF m 242 #[.val (.int x0), .val (.int x1), .val (.int x2), .val (.ref a_1), .val (.ref a_30), .val (.ref a_67), .val (.int (x2 &&& (7 : Int32))), .val (.ref a_179), .val (.int (0 : Int32)), .val (.int (1 : Int32)), .unset] [(.ref a_179)])
                refine own_astore X_231 hx (hb hby at_242) (pc' := 244) (Ls' := #[.val (.int x0), .val (.int x1), .val (.int x2), .val (.ref a_1), .val (.ref a_30), .val (.ref a_67), .val (.int (x2 &&& (7 : Int32))), .val (.ref a_179), .val (.int (0 : Int32)), .val (.int (1 : Int32)), .val (.ref a_179)]) rfl rfl rfl ?_
                refine own_iload X_231 hx (hb hby at_244) (pc' := 246) rfl rfl ?_
                refine own_ifN X_231 hx (hb hby at_246) (by decide) (pc' := 249) rfl ?_
                refine own_aload X_231 hx (hb hby at_249) (pc' := 251) rfl rfl rfl ?_
                refine own_aload X_231 hx (hb hby at_251) (pc' := 253) rfl rfl rfl ?_
                obtain ⟨cq_232, kq_232, qa_232, qb_232, qc_232⟩ := isOf hZ e_231 A_227
                obtain ⟨_, _, ⟨T_232, L_232, k_232, n_232⟩, -, X_232, ⟨Lc_232, hQ_232, l_232, y_232, z_232⟩, st_232⟩ := X_231.virtualBack hx  (y := (⟨"com/example/goalwright/goalwright/model/OpaqueValue", "equals", "(Ljava/lang/Object;)Z"⟩ : MethodName)) (z := (⟨"com/example/goalwright/goalwright/model/OpaqueValue", "equals", "(Ljava/lang/Object;)Z"⟩ : MethodName)) hown (mvT hZ (hw _ (List.mem_of_getElem? (i := 90) rfl))) (mvT hZ (hw _ (List.mem_of_getElem? (i := 91) rfl))) (notFace_of_selects (args := #[]) (mvT hZ (hw _ (List.mem_of_getElem? (i := 93) rfl)))) (mvT hZ (hw _ (List.mem_of_getElem? (i := 93) rfl))) (mvT hZ (hw _ (List.mem_of_getElem? (i := 92) rfl))) (by decide) (backOf (W := 0) (rm17 l Z a0 hw [] a_179 a_67 a_190 a_1 T_216.heap n0 Z_218 A_226 F_217 F_219 ne_190_a_1) hZ (hw _ (List.mem_of_getElem? (i := 94) rfl)) (hw _ (List.mem_of_getElem? (i := 66) rfl)) (by decide) (by decide)) qa_232 qc_232 (g := (mkF m 253 #[.val (.int x0), .val (.int x1), .val (.int x2), .val (.ref a_1), .val (.ref a_30), .val (.ref a_67), .val (.int (x2 &&& (7 : Int32))), .val (.ref a_179), .val (.int (0 : Int32)), .val (.int (1 : Int32)), .val (.ref a_179)] [(.ref a_67), (.ref a_179)])) rfl (by rw [hml]; rfl) (Steps.refl _) (argsL := [(.ref a_67)]) (rest := []) (lenOf pd0_2 rfl) rfl (by show 2 * 0 + _ ≤ _; exact Nat.le_of_eq rfl) (hb hby at_253) (fun _ _ => ⟨rfl, e_231, (by decide : 13 + 0 ≤ _), (by decide : 87 + 0 ≤ _)⟩)
                dsimp only [Pt.U, Pt.locs, Pt.cells, Pt.slots] at X_232 l_232 y_232 z_232 st_232 hQ_232
                subst l_232 y_232 z_232
                refine own_tr st_232 ?_
                obtain ⟨rfl, Nq_232, eq_232⟩ := hQ_232
                have N_232 := Fr.app N_229 Nq_232
                show own_Go p e below _ T_232 (mkF m 256 #[.val (.int x0), .val (.int x1), .val (.int x2), .val (.ref a_1), .val (.ref a_30), .val (.ref a_67), .val (.int (x2 &&& (7 : Int32))), .val (.ref a_179), .val (.int (0 : Int32)), .val (.int (1 : Int32)), .val (.ref a_179)] [(.int (0 : Int32))])
                refine own_iload X_232 hx (hb hby at_256) (pc' := 258) rfl rfl ?_
                refine own_icmpN X_232 hx (hb hby at_258) (by decide) (pc' := 261) rfl ?_
                refine own_iconst X_232 hx (1) (hb hby at_261) (pc' := 262) rfl rfl ?_
                refine own_goto X_232 hx (hb hby at_262) (pc' := 266) (by decide) (by decide) ?_
                refine own_istore X_232 hx (hb hby at_266) (pc' := 268) (Ls' := #[.val (.int x0), .val (.int x1), .val (.int x2), .val (.ref a_1), .val (.ref a_30), .val (.ref a_67), .val (.int (x2 &&& (7 : Int32))), .val (.ref a_179), .val (.int (0 : Int32)), .val (.int (1 : Int32)), .val (.ref a_179)]) rfl rfl ?_
                refine own_iload X_232 hx (hb hby at_268) (pc' := 270) rfl rfl ?_
                refine own_retZW X_232 hS (by rw [eq_232]; exact (Nat.le_refl _)) hx hlk Bd.returns (by simp) (hb hby at_270) (by decide) (by decide) ?_
                exact ⟨rfl, N_232⟩
              · skip
                refine own_icmpY X_76 hx (hb hby at_169) (XT.ii_ne_t c_178) (pc' := 196) (by decide) (by decide) ?_
                obtain ⟨T_233, h_233, X_233, e_233, E_233, A_233, D_233, -, st_233⟩ := newO X_76 hx hZ hown (hw _ (List.mem_of_getElem? (i := 64) rfl)) (hw _ (List.mem_of_getElem? (i := 65) rfl)) (hw _ (List.mem_of_getElem? (i := 66) rfl)) rfl (g := (mkF m 196 #[.val (.int x0), .val (.int x1), .val (.int x2), .val (.ref a_1), .val (.ref a_30), .val (.ref a_67), .val (.int (x2 &&& (7 : Int32))), .unset, .unset, .unset, .unset] [])) rfl (hb hby at_196) (by decide) (by decide)
                obtain ⟨a_233, g_233⟩ : ∃ z, z = T_76.heap.size := ⟨_, rfl⟩
                rw [← g_233] at A_233 D_233 st_233
                have ge_233 : n0 ≤ a_233 := Nat.le_trans Z_78 (Nat.le_of_eq g_233.symm)
                have ne_233_a_67 : a_67 ≠ a_233 := Nat.ne_of_lt (Nat.lt_of_lt_of_eq F_77.lt g_233.symm)
                have ne_233_r_49 : r_49 ≠ a_233 := Nat.ne_of_lt (Nat.lt_of_lt_of_eq A_79.lt g_233.symm)
                have ne_233_r_16 : r_16 ≠ a_233 := Nat.ne_of_lt (Nat.lt_of_lt_of_eq A_80.lt g_233.symm)
                have ne_233_da : da ≠ a_233 := Nat.ne_of_lt (Nat.lt_of_lt_of_eq V_82.lt g_233.symm)
                have ne_233_a_1 : a_1 ≠ a_233 := Nat.ne_of_lt (Nat.lt_of_lt_of_eq A_83.lt g_233.symm)
                have ne_233_a_30 : a_30 ≠ a_233 := Nat.ne_of_lt (Nat.lt_of_lt_of_eq A_84.lt g_233.symm)
                have F_235 : Fld Z h_233 a_67 "com/example/goalwright/goalwright/model/OpaqueValue" "object" "Ljava/lang/Object;" (.ref a_1) := F_77.ext E_233
                have A_236 : Exa Z h_233 r_49 "java/lang/Integer" := A_79.ext E_233
                have A_237 : Exa Z h_233 r_16 "java/lang/Integer" := A_80.ext E_233
                have O_238 : Old Z n0 h_233 := O_81.ext E_233
                have V_239 : own_Len Z h_233 da (.object "java/lang/Object") (0 : Int32) := V_82.ext E_233
                have A_240 : Exa Z h_233 a_1 "java/util/ArrayList" := A_83.ext E_233
                have A_241 : Exa Z h_233 a_30 "java/util/ArrayList" := A_84.ext E_233
                have A_242 : Exa Z h_233 a_67 "com/example/goalwright/goalwright/model/OpaqueValue" := A_85.ext E_233
                have Z_234 : n0 ≤ h_233.size := Nat.le_trans Z_78 E_233.1
                have K1_234 := Nat.le_trans (Nat.le_refl _) E_233.1
                have F_243 : Fld Z h_233 a_233 "com/example/goalwright/goalwright/model/OpaqueValue" "object" "Ljava/lang/Object;" (.null) := D_233 (Or.inr (hw _ (List.mem_of_getElem? (i := 89) rfl))) (ty := (.object "java/lang/Object")) (by decide)
                refine own_st st_233 ?_
                show own_Go p e below _ T_233 (mkF m 199 #[.val (.int x0), .val (.int x1), .val (.int x2), .val (.ref a_1), .val (.ref a_30), .val (.ref a_67), .val (.int (x2 &&& (7 : Int32))), .unset, .unset, .unset, .unset] [(.ref a_233)])
                refine own_dup X_233 hx (hb hby at_199) (pc' := 200) rfl rfl ?_
                refine own_aload X_233 hx (hb hby at_200) (pc' := 202) rfl rfl rfl ?_
                obtain ⟨_, _, ⟨T_244, L_244, k_244, n_244⟩, -, X_244, hs_244, hg_244, ⟨Lc_244, hQ_244, l_244, y_244, z_244⟩, st_244⟩ := X_233.specialBackS hx  (y := (⟨"com/example/goalwright/goalwright/model/OpaqueValue", "<init>", "(Ljava/lang/Object;)V"⟩ : MethodName)) rfl hown (mvT hZ (hw _ (List.mem_of_getElem? (i := 67) rfl))) (mvT hZ (hw _ (List.mem_of_getElem? (i := 68) rfl))) (mvT hZ (hw _ (List.mem_of_getElem? (i := 69) rfl))) (by decide) (backOfS (W := 1) (rm15 l Z a0 hw [] a_233 a_67 h_233 n0 Z_234 A_233 F_243 ge_233) hZ (hw _ (List.mem_of_getElem? (i := 69) rfl)) (hw _ (List.mem_of_getElem? (i := 66) rfl)) (by decide) (by decide)) (g := (mkF m 202 #[.val (.int x0), .val (.int x1), .val (.int x2), .val (.ref a_1), .val (.ref a_30), .val (.ref a_67), .val (.int (x2 &&& (7 : Int32))), .unset, .unset, .unset, .unset] [(.ref a_67), (.ref a_233), (.ref a_233)])) rfl (by rw [hml]; rfl) (Steps.refl _) (a := a_233) (argsL := [(.ref a_67)]) (rest := [(.ref a_233)]) (lenOf pd0_3 rfl) rfl (by show 2 * 0 + _ ≤ _; exact Nat.le_of_eq rfl) (hb hby at_202) (fun _ _ => ⟨rfl, e_233, (by decide : 10 + 2 ≤ _), (by decide : 58 + 28 ≤ _)⟩)
                dsimp only [Pt.U, Pt.locs, Pt.cells, Pt.slots] at X_244 l_244 y_244 z_244 st_244 hQ_244 hs_244 hg_244
                subst l_244 y_244 z_244
                refine own_tr st_244 ?_
                obtain ⟨X_244, hS, hZ, hown⟩ := rebS hS (n1 := T_233.heap.size) (by rw [e_233]; exact K1_234) X_244 hs_244 hg_244 hZ hown
                obtain ⟨rfl, Nq_244, Kq_244, q0_244⟩ := hQ_244
                have N_244 := Fr.app N_76 Nq_244
                have F_245 : Fld Z T_244.heap a_233 "com/example/goalwright/goalwright/model/OpaqueValue" "object" "Ljava/lang/Object;" (.ref a_67) := q0_244
                have F_247 : Fld Z T_244.heap a_67 "com/example/goalwright/goalwright/model/OpaqueValue" "object" "Ljava/lang/Object;" (.ref a_1) := F_235.keep Kq_244 (ninS ne_233_a_67 nin0)
                have A_248 : Exa Z T_244.heap r_49 "java/lang/Integer" := A_236.keep Kq_244
                have A_249 : Exa Z T_244.heap r_16 "java/lang/Integer" := A_237.keep Kq_244
                have O_250 : Old Z n0 T_244.heap := O_238.keep Kq_244 (allS ge_233 all0)
                have V_251 : own_Len Z T_244.heap da (.object "java/lang/Object") (0 : Int32) := V_239.keep Kq_244
                have A_252 : Exa Z T_244.heap a_1 "java/util/ArrayList" := A_240.keep Kq_244
                have A_253 : Exa Z T_244.heap a_30 "java/util/ArrayList" := A_241.keep Kq_244
                have A_254 : Exa Z T_244.heap a_67 "com/example/goalwright/goalwright/model/OpaqueValue" := A_242.keep Kq_244
                have A_255 : Exa Z T_244.heap a_233 "com/example/goalwright/goalwright/model/OpaqueValue" := A_233.keep Kq_244
                have Z_246 : n0 ≤ T_244.heap.size := Nat.le_trans Z_234 Kq_244.1
                show own_Go p e below _ T_244 (mkF m 205 #[.val (.int x0), .val (.int x1), .val (.int x2), .val (.ref a_1), .val (.ref a_30), .val (.ref a_67), .val (.int (x2 &&& (7 : Int32))), .unset, .unset, .unset, .unset] [(.ref a_233)])
                refine own_astore X_244 hx (hb hby at_205) (pc' := 207) (Ls' := #[.val (.int x0), .val (.int x1), .val (.int x2), .val (.ref a_1), .val (.ref a_30), .val (.ref a_67), .val (.int (x2 &&& (7 : Int32))), .val (.ref a_233), .unset, .unset, .unset]) rfl rfl rfl ?_
                refine own_iconst X_244 hx (0) (hb hby at_207) (pc' := 208) rfl rfl ?_
                refine own_istore X_244 hx (hb hby at_208) (pc' := 210) (Ls' := #[.val (.int x0), .val (.int x1), .val (.int x2), .val (.ref a_1), .val (.ref a_30), .val (.ref a_67), .val (.int (x2 &&& (7 : Int32))), .val (.ref a_233), .val (.int (0 : Int32)), .unset, .unset]) rfl rfl ?_
                refine own_aload X_244 hx (hb hby at_210) (pc' := 212) rfl rfl rfl ?_
                refine own_aload X_244 hx (hb hby at_212) (pc' := 214) rfl rfl rfl ?_
                obtain ⟨cq_256, kq_256, qa_256, qb_256, qc_256⟩ := isOf hZ rfl A_254
                obtain ⟨_, _, ⟨T_256, L_256, k_256, n_256⟩, -, X_256, ⟨Lc_256, hQ_256, l_256, y_256, z_256⟩, st_256⟩ := X_244.virtualBack hx  (y := (⟨"com/example/goalwright/goalwright/model/OpaqueValue", "equals", "(Ljava/lang/Object;)Z"⟩ : MethodName)) (z := (⟨"com/example/goalwright/goalwright/model/OpaqueValue", "equals", "(Ljava/lang/Object;)Z"⟩ : MethodName)) hown (mvT hZ (hw _ (List.mem_of_getElem? (i := 90) rfl))) (mvT hZ (hw _ (List.mem_of_getElem? (i := 91) rfl))) (notFace_of_selects (args := #[]) (mvT hZ (hw _ (List.mem_of_getElem? (i := 93) rfl)))) (mvT hZ (hw _ (List.mem_of_getElem? (i := 93) rfl))) (mvT hZ (hw _ (List.mem_of_getElem? (i := 92) rfl))) (by decide) (backOf (W := 0) (rm17 l Z a0 hw [] a_67 a_233 a_1 a_67 T_244.heap n0 Z_246 A_255 F_247 F_245 (Ne.symm ne_67_a_1)) hZ (hw _ (List.mem_of_getElem? (i := 94) rfl)) (hw _ (List.mem_of_getElem? (i := 66) rfl)) (by decide) (by decide)) qa_256 qc_256 (g := (mkF m 214 #[.val (.int x0), .val (.int x1), .val (.int x2), .val (.ref a_1), .val (.ref a_30), .val (.ref a_67), .val (.int (x2 &&& (7 : Int32))), .val (.ref a_233), .val (.int (0 : Int32)), .unset, .unset] [(.ref a_233), (.ref a_67)])) rfl (by rw [hml]; rfl) (Steps.refl _) (argsL := [(.ref a_233)]) (rest := []) (lenOf pd0_2 rfl) rfl (by show 2 * 0 + _ ≤ _; exact Nat.le_of_eq rfl) (hb hby at_214) (fun _ _ => ⟨rfl, rfl, (by decide : 12 + 0 ≤ _), (by decide : 86 + 0 ≤ _)⟩)
                dsimp only [Pt.U, Pt.locs, Pt.cells, Pt.slots] at X_256 l_256 y_256 z_256 st_256 hQ_256
                subst l_256 y_256 z_256
                refine own_tr st_256 ?_
                obtain ⟨rfl, Nq_256, eq_256⟩ := hQ_256
                have N_256 := Fr.app N_244 Nq_256
                show own_Go p e below _ T_256 (mkF m 217 #[.val (.int x0), .val (.int x1), .val (.int x2), .val (.ref a_1), .val (.ref a_30), .val (.ref a_67), .val (.int (x2 &&& (7 : Int32))), .val (.ref a_233), .val (.int (0 : Int32)), .unset, .unset] [(.int (0 : Int32))])
                refine own_iload X_256 hx (hb hby at_217) (pc' := 219) rfl rfl ?_
                refine own_icmpN X_256 hx (hb hby at_219) (by decide) (pc' := 222) rfl ?_
                refine own_iconst X_256 hx (1) (hb hby at_222) (pc' := 223) rfl rfl ?_
                refine own_goto X_256 hx (hb hby at_223) (pc' := 227) (by decide) (by decide) ?_
                refine own_istore X_256 hx (hb hby at_227) (pc' := 229) (Ls' := #[.val (.int x0), .val (.int x1), .val (.int x2), .val (.ref a_1), .val (.ref a_30), .val (.ref a_67), .val (.int (x2 &&& (7 : Int32))), .val (.ref a_233), .val (.int (0 : Int32)), .val (.int (1 : Int32)), .unset]) rfl rfl ?_
                refine own_aload X_256 hx (hb hby at_229) (pc' := 231) rfl rfl rfl ?_
                obtain ⟨T_257, X_257, e_257, st_257⟩ := instY X_256 hx hZ hown (hw _ (List.mem_of_getElem? (i := 64) rfl)) eq_256 (Ins.self A_255) (g := (mkF m 231 #[.val (.int x0), .val (.int x1), .val (.int x2), .val (.ref a_1), .val (.ref a_30), .val (.ref a_67), .val (.int (x2 &&& (7 : Int32))), .val (.ref a_233), .val (.int (0 : Int32)), .val (.int (1 : Int32)), .unset] [(.ref a_233)])) rfl rfl (hb hby at_231)
                refine own_st st_257 ?_
                show own_Go p e below _ T_257 (mkF m 234 #[.val (.int x0), .val (.int x1), .val (.int x2), .val (.ref a_1), .val (.ref a_30), .val (.ref a_67), .val (.int (x2 &&& (7 : Int32))), .val (.ref a_233), .val (.int (0 : Int32)), .val (.int (1 : Int32)), .unset] [(.int (1 : Int32))])
                refine own_ifN X_257 hx (hb hby at_234) (by decide) (pc' := 237) rfl ?_
                refine own_aload X_257 hx (hb hby at_237) (pc' := 239) rfl rfl rfl ?_
                obtain ⟨T_258, X_258, e_258, st_258⟩ := castY X_257 hx hZ hown (hw _ (List.mem_of_getElem? (i := 64) rfl)) e_257 (Ins.self A_255) (g := (mkF m 239 #[.val (.int x0), .val (.int x1), .val (.int x2), .val (.ref a_1), .val (.ref a_30), .val (.ref a_67), .val (.int (x2 &&& (7 : Int32))), .val (.ref a_233), .val (.int (0 : Int32)), .val (.int (1 : Int32)), .unset] [(.ref a_233)])) rfl rfl (hb hby at_239)
                refine own_st st_258 ?_
                show own_Go p e below _ T_258 (mkF m 242 #[.val (.int x0), .val (.int x1), .val (.int x2), .val (.ref a_1), .val (.ref a_30), .val (.ref a_67), .val (.int (x2 &&& (7 : Int32))), .val (.ref a_233), .val (.int (0 : Int32)), .val (.int (1 : Int32)), .unset] [(.ref a_233)])
                refine own_astore X_258 hx (hb hby at_242) (pc' := 244) (Ls' := #[.val (.int x0), .val (.int x1), .val (.int x2), .val (.ref a_1), .val (.ref a_30), .val (.ref a_67), .val (.int (x2 &&& (7 : Int32))), .val (.ref a_233), .val (.int (0 : Int32)), .val (.int (1 : Int32)), .val (.ref a_233)]) rfl rfl rfl ?_
                refine own_iload X_258 hx (hb hby at_244) (pc' := 246) rfl rfl ?_
                refine own_ifN X_258 hx (hb hby at_246) (by decide) (pc' := 249) rfl ?_
                refine own_aload X_258 hx (hb hby at_249) (pc' := 251) rfl rfl rfl ?_
                refine own_aload X_258 hx (hb hby at_251) (pc' := 253) rfl rfl rfl ?_
                obtain ⟨cq_259, kq_259, qa_259, qb_259, qc_259⟩ := isOf hZ e_258 A_255
                obtain ⟨_, _, ⟨T_259, L_259, k_259, n_259⟩, -, X_259, ⟨Lc_259, hQ_259, l_259, y_259, z_259⟩, st_259⟩ := X_258.virtualBack hx  (y := (⟨"com/example/goalwright/goalwright/model/OpaqueValue", "equals", "(Ljava/lang/Object;)Z"⟩ : MethodName)) (z := (⟨"com/example/goalwright/goalwright/model/OpaqueValue", "equals", "(Ljava/lang/Object;)Z"⟩ : MethodName)) hown (mvT hZ (hw _ (List.mem_of_getElem? (i := 90) rfl))) (mvT hZ (hw _ (List.mem_of_getElem? (i := 91) rfl))) (notFace_of_selects (args := #[]) (mvT hZ (hw _ (List.mem_of_getElem? (i := 93) rfl)))) (mvT hZ (hw _ (List.mem_of_getElem? (i := 93) rfl))) (mvT hZ (hw _ (List.mem_of_getElem? (i := 92) rfl))) (by decide) (backOf (W := 0) (rm17 l Z a0 hw [] a_233 a_67 a_67 a_1 T_244.heap n0 Z_246 A_254 F_245 F_247 ne_67_a_1) hZ (hw _ (List.mem_of_getElem? (i := 94) rfl)) (hw _ (List.mem_of_getElem? (i := 66) rfl)) (by decide) (by decide)) qa_259 qc_259 (g := (mkF m 253 #[.val (.int x0), .val (.int x1), .val (.int x2), .val (.ref a_1), .val (.ref a_30), .val (.ref a_67), .val (.int (x2 &&& (7 : Int32))), .val (.ref a_233), .val (.int (0 : Int32)), .val (.int (1 : Int32)), .val (.ref a_233)] [(.ref a_67), (.ref a_233)])) rfl (by rw [hml]; rfl) (Steps.refl _) (argsL := [(.ref a_67)]) (rest := []) (lenOf pd0_2 rfl) rfl (by show 2 * 0 + _ ≤ _; exact Nat.le_of_eq rfl) (hb hby at_253) (fun _ _ => ⟨rfl, e_258, (by decide : 12 + 0 ≤ _), (by decide : 86 + 0 ≤ _)⟩)
                dsimp only [Pt.U, Pt.locs, Pt.cells, Pt.slots] at X_259 l_259 y_259 z_259 st_259 hQ_259
                subst l_259 y_259 z_259
                refine own_tr st_259 ?_
                obtain ⟨rfl, Nq_259, eq_259⟩ := hQ_259
                have N_259 := Fr.app N_256 Nq_259
                show own_Go p e below _ T_259 (mkF m 256 #[.val (.int x0), .val (.int x1), .val (.int x2), .val (.ref a_1), .val (.ref a_30), .val (.ref a_67), .val (.int (x2 &&& (7 : Int32))), .val (.ref a_233), .val (.int (0 : Int32)), .val (.int (1 : Int32)), .val (.ref a_233)] [(.int (0 : Int32))])
                refine own_iload X_259 hx (hb hby at_256) (pc' := 258) rfl rfl ?_
                refine own_icmpN X_259 hx (hb hby at_258) (by decide) (pc' := 261) rfl ?_
                refine own_iconst X_259 hx (1) (hb hby at_261) (pc' := 262) rfl rfl ?_
                refine own_goto X_259 hx (hb hby at_262) (pc' := 266) (by decide) (by decide) ?_
                refine own_istore X_259 hx (hb hby at_266) (pc' := 268) (Ls' := #[.val (.int x0), .val (.int x1), .val (.int x2), .val (.ref a_1), .val (.ref a_30), .val (.ref a_67), .val (.int (x2 &&& (7 : Int32))), .val (.ref a_233), .val (.int (0 : Int32)), .val (.int (1 : Int32)), .val (.ref a_233)]) rfl rfl ?_
                refine own_iload X_259 hx (hb hby at_268) (pc' := 270) rfl rfl ?_
                refine own_retZW X_259 hS (by rw [eq_259]; exact (Nat.le_refl _)) hx hlk Bd.returns (by simp) (hb hby at_270) (by decide) (by decide) ?_
                exact ⟨rfl, N_259⟩
set_option maxRecDepth 65536 in
set_option maxHeartbeats 40000000 in
theorem comes_1 {Post : Tables → Env → Array Value → State → Outcome → State → Prop} (hpost : ∀ tb e args s v u, (limb_1_1.after args s (.returned v) u = true ∧ limb_1_2.after args s (.returned v) u = true ∧ True) → ReturnedEndW s (.returned v) u (Jvm.fieldLocs frame_1_writes args s ++ Jvm.arrayLocs frame_1_arrays args s ++ Jvm.staticLocs frame_1_statics s) 32 1216 → Post tb e args s (.returned v) u) :
    ArmFor flags0 classFile x code maxLocals ret World_1 tables_1 room_1 Calls_1 rest_1 Pre_1 Post := by
  intro l hfl _ _ p e ha hc hk s m args below hf hA hF happ hP
  obtain ⟨hcalls, hrest, hpre⟩ := hP
  obtain ⟨-, -, -, hnamed, -, -, -, hat⟩ := (Spec.applies_iff hf).mp happ
  obtain ⟨hg, hn⟩ := and_e (Cond.before_iff.mp (show (Jvm.Cond.and given_1 narrow_1).before args s = true from hpre))
  obtain ⟨gc, gr0⟩ := and_e hg
  obtain ⟨ga0, gr1⟩ := and_e gr0
  obtain ⟨ga1, gr2⟩ := and_e gr1
  have ga2 := gr2
  obtain ⟨w0, w1, w2, rfl⟩ : ∃ w0 w1 w2 : Value, args = #[w0, w1, w2] := by
    have hs : args.size = 3 := by simpa [Cond.value, given_1] using gc
    obtain ⟨L⟩ := args
    match L, hs with
    | [w0, w1, w2], _ => exact ⟨w0, w1, w2, rfl⟩
  have hw := fun d (hd : d ∈ tables_1) => atoms_spec (ws := Jvm.Cond.code x code maxLocals ret :: tables_1) hat d (List.mem_cons_of_mem _ hd)
  have hfit : Fit s := fun {y c} hc i hi => by
    obtain ⟨ha, rfl⟩ := Array.getElem?_eq_some_iff.mp hc
    have q := List.all_eq_true.mp ((Array.all_eq_true_iff_forall_mem.mp hF) _ (Array.getElem_mem ha)) i (List.mem_range.mpr hi)
    simpa [Array.getElem?_eq_getElem hi] using q
  obtain ⟨i0, ei0⟩ := is_v ga0
  obtain rfl : w0 = (.int i0) := Option.some.inj ei0
  obtain ⟨i1, ei1⟩ := is_v ga1
  obtain rfl : w1 = (.int i1) := Option.some.inj ei1
  obtain ⟨i2, ei2⟩ := is_v ga2
  obtain rfl : w2 = (.int i2) := Option.some.inj ei2
  obtain ⟨hsets, hown0⟩ := atoms_of _ (rest_1_c_eq ▸ (show rest_1_c.before _ s = true from hrest))
  obtain ⟨da, eda⟩ := exa_v (Cond.before_iff.mp (hsets _ (List.mem_of_getElem? (i := 7) rfl)))
  have Sd : Sta s s.heap "java/util/ArrayList" "DEFAULTCAPACITY_EMPTY_ELEMENTDATA" "[Ljava/lang/Object;" (.ref da) := Sta.start eda (Or.inr ⟨hw _ (List.mem_of_getElem? (i := 2) rfl), (hsets _ (List.mem_of_getElem? (i := 2) rfl))⟩)
  obtain ⟨dl, Adl⟩ := Arr.start eda (Cond.before_iff.mp (hsets _ (List.mem_of_getElem? (i := 6) rfl)))
  have V_d : own_Len s s.heap da (.object "java/lang/Object") (0 : Int32) := ⟨dl, Adl, by rw [own_size eda (Adl.fin (Vm.Alike.refl _)) (Cond.before_iff.mp (hsets _ (List.mem_of_getElem? (i := 8) rfl))) (k := 0) rfl]; rfl, by decide⟩
  have eh := eqv_i (Term.int_eval (127 : Int32)) (Cond.before_iff.mp (hsets _ (List.mem_of_getElem? (i := 12) rfl)))
  have Sh : Sta s s.heap "java/lang/Integer$IntegerCache" "high" "I" (.int (127 : Int32)) := Sta.start eh (Or.inl (hsets _ (List.mem_of_getElem? (i := 10) rfl)))
  obtain ⟨ca, eca⟩ := exa_v (Cond.before_iff.mp (hsets _ (List.mem_of_getElem? (i := 14) rfl)))
  have Sc : Sta s s.heap "java/lang/Integer$IntegerCache" "cache" "[Ljava/lang/Integer;" (.ref ca) := Sta.start eca (Or.inr ⟨hw _ (List.mem_of_getElem? (i := 31) rfl), (hsets _ (List.mem_of_getElem? (i := 11) rfl))⟩)
  obtain ⟨cl, Acl⟩ := Arr.start eca (Cond.before_iff.mp (hsets _ (List.mem_of_getElem? (i := 13) rfl)))
  have hsz := own_size eca (Acl.fin (Vm.Alike.refl _)) (Cond.before_iff.mp (hsets _ (List.mem_of_getElem? (i := 15) rfl))) (k := 256) (by decide)
  have Bx := Bxs.start (F := .sub (.index 0) (.int 128)) (val := fun j => .int (j - 128)) (fun idx => eca) Acl (by omega) (by rw [hsz]; rfl) (z := (256 : Int32)) (by decide) (Cond.before_iff.mp (hsets _ (List.mem_of_getElem? (i := 16) rfl))) (fun X j hj he => eqv_i (own_sub128 hj) he)
  obtain ⟨n, o, h1, h2, h3, _, L, rfl, ⟨rfl, N⟩, hq⟩ := rm0 l s _ hw tables_1 i0 i1 i2 da ca cl _ s.heap s.heap.size (Nat.le_refl _) (Old.start s) V_d Sd Sh Sc Bx p e ha hc hk s m _ below hf ((Spec.applies_iff_loose hf).mp happ).1 ⟨rfl, State.Warmed39.refl s, rfl⟩ trivial
  refine ⟨n, _, h1, h2, h3, hpost _ _ _ _ _ _ ⟨Cond.after_iff.mpr rfl, Cond.after_iff.mpr (eq_i res_at (Term.int_eval (1)) rfl), trivial⟩ ⟨hq.1, hq.2.1, hq.2.2.1, (hq.2.2.2.sift fun y hy => Or.inr (N y hy)).mono (by decide) (by decide)⟩⟩
theorem main_1_1 : Claimed_1_1 := comes_1 fun _ _ _ _ _ _ h hF => ⟨h.1, hF⟩
theorem main_1_2 : Claimed_1_2 := comes_1 fun _ _ _ _ _ _ h hF => ⟨h.2.1, hF⟩
end Jvm.Pilot.@@N@@
namespace Jvm.Pilot.@@N@@
open Jvm Jvm.ClassFile Sem Op Lib Jvm.Free Jvm.Stand Jvm.Pilot.@@N@@.Jvm.D
/-! MADE BY PROGRAM (witnessworld.py) out of the Statement's table words and the real class files: 31 classes; the members and pool entries that the words name. The judged class is class 1, her method 1. -/
namespace start1
open Jvm.ClassFile
def u (s : String) : CpInfo := .utf8 (stringToUtf16 s)
/-- a pool by its gaps: so many unusable entries, then the entry; so many at the end -/
def gap : Nat → List CpInfo → List CpInfo
  | 0, r => r
  | n + 1, r => .unusable :: gap n r
def poolList (es : List (Nat × CpInfo)) (last : Nat) : List CpInfo := es.foldr (fun e r => gap e.1 (e.2 :: r)) (gap last [])
def pool (es : List (Nat × CpInfo)) (last : Nat) : Array CpInfo := ⟨poolList es last⟩
def fileOf (pool : Array CpInfo) (this : Nat) (attrs : Array Attribute := #[]) (ms : Array MethodInfo := #[]) (fl : Nat := 33) (sup : Nat := 0) (ifs : Array Nat := #[]) (fds : Array FieldInfo := #[]) : ClassFile where
  minorVersion := 0
  majorVersion := 65
  constantPool := pool
  accessFlags := fl
  thisClass := this
  superClass := sup
  interfaces := ifs
  fields := fds
  methods := ms
  attributes := attrs
def plain (name : String) (sup : Option ClassId) : Class where
  name := name
  kind := .ordinary
  loader := none
  accessFlags := 33
  super := sup
  interfaces := #[]
  cf := none
  fields := #[]
  methods := #[]
  instanceTypes := #[]
  staticTypes := #[]
  resolved := #[]
  callSites := []
  init := .initialized
  statics := none
  mirror := none

def pool0 : Array CpInfo := pool [(5, u "<init>"), (0, u "()V"), (1, .class_ 10), (1, u "java/lang/Object")] 113

def k0c0 : Code := { maxStack := 0, maxLocals := 1, code := object_method_1_code, exceptionTable := #[], attributes := #[] }
def k0m0 : Method := { name := "<init>", desc := "()V", sig := { parameters := [], returnType := none }, accessFlags := 1, code := some k0c0 }
/-- java/lang/Object -/
def k0 : Class := { plain "java/lang/Object" none with
  accessFlags := 33
  interfaces := #[]
  cf := some (fileOf pool0 8 #[] #[{ accessFlags := 1, nameIndex := 5, descriptorIndex := 6, attributes := #[] }] 33 0 #[] #[])
  fields := #[]
  methods := #[k0m0]
  instanceTypes := #[]
  staticTypes := #[]
  resolved := Array.replicate 124 none
  statics := none }

def pool1 : Array CpInfo := pool [(2, .class_ 4), (0, .nameAndType 5 6), (0, u "java/lang/Object"), (0, u "<init>"), (0, u "()V"), (0, .class_ 8), (0, u "java/util/ArrayList"), (0, .methodref 7 3), (0, .methodref 11 12), (0, .class_ 13), (0, .nameAndType 14 15), (0, u "java/lang/Integer"), (0, u "valueOf"), (0, u "(I)Ljava/lang/Integer;"), (0, .methodref 7 17), (0, .nameAndType 18 19), (0, u "add"), (0, u "(Ljava/lang/Object;)Z"), (0, .class_ 21), (0, u "com/example/goalwright/goalwright/model/OpaqueValue"), (0, .methodref 20 23), (0, .nameAndType 5 24), (0, u "(Ljava/lang/Object;)V"), (0, .class_ 26), (0, u "com/example/goalwright/goalwright/model/IntegerValue"), (0, .methodref 25 28), (0, .nameAndType 5 29), (0, u "(J)V"), (0, .methodref 20 31), (0, .nameAndType 32 19), (0, u "equals"), (0, .class_ 34), (0, u "com/example/goalwright/goalwright/model/OpaqueValueEqualsPinLaw"), (2, u "law"), (0, u "(III)Z")] 3

def k1m0 : Method := { name := "<init>", desc := "()V", sig := { parameters := [], returnType := none }, accessFlags := 1, code := none }
def k1c1 : Code := { maxStack := 6, maxLocals := 11, code := code, exceptionTable := #[], attributes := #[] }
def k1m1 : Method := { name := "law", desc := "(III)Z", sig := { parameters := [.int, .int, .int], returnType := some .boolean }, accessFlags := 9, code := some k1c1 }
/-- com/example/goalwright/goalwright/model/OpaqueValueEqualsPinLaw -/
def k1 : Class := { plain "com/example/goalwright/goalwright/model/OpaqueValueEqualsPinLaw" (some 0) with
  accessFlags := 49
  interfaces := #[]
  cf := some (fileOf pool1 33 #[] #[{ accessFlags := 1, nameIndex := 5, descriptorIndex := 6, attributes := #[] }, { accessFlags := 9, nameIndex := 37, descriptorIndex := 38, attributes := #[] }] 49 2 #[] #[])
  fields := #[]
  methods := #[k1m0, k1m1]
  instanceTypes := #[]
  staticTypes := #[]
  resolved := Array.replicate 42 none
  statics := none }

def pool2 : Array CpInfo := pool [(8, .class_ 10), (1, u "java/lang/Iterable"), (24, .class_ 36), (0, u "java/lang/Object")] 25

/-- java/lang/Iterable -/
def k2 : Class := { plain "java/lang/Iterable" (some 0) with
  accessFlags := 1537
  interfaces := #[]
  cf := some (fileOf pool2 8 #[] #[] 1537 35 #[] #[])
  fields := #[]
  methods := #[]
  instanceTypes := #[]
  staticTypes := #[]
  resolved := Array.replicate 62 none
  statics := none }

def pool3 : Array CpInfo := pool [(10, .class_ 12), (1, u "java/util/Collection"), (47, .class_ 61), (0, u "java/lang/Object"), (0, .class_ 63), (0, u "java/lang/Iterable")] 51

/-- java/util/Collection -/
def k3 : Class := { plain "java/util/Collection" (some 0) with
  accessFlags := 1537
  interfaces := #[2]
  cf := some (fileOf pool3 10 #[] #[] 1537 60 #[62] #[])
  fields := #[]
  methods := #[]
  instanceTypes := #[]
  staticTypes := #[]
  resolved := Array.replicate 115 none
  statics := none }

def pool4 : Array CpInfo := pool [(1, .methodref 2 3), (0, .class_ 4), (0, .nameAndType 5 6), (0, u "java/lang/Object"), (0, u "<init>"), (0, u "()V"), (1, .class_ 10), (1, u "java/util/AbstractCollection"), (66, .class_ 78), (0, u "java/util/Collection")] 81

def k4c0 : Code := { maxStack := 1, maxLocals := 1, code := jdk_22_method_1_code, exceptionTable := #[], attributes := #[] }
def k4m0 : Method := { name := "<init>", desc := "()V", sig := { parameters := [], returnType := none }, accessFlags := 4, code := some k4c0 }
/-- java/util/AbstractCollection -/
def k4 : Class := { plain "java/util/AbstractCollection" (some 0) with
  accessFlags := 1057
  interfaces := #[3]
  cf := some (fileOf pool4 8 #[] #[{ accessFlags := 4, nameIndex := 5, descriptorIndex := 6, attributes := #[] }] 1057 2 #[77] #[])
  fields := #[]
  methods := #[k4m0]
  instanceTypes := #[]
  staticTypes := #[]
  resolved := Array.replicate 160 none
  statics := none }

def pool5 : Array CpInfo := pool [(8, .class_ 10), (1, u "java/util/SequencedCollection"), (15, .class_ 27), (0, u "java/lang/Object"), (0, .class_ 29), (0, u "java/util/Collection")] 27

/-- java/util/SequencedCollection -/
def k5 : Class := { plain "java/util/SequencedCollection" (some 0) with
  accessFlags := 1537
  interfaces := #[3]
  cf := some (fileOf pool5 8 #[] #[] 1537 26 #[28] #[])
  fields := #[]
  methods := #[]
  instanceTypes := #[]
  staticTypes := #[]
  resolved := Array.replicate 57 none
  statics := none }

def pool6 : Array CpInfo := pool [(8, .class_ 10), (1, u "java/util/List"), (92, .class_ 104), (0, u "java/lang/Object"), (15, .class_ 121), (0, u "java/util/SequencedCollection")] 129

/-- java/util/List -/
def k6 : Class := { plain "java/util/List" (some 0) with
  accessFlags := 1537
  interfaces := #[5]
  cf := some (fileOf pool6 8 #[] #[] 1537 103 #[120] #[])
  fields := #[]
  methods := #[]
  instanceTypes := #[]
  staticTypes := #[]
  resolved := Array.replicate 251 none
  statics := none }

def pool7 : Array CpInfo := pool [(1, .methodref 2 3), (0, .class_ 4), (0, .nameAndType 5 6), (0, u "java/util/AbstractCollection"), (0, u "<init>"), (0, u "()V"), (0, .fieldref 8 9), (0, .class_ 10), (0, .nameAndType 11 12), (0, u "java/util/AbstractList"), (0, u "modCount"), (0, u "I"), (64, .class_ 78), (0, u "java/util/AbstractList$Itr"), (3, .class_ 83), (0, u "java/util/AbstractList$ListItr"), (9, .class_ 94), (0, u "java/util/AbstractList$RandomAccessSubList"), (3, .class_ 99), (0, u "java/util/AbstractList$SubList"), (33, .class_ 134), (0, u "java/util/List"), (73, .class_ 209), (0, u "java/util/AbstractList$SubList$1"), (0, .class_ 211), (0, u "java/util/AbstractList$RandomAccessSpliterator")] 6

def k7c0 : Code := { maxStack := 2, maxLocals := 1, code := jdk_39_method_1_code, exceptionTable := #[], attributes := #[] }
def k7m0 : Method := { name := "<init>", desc := "()V", sig := { parameters := [], returnType := none }, accessFlags := 4, code := some k7c0 }
/-- java/util/AbstractList -/
def k7 : Class := { plain "java/util/AbstractList" (some 4) with
  accessFlags := 1057
  interfaces := #[6]
  cf := some (fileOf pool7 8 #[.nestMembers #[93, 98, 208, 210, 82, 77]] #[{ accessFlags := 4, nameIndex := 5, descriptorIndex := 6, attributes := #[] }] 1057 2 #[133] #[{ accessFlags := 132, nameIndex := 11, descriptorIndex := 12, attributes := #[] }])
  fields := #[{ name := "modCount", type := .int, accessFlags := 132, slot := 0, constantValue := 0 }]
  methods := #[k7m0]
  instanceTypes := #[.int]
  staticTypes := #[]
  resolved := Array.replicate 218 none
  statics := none }

def pool8 : Array CpInfo := pool [(1, .class_ 2), (0, u "java/util/RandomAccess"), (0, .class_ 4), (0, u "java/lang/Object")] 2

/-- java/util/RandomAccess -/
def k8 : Class := { plain "java/util/RandomAccess" (some 0) with
  accessFlags := 1537
  interfaces := #[]
  cf := some (fileOf pool8 1 #[] #[] 1537 3 #[] #[])
  fields := #[]
  methods := #[]
  instanceTypes := #[]
  staticTypes := #[]
  resolved := Array.replicate 7 none
  statics := none }

def pool9 : Array CpInfo := pool [(1, .class_ 2), (0, u "java/lang/Cloneable"), (0, .class_ 4), (0, u "java/lang/Object")] 2

/-- java/lang/Cloneable -/
def k9 : Class := { plain "java/lang/Cloneable" (some 0) with
  accessFlags := 1537
  interfaces := #[]
  cf := some (fileOf pool9 1 #[] #[] 1537 3 #[] #[])
  fields := #[]
  methods := #[]
  instanceTypes := #[]
  staticTypes := #[]
  resolved := Array.replicate 7 none
  statics := none }

def pool10 : Array CpInfo := pool [(1, .class_ 2), (0, u "java/io/Serializable"), (0, .class_ 4), (0, u "java/lang/Object")] 2

/-- java/io/Serializable -/
def k10 : Class := { plain "java/io/Serializable" (some 0) with
  accessFlags := 1537
  interfaces := #[]
  cf := some (fileOf pool10 1 #[] #[] 1537 3 #[] #[])
  fields := #[]
  methods := #[]
  instanceTypes := #[]
  staticTypes := #[]
  resolved := Array.replicate 7 none
  statics := none }

def pool11 : Array CpInfo := pool [(1, .methodref 2 3), (0, .class_ 4), (0, .nameAndType 5 6), (0, u "java/util/AbstractList"), (0, u "<init>"), (0, u "()V"), (0, .class_ 8), (0, u "java/lang/Object"), (0, .fieldref 10 11), (0, .class_ 12), (0, .nameAndType 13 14), (0, u "java/util/ArrayList"), (0, u "elementData"), (0, u "[Ljava/lang/Object;"), (2, u "EMPTY_ELEMENTDATA"), (21, .fieldref 10 40), (0, .nameAndType 41 14), (0, u "DEFAULTCAPACITY_EMPTY_ELEMENTDATA"), (5, u "()[Ljava/lang/Object;"), (0, .fieldref 10 49), (0, .nameAndType 50 51), (0, u "size"), (0, u "I"), (11, .fieldref 10 64), (0, .nameAndType 65 51), (0, u "modCount"), (3, .methodref 10 70), (0, .nameAndType 71 72), (0, u "grow"), (0, u "(I)[Ljava/lang/Object;"), (6, .methodref 80 81), (0, .class_ 82), (0, .nameAndType 83 84), (0, u "java/lang/Math"), (0, u "max"), (0, u "(II)I"), (11, u "(Ljava/lang/Object;)Z"), (32, .methodref 10 130), (0, .nameAndType 71 47), (0, .methodref 10 132), (0, .nameAndType 133 134), (0, u "add"), (0, u "(Ljava/lang/Object;[Ljava/lang/Object;I)V"), (13, .class_ 149), (0, u "java/util/List"), (112, .class_ 263), (0, u "java/util/ArrayList$ListItr"), (3, .class_ 268), (0, u "java/util/ArrayList$Itr"), (7, .class_ 277), (0, u "java/util/ArrayList$SubList"), (12, .class_ 291), (0, u "java/util/ArrayList$ArrayListSpliterator"), (37, .class_ 330), (0, u "java/util/RandomAccess"), (0, .class_ 332), (0, u "java/lang/Cloneable"), (0, .class_ 334), (0, u "java/io/Serializable"), (0, u "serialVersionUID"), (0, u "J"), (3, u "DEFAULT_CAPACITY"), (159, .class_ 501), (0, u "java/util/ArrayList$SubList$2"), (0, .class_ 503), (0, u "java/util/ArrayList$SubList$1")] 5

def k11c0 : Code := { maxStack := 2, maxLocals := 1, code := jdk_38_method_2_code, exceptionTable := #[], attributes := #[] }
def k11m0 : Method := { name := "<init>", desc := "()V", sig := { parameters := [], returnType := none }, accessFlags := 1, code := some k11c0 }
def k11c1 : Code := { maxStack := 4, maxLocals := 4, code := jdk_38_method_6_code, exceptionTable := #[], attributes := #[] }
def k11m1 : Method := { name := "grow", desc := "(I)[Ljava/lang/Object;", sig := { parameters := [.int], returnType := some (.array (.object "java/lang/Object")) }, accessFlags := 2, code := some k11c1 }
def k11c2 : Code := { maxStack := 3, maxLocals := 1, code := jdk_38_method_7_code, exceptionTable := #[], attributes := #[] }
def k11m2 : Method := { name := "grow", desc := "()[Ljava/lang/Object;", sig := { parameters := [], returnType := some (.array (.object "java/lang/Object")) }, accessFlags := 2, code := some k11c2 }
def k11c3 : Code := { maxStack := 3, maxLocals := 4, code := jdk_38_method_24_code, exceptionTable := #[], attributes := #[] }
def k11m3 : Method := { name := "add", desc := "(Ljava/lang/Object;[Ljava/lang/Object;I)V", sig := { parameters := [(.object "java/lang/Object"), (.array (.object "java/lang/Object")), .int], returnType := none }, accessFlags := 2, code := some k11c3 }
def k11c4 : Code := { maxStack := 4, maxLocals := 2, code := jdk_38_method_25_code, exceptionTable := #[], attributes := #[] }
def k11m4 : Method := { name := "add", desc := "(Ljava/lang/Object;)Z", sig := { parameters := [(.object "java/lang/Object")], returnType := some .boolean }, accessFlags := 1, code := some k11c4 }
/-- java/util/ArrayList -/
def k11 : Class := { plain "java/util/ArrayList" (some 7) with
  accessFlags := 33
  interfaces := #[6, 8, 9, 10]
  cf := some (fileOf pool11 10 #[.nestMembers #[290, 276, 500, 502, 262, 267]] #[{ accessFlags := 1, nameIndex := 5, descriptorIndex := 6, attributes := #[] }, { accessFlags := 2, nameIndex := 71, descriptorIndex := 72, attributes := #[] }, { accessFlags := 2, nameIndex := 71, descriptorIndex := 47, attributes := #[] }, { accessFlags := 2, nameIndex := 133, descriptorIndex := 134, attributes := #[] }, { accessFlags := 1, nameIndex := 133, descriptorIndex := 96, attributes := #[] }] 33 2 #[148, 329, 331, 333] #[{ accessFlags := 26, nameIndex := 335, descriptorIndex := 336, attributes := #[] }, { accessFlags := 26, nameIndex := 340, descriptorIndex := 51, attributes := #[] }, { accessFlags := 26, nameIndex := 17, descriptorIndex := 14, attributes := #[] }, { accessFlags := 26, nameIndex := 41, descriptorIndex := 14, attributes := #[] }, { accessFlags := 128, nameIndex := 13, descriptorIndex := 14, attributes := #[] }, { accessFlags := 2, nameIndex := 50, descriptorIndex := 51, attributes := #[] }])
  fields := #[{ name := "serialVersionUID", type := .long, accessFlags := 26, slot := 0, constantValue := 0 }, { name := "DEFAULT_CAPACITY", type := .int, accessFlags := 26, slot := 1, constantValue := 0 }, { name := "EMPTY_ELEMENTDATA", type := (.array (.object "java/lang/Object")), accessFlags := 26, slot := 2, constantValue := 0 }, { name := "DEFAULTCAPACITY_EMPTY_ELEMENTDATA", type := (.array (.object "java/lang/Object")), accessFlags := 26, slot := 3, constantValue := 0 }, { name := "elementData", type := (.array (.object "java/lang/Object")), accessFlags := 128, slot := 1, constantValue := 0 }, { name := "size", type := .int, accessFlags := 2, slot := 2, constantValue := 0 }]
  methods := #[k11m0, k11m1, k11m2, k11m3, k11m4]
  instanceTypes := #[.int, (.array (.object "java/lang/Object")), .int]
  staticTypes := #[.long, .int, (.array (.object "java/lang/Object")), (.array (.object "java/lang/Object"))]
  resolved := Array.replicate 509 none
  statics := some 0 }

def pool12 : Array CpInfo := pool [(1, .methodref 2 3), (0, .class_ 4), (0, .nameAndType 5 6), (0, u "java/lang/Object"), (0, u "<init>"), (0, u "()V"), (1, .class_ 10), (1, u "java/lang/Number"), (2, .class_ 14), (0, u "java/io/Serializable"), (0, u "serialVersionUID"), (0, u "J")] 20

def k12c0 : Code := { maxStack := 1, maxLocals := 1, code := jdk_18_method_1_code, exceptionTable := #[], attributes := #[] }
def k12m0 : Method := { name := "<init>", desc := "()V", sig := { parameters := [], returnType := none }, accessFlags := 1, code := some k12c0 }
/-- java/lang/Number -/
def k12 : Class := { plain "java/lang/Number" (some 0) with
  accessFlags := 1057
  interfaces := #[10]
  cf := some (fileOf pool12 8 #[] #[{ accessFlags := 1, nameIndex := 5, descriptorIndex := 6, attributes := #[] }] 1057 2 #[13] #[{ accessFlags := 26, nameIndex := 15, descriptorIndex := 16, attributes := #[] }])
  fields := #[{ name := "serialVersionUID", type := .long, accessFlags := 26, slot := 0, constantValue := 0 }]
  methods := #[k12m0]
  instanceTypes := #[]
  staticTypes := #[.long]
  resolved := Array.replicate 37 none
  statics := none }

def pool13 : Array CpInfo := pool [(1, .class_ 2), (0, u "java/lang/Comparable"), (0, .class_ 4), (0, u "java/lang/Object")] 7

/-- java/lang/Comparable -/
def k13 : Class := { plain "java/lang/Comparable" (some 0) with
  accessFlags := 1537
  interfaces := #[]
  cf := some (fileOf pool13 1 #[] #[] 1537 3 #[] #[])
  fields := #[]
  methods := #[]
  instanceTypes := #[]
  staticTypes := #[]
  resolved := Array.replicate 12 none
  statics := none }

def pool14 : Array CpInfo := pool [(1, .class_ 2), (0, u "java/lang/constant/Constable"), (0, .class_ 4), (0, u "java/lang/Object")] 6

/-- java/lang/constant/Constable -/
def k14 : Class := { plain "java/lang/constant/Constable" (some 0) with
  accessFlags := 1537
  interfaces := #[]
  cf := some (fileOf pool14 1 #[] #[] 1537 3 #[] #[])
  fields := #[]
  methods := #[]
  instanceTypes := #[]
  staticTypes := #[]
  resolved := Array.replicate 11 none
  statics := none }

def pool15 : Array CpInfo := pool [(1, .class_ 2), (0, u "java/lang/constant/ConstantDesc"), (0, .class_ 4), (0, u "java/lang/Object")] 32

/-- java/lang/constant/ConstantDesc -/
def k15 : Class := { plain "java/lang/constant/ConstantDesc" (some 0) with
  accessFlags := 1537
  interfaces := #[]
  cf := some (fileOf pool15 1 #[] #[] 1537 3 #[] #[])
  fields := #[]
  methods := #[]
  instanceTypes := #[]
  staticTypes := #[]
  resolved := Array.replicate 37 none
  statics := none }

def pool16 : Array CpInfo := pool [(1, .class_ 2), (0, u "java/lang/Integer"), (16, u "digits"), (0, u "[C"), (46, u "<init>"), (17, u "DigitOnes"), (0, u "[B"), (2, u "DigitTens"), (10, .nameAndType 67 101), (0, u "()V"), (85, u "valueOf"), (0, u "(I)Ljava/lang/Integer;"), (0, .class_ 190), (0, u "java/lang/Integer$IntegerCache"), (0, .fieldref 189 192), (0, .nameAndType 193 194), (0, u "high"), (0, u "I"), (0, .fieldref 189 196), (0, .nameAndType 197 198), (0, u "cache"), (0, u "[Ljava/lang/Integer;"), (0, .methodref 1 200), (0, .nameAndType 67 201), (0, u "(I)V"), (0, .methodref 203 100), (0, .class_ 204), (0, u "java/lang/Number"), (0, .fieldref 1 206), (0, .nameAndType 207 194), (0, u "value"), (94, u "TYPE"), (0, u "Ljava/lang/Class;"), (0, .class_ 305), (0, u "java/lang/Comparable"), (0, .class_ 307), (0, u "java/lang/constant/Constable"), (0, .class_ 309), (0, u "java/lang/constant/ConstantDesc"), (0, u "MIN_VALUE"), (1, u "MAX_VALUE"), (3, u "SIZE"), (1, u "BYTES"), (1, u "serialVersionUID"), (0, u "J")] 131

def k16c0 : Code := { maxStack := 3, maxLocals := 1, code := jdk_33_method_22_code, exceptionTable := #[], attributes := #[] }
def k16m0 : Method := { name := "valueOf", desc := "(I)Ljava/lang/Integer;", sig := { parameters := [.int], returnType := some (.object "java/lang/Integer") }, accessFlags := 9, code := some k16c0 }
def k16c1 : Code := { maxStack := 2, maxLocals := 2, code := jdk_33_method_23_code, exceptionTable := #[], attributes := #[] }
def k16m1 : Method := { name := "<init>", desc := "(I)V", sig := { parameters := [.int], returnType := none }, accessFlags := 1, code := some k16c1 }
/-- java/lang/Integer -/
def k16 : Class := { plain "java/lang/Integer" (some 12) with
  accessFlags := 49
  interfaces := #[13, 14, 15]
  cf := some (fileOf pool16 1 #[.nestMembers #[189]] #[{ accessFlags := 9, nameIndex := 187, descriptorIndex := 188, attributes := #[] }, { accessFlags := 1, nameIndex := 67, descriptorIndex := 201, attributes := #[] }] 49 203 #[304, 306, 308] #[{ accessFlags := 25, nameIndex := 310, descriptorIndex := 194, attributes := #[] }, { accessFlags := 25, nameIndex := 312, descriptorIndex := 194, attributes := #[] }, { accessFlags := 25, nameIndex := 302, descriptorIndex := 303, attributes := #[] }, { accessFlags := 24, nameIndex := 19, descriptorIndex := 20, attributes := #[] }, { accessFlags := 24, nameIndex := 89, descriptorIndex := 86, attributes := #[] }, { accessFlags := 24, nameIndex := 85, descriptorIndex := 86, attributes := #[] }, { accessFlags := 18, nameIndex := 207, descriptorIndex := 194, attributes := #[] }, { accessFlags := 25, nameIndex := 316, descriptorIndex := 194, attributes := #[] }, { accessFlags := 25, nameIndex := 318, descriptorIndex := 194, attributes := #[] }, { accessFlags := 26, nameIndex := 320, descriptorIndex := 321, attributes := #[] }])
  fields := #[{ name := "MIN_VALUE", type := .int, accessFlags := 25, slot := 0, constantValue := 0 }, { name := "MAX_VALUE", type := .int, accessFlags := 25, slot := 1, constantValue := 0 }, { name := "TYPE", type := (.object "java/lang/Class"), accessFlags := 25, slot := 2, constantValue := 0 }, { name := "digits", type := (.array .char), accessFlags := 24, slot := 3, constantValue := 0 }, { name := "DigitTens", type := (.array .byte), accessFlags := 24, slot := 4, constantValue := 0 }, { name := "DigitOnes", type := (.array .byte), accessFlags := 24, slot := 5, constantValue := 0 }, { name := "value", type := .int, accessFlags := 18, slot := 0, constantValue := 0 }, { name := "SIZE", type := .int, accessFlags := 25, slot := 6, constantValue := 0 }, { name := "BYTES", type := .int, accessFlags := 25, slot := 7, constantValue := 0 }, { name := "serialVersionUID", type := .long, accessFlags := 26, slot := 8, constantValue := 0 }]
  methods := #[k16m0, k16m1]
  instanceTypes := #[.int]
  staticTypes := #[.int, .int, (.object "java/lang/Class"), (.array .char), (.array .byte), (.array .byte), .int, .int, .long]
  resolved := Array.replicate 453 none
  statics := none }

def pool17 : Array CpInfo := pool [(2, .class_ 4), (1, u "java/lang/Object"), (0, u "<init>"), (0, u "()V"), (0, .class_ 8), (0, u "java/lang/Integer"), (7, .class_ 18), (1, u "java/lang/Integer$IntegerCache"), (0, u "$assertionsDisabled"), (0, u "Z"), (26, u "high"), (0, u "I"), (8, u "archivedCache"), (0, u "[Ljava/lang/Integer;"), (12, u "cache"), (0, u "low")] 27

def k17m0 : Method := { name := "<init>", desc := "()V", sig := { parameters := [], returnType := none }, accessFlags := 2, code := none }
/-- java/lang/Integer$IntegerCache -/
def k17 : Class := { plain "java/lang/Integer$IntegerCache" (some 0) with
  accessFlags := 48
  interfaces := #[]
  cf := some (fileOf pool17 16 #[.nestHost 7] #[{ accessFlags := 2, nameIndex := 5, descriptorIndex := 6, attributes := #[] }] 48 2 #[] #[{ accessFlags := 24, nameIndex := 72, descriptorIndex := 48, attributes := #[] }, { accessFlags := 24, nameIndex := 47, descriptorIndex := 48, attributes := #[] }, { accessFlags := 24, nameIndex := 71, descriptorIndex := 58, attributes := #[] }, { accessFlags := 8, nameIndex := 57, descriptorIndex := 58, attributes := #[] }, { accessFlags := 4120, nameIndex := 19, descriptorIndex := 20, attributes := #[] }])
  fields := #[{ name := "low", type := .int, accessFlags := 24, slot := 0, constantValue := 0 }, { name := "high", type := .int, accessFlags := 24, slot := 1, constantValue := 0 }, { name := "cache", type := (.array (.object "java/lang/Integer")), accessFlags := 24, slot := 2, constantValue := 0 }, { name := "archivedCache", type := (.array (.object "java/lang/Integer")), accessFlags := 8, slot := 3, constantValue := 0 }, { name := "$assertionsDisabled", type := .boolean, accessFlags := 4120, slot := 4, constantValue := 0 }]
  methods := #[k17m0]
  instanceTypes := #[]
  staticTypes := #[.int, .int, (.array (.object "java/lang/Integer")), (.array (.object "java/lang/Integer")), .boolean]
  resolved := Array.replicate 100 none
  statics := some 1 }

def pool18 : Array CpInfo := pool [(1, .class_ 2), (0, u "java/lang/Math"), (1, .class_ 6), (1, u "java/lang/Object"), (0, u "<init>"), (0, u "()V"), (89, .class_ 100), (1, u "java/lang/Math$RandomNumberGeneratorHolder"), (71, u "negativeZeroFloatBits"), (0, u "J"), (2, u "negativeZeroDoubleBits"), (21, u "max"), (46, u "$assertionsDisabled"), (0, u "Z"), (88, u "(II)I"), (2, u "twoToTheDoubleScaleDown"), (0, u "D"), (4, u "twoToTheDoubleScaleUp"), (9, u "E"), (3, u "PI"), (2, u "TAU"), (2, u "DEGREES_TO_RADIANS"), (0, u "RADIANS_TO_DEGREES")] 94

def k18m0 : Method := { name := "<init>", desc := "()V", sig := { parameters := [], returnType := none }, accessFlags := 2, code := none }
def k18c1 : Code := { maxStack := 2, maxLocals := 2, code := jdk_29_method_65_code, exceptionTable := #[], attributes := #[] }
def k18m1 : Method := { name := "max", desc := "(II)I", sig := { parameters := [.int, .int], returnType := some .int }, accessFlags := 9, code := some k18c1 }
/-- java/lang/Math -/
def k18 : Class := { plain "java/lang/Math" (some 0) with
  accessFlags := 49
  interfaces := #[]
  cf := some (fileOf pool18 1 #[.nestMembers #[98]] #[{ accessFlags := 2, nameIndex := 7, descriptorIndex := 8, attributes := #[] }, { accessFlags := 9, nameIndex := 198, descriptorIndex := 335, attributes := #[] }] 49 4 #[] #[{ accessFlags := 25, nameIndex := 354, descriptorIndex := 339, attributes := #[] }, { accessFlags := 25, nameIndex := 358, descriptorIndex := 339, attributes := #[] }, { accessFlags := 25, nameIndex := 361, descriptorIndex := 339, attributes := #[] }, { accessFlags := 26, nameIndex := 364, descriptorIndex := 339, attributes := #[] }, { accessFlags := 26, nameIndex := 365, descriptorIndex := 339, attributes := #[] }, { accessFlags := 26, nameIndex := 172, descriptorIndex := 173, attributes := #[] }, { accessFlags := 26, nameIndex := 176, descriptorIndex := 173, attributes := #[] }, { accessFlags := 8, nameIndex := 344, descriptorIndex := 339, attributes := #[] }, { accessFlags := 8, nameIndex := 338, descriptorIndex := 339, attributes := #[] }, { accessFlags := 4120, nameIndex := 245, descriptorIndex := 246, attributes := #[] }])
  fields := #[{ name := "E", type := .double, accessFlags := 25, slot := 0, constantValue := 0 }, { name := "PI", type := .double, accessFlags := 25, slot := 1, constantValue := 0 }, { name := "TAU", type := .double, accessFlags := 25, slot := 2, constantValue := 0 }, { name := "DEGREES_TO_RADIANS", type := .double, accessFlags := 26, slot := 3, constantValue := 0 }, { name := "RADIANS_TO_DEGREES", type := .double, accessFlags := 26, slot := 4, constantValue := 0 }, { name := "negativeZeroFloatBits", type := .long, accessFlags := 26, slot := 5, constantValue := 0 }, { name := "negativeZeroDoubleBits", type := .long, accessFlags := 26, slot := 6, constantValue := 0 }, { name := "twoToTheDoubleScaleUp", type := .double, accessFlags := 8, slot := 7, constantValue := 0 }, { name := "twoToTheDoubleScaleDown", type := .double, accessFlags := 8, slot := 8, constantValue := 0 }, { name := "$assertionsDisabled", type := .boolean, accessFlags := 4120, slot := 9, constantValue := 0 }]
  methods := #[k18m0, k18m1]
  instanceTypes := #[]
  staticTypes := #[.double, .double, .double, .double, .double, .long, .long, .double, .double, .boolean]
  resolved := Array.replicate 460 none
  statics := none }

def pool19 : Array CpInfo := pool [(1, .class_ 2), (0, u "com/example/goalwright/goalwright/model/Value"), (0, .methodref 4 5), (0, .class_ 6), (0, .nameAndType 7 8), (0, u "java/lang/Object"), (0, u "<init>"), (0, u "()V"), (66, u "MAX_DEPTH"), (0, u "I"), (2, u "TOO_DEEP"), (0, u "Ljava/lang/String;")] 46

def k19c0 : Code := { maxStack := 1, maxLocals := 1, code := prog_166_method_1_code, exceptionTable := #[], attributes := #[] }
def k19m0 : Method := { name := "<init>", desc := "()V", sig := { parameters := [], returnType := none }, accessFlags := 0, code := some k19c0 }
/-- com/example/goalwright/goalwright/model/Value -/
def k19 : Class := { plain "com/example/goalwright/goalwright/model/Value" (some 0) with
  accessFlags := 1057
  interfaces := #[]
  cf := some (fileOf pool19 1 #[] #[{ accessFlags := 0, nameIndex := 7, descriptorIndex := 8, attributes := #[] }] 1057 4 #[] #[{ accessFlags := 25, nameIndex := 75, descriptorIndex := 76, attributes := #[] }, { accessFlags := 25, nameIndex := 79, descriptorIndex := 80, attributes := #[] }])
  fields := #[{ name := "MAX_DEPTH", type := .int, accessFlags := 25, slot := 0, constantValue := 0 }, { name := "TOO_DEEP", type := (.object "java/lang/String"), accessFlags := 25, slot := 1, constantValue := 0 }]
  methods := #[k19m0]
  instanceTypes := #[]
  staticTypes := #[.int, (.object "java/lang/String")]
  resolved := Array.replicate 127 none
  statics := none }

def pool20 : Array CpInfo := pool [(1, .methodref 2 3), (0, .class_ 4), (0, .nameAndType 5 6), (0, u "com/example/goalwright/goalwright/model/Value"), (0, u "<init>"), (0, u "()V"), (0, .string 8), (0, u "object"), (0, .methodref 10 11), (0, .class_ 12), (0, .nameAndType 13 14), (0, u "java/util/Objects"), (0, u "requireNonNull"), (0, u "(Ljava/lang/Object;Ljava/lang/String;)Ljava/lang/Object;"), (0, .fieldref 16 17), (0, .class_ 18), (0, .nameAndType 8 19), (0, u "com/example/goalwright/goalwright/model/OpaqueValue"), (0, u "Ljava/lang/Object;"), (29, u "(Ljava/lang/Object;)V"), (5, u "equals"), (0, u "(Ljava/lang/Object;)Z")] 5

def k20c0 : Code := { maxStack := 3, maxLocals := 2, code := prog_154_method_1_code, exceptionTable := #[], attributes := #[] }
def k20m0 : Method := { name := "<init>", desc := "(Ljava/lang/Object;)V", sig := { parameters := [(.object "java/lang/Object")], returnType := none }, accessFlags := 1, code := some k20c0 }
def k20c1 : Code := { maxStack := 2, maxLocals := 3, code := prog_154_method_4_code, exceptionTable := #[], attributes := #[] }
def k20m1 : Method := { name := "equals", desc := "(Ljava/lang/Object;)Z", sig := { parameters := [(.object "java/lang/Object")], returnType := some .boolean }, accessFlags := 1, code := some k20c1 }
/-- com/example/goalwright/goalwright/model/OpaqueValue -/
def k20 : Class := { plain "com/example/goalwright/goalwright/model/OpaqueValue" (some 19) with
  accessFlags := 49
  interfaces := #[]
  cf := some (fileOf pool20 16 #[] #[{ accessFlags := 1, nameIndex := 5, descriptorIndex := 49, attributes := #[] }, { accessFlags := 1, nameIndex := 55, descriptorIndex := 56, attributes := #[] }] 49 2 #[] #[{ accessFlags := 18, nameIndex := 8, descriptorIndex := 19, attributes := #[] }])
  fields := #[{ name := "object", type := (.object "java/lang/Object"), accessFlags := 18, slot := 0, constantValue := 0 }]
  methods := #[k20m0, k20m1]
  instanceTypes := #[(.object "java/lang/Object")]
  staticTypes := #[]
  resolved := Array.replicate 62 none
  statics := none }

def pool21 : Array CpInfo := pool [(2, .class_ 4), (1, u "java/lang/CharSequence"), (42, .class_ 48), (0, u "java/lang/CharSequence$1CodePointIterator"), (10, .class_ 60), (0, u "java/lang/CharSequence$1CharIterator"), (5, .class_ 67), (0, u "java/lang/Object")] 63

/-- java/lang/CharSequence -/
def k21 : Class := { plain "java/lang/CharSequence" (some 0) with
  accessFlags := 1537
  interfaces := #[]
  cf := some (fileOf pool21 2 #[.nestMembers #[47, 59]] #[] 1537 66 #[] #[])
  fields := #[]
  methods := #[]
  instanceTypes := #[]
  staticTypes := #[]
  resolved := Array.replicate 131 none
  statics := none }

def pool22 : Array CpInfo := pool [(2, .class_ 4), (1, u "java/lang/Object"), (0, u "<init>"), (0, u "()V"), (3, .class_ 12), (1, u "java/lang/String"), (0, u "value"), (0, u "[B"), (2, u "coder"), (0, u "B"), (2, u "hash"), (0, u "I"), (2, u "hashIsZero"), (0, u "Z"), (13, u "COMPACT_STRINGS"), (534, .class_ 576), (0, u "java/lang/CharSequence"), (22, u "CASE_INSENSITIVE_ORDER"), (0, u "Ljava/util/Comparator;"), (500, u "serialPersistentFields"), (0, u "[Ljava/io/ObjectStreamField;"), (0, .class_ 1104), (0, u "java/lang/String$CaseInsensitiveComparator"), (1, .class_ 1107), (0, u "java/io/Serializable"), (0, .class_ 1109), (0, u "java/lang/Comparable"), (0, .class_ 1111), (0, u "java/lang/constant/Constable"), (0, .class_ 1113), (0, u "java/lang/constant/ConstantDesc"), (2, u "serialVersionUID"), (0, u "J"), (3, u "REPL"), (0, u "C"), (2, u "LATIN1"), (1, u "UTF16")] 323

def k22m0 : Method := { name := "<init>", desc := "()V", sig := { parameters := [], returnType := none }, accessFlags := 1, code := none }
/-- java/lang/String -/
def k22 : Class := { plain "java/lang/String" (some 0) with
  accessFlags := 49
  interfaces := #[10, 13, 21, 14, 15]
  cf := some (fileOf pool22 10 #[.nestMembers #[1103]] #[{ accessFlags := 1, nameIndex := 5, descriptorIndex := 6, attributes := #[] }] 49 2 #[1106, 1108, 575, 1110, 1112] #[{ accessFlags := 18, nameIndex := 13, descriptorIndex := 14, attributes := #[] }, { accessFlags := 18, nameIndex := 17, descriptorIndex := 18, attributes := #[] }, { accessFlags := 2, nameIndex := 21, descriptorIndex := 22, attributes := #[] }, { accessFlags := 2, nameIndex := 25, descriptorIndex := 26, attributes := #[] }, { accessFlags := 26, nameIndex := 1116, descriptorIndex := 1117, attributes := #[] }, { accessFlags := 24, nameIndex := 40, descriptorIndex := 26, attributes := #[] }, { accessFlags := 26, nameIndex := 1101, descriptorIndex := 1102, attributes := #[] }, { accessFlags := 26, nameIndex := 1121, descriptorIndex := 1122, attributes := #[] }, { accessFlags := 25, nameIndex := 599, descriptorIndex := 600, attributes := #[] }, { accessFlags := 24, nameIndex := 1125, descriptorIndex := 18, attributes := #[] }, { accessFlags := 24, nameIndex := 1127, descriptorIndex := 18, attributes := #[] }])
  fields := #[{ name := "value", type := (.array .byte), accessFlags := 18, slot := 0, constantValue := 0 }, { name := "coder", type := .byte, accessFlags := 18, slot := 1, constantValue := 0 }, { name := "hash", type := .int, accessFlags := 2, slot := 2, constantValue := 0 }, { name := "hashIsZero", type := .boolean, accessFlags := 2, slot := 3, constantValue := 0 }, { name := "serialVersionUID", type := .long, accessFlags := 26, slot := 0, constantValue := 0 }, { name := "COMPACT_STRINGS", type := .boolean, accessFlags := 24, slot := 1, constantValue := 0 }, { name := "serialPersistentFields", type := (.array (.object "java/io/ObjectStreamField")), accessFlags := 26, slot := 2, constantValue := 0 }, { name := "REPL", type := .char, accessFlags := 26, slot := 3, constantValue := 0 }, { name := "CASE_INSENSITIVE_ORDER", type := (.object "java/util/Comparator"), accessFlags := 25, slot := 4, constantValue := 0 }, { name := "LATIN1", type := .byte, accessFlags := 24, slot := 5, constantValue := 0 }, { name := "UTF16", type := .byte, accessFlags := 24, slot := 6, constantValue := 0 }]
  methods := #[k22m0]
  instanceTypes := #[(.array .byte), .byte, .int, .boolean]
  staticTypes := #[.long, .boolean, (.array (.object "java/io/ObjectStreamField")), .char, (.object "java/util/Comparator"), .byte, .byte]
  resolved := Array.replicate 1451 none
  statics := none }

def pool23 : Array CpInfo := pool [(2, .class_ 4), (1, u "java/lang/Object"), (0, u "<init>"), (0, u "()V"), (35, .class_ 44), (1, u "java/util/Objects"), (0, u "requireNonNull"), (48, u "(Ljava/lang/Object;Ljava/lang/String;)Ljava/lang/Object;")] 89

def k23m0 : Method := { name := "<init>", desc := "()V", sig := { parameters := [], returnType := none }, accessFlags := 2, code := none }
def k23c1 : Code := { maxStack := 3, maxLocals := 2, code := jdk_31_method_11_code, exceptionTable := #[], attributes := #[] }
def k23m1 : Method := { name := "requireNonNull", desc := "(Ljava/lang/Object;Ljava/lang/String;)Ljava/lang/Object;", sig := { parameters := [(.object "java/lang/Object"), (.object "java/lang/String")], returnType := some (.object "java/lang/Object") }, accessFlags := 9, code := some k23c1 }
/-- java/util/Objects -/
def k23 : Class := { plain "java/util/Objects" (some 0) with
  accessFlags := 49
  interfaces := #[]
  cf := some (fileOf pool23 42 #[] #[{ accessFlags := 2, nameIndex := 5, descriptorIndex := 6, attributes := #[] }, { accessFlags := 9, nameIndex := 45, descriptorIndex := 94, attributes := #[] }] 49 2 #[] #[])
  fields := #[]
  methods := #[k23m0, k23m1]
  instanceTypes := #[]
  staticTypes := #[]
  resolved := Array.replicate 184 none
  statics := none }

def pool24 : Array CpInfo := pool [(1, .methodref 2 3), (0, .class_ 4), (0, .nameAndType 5 6), (0, u "com/example/goalwright/goalwright/model/Value"), (0, u "<init>"), (0, u "()V"), (0, .fieldref 8 9), (0, .class_ 10), (0, .nameAndType 11 12), (0, u "com/example/goalwright/goalwright/model/IntegerValue"), (0, u "value"), (0, u "J"), (6, u "SMALL_VALUES"), (0, u "[Lcom/example/goalwright/goalwright/model/IntegerValue;"), (2, u "(J)V"), (12, u "SMALL"), (0, u "I")] 16

def k24c0 : Code := { maxStack := 3, maxLocals := 3, code := prog_149_method_1_code, exceptionTable := #[], attributes := #[] }
def k24m0 : Method := { name := "<init>", desc := "(J)V", sig := { parameters := [.long], returnType := none }, accessFlags := 1, code := some k24c0 }
/-- com/example/goalwright/goalwright/model/IntegerValue -/
def k24 : Class := { plain "com/example/goalwright/goalwright/model/IntegerValue" (some 19) with
  accessFlags := 49
  interfaces := #[]
  cf := some (fileOf pool24 8 #[] #[{ accessFlags := 1, nameIndex := 5, descriptorIndex := 23, attributes := #[] }] 49 2 #[] #[{ accessFlags := 26, nameIndex := 36, descriptorIndex := 37, attributes := #[] }, { accessFlags := 26, nameIndex := 19, descriptorIndex := 20, attributes := #[] }, { accessFlags := 18, nameIndex := 11, descriptorIndex := 12, attributes := #[] }])
  fields := #[{ name := "SMALL", type := .int, accessFlags := 26, slot := 0, constantValue := 0 }, { name := "SMALL_VALUES", type := (.array (.object "com/example/goalwright/goalwright/model/IntegerValue")), accessFlags := 26, slot := 1, constantValue := 0 }, { name := "value", type := .long, accessFlags := 18, slot := 0, constantValue := 0 }]
  methods := #[k24m0]
  instanceTypes := #[.long]
  staticTypes := #[.int, (.array (.object "com/example/goalwright/goalwright/model/IntegerValue"))]
  resolved := Array.replicate 54 none
  statics := none }

/-- the primitive byte -/
def k25 : Class := { plain "byte" none with kind := .primitive 'B', accessFlags := 0x411 }
/-- [B -/
def k26 : Class := { plain "[B" (some 0) with kind := .array 25 .byte, interfaces := #[9, 10], accessFlags := 1041 }

/-- the primitive int -/
def k27 : Class := { plain "int" none with kind := .primitive 'I', accessFlags := 0x411 }
/-- [I -/
def k28 : Class := { plain "[I" (some 0) with kind := .array 27 .int, interfaces := #[9, 10], accessFlags := 1041 }

/-- [Ljava/lang/Integer; -/
def k29 : Class := { plain "[Ljava/lang/Integer;" (some 0) with kind := .array 16 (.object "java/lang/Integer"), interfaces := #[9, 10], accessFlags := 1041 }

/-- [Ljava/lang/Object; -/
def k30 : Class := { plain "[Ljava/lang/Object;" (some 0) with kind := .array 0 (.object "java/lang/Object"), interfaces := #[9, 10], accessFlags := 1041 }

def heap : Heap := #[{ cls := 11, slots := #[.long 0, .int 0, .ref 259, .ref 260], vm := .statics 11 },
  { cls := 17, slots := #[.int 0, .int 127, .ref 2, .null, .int 0], vm := .statics 17 },
  { cls := 29, slots := #[.ref 3, .ref 4, .ref 5, .ref 6, .ref 7, .ref 8, .ref 9, .ref 10, .ref 11, .ref 12, .ref 13, .ref 14, .ref 15, .ref 16, .ref 17, .ref 18, .ref 19, .ref 20, .ref 21, .ref 22, .ref 23, .ref 24, .ref 25, .ref 26, .ref 27, .ref 28, .ref 29, .ref 30, .ref 31, .ref 32, .ref 33, .ref 34, .ref 35, .ref 36, .ref 37, .ref 38, .ref 39, .ref 40, .ref 41, .ref 42, .ref 43, .ref 44, .ref 45, .ref 46, .ref 47, .ref 48, .ref 49, .ref 50, .ref 51, .ref 52, .ref 53, .ref 54, .ref 55, .ref 56, .ref 57, .ref 58, .ref 59, .ref 60, .ref 61, .ref 62, .ref 63, .ref 64, .ref 65, .ref 66, .ref 67, .ref 68, .ref 69, .ref 70, .ref 71, .ref 72, .ref 73, .ref 74, .ref 75, .ref 76, .ref 77, .ref 78, .ref 79, .ref 80, .ref 81, .ref 82, .ref 83, .ref 84, .ref 85, .ref 86, .ref 87, .ref 88, .ref 89, .ref 90, .ref 91, .ref 92, .ref 93, .ref 94, .ref 95, .ref 96, .ref 97, .ref 98, .ref 99, .ref 100, .ref 101, .ref 102, .ref 103, .ref 104, .ref 105, .ref 106, .ref 107, .ref 108, .ref 109, .ref 110, .ref 111, .ref 112, .ref 113, .ref 114, .ref 115, .ref 116, .ref 117, .ref 118, .ref 119, .ref 120, .ref 121, .ref 122, .ref 123, .ref 124, .ref 125, .ref 126, .ref 127, .ref 128, .ref 129, .ref 130, .ref 131, .ref 132, .ref 133, .ref 134, .ref 135, .ref 136, .ref 137, .ref 138, .ref 139, .ref 140, .ref 141, .ref 142, .ref 143, .ref 144, .ref 145, .ref 146, .ref 147, .ref 148, .ref 149, .ref 150, .ref 151, .ref 152, .ref 153, .ref 154, .ref 155, .ref 156, .ref 157, .ref 158, .ref 159, .ref 160, .ref 161, .ref 162, .ref 163, .ref 164, .ref 165, .ref 166, .ref 167, .ref 168, .ref 169, .ref 170, .ref 171, .ref 172, .ref 173, .ref 174, .ref 175, .ref 176, .ref 177, .ref 178, .ref 179, .ref 180, .ref 181, .ref 182, .ref 183, .ref 184, .ref 185, .ref 186, .ref 187, .ref 188, .ref 189, .ref 190, .ref 191, .ref 192, .ref 193, .ref 194, .ref 195, .ref 196, .ref 197, .ref 198, .ref 199, .ref 200, .ref 201, .ref 202, .ref 203, .ref 204, .ref 205, .ref 206, .ref 207, .ref 208, .ref 209, .ref 210, .ref 211, .ref 212, .ref 213, .ref 214, .ref 215, .ref 216, .ref 217, .ref 218, .ref 219, .ref 220, .ref 221, .ref 222, .ref 223, .ref 224, .ref 225, .ref 226, .ref 227, .ref 228, .ref 229, .ref 230, .ref 231, .ref 232, .ref 233, .ref 234, .ref 235, .ref 236, .ref 237, .ref 238, .ref 239, .ref 240, .ref 241, .ref 242, .ref 243, .ref 244, .ref 245, .ref 246, .ref 247, .ref 248, .ref 249, .ref 250, .ref 251, .ref 252, .ref 253, .ref 254, .ref 255, .ref 256, .ref 257, .ref 258], vm := .none },
  { cls := 16, slots := #[.int (-128)], vm := .none },
  { cls := 16, slots := #[.int (-127)], vm := .none },
  { cls := 16, slots := #[.int (-126)], vm := .none },
  { cls := 16, slots := #[.int (-125)], vm := .none },
  { cls := 16, slots := #[.int (-124)], vm := .none },
  { cls := 16, slots := #[.int (-123)], vm := .none },
  { cls := 16, slots := #[.int (-122)], vm := .none },
  { cls := 16, slots := #[.int (-121)], vm := .none },
  { cls := 16, slots := #[.int (-120)], vm := .none },
  { cls := 16, slots := #[.int (-119)], vm := .none },
  { cls := 16, slots := #[.int (-118)], vm := .none },
  { cls := 16, slots := #[.int (-117)], vm := .none },
  { cls := 16, slots := #[.int (-116)], vm := .none },
  { cls := 16, slots := #[.int (-115)], vm := .none },
  { cls := 16, slots := #[.int (-114)], vm := .none },
  { cls := 16, slots := #[.int (-113)], vm := .none },
  { cls := 16, slots := #[.int (-112)], vm := .none },
  { cls := 16, slots := #[.int (-111)], vm := .none },
  { cls := 16, slots := #[.int (-110)], vm := .none },
  { cls := 16, slots := #[.int (-109)], vm := .none },
  { cls := 16, slots := #[.int (-108)], vm := .none },
  { cls := 16, slots := #[.int (-107)], vm := .none },
  { cls := 16, slots := #[.int (-106)], vm := .none },
  { cls := 16, slots := #[.int (-105)], vm := .none },
  { cls := 16, slots := #[.int (-104)], vm := .none },
  { cls := 16, slots := #[.int (-103)], vm := .none },
  { cls := 16, slots := #[.int (-102)], vm := .none },
  { cls := 16, slots := #[.int (-101)], vm := .none },
  { cls := 16, slots := #[.int (-100)], vm := .none },
  { cls := 16, slots := #[.int (-99)], vm := .none },
  { cls := 16, slots := #[.int (-98)], vm := .none },
  { cls := 16, slots := #[.int (-97)], vm := .none },
  { cls := 16, slots := #[.int (-96)], vm := .none },
  { cls := 16, slots := #[.int (-95)], vm := .none },
  { cls := 16, slots := #[.int (-94)], vm := .none },
  { cls := 16, slots := #[.int (-93)], vm := .none },
  { cls := 16, slots := #[.int (-92)], vm := .none },
  { cls := 16, slots := #[.int (-91)], vm := .none },
  { cls := 16, slots := #[.int (-90)], vm := .none },
  { cls := 16, slots := #[.int (-89)], vm := .none },
  { cls := 16, slots := #[.int (-88)], vm := .none },
  { cls := 16, slots := #[.int (-87)], vm := .none },
  { cls := 16, slots := #[.int (-86)], vm := .none },
  { cls := 16, slots := #[.int (-85)], vm := .none },
  { cls := 16, slots := #[.int (-84)], vm := .none },
  { cls := 16, slots := #[.int (-83)], vm := .none },
  { cls := 16, slots := #[.int (-82)], vm := .none },
  { cls := 16, slots := #[.int (-81)], vm := .none },
  { cls := 16, slots := #[.int (-80)], vm := .none },
  { cls := 16, slots := #[.int (-79)], vm := .none },
  { cls := 16, slots := #[.int (-78)], vm := .none },
  { cls := 16, slots := #[.int (-77)], vm := .none },
  { cls := 16, slots := #[.int (-76)], vm := .none },
  { cls := 16, slots := #[.int (-75)], vm := .none },
  { cls := 16, slots := #[.int (-74)], vm := .none },
  { cls := 16, slots := #[.int (-73)], vm := .none },
  { cls := 16, slots := #[.int (-72)], vm := .none },
  { cls := 16, slots := #[.int (-71)], vm := .none },
  { cls := 16, slots := #[.int (-70)], vm := .none },
  { cls := 16, slots := #[.int (-69)], vm := .none },
  { cls := 16, slots := #[.int (-68)], vm := .none },
  { cls := 16, slots := #[.int (-67)], vm := .none },
  { cls := 16, slots := #[.int (-66)], vm := .none },
  { cls := 16, slots := #[.int (-65)], vm := .none },
  { cls := 16, slots := #[.int (-64)], vm := .none },
  { cls := 16, slots := #[.int (-63)], vm := .none },
  { cls := 16, slots := #[.int (-62)], vm := .none },
  { cls := 16, slots := #[.int (-61)], vm := .none },
  { cls := 16, slots := #[.int (-60)], vm := .none },
  { cls := 16, slots := #[.int (-59)], vm := .none },
  { cls := 16, slots := #[.int (-58)], vm := .none },
  { cls := 16, slots := #[.int (-57)], vm := .none },
  { cls := 16, slots := #[.int (-56)], vm := .none },
  { cls := 16, slots := #[.int (-55)], vm := .none },
  { cls := 16, slots := #[.int (-54)], vm := .none },
  { cls := 16, slots := #[.int (-53)], vm := .none },
  { cls := 16, slots := #[.int (-52)], vm := .none },
  { cls := 16, slots := #[.int (-51)], vm := .none },
  { cls := 16, slots := #[.int (-50)], vm := .none },
  { cls := 16, slots := #[.int (-49)], vm := .none },
  { cls := 16, slots := #[.int (-48)], vm := .none },
  { cls := 16, slots := #[.int (-47)], vm := .none },
  { cls := 16, slots := #[.int (-46)], vm := .none },
  { cls := 16, slots := #[.int (-45)], vm := .none },
  { cls := 16, slots := #[.int (-44)], vm := .none },
  { cls := 16, slots := #[.int (-43)], vm := .none },
  { cls := 16, slots := #[.int (-42)], vm := .none },
  { cls := 16, slots := #[.int (-41)], vm := .none },
  { cls := 16, slots := #[.int (-40)], vm := .none },
  { cls := 16, slots := #[.int (-39)], vm := .none },
  { cls := 16, slots := #[.int (-38)], vm := .none },
  { cls := 16, slots := #[.int (-37)], vm := .none },
  { cls := 16, slots := #[.int (-36)], vm := .none },
  { cls := 16, slots := #[.int (-35)], vm := .none },
  { cls := 16, slots := #[.int (-34)], vm := .none },
  { cls := 16, slots := #[.int (-33)], vm := .none },
  { cls := 16, slots := #[.int (-32)], vm := .none },
  { cls := 16, slots := #[.int (-31)], vm := .none },
  { cls := 16, slots := #[.int (-30)], vm := .none },
  { cls := 16, slots := #[.int (-29)], vm := .none },
  { cls := 16, slots := #[.int (-28)], vm := .none },
  { cls := 16, slots := #[.int (-27)], vm := .none },
  { cls := 16, slots := #[.int (-26)], vm := .none },
  { cls := 16, slots := #[.int (-25)], vm := .none },
  { cls := 16, slots := #[.int (-24)], vm := .none },
  { cls := 16, slots := #[.int (-23)], vm := .none },
  { cls := 16, slots := #[.int (-22)], vm := .none },
  { cls := 16, slots := #[.int (-21)], vm := .none },
  { cls := 16, slots := #[.int (-20)], vm := .none },
  { cls := 16, slots := #[.int (-19)], vm := .none },
  { cls := 16, slots := #[.int (-18)], vm := .none },
  { cls := 16, slots := #[.int (-17)], vm := .none },
  { cls := 16, slots := #[.int (-16)], vm := .none },
  { cls := 16, slots := #[.int (-15)], vm := .none },
  { cls := 16, slots := #[.int (-14)], vm := .none },
  { cls := 16, slots := #[.int (-13)], vm := .none },
  { cls := 16, slots := #[.int (-12)], vm := .none },
  { cls := 16, slots := #[.int (-11)], vm := .none },
  { cls := 16, slots := #[.int (-10)], vm := .none },
  { cls := 16, slots := #[.int (-9)], vm := .none },
  { cls := 16, slots := #[.int (-8)], vm := .none },
  { cls := 16, slots := #[.int (-7)], vm := .none },
  { cls := 16, slots := #[.int (-6)], vm := .none },
  { cls := 16, slots := #[.int (-5)], vm := .none },
  { cls := 16, slots := #[.int (-4)], vm := .none },
  { cls := 16, slots := #[.int (-3)], vm := .none },
  { cls := 16, slots := #[.int (-2)], vm := .none },
  { cls := 16, slots := #[.int (-1)], vm := .none },
  { cls := 16, slots := #[.int (0)], vm := .none },
  { cls := 16, slots := #[.int (1)], vm := .none },
  { cls := 16, slots := #[.int (2)], vm := .none },
  { cls := 16, slots := #[.int (3)], vm := .none },
  { cls := 16, slots := #[.int (4)], vm := .none },
  { cls := 16, slots := #[.int (5)], vm := .none },
  { cls := 16, slots := #[.int (6)], vm := .none },
  { cls := 16, slots := #[.int (7)], vm := .none },
  { cls := 16, slots := #[.int (8)], vm := .none },
  { cls := 16, slots := #[.int (9)], vm := .none },
  { cls := 16, slots := #[.int (10)], vm := .none },
  { cls := 16, slots := #[.int (11)], vm := .none },
  { cls := 16, slots := #[.int (12)], vm := .none },
  { cls := 16, slots := #[.int (13)], vm := .none },
  { cls := 16, slots := #[.int (14)], vm := .none },
  { cls := 16, slots := #[.int (15)], vm := .none },
  { cls := 16, slots := #[.int (16)], vm := .none },
  { cls := 16, slots := #[.int (17)], vm := .none },
  { cls := 16, slots := #[.int (18)], vm := .none },
  { cls := 16, slots := #[.int (19)], vm := .none },
  { cls := 16, slots := #[.int (20)], vm := .none },
  { cls := 16, slots := #[.int (21)], vm := .none },
  { cls := 16, slots := #[.int (22)], vm := .none },
  { cls := 16, slots := #[.int (23)], vm := .none },
  { cls := 16, slots := #[.int (24)], vm := .none },
  { cls := 16, slots := #[.int (25)], vm := .none },
  { cls := 16, slots := #[.int (26)], vm := .none },
  { cls := 16, slots := #[.int (27)], vm := .none },
  { cls := 16, slots := #[.int (28)], vm := .none },
  { cls := 16, slots := #[.int (29)], vm := .none },
  { cls := 16, slots := #[.int (30)], vm := .none },
  { cls := 16, slots := #[.int (31)], vm := .none },
  { cls := 16, slots := #[.int (32)], vm := .none },
  { cls := 16, slots := #[.int (33)], vm := .none },
  { cls := 16, slots := #[.int (34)], vm := .none },
  { cls := 16, slots := #[.int (35)], vm := .none },
  { cls := 16, slots := #[.int (36)], vm := .none },
  { cls := 16, slots := #[.int (37)], vm := .none },
  { cls := 16, slots := #[.int (38)], vm := .none },
  { cls := 16, slots := #[.int (39)], vm := .none },
  { cls := 16, slots := #[.int (40)], vm := .none },
  { cls := 16, slots := #[.int (41)], vm := .none },
  { cls := 16, slots := #[.int (42)], vm := .none },
  { cls := 16, slots := #[.int (43)], vm := .none },
  { cls := 16, slots := #[.int (44)], vm := .none },
  { cls := 16, slots := #[.int (45)], vm := .none },
  { cls := 16, slots := #[.int (46)], vm := .none },
  { cls := 16, slots := #[.int (47)], vm := .none },
  { cls := 16, slots := #[.int (48)], vm := .none },
  { cls := 16, slots := #[.int (49)], vm := .none },
  { cls := 16, slots := #[.int (50)], vm := .none },
  { cls := 16, slots := #[.int (51)], vm := .none },
  { cls := 16, slots := #[.int (52)], vm := .none },
  { cls := 16, slots := #[.int (53)], vm := .none },
  { cls := 16, slots := #[.int (54)], vm := .none },
  { cls := 16, slots := #[.int (55)], vm := .none },
  { cls := 16, slots := #[.int (56)], vm := .none },
  { cls := 16, slots := #[.int (57)], vm := .none },
  { cls := 16, slots := #[.int (58)], vm := .none },
  { cls := 16, slots := #[.int (59)], vm := .none },
  { cls := 16, slots := #[.int (60)], vm := .none },
  { cls := 16, slots := #[.int (61)], vm := .none },
  { cls := 16, slots := #[.int (62)], vm := .none },
  { cls := 16, slots := #[.int (63)], vm := .none },
  { cls := 16, slots := #[.int (64)], vm := .none },
  { cls := 16, slots := #[.int (65)], vm := .none },
  { cls := 16, slots := #[.int (66)], vm := .none },
  { cls := 16, slots := #[.int (67)], vm := .none },
  { cls := 16, slots := #[.int (68)], vm := .none },
  { cls := 16, slots := #[.int (69)], vm := .none },
  { cls := 16, slots := #[.int (70)], vm := .none },
  { cls := 16, slots := #[.int (71)], vm := .none },
  { cls := 16, slots := #[.int (72)], vm := .none },
  { cls := 16, slots := #[.int (73)], vm := .none },
  { cls := 16, slots := #[.int (74)], vm := .none },
  { cls := 16, slots := #[.int (75)], vm := .none },
  { cls := 16, slots := #[.int (76)], vm := .none },
  { cls := 16, slots := #[.int (77)], vm := .none },
  { cls := 16, slots := #[.int (78)], vm := .none },
  { cls := 16, slots := #[.int (79)], vm := .none },
  { cls := 16, slots := #[.int (80)], vm := .none },
  { cls := 16, slots := #[.int (81)], vm := .none },
  { cls := 16, slots := #[.int (82)], vm := .none },
  { cls := 16, slots := #[.int (83)], vm := .none },
  { cls := 16, slots := #[.int (84)], vm := .none },
  { cls := 16, slots := #[.int (85)], vm := .none },
  { cls := 16, slots := #[.int (86)], vm := .none },
  { cls := 16, slots := #[.int (87)], vm := .none },
  { cls := 16, slots := #[.int (88)], vm := .none },
  { cls := 16, slots := #[.int (89)], vm := .none },
  { cls := 16, slots := #[.int (90)], vm := .none },
  { cls := 16, slots := #[.int (91)], vm := .none },
  { cls := 16, slots := #[.int (92)], vm := .none },
  { cls := 16, slots := #[.int (93)], vm := .none },
  { cls := 16, slots := #[.int (94)], vm := .none },
  { cls := 16, slots := #[.int (95)], vm := .none },
  { cls := 16, slots := #[.int (96)], vm := .none },
  { cls := 16, slots := #[.int (97)], vm := .none },
  { cls := 16, slots := #[.int (98)], vm := .none },
  { cls := 16, slots := #[.int (99)], vm := .none },
  { cls := 16, slots := #[.int (100)], vm := .none },
  { cls := 16, slots := #[.int (101)], vm := .none },
  { cls := 16, slots := #[.int (102)], vm := .none },
  { cls := 16, slots := #[.int (103)], vm := .none },
  { cls := 16, slots := #[.int (104)], vm := .none },
  { cls := 16, slots := #[.int (105)], vm := .none },
  { cls := 16, slots := #[.int (106)], vm := .none },
  { cls := 16, slots := #[.int (107)], vm := .none },
  { cls := 16, slots := #[.int (108)], vm := .none },
  { cls := 16, slots := #[.int (109)], vm := .none },
  { cls := 16, slots := #[.int (110)], vm := .none },
  { cls := 16, slots := #[.int (111)], vm := .none },
  { cls := 16, slots := #[.int (112)], vm := .none },
  { cls := 16, slots := #[.int (113)], vm := .none },
  { cls := 16, slots := #[.int (114)], vm := .none },
  { cls := 16, slots := #[.int (115)], vm := .none },
  { cls := 16, slots := #[.int (116)], vm := .none },
  { cls := 16, slots := #[.int (117)], vm := .none },
  { cls := 16, slots := #[.int (118)], vm := .none },
  { cls := 16, slots := #[.int (119)], vm := .none },
  { cls := 16, slots := #[.int (120)], vm := .none },
  { cls := 16, slots := #[.int (121)], vm := .none },
  { cls := 16, slots := #[.int (122)], vm := .none },
  { cls := 16, slots := #[.int (123)], vm := .none },
  { cls := 16, slots := #[.int (124)], vm := .none },
  { cls := 16, slots := #[.int (125)], vm := .none },
  { cls := 16, slots := #[.int (126)], vm := .none },
  { cls := 16, slots := #[.int (127)], vm := .none },
  { cls := 30, slots := #[], vm := .none },
  { cls := 30, slots := #[], vm := .none }]
def classes : Array Class := #[k0, k1, k2, k3, k4, k5, k6, k7, k8, k9, k10, k11, k12, k13, k14, k15, k16, k17, k18, k19, k20, k21, k22, k23, k24, k25, k26, k27, k28, k29, k30]
def interned : List (Array UInt16 × Addr) := []
def slotsUsed : Nat := 521
def theMethod : MethodId := ⟨1, 1⟩
def args0 : Array Value := #[.int 5, .int 3, .int 7]
def aboutOver (below : List Frame) : State where
  vm := { classes := classes, interned := interned.toArray }
  heap := heap
  slotsUsed := slotsUsed
  threads := #[{ frames := .invoking theMethod args0 :: below }]
def below0 : List Frame := [.native { method := ⟨0, 0⟩, args := #[] }]
def about1 : State := aboutOver below0
def p0 : Program := .bare "" "" ""
def e0 : Env := launch0.env 0 0 0
theorem w_frames : about1.frames = Frame.invoking theMethod args0 :: below0 := rfl
set_option maxRecDepth 65536 in
theorem w_args : argsFit about1.vm theMethod args0 = true := by decide +kernel
set_option maxRecDepth 65536 in
theorem w_heap : heapFits about1 = true := by decide +kernel
set_option maxRecDepth 65536 in
theorem w_runnable : about1.curStatus? = some .runnable := by decide +kernel
set_option maxRecDepth 65536 in
theorem w_alone : about1.alone = true := by decide +kernel
set_option maxRecDepth 65536 in
theorem w_named : about1.methodNamed? x = some theMethod := by decide +kernel
set_option maxRecDepth 65536 in
theorem w_hears : about1.hears theMethod below0 = true := by decide +kernel
set_option maxRecDepth 65536 in
theorem w_ripe : about1.ripe theMethod args0 below0 = true := by decide +kernel
theorem w_running : about1.status = .running := rfl
set_option maxRecDepth 65536 in
theorem w_room : about1.hasRoom e0.platform room_1 = true :=
  launch0.hasRoom_least _ room_1 (by decide +kernel) (by decide +kernel) (by decide +kernel) (by decide +kernel) (by decide +kernel) (by decide +kernel)
theorem allAtoms_all (ts : List Jvm.Cond) (a : Array Jvm.Value) (st : Jvm.State) : (allAtoms ts).before a st = ts.all (fun c => c.before a st) := by
  induction ts with
  | nil => rfl
  | cons c t ih =>
    show (Jvm.Cond.and c (allAtoms t)).before a st = _
    rw [Jvm.Cond.before_and, ih, List.all_cons]
def words1 : List Jvm.Cond := Jvm.Cond.code x code maxLocals ret :: tables_1
/-- a 'code' word, met by the world's own term for the bytes: nothing is compared byte by byte -/
theorem code_word {y : MethodName} {bytes : ByteArray} {mx : Nat} {rt : Option FieldType} {a : Array Value} {s : State} {m : MethodId} {meth : Method} {c : Code} (h1 : s.methodNamed? y = some m) (h2 : s.vm.method? m = some meth) (h3 : meth.code = some c) (h4 : c.code = bytes)
    (h5 : (c.maxLocals == mx && c.exceptionTable.isEmpty && decide (c.maxStack ≤ mostOperands) && decide (meth.sig.returnType = rt) && !meth.locks && decide (parseMethodDescriptor y.desc = some meth.sig)) = true) : (Jvm.Cond.code y bytes mx rt).before a s = true := by
  simp only [Bool.and_eq_true, beq_iff_eq, Bool.not_eq_true', decide_eq_true_eq] at h5
  obtain ⟨⟨⟨⟨⟨g1, g2⟩, g3⟩, g4⟩, g5⟩, g6⟩ := h5
  simp [Cond.before, Cond.holds, Cond.value, h1, h2, h3, h4, g1, g2, g3, g4, g5, g6]
def isCode : Jvm.Cond → Bool
  | .code _ _ _ _ => true
  | _ => false
theorem all_split {L : List Jvm.Cond} {P : Jvm.Cond → Bool} (h1 : L.all (fun c => isCode c || P c) = true) (h2 : ∀ c ∈ L.filter isCode, P c = true) : L.all P = true := by
  refine List.all_eq_true.mpr fun c hc => ?_
  have h := List.all_eq_true.mp h1 c hc
  rcases Bool.eq_false_or_eq_true (isCode c) with hi | hi
  · exact h2 c (List.mem_filter.mpr ⟨hc, hi⟩)
  · simpa [hi] using h
set_option maxRecDepth 65536 in
theorem w_c0 : (Jvm.Cond.code x code maxLocals ret).before args0 about1 = true := code_word (m := ⟨1, 1⟩) (meth := k1m1) (c := k1c1) (by decide +kernel) rfl rfl rfl (by decide +kernel)
set_option maxRecDepth 65536 in
theorem w_c1 : (Jvm.Cond.code ({ cls := "java/util/ArrayList", name := "<init>", desc := "()V" } : Jvm.MethodName) jdk_38_method_2_code (1 : Nat) (Option.none : Option Jvm.ClassFile.FieldType)).before args0 about1 = true := code_word (m := ⟨11, 0⟩) (meth := k11m0) (c := k11c0) (by decide +kernel) rfl rfl rfl (by decide +kernel)
set_option maxRecDepth 65536 in
theorem w_c2 : (Jvm.Cond.code ({ cls := "java/util/AbstractList", name := "<init>", desc := "()V" } : Jvm.MethodName) jdk_39_method_1_code (1 : Nat) (Option.none : Option Jvm.ClassFile.FieldType)).before args0 about1 = true := code_word (m := ⟨7, 0⟩) (meth := k7m0) (c := k7c0) (by decide +kernel) rfl rfl rfl (by decide +kernel)
set_option maxRecDepth 65536 in
theorem w_c3 : (Jvm.Cond.code ({ cls := "java/util/AbstractCollection", name := "<init>", desc := "()V" } : Jvm.MethodName) jdk_22_method_1_code (1 : Nat) (Option.none : Option Jvm.ClassFile.FieldType)).before args0 about1 = true := code_word (m := ⟨4, 0⟩) (meth := k4m0) (c := k4c0) (by decide +kernel) rfl rfl rfl (by decide +kernel)
set_option maxRecDepth 65536 in
theorem w_c4 : (Jvm.Cond.code ({ cls := "java/lang/Object", name := "<init>", desc := "()V" } : Jvm.MethodName) object_method_1_code (1 : Nat) (Option.none : Option Jvm.ClassFile.FieldType)).before args0 about1 = true := code_word (m := ⟨0, 0⟩) (meth := k0m0) (c := k0c0) (by decide +kernel) rfl rfl rfl (by decide +kernel)
set_option maxRecDepth 65536 in
theorem w_c5 : (Jvm.Cond.code ({ cls := "java/lang/Integer", name := "valueOf", desc := "(I)Ljava/lang/Integer;" } : Jvm.MethodName) jdk_33_method_22_code (1 : Nat) (Option.some (Jvm.ClassFile.FieldType.object "java/lang/Integer"))).before args0 about1 = true := code_word (m := ⟨16, 0⟩) (meth := k16m0) (c := k16c0) (by decide +kernel) rfl rfl rfl (by decide +kernel)
set_option maxRecDepth 65536 in
theorem w_c6 : (Jvm.Cond.code ({ cls := "java/util/ArrayList", name := "add", desc := "(Ljava/lang/Object;)Z" } : Jvm.MethodName) jdk_38_method_25_code (2 : Nat) (Option.some Jvm.ClassFile.FieldType.boolean)).before args0 about1 = true := code_word (m := ⟨11, 4⟩) (meth := k11m4) (c := k11c4) (by decide +kernel) rfl rfl rfl (by decide +kernel)
set_option maxRecDepth 65536 in
theorem w_c7 : (Jvm.Cond.code ({ cls := "java/util/ArrayList", name := "add", desc := "(Ljava/lang/Object;[Ljava/lang/Object;I)V" } : Jvm.MethodName) jdk_38_method_24_code (4 : Nat) (Option.none : Option Jvm.ClassFile.FieldType)).before args0 about1 = true := code_word (m := ⟨11, 3⟩) (meth := k11m3) (c := k11c3) (by decide +kernel) rfl rfl rfl (by decide +kernel)
set_option maxRecDepth 65536 in
theorem w_c8 : (Jvm.Cond.code ({ cls := "java/util/ArrayList", name := "grow", desc := "()[Ljava/lang/Object;" } : Jvm.MethodName) jdk_38_method_7_code (1 : Nat) (Option.some (Jvm.ClassFile.FieldType.array (Jvm.ClassFile.FieldType.object "java/lang/Object")))).before args0 about1 = true := code_word (m := ⟨11, 2⟩) (meth := k11m2) (c := k11c2) (by decide +kernel) rfl rfl rfl (by decide +kernel)
set_option maxRecDepth 65536 in
theorem w_c9 : (Jvm.Cond.code ({ cls := "java/util/ArrayList", name := "grow", desc := "(I)[Ljava/lang/Object;" } : Jvm.MethodName) jdk_38_method_6_code (4 : Nat) (Option.some (Jvm.ClassFile.FieldType.array (Jvm.ClassFile.FieldType.object "java/lang/Object")))).before args0 about1 = true := code_word (m := ⟨11, 1⟩) (meth := k11m1) (c := k11c1) (by decide +kernel) rfl rfl rfl (by decide +kernel)
set_option maxRecDepth 65536 in
theorem w_c10 : (Jvm.Cond.code ({ cls := "java/lang/Math", name := "max", desc := "(II)I" } : Jvm.MethodName) jdk_29_method_65_code (2 : Nat) (Option.some Jvm.ClassFile.FieldType.int)).before args0 about1 = true := code_word (m := ⟨18, 1⟩) (meth := k18m1) (c := k18c1) (by decide +kernel) rfl rfl rfl (by decide +kernel)
set_option maxRecDepth 65536 in
theorem w_c11 : (Jvm.Cond.code ({ cls := "com/example/goalwright/goalwright/model/OpaqueValue", name := "<init>", desc := "(Ljava/lang/Object;)V" } : Jvm.MethodName) prog_154_method_1_code (2 : Nat) (Option.none : Option Jvm.ClassFile.FieldType)).before args0 about1 = true := code_word (m := ⟨20, 0⟩) (meth := k20m0) (c := k20c0) (by decide +kernel) rfl rfl rfl (by decide +kernel)
set_option maxRecDepth 65536 in
theorem w_c12 : (Jvm.Cond.code ({ cls := "com/example/goalwright/goalwright/model/Value", name := "<init>", desc := "()V" } : Jvm.MethodName) prog_166_method_1_code (1 : Nat) (Option.none : Option Jvm.ClassFile.FieldType)).before args0 about1 = true := code_word (m := ⟨19, 0⟩) (meth := k19m0) (c := k19c0) (by decide +kernel) rfl rfl rfl (by decide +kernel)
set_option maxRecDepth 65536 in
theorem w_c13 : (Jvm.Cond.code ({ cls := "java/util/Objects", name := "requireNonNull", desc := "(Ljava/lang/Object;Ljava/lang/String;)Ljava/lang/Object;" } : Jvm.MethodName) jdk_31_method_11_code (2 : Nat) (Option.some (Jvm.ClassFile.FieldType.object "java/lang/Object"))).before args0 about1 = true := code_word (m := ⟨23, 1⟩) (meth := k23m1) (c := k23c1) (by decide +kernel) rfl rfl rfl (by decide +kernel)
set_option maxRecDepth 65536 in
theorem w_c14 : (Jvm.Cond.code ({ cls := "com/example/goalwright/goalwright/model/OpaqueValue", name := "equals", desc := "(Ljava/lang/Object;)Z" } : Jvm.MethodName) prog_154_method_4_code (3 : Nat) (Option.some Jvm.ClassFile.FieldType.boolean)).before args0 about1 = true := code_word (m := ⟨20, 1⟩) (meth := k20m1) (c := k20c1) (by decide +kernel) rfl rfl rfl (by decide +kernel)
set_option maxRecDepth 65536 in
theorem w_c15 : (Jvm.Cond.code ({ cls := "java/lang/Integer", name := "<init>", desc := "(I)V" } : Jvm.MethodName) jdk_33_method_23_code (2 : Nat) (Option.none : Option Jvm.ClassFile.FieldType)).before args0 about1 = true := code_word (m := ⟨16, 1⟩) (meth := k16m1) (c := k16c1) (by decide +kernel) rfl rfl rfl (by decide +kernel)
set_option maxRecDepth 65536 in
theorem w_c16 : (Jvm.Cond.code ({ cls := "java/lang/Number", name := "<init>", desc := "()V" } : Jvm.MethodName) jdk_18_method_1_code (1 : Nat) (Option.none : Option Jvm.ClassFile.FieldType)).before args0 about1 = true := code_word (m := ⟨12, 0⟩) (meth := k12m0) (c := k12c0) (by decide +kernel) rfl rfl rfl (by decide +kernel)
set_option maxRecDepth 65536 in
theorem w_c17 : (Jvm.Cond.code ({ cls := "com/example/goalwright/goalwright/model/IntegerValue", name := "<init>", desc := "(J)V" } : Jvm.MethodName) prog_149_method_1_code (3 : Nat) (Option.none : Option Jvm.ClassFile.FieldType)).before args0 about1 = true := code_word (m := ⟨24, 0⟩) (meth := k24m0) (c := k24c0) (by decide +kernel) rfl rfl rfl (by decide +kernel)
def codes1 : List Jvm.Cond := [Jvm.Cond.code x code maxLocals ret, Jvm.Cond.code ({ cls := "java/util/ArrayList", name := "<init>", desc := "()V" } : Jvm.MethodName) jdk_38_method_2_code (1 : Nat) (Option.none : Option Jvm.ClassFile.FieldType), Jvm.Cond.code ({ cls := "java/util/AbstractList", name := "<init>", desc := "()V" } : Jvm.MethodName) jdk_39_method_1_code (1 : Nat) (Option.none : Option Jvm.ClassFile.FieldType), Jvm.Cond.code ({ cls := "java/util/AbstractCollection", name := "<init>", desc := "()V" } : Jvm.MethodName) jdk_22_method_1_code (1 : Nat) (Option.none : Option Jvm.ClassFile.FieldType), Jvm.Cond.code ({ cls := "java/lang/Object", name := "<init>", desc := "()V" } : Jvm.MethodName) object_method_1_code (1 : Nat) (Option.none : Option Jvm.ClassFile.FieldType), Jvm.Cond.code ({ cls := "java/lang/Integer", name := "valueOf", desc := "(I)Ljava/lang/Integer;" } : Jvm.MethodName) jdk_33_method_22_code (1 : Nat) (Option.some (Jvm.ClassFile.FieldType.object "java/lang/Integer")), Jvm.Cond.code ({ cls := "java/util/ArrayList", name := "add", desc := "(Ljava/lang/Object;)Z" } : Jvm.MethodName) jdk_38_method_25_code (2 : Nat) (Option.some Jvm.ClassFile.FieldType.boolean), Jvm.Cond.code ({ cls := "java/util/ArrayList", name := "add", desc := "(Ljava/lang/Object;[Ljava/lang/Object;I)V" } : Jvm.MethodName) jdk_38_method_24_code (4 : Nat) (Option.none : Option Jvm.ClassFile.FieldType), Jvm.Cond.code ({ cls := "java/util/ArrayList", name := "grow", desc := "()[Ljava/lang/Object;" } : Jvm.MethodName) jdk_38_method_7_code (1 : Nat) (Option.some (Jvm.ClassFile.FieldType.array (Jvm.ClassFile.FieldType.object "java/lang/Object"))), Jvm.Cond.code ({ cls := "java/util/ArrayList", name := "grow", desc := "(I)[Ljava/lang/Object;" } : Jvm.MethodName) jdk_38_method_6_code (4 : Nat) (Option.some (Jvm.ClassFile.FieldType.array (Jvm.ClassFile.FieldType.object "java/lang/Object"))), Jvm.Cond.code ({ cls := "java/lang/Math", name := "max", desc := "(II)I" } : Jvm.MethodName) jdk_29_method_65_code (2 : Nat) (Option.some Jvm.ClassFile.FieldType.int), Jvm.Cond.code ({ cls := "com/example/goalwright/goalwright/model/OpaqueValue", name := "<init>", desc := "(Ljava/lang/Object;)V" } : Jvm.MethodName) prog_154_method_1_code (2 : Nat) (Option.none : Option Jvm.ClassFile.FieldType), Jvm.Cond.code ({ cls := "com/example/goalwright/goalwright/model/Value", name := "<init>", desc := "()V" } : Jvm.MethodName) prog_166_method_1_code (1 : Nat) (Option.none : Option Jvm.ClassFile.FieldType), Jvm.Cond.code ({ cls := "java/util/Objects", name := "requireNonNull", desc := "(Ljava/lang/Object;Ljava/lang/String;)Ljava/lang/Object;" } : Jvm.MethodName) jdk_31_method_11_code (2 : Nat) (Option.some (Jvm.ClassFile.FieldType.object "java/lang/Object")), Jvm.Cond.code ({ cls := "com/example/goalwright/goalwright/model/OpaqueValue", name := "equals", desc := "(Ljava/lang/Object;)Z" } : Jvm.MethodName) prog_154_method_4_code (3 : Nat) (Option.some Jvm.ClassFile.FieldType.boolean), Jvm.Cond.code ({ cls := "java/lang/Integer", name := "<init>", desc := "(I)V" } : Jvm.MethodName) jdk_33_method_23_code (2 : Nat) (Option.none : Option Jvm.ClassFile.FieldType), Jvm.Cond.code ({ cls := "java/lang/Number", name := "<init>", desc := "()V" } : Jvm.MethodName) jdk_18_method_1_code (1 : Nat) (Option.none : Option Jvm.ClassFile.FieldType), Jvm.Cond.code ({ cls := "com/example/goalwright/goalwright/model/IntegerValue", name := "<init>", desc := "(J)V" } : Jvm.MethodName) prog_149_method_1_code (3 : Nat) (Option.none : Option Jvm.ClassFile.FieldType)]
set_option maxRecDepth 65536 in
theorem codes_eq : words1.filter isCode = codes1 := rfl
theorem w_codes : ∀ c ∈ words1.filter isCode, c.before args0 about1 = true := by
  rw [codes_eq]
  intro c hc
  simp only [codes1, List.mem_cons, List.not_mem_nil, or_false] at hc
  rcases hc with rfl | rfl | rfl | rfl | rfl | rfl | rfl | rfl | rfl | rfl | rfl | rfl | rfl | rfl | rfl | rfl | rfl | rfl
  · exact w_c0
  · exact w_c1
  · exact w_c2
  · exact w_c3
  · exact w_c4
  · exact w_c5
  · exact w_c6
  · exact w_c7
  · exact w_c8
  · exact w_c9
  · exact w_c10
  · exact w_c11
  · exact w_c12
  · exact w_c13
  · exact w_c14
  · exact w_c15
  · exact w_c16
  · exact w_c17
set_option maxRecDepth 65536 in
theorem w_t1 : (words1.take 24).all (fun c => isCode c || c.before args0 about1) = true := by decide +kernel
set_option maxRecDepth 65536 in
theorem w_t2 : ((words1.drop 24).take 24).all (fun c => isCode c || c.before args0 about1) = true := by decide +kernel
set_option maxRecDepth 65536 in
theorem w_t3 : (((words1.drop 24).drop 24).take 24).all (fun c => isCode c || c.before args0 about1) = true := by decide +kernel
set_option maxRecDepth 65536 in
theorem w_t4 : ((((words1.drop 24).drop 24).drop 24).take 24).all (fun c => isCode c || c.before args0 about1) = true := by decide +kernel
set_option maxRecDepth 65536 in
theorem w_t5 : (((((words1.drop 24).drop 24).drop 24).drop 24).take 24).all (fun c => isCode c || c.before args0 about1) = true := by decide +kernel
set_option maxRecDepth 65536 in
theorem w_t6 : (((((words1.drop 24).drop 24).drop 24).drop 24).drop 24).all (fun c => isCode c || c.before args0 about1) = true := by decide +kernel
theorem w_tables : (allAtoms (Jvm.Cond.code x code maxLocals ret :: tables_1)).before args0 about1 = true := by
  rw [allAtoms_all]
  show words1.all (fun c => c.before args0 about1) = true
  refine all_split ?_ w_codes
  rw [← List.take_append_drop 24 words1, List.all_append, w_t1, ← List.take_append_drop 24 (words1.drop 24), List.all_append, w_t2, ← List.take_append_drop 24 ((words1.drop 24).drop 24), List.all_append, w_t3, ← List.take_append_drop 24 (((words1.drop 24).drop 24).drop 24), List.all_append, w_t4, ← List.take_append_drop 24 ((((words1.drop 24).drop 24).drop 24).drop 24), List.all_append, w_t5, w_t6]
  rfl
set_option maxRecDepth 65536 in
theorem w_rest : rest_1_c.before args0 about1 = true := by decide +kernel
set_option maxRecDepth 65536 in
theorem w_case : (Jvm.Cond.and given_1 narrow_1).before args0 about1 = true := by decide +kernel
theorem w_applies : (headSpec (Jvm.Cond.code x code maxLocals ret :: tables_1) room_1).applies x e0.platform about1 = true :=
  (Spec.applies_iff w_frames).mpr ⟨w_running, w_runnable, w_alone, w_named, w_hears, w_ripe, w_room, w_tables⟩
theorem atStart : AtStart classFile x code maxLocals ret World_1 tables_1 room_1 Calls_1 rest_1 Pre_1 launch0 p0 e0 about1 theMethod args0 below0 :=
  ⟨lists_1, trivial, launch0.admits_env _ _ _, launch0.least_env, fairChoices_fair.cas, fairChoices_fair.clock, w_frames, w_args, w_heap, w_applies, trivial, w_rest, w_case⟩
end start1
theorem witness_1 : WitnessClaimed_1 := ⟨start1.p0, start1.e0, start1.about1, start1.theMethod, start1.args0, start1.below0, start1.atStart⟩
end Jvm.Pilot.@@N@@
