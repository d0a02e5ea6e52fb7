import JvmDerived
import JvmDerived.Pilot.@@N@@Statement
import JvmDerived.Pilot.@@N@@Code
set_option linter.unusedVariables false
set_option linter.unusedSimpArgs false
namespace Jvm.Pilot.@@N@@
open Jvm Jvm.ClassFile Sem Op Lib Jvm.Free Jvm.Stand Jvm.LawKit Jvm.RoadKit Bundle Jvm.Pilot.@@N@@.Jvm.D
/-- a boolean as an int -/
def own_b (P : Prop) [Decidable P] : Int32 := if P then 1 else 0
theorem own_b1 {P : Prop} [Decidable P] (h : P) : own_b P = 1 := if_pos h
theorem own_b0 {P : Prop} [Decidable P] (h : ¬ P) : own_b P = 0 := if_neg h
theorem own_b0_eq_f {P : Prop} [Decidable P] (h : P) : ifCond.holds .eq (own_b P) = false := by rw [own_b1 h]; rfl
theorem own_b0_eq_t {P : Prop} [Decidable P] (h : ¬ P) : ifCond.holds .eq (own_b P) = true := by rw [own_b0 h]; rfl
theorem own_b0_ne_t {P : Prop} [Decidable P] (h : P) : ifCond.holds .ne (own_b P) = true := by rw [own_b1 h]; rfl
theorem own_b0_ne_f {P : Prop} [Decidable P] (h : ¬ P) : ifCond.holds .ne (own_b P) = false := by rw [own_b0 h]; rfl
theorem own_bnar (P : Prop) [Decidable P] : nar .boolean (own_b P) = own_b P := by by_cases h : P <;> simp [own_b, h, nar]
theorem own_biff {P Q : Prop} [Decidable P] [Decidable Q] (h : P ↔ Q) : own_b P = own_b Q := by by_cases q : Q <;> simp [own_b, h, q]
/-! own_Go: from T with the frame g on top the method's run comes to an end of which P holds. One rule a plain instruction, so that a walk may fork anywhere. -/
def own_Go (p : Program) (e : Env) (below : List Frame) (P : State → Outcome → Prop) (T : State) (g : JFrame) : Prop :=
  ∃ s₂ o, Steps p.tables e below (T.setTop g) s₂ ∧ s₂.status = .running ∧ Ended s₂ below o ∧ P s₂ o
section OwnGo
variable {p : Program} {l : Launch} {e : Env} {R : Room} {s : State} {m : MethodId} {args : Array Value} {below : List Frame} {meth : Method} {c : Code} {T T' : State} {locs : List Loc} {cells slots : Nat} {P : State → Outcome → Prop} {Ls Ls' : Array Slot} {st : List Value} {pc pc' : Nat} {g g' : JFrame}
theorem own_st (h : ∀ t, Steps p.tables e below (T'.setTop g') t → Steps p.tables e below (T.setTop g) t) (k : own_Go p e below P T' g') : own_Go p e below P T g := by
  obtain ⟨s₂, o, h1, h2⟩ := k; exact ⟨s₂, o, h _ h1, h2⟩
theorem own_tr (h : Steps p.tables e below (T.setTop g) (T'.setTop g')) (k : own_Go p e below P T' g') : own_Go p e below P T g := by
  obtain ⟨s₂, o, h1, h2⟩ := k; exact ⟨s₂, o, h.trans h1, h2⟩
theorem own_aloadN (X : Stand p l e R s m args below meth c T locs cells slots) (hx : p.tables.exec = Jvm.exec) {k : Fin 4} {v : Value} (hd : decode c.code pc = .ok (.aload_n k, 1)) (hp : pc + 1 = pc') (hl : Ls[k.val]? = some (.val v)) (hv : v.isRef = true) (h : own_Go p e below P T (mkF m pc' Ls (v :: st))) : own_Go p e below P T (mkF m pc Ls st) := by
  subst hp; exact own_st (fun t k => XS.aloadN X.here hx rfl hd hl hv k) h
theorem own_aload (X : Stand p l e R s m args below meth c T locs cells slots) (hx : p.tables.exec = Jvm.exec) {k : Nat} {v : Value} (hd : decode c.code pc = .ok (.aload k, 2)) (hp : pc + 2 = pc') (hl : Ls[k]? = some (.val v)) (hv : v.isRef = true) (h : own_Go p e below P T (mkF m pc' Ls (v :: st))) : own_Go p e below P T (mkF m pc Ls st) := by
  subst hp; exact own_st (fun t k => XS.aload X.here hx rfl hd hl hv k) h
theorem own_iloadN (X : Stand p l e R s m args below meth c T locs cells slots) (hx : p.tables.exec = Jvm.exec) {k : Fin 4} {v : Int32} (hd : decode c.code pc = .ok (.iload_n k, 1)) (hp : pc + 1 = pc') (hl : Ls[k.val]? = some (.val (.int v))) (h : own_Go p e below P T (mkF m pc' Ls (.int v :: st))) : own_Go p e below P T (mkF m pc Ls st) := by
  subst hp; exact own_st (fun t k => XS.iloadN X.here hx rfl hd hl k) h
theorem own_iload (X : Stand p l e R s m args below meth c T locs cells slots) (hx : p.tables.exec = Jvm.exec) {k : Nat} {v : Int32} (hd : decode c.code pc = .ok (.iload k, 2)) (hp : pc + 2 = pc') (hl : Ls[k]? = some (.val (.int v))) (h : own_Go p e below P T (mkF m pc' Ls (.int v :: st))) : own_Go p e below P T (mkF m pc Ls st) := by
  subst hp; exact own_st (fun t k => XS.iload X.here hx rfl hd hl k) h
theorem own_lloadN (X : Stand p l e R s m args below meth c T locs cells slots) (hx : p.tables.exec = Jvm.exec) {k : Fin 4} {v : Int64} (hd : decode c.code pc = .ok (.lload_n k, 1)) (hp : pc + 1 = pc') (hl : Ls[k.val]? = some (.val (.long v))) (h : own_Go p e below P T (mkF m pc' Ls (.long v :: st))) : own_Go p e below P T (mkF m pc Ls st) := by
  subst hp; exact own_st (fun t k => XT.lloadN X.here hx rfl hd hl k) h
theorem own_lload (X : Stand p l e R s m args below meth c T locs cells slots) (hx : p.tables.exec = Jvm.exec) {k : Nat} {v : Int64} (hd : decode c.code pc = .ok (.lload k, 2)) (hp : pc + 2 = pc') (hl : Ls[k]? = some (.val (.long v))) (h : own_Go p e below P T (mkF m pc' Ls (.long v :: st))) : own_Go p e below P T (mkF m pc Ls st) := by
  subst hp; exact own_st (fun t k => XT.lload X.here hx rfl hd hl k) h
theorem own_iconst (X : Stand p l e R s m args below meth c T locs cells slots) (hx : p.tables.exec = Jvm.exec) {i : Int} (v : Int32) (hd : decode c.code pc = .ok (.iconst i, 1)) (hp : pc + 1 = pc') (hv : Int32.ofInt i = v) (h : own_Go p e below P T (mkF m pc' Ls (.int v :: st))) : own_Go p e below P T (mkF m pc Ls st) := by
  subst hp hv; exact own_st (fun t k => XS.iconst X.here hx rfl hd k) h
theorem own_bipush (X : Stand p l e R s m args below meth c T locs cells slots) (hx : p.tables.exec = Jvm.exec) {i : Int} (v : Int32) (hd : decode c.code pc = .ok (.bipush i, 2)) (hp : pc + 2 = pc') (hv : (Int8.ofInt i).toInt32 = v) (h : own_Go p e below P T (mkF m pc' Ls (.int v :: st))) : own_Go p e below P T (mkF m pc Ls st) := by
  subst hp hv; exact own_st (fun t k => XS.bipush X.here hx rfl hd k) h
theorem own_sipush (X : Stand p l e R s m args below meth c T locs cells slots) (hx : p.tables.exec = Jvm.exec) {i : Int} (v : Int32) (hd : decode c.code pc = .ok (.sipush i, 3)) (hp : pc + 3 = pc') (hv : (Int16.ofInt i).toInt32 = v) (h : own_Go p e below P T (mkF m pc' Ls (.int v :: st))) : own_Go p e below P T (mkF m pc Ls st) := by
  subst hp hv; exact own_st (fun t k => XS.sipush X.here hx rfl hd k) h
theorem own_lconst (X : Stand p l e R s m args below meth c T locs cells slots) (hx : p.tables.exec = Jvm.exec) {i : Fin 2} (v : Int64) (hd : decode c.code pc = .ok (.lconst i, 1)) (hp : pc + 1 = pc') (hv : Int64.ofNat i = v) (h : own_Go p e below P T (mkF m pc' Ls (.long v :: st))) : own_Go p e below P T (mkF m pc Ls st) := by
  subst hp hv; exact own_st (fun t k => XT.lconst X.here hx rfl hd k) h
theorem own_ldcI (X : Stand p l e R s m args below meth c T locs cells slots) (hx : p.tables.exec = Jvm.exec) {own : String} {index : Nat} {v : Int32} (hown : s.vm.findClass own = some m.cls) (hc : (Cond.constant own index v).before args s = true) (hd : decode c.code pc = .ok (.ldc index, 2)) (hp : pc + 2 = pc') (h : own_Go p e below P T (mkF m pc' Ls (.int v :: st))) : own_Go p e below P T (mkF m pc Ls st) := by
  subst hp; exact own_st (fun t k => X.ldcI hx hown hc rfl hd k) h
theorem own_ldcJ (X : Stand p l e R s m args below meth c T locs cells slots) (hx : p.tables.exec = Jvm.exec) {own : String} {index : Nat} {v : Int64} (hown : s.vm.findClass own = some m.cls) (hc : (Cond.constantLong own index v).before args s = true) (hd : decode c.code pc = .ok (.ldc2_w index, 3)) (hp : pc + 3 = pc') (h : own_Go p e below P T (mkF m pc' Ls (.long v :: st))) : own_Go p e below P T (mkF m pc Ls st) := by
  subst hp; exact own_st (fun t k => X.ldc2J hx hown hc rfl hd k) h
theorem own_null (X : Stand p l e R s m args below meth c T locs cells slots) (hx : p.tables.exec = Jvm.exec) (hd : decode c.code pc = .ok (.aconst_null, 1)) (hp : pc + 1 = pc') (h : own_Go p e below P T (mkF m pc' Ls (.null :: st))) : own_Go p e below P T (mkF m pc Ls st) := by
  subst hp; exact own_st (fun t k => XS.aconstNull X.here hx rfl hd k) h
theorem own_iadd (X : Stand p l e R s m args below meth c T locs cells slots) (hx : p.tables.exec = Jvm.exec) {x y : Int32} (hd : decode c.code pc = .ok (.iadd, 1)) (hp : pc + 1 = pc') (h : own_Go p e below P T (mkF m pc' Ls (.int (x + y) :: st))) : own_Go p e below P T (mkF m pc Ls (.int y :: .int x :: st)) := by
  subst hp; exact own_st (fun t k => XS.iadd X.here hx rfl hd rfl k) h
theorem own_isub (X : Stand p l e R s m args below meth c T locs cells slots) (hx : p.tables.exec = Jvm.exec) {x y : Int32} (hd : decode c.code pc = .ok (.isub, 1)) (hp : pc + 1 = pc') (h : own_Go p e below P T (mkF m pc' Ls (.int (x - y) :: st))) : own_Go p e below P T (mkF m pc Ls (.int y :: .int x :: st)) := by
  subst hp; exact own_st (fun t k => XS.isub X.here hx rfl hd rfl k) h
theorem own_iand (X : Stand p l e R s m args below meth c T locs cells slots) (hx : p.tables.exec = Jvm.exec) {x y : Int32} (hd : decode c.code pc = .ok (.iand, 1)) (hp : pc + 1 = pc') (h : own_Go p e below P T (mkF m pc' Ls (.int (x &&& y) :: st))) : own_Go p e below P T (mkF m pc Ls (.int y :: .int x :: st)) := by
  subst hp; exact own_st (fun t k => XS.iand X.here hx rfl hd rfl k) h
theorem own_imul (X : Stand p l e R s m args below meth c T locs cells slots) (hx : p.tables.exec = Jvm.exec) {x y : Int32} (hd : decode c.code pc = .ok (.imul, 1)) (hp : pc + 1 = pc') (h : own_Go p e below P T (mkF m pc' Ls (.int (x * y) :: st))) : own_Go p e below P T (mkF m pc Ls (.int y :: .int x :: st)) := by
  subst hp; exact own_st (fun t k => XS.imul X.here hx rfl hd rfl k) h
theorem own_irem (X : Stand p l e R s m args below meth c T locs cells slots) (hx : p.tables.exec = Jvm.exec) {x y : Int32} (hd : decode c.code pc = .ok (.irem, 1)) (hp : pc + 1 = pc') (hy : y ≠ 0) (h : own_Go p e below P T (mkF m pc' Ls (.int (x % y) :: st))) : own_Go p e below P T (mkF m pc Ls (.int y :: .int x :: st)) := by
  subst hp; exact own_st (fun t k => iremM X hx rfl hd rfl hy k) h
theorem own_ishr (X : Stand p l e R s m args below meth c T locs cells slots) (hx : p.tables.exec = Jvm.exec) {x y : Int32} (hd : decode c.code pc = .ok (.ishr, 1)) (hp : pc + 1 = pc') (h : own_Go p e below P T (mkF m pc' Ls (.int (x >>> (y &&& 31)) :: st))) : own_Go p e below P T (mkF m pc Ls (.int y :: .int x :: st)) := by
  subst hp; exact own_st (fun t k => XT.ishr X.here hx rfl hd rfl k) h
theorem own_iushr (X : Stand p l e R s m args below meth c T locs cells slots) (hx : p.tables.exec = Jvm.exec) {x y : Int32} (hd : decode c.code pc = .ok (.iushr, 1)) (hp : pc + 1 = pc') (h : own_Go p e below P T (mkF m pc' Ls (.int (XT.ushr x y) :: st))) : own_Go p e below P T (mkF m pc Ls (.int y :: .int x :: st)) := by
  subst hp; exact own_st (fun t k => XT.iushr X.here hx rfl hd rfl k) h
theorem own_i2b (X : Stand p l e R s m args below meth c T locs cells slots) (hx : p.tables.exec = Jvm.exec) {x : Int32} (hd : decode c.code pc = .ok (.i2b, 1)) (hp : pc + 1 = pc') (h : own_Go p e below P T (mkF m pc' Ls (.int (nar .byte x) :: st))) : own_Go p e below P T (mkF m pc Ls (.int x :: st)) := by
  subst hp; exact own_st (fun t k => XT.i2b X.here hx rfl hd rfl k) h
theorem own_i2c (X : Stand p l e R s m args below meth c T locs cells slots) (hx : p.tables.exec = Jvm.exec) {x : Int32} (hd : decode c.code pc = .ok (.i2c, 1)) (hp : pc + 1 = pc') (h : own_Go p e below P T (mkF m pc' Ls (.int (nar .char x) :: st))) : own_Go p e below P T (mkF m pc Ls (.int x :: st)) := by
  subst hp; exact own_st (fun t k => XT.i2c X.here hx rfl hd rfl k) h
theorem own_i2l (X : Stand p l e R s m args below meth c T locs cells slots) (hx : p.tables.exec = Jvm.exec) {x : Int32} (hd : decode c.code pc = .ok (.i2l, 1)) (hp : pc + 1 = pc') (h : own_Go p e below P T (mkF m pc' Ls (.long x.toInt64 :: st))) : own_Go p e below P T (mkF m pc Ls (.int x :: st)) := by
  subst hp; exact own_st (fun t k => XT.i2l X.here hx rfl hd rfl k) h
theorem own_l2i (X : Stand p l e R s m args below meth c T locs cells slots) (hx : p.tables.exec = Jvm.exec) {x : Int64} (hd : decode c.code pc = .ok (.l2i, 1)) (hp : pc + 1 = pc') (h : own_Go p e below P T (mkF m pc' Ls (.int x.toInt32 :: st))) : own_Go p e below P T (mkF m pc Ls (.long x :: st)) := by
  subst hp; exact own_st (fun t k => XT.l2i X.here hx rfl hd rfl k) h
theorem own_lushr (X : Stand p l e R s m args below meth c T locs cells slots) (hx : p.tables.exec = Jvm.exec) {x : Int64} {y : Int32} (hd : decode c.code pc = .ok (.lushr, 1)) (hp : pc + 1 = pc') (h : own_Go p e below P T (mkF m pc' Ls (.long (XT.ushrL x y) :: st))) : own_Go p e below P T (mkF m pc Ls (.int y :: .long x :: st)) := by
  subst hp; exact own_st (fun t k => XT.lushr X.here hx rfl hd rfl k) h
theorem own_lcmp (X : Stand p l e R s m args below meth c T locs cells slots) (hx : p.tables.exec = Jvm.exec) {x y : Int64} (hd : decode c.code pc = .ok (.lcmp, 1)) (hp : pc + 1 = pc') (h : own_Go p e below P T (mkF m pc' Ls (.int (XT.cmpL x y) :: st))) : own_Go p e below P T (mkF m pc Ls (.long y :: .long x :: st)) := by
  subst hp; exact own_st (fun t k => XT.lcmp X.here hx rfl hd rfl k) h
theorem own_dup (X : Stand p l e R s m args below meth c T locs cells slots) (hx : p.tables.exec = Jvm.exec) {x : Value} (hd : decode c.code pc = .ok (.dup, 1)) (hp : pc + 1 = pc') (hc : x.category = 1) (h : own_Go p e below P T (mkF m pc' Ls (x :: x :: st))) : own_Go p e below P T (mkF m pc Ls (x :: st)) := by
  subst hp; exact own_st (fun t k => XS.dup X.here hx rfl hd rfl hc k) h
theorem own_dupX1 (X : Stand p l e R s m args below meth c T locs cells slots) (hx : p.tables.exec = Jvm.exec) {x y : Value} (hd : decode c.code pc = .ok (.dup_x1, 1)) (hp : pc + 1 = pc') (hc : x.category = 1) (hc' : y.category = 1) (h : own_Go p e below P T (mkF m pc' Ls (x :: y :: x :: st))) : own_Go p e below P T (mkF m pc Ls (x :: y :: st)) := by
  subst hp; exact own_st (fun t k => XT.dupX1 X.here hx rfl hd rfl hc hc' k) h
theorem own_pop (X : Stand p l e R s m args below meth c T locs cells slots) (hx : p.tables.exec = Jvm.exec) {x : Value} (hd : decode c.code pc = .ok (.pop, 1)) (hp : pc + 1 = pc') (hc : x.category = 1) (h : own_Go p e below P T (mkF m pc' Ls st)) : own_Go p e below P T (mkF m pc Ls (x :: st)) := by
  subst hp; exact own_st (fun t k => XT.pop X.here hx rfl hd rfl hc k) h
theorem own_istoreN (X : Stand p l e R s m args below meth c T locs cells slots) (hx : p.tables.exec = Jvm.exec) {k : Fin 4} {x : Int32} (hd : decode c.code pc = .ok (.istore_n k, 1)) (hp : pc + 1 = pc') (hl : storeLocals Ls k.val (.int x) = some Ls') (h : own_Go p e below P T (mkF m pc' Ls' st)) : own_Go p e below P T (mkF m pc Ls (.int x :: st)) := by
  subst hp; exact own_st (fun t k => XS.istoreN X.here hx rfl hd rfl hl k) h
theorem own_istore (X : Stand p l e R s m args below meth c T locs cells slots) (hx : p.tables.exec = Jvm.exec) {k : Nat} {x : Int32} (hd : decode c.code pc = .ok (.istore k, 2)) (hp : pc + 2 = pc') (hl : storeLocals Ls k (.int x) = some Ls') (h : own_Go p e below P T (mkF m pc' Ls' st)) : own_Go p e below P T (mkF m pc Ls (.int x :: st)) := by
  subst hp; exact own_st (fun t k => XS.istore X.here hx rfl hd rfl hl k) h
theorem own_lstoreN (X : Stand p l e R s m args below meth c T locs cells slots) (hx : p.tables.exec = Jvm.exec) {k : Fin 4} {x : Int64} (hd : decode c.code pc = .ok (.lstore_n k, 1)) (hp : pc + 1 = pc') (hl : storeLocals Ls k.val (.long x) = some Ls') (h : own_Go p e below P T (mkF m pc' Ls' st)) : own_Go p e below P T (mkF m pc Ls (.long x :: st)) := by
  subst hp; exact own_st (fun t k => XT.lstoreN X.here hx rfl hd rfl hl k) h
theorem own_lstore (X : Stand p l e R s m args below meth c T locs cells slots) (hx : p.tables.exec = Jvm.exec) {k : Nat} {x : Int64} (hd : decode c.code pc = .ok (.lstore k, 2)) (hp : pc + 2 = pc') (hl : storeLocals Ls k (.long x) = some Ls') (h : own_Go p e below P T (mkF m pc' Ls' st)) : own_Go p e below P T (mkF m pc Ls (.long x :: st)) := by
  subst hp; exact own_st (fun t k => XT.lstore X.here hx rfl hd rfl hl k) h
theorem own_astoreN (X : Stand p l e R s m args below meth c T locs cells slots) (hx : p.tables.exec = Jvm.exec) {k : Fin 4} {x : Value} (hd : decode c.code pc = .ok (.astore_n k, 1)) (hp : pc + 1 = pc') (hv : x.isRef = true) (hl : storeLocals Ls k.val x = some Ls') (h : own_Go p e below P T (mkF m pc' Ls' st)) : own_Go p e below P T (mkF m pc Ls (x :: st)) := by
  subst hp; exact own_st (fun t k => XS.astoreN X.here hx rfl hd rfl hv hl k) h
theorem own_astore (X : Stand p l e R s m args below meth c T locs cells slots) (hx : p.tables.exec = Jvm.exec) {k : Nat} {x : Value} (hd : decode c.code pc = .ok (.astore k, 2)) (hp : pc + 2 = pc') (hv : x.isRef = true) (hl : storeLocals Ls k x = some Ls') (h : own_Go p e below P T (mkF m pc' Ls' st)) : own_Go p e below P T (mkF m pc Ls (x :: st)) := by
  subst hp; exact own_st (fun t k => XS.astore X.here hx rfl hd rfl hv hl k) h
theorem own_goto (X : Stand p l e R s m args below meth c T locs cells slots) (hx : p.tables.exec = Jvm.exec) {o : Int} (hd : decode c.code pc = .ok (.goto o, 3)) (ho : 0 ≤ (pc : Int) + o) (hp : ((pc : Int) + o).toNat = pc') (h : own_Go p e below P T (mkF m pc' Ls st)) : own_Go p e below P T (mkF m pc Ls st) := by
  exact own_st (fun t k => XS.goto X.here hx rfl (pc0 := pc) rfl hd ho hp k) h
theorem own_ifY (X : Stand p l e R s m args below meth c T locs cells slots) (hx : p.tables.exec = Jvm.exec) {cd : ClassFile.Cond} {x : Int32} {o : Int} (hd : decode c.code pc = .ok (.ifCond cd o, 3)) (hc : ifCond.holds cd x = true) (ho : 0 ≤ (pc : Int) + o) (hp : ((pc : Int) + o).toNat = pc') (h : own_Go p e below P T (mkF m pc' Ls st)) : own_Go p e below P T (mkF m pc Ls (.int x :: st)) := by
  exact own_st (fun t k => XS.ifYes X.here hx rfl (pc0 := pc) rfl hd rfl hc ho hp k) h
theorem own_ifN (X : Stand p l e R s m args below meth c T locs cells slots) (hx : p.tables.exec = Jvm.exec) {cd : ClassFile.Cond} {x : Int32} {o : Int} (hd : decode c.code pc = .ok (.ifCond cd o, 3)) (hc : ifCond.holds cd x = false) (hp : pc + 3 = pc') (h : own_Go p e below P T (mkF m pc' Ls st)) : own_Go p e below P T (mkF m pc Ls (.int x :: st)) := by
  subst hp; exact own_st (fun t k => XS.ifNo X.here hx rfl hd rfl hc k) h
theorem own_icmpY (X : Stand p l e R s m args below meth c T locs cells slots) (hx : p.tables.exec = Jvm.exec) {cd : ClassFile.Cond} {x y : Int32} {o : Int} (hd : decode c.code pc = .ok (.if_icmp cd o, 3)) (hc : if_icmp.holds cd x y = true) (ho : 0 ≤ (pc : Int) + o) (hp : ((pc : Int) + o).toNat = pc') (h : own_Go p e below P T (mkF m pc' Ls st)) : own_Go p e below P T (mkF m pc Ls (.int y :: .int x :: st)) := by
  exact own_st (fun t k => XS.icmpYes X.here hx rfl (pc0 := pc) rfl hd rfl hc ho hp k) h
theorem own_icmpN (X : Stand p l e R s m args below meth c T locs cells slots) (hx : p.tables.exec = Jvm.exec) {cd : ClassFile.Cond} {x y : Int32} {o : Int} (hd : decode c.code pc = .ok (.if_icmp cd o, 3)) (hc : if_icmp.holds cd x y = false) (hp : pc + 3 = pc') (h : own_Go p e below P T (mkF m pc' Ls st)) : own_Go p e below P T (mkF m pc Ls (.int y :: .int x :: st)) := by
  subst hp; exact own_st (fun t k => XS.icmpNo X.here hx rfl hd rfl hc k) h
theorem own_ifnullY (X : Stand p l e R s m args below meth c T locs cells slots) (hx : p.tables.exec = Jvm.exec) {o : Int} (hd : decode c.code pc = .ok (.ifnull o, 3)) (ho : 0 ≤ (pc : Int) + o) (hp : ((pc : Int) + o).toNat = pc') (h : own_Go p e below P T (mkF m pc' Ls st)) : own_Go p e below P T (mkF m pc Ls (.null :: st)) := by
  exact own_st (fun t k => XS.ifnullYes X.here hx rfl (pc0 := pc) rfl hd rfl ho hp k) h
theorem own_ifnullN (X : Stand p l e R s m args below meth c T locs cells slots) (hx : p.tables.exec = Jvm.exec) {a : Addr} {o : Int} (hd : decode c.code pc = .ok (.ifnull o, 3)) (hp : pc + 3 = pc') (h : own_Go p e below P T (mkF m pc' Ls st)) : own_Go p e below P T (mkF m pc Ls (.ref a :: st)) := by
  subst hp; exact own_st (fun t k => XS.ifnullNo X.here hx rfl hd rfl k) h
theorem own_ifnonnullY (X : Stand p l e R s m args below meth c T locs cells slots) (hx : p.tables.exec = Jvm.exec) {a : Addr} {o : Int} (hd : decode c.code pc = .ok (.ifnonnull o, 3)) (ho : 0 ≤ (pc : Int) + o) (hp : ((pc : Int) + o).toNat = pc') (h : own_Go p e below P T (mkF m pc' Ls st)) : own_Go p e below P T (mkF m pc Ls (.ref a :: st)) := by
  exact own_st (fun t k => XT.ifnonnullYes X.here hx rfl (pc0 := pc) rfl hd rfl ho hp k) h
theorem own_ifnonnullN (X : Stand p l e R s m args below meth c T locs cells slots) (hx : p.tables.exec = Jvm.exec) {o : Int} (hd : decode c.code pc = .ok (.ifnonnull o, 3)) (hp : pc + 3 = pc') (h : own_Go p e below P T (mkF m pc' Ls st)) : own_Go p e below P T (mkF m pc Ls (.null :: st)) := by
  subst hp; exact own_st (fun t k => XT.ifnonnullNo X.here hx rfl hd rfl k) h
theorem own_acmpY (X : Stand p l e R s m args below meth c T locs cells slots) (hx : p.tables.exec = Jvm.exec) {cd : ACond} {x y : Value} {o : Int} (h1 : x.isRef = true) (h2 : y.isRef = true) (hd : decode c.code pc = .ok (.if_acmp cd o, 3)) (hc : XT.acmp cd x y = true) (ho : 0 ≤ (pc : Int) + o) (hp : ((pc : Int) + o).toNat = pc') (h : own_Go p e below P T (mkF m pc' Ls st)) : own_Go p e below P T (mkF m pc Ls (y :: x :: st)) := by
  exact own_st (fun t k => XT.acmpYes X.here hx rfl (pc0 := pc) rfl hd rfl h1 h2 hc ho hp k) h
theorem own_acmpN (X : Stand p l e R s m args below meth c T locs cells slots) (hx : p.tables.exec = Jvm.exec) {cd : ACond} {x y : Value} {o : Int} (h1 : x.isRef = true) (h2 : y.isRef = true) (hd : decode c.code pc = .ok (.if_acmp cd o, 3)) (hc : XT.acmp cd x y = false) (hp : pc + 3 = pc') (h : own_Go p e below P T (mkF m pc' Ls st)) : own_Go p e below P T (mkF m pc Ls (y :: x :: st)) := by
  subst hp; exact own_st (fun t k => XT.acmpNo X.here hx rfl hd rfl h1 h2 hc k) h
theorem own_cut (h1 : own_Go p e below P T g' → own_Go p e below P T g) (h2 : own_Go p e below P T g') : own_Go p e below P T g := h1 h2
theorem own_iinc (X : Stand p l e R s m args below meth c T locs cells slots) (hx : p.tables.exec = Jvm.exec) {k : Nat} {cst : Int} {x : Int32} (v : Int32) (hd : decode c.code pc = .ok (.iinc k cst, 3)) (hp : pc + 3 = pc') (hl : Ls[k]? = some (.val (.int x))) (hv : x + Int32.ofInt cst = v) (hs : storeLocals Ls k (.int v) = some Ls') (h : own_Go p e below P T (mkF m pc' Ls' st)) : own_Go p e below P T (mkF m pc Ls st) := by
  subst hp hv; exact own_st (fun t k => XS.iinc X.here hx rfl hd hl hs k) h
abbrev own_End (s : State) (Q : Option Value → Heap → List Loc → Prop) (k n : Nat) : State → Outcome → Prop := fun u o => ∃ v L, o = .returned v ∧ Q v u.heap L ∧ FrameEnd s o u L k n
variable {Q : Option Value → Heap → List Loc → Prop} {ck sn : Nat}
theorem own_retZ (X : Stand p l e R s m args below meth c T locs cells slots) (hx : p.tables.exec = Jvm.exec) (hk : meth.locks = false) {t : FieldType} (hret : meth.sig.returnType = some t) (ht : t = .boolean ∨ t = .byte ∨ t = .char ∨ t = .short) {z : Int32} (hd : decode c.code pc = .ok (.ireturn, 1)) (hc : cells ≤ ck) (hs : slots ≤ sn) (hQ : Q (some (.int (nar t z))) T.heap locs) :
    own_Go p e below (own_End s Q ck sn) T (mkF m pc Ls (.int z :: st)) := by
  obtain ⟨fs, hr, hrun, hended, hW, hsame⟩ := X.leave (v := some (.int (nar t z))) (fun h => by rw [hret] at h; cases h) hk
  exact ⟨_, _, retN X hx hret ht hd hr, hrun, hended, _, _, rfl, hQ, ⟨_, rfl⟩, hW, hsame.mono hc hs⟩
theorem own_retI (X : Stand p l e R s m args below meth c T locs cells slots) (hx : p.tables.exec = Jvm.exec) (hk : meth.locks = false) (hret : meth.sig.returnType = some .int) {z : Int32} (hd : decode c.code pc = .ok (.ireturn, 1)) (hc : cells ≤ ck) (hs : slots ≤ sn) (hQ : Q (some (.int z)) T.heap locs) :
    own_Go p e below (own_End s Q ck sn) T (mkF m pc Ls (.int z :: st)) := by
  obtain ⟨fs, hr, hrun, hended, hW, hsame⟩ := X.leave (v := some (.int z)) (fun h => by rw [hret] at h; cases h) hk
  exact ⟨_, _, retOut X hx hret rfl (Or.inl ⟨rfl, Or.inl rfl, z, rfl⟩) hd hr, hrun, hended, _, _, rfl, hQ, ⟨_, rfl⟩, hW, hsame.mono hc hs⟩
theorem own_retL (X : Stand p l e R s m args below meth c T locs cells slots) (hx : p.tables.exec = Jvm.exec) (hk : meth.locks = false) (hret : meth.sig.returnType = some .long) {z : Int64} (hd : decode c.code pc = .ok (.lreturn, 1)) (hc : cells ≤ ck) (hs : slots ≤ sn) (hQ : Q (some (.long z)) T.heap locs) :
    own_Go p e below (own_End s Q ck sn) T (mkF m pc Ls (.long z :: st)) := by
  obtain ⟨fs, hr, hrun, hended, hW, hsame⟩ := X.leave (v := some (.long z)) (fun h => by rw [hret] at h; cases h) hk
  exact ⟨_, _, retOut X hx hret rfl (Or.inr (Or.inl ⟨rfl, rfl, z, rfl⟩)) hd hr, hrun, hended, _, _, rfl, hQ, ⟨_, rfl⟩, hW, hsame.mono hc hs⟩
theorem own_narR {t : FieldType} {w : Value} (ht : t.isReference = true) (hw : w.isRef = true) : narrow t w = w := by
  rcases ref_cases hw with rfl | ⟨a, rfl⟩ <;> cases t <;> first | rfl | (cases ht; done)
theorem own_retA (X : Stand p l e R s m args below meth c T locs cells slots) (hx : p.tables.exec = Jvm.exec) (hk : meth.locks = false) {t : FieldType} (hret : meth.sig.returnType = some t) (ht : t.isReference = true) {w : Value} (hw : w.isRef = true) (hd : decode c.code pc = .ok (.areturn, 1)) (hc : cells ≤ ck) (hs : slots ≤ sn) (hQ : Q (some w) T.heap locs) :
    own_Go p e below (own_End s Q ck sn) T (mkF m pc Ls (w :: st)) := by
  obtain ⟨fs, hr, hrun, hended, hW, hsame⟩ := X.leave (v := some w) (fun h => by rw [hret] at h; cases h) hk
  exact ⟨_, _, retOut X hx hret (own_narR ht hw) (Or.inr (Or.inr (Or.inr (Or.inr ⟨rfl, ht, hw⟩)))) hd hr, hrun, hended, _, _, rfl, hQ, ⟨_, rfl⟩, hW, hsame.mono hc hs⟩
theorem own_retV (X : Stand p l e R s m args below meth c T locs cells slots) (hx : p.tables.exec = Jvm.exec) (hk : meth.locks = false) (hret : meth.sig.returnType = none) (hd : decode c.code pc = .ok (.return_, 1)) (hc : cells ≤ ck) (hs : slots ≤ sn) (hQ : Q none T.heap locs) :
    own_Go p e below (own_End s Q ck sn) T (mkF m pc Ls []) := by
  obtain ⟨fs, hr, hrun, hended, hW, hsame⟩ := X.leave (v := none) (fun _ => rfl) hk
  exact ⟨_, _, X.returnOut hx hret hd hr, hrun, hended, _, _, rfl, hQ, ⟨_, rfl⟩, hW, hsame.mono hc hs⟩
end OwnGo
theorem own_ten (c : Int32) : (¬ c < (48 : Int32) ∧ ¬ (57 : Int32) < c) ↔ (c = (48 : Int32) ∨ c = (49 : Int32) ∨ c = (50 : Int32) ∨ c = (51 : Int32) ∨ c = (52 : Int32) ∨ c = (53 : Int32) ∨ c = (54 : Int32) ∨ c = (55 : Int32) ∨ c = (56 : Int32) ∨ c = (57 : Int32)) := by
  simp only [Int32.lt_iff_toInt_lt, ← Int32.toInt_inj, Int32.reduceToInt]
  omega
theorem d1_0 : decode prog_164_method_2_code 0 = .ok (.iload_n 0, 1) := by decide +kernel
theorem d1_1 : decode prog_164_method_2_code 1 = .ok (.bipush 48, 2) := by decide +kernel
theorem d1_3 : decode prog_164_method_2_code 3 = .ok (.if_icmp .lt 13, 3) := by decide +kernel
theorem d1_16 : decode prog_164_method_2_code 16 = .ok (.iconst 0, 1) := by decide +kernel
theorem d1_17 : decode prog_164_method_2_code 17 = .ok (.ireturn, 1) := by decide +kernel
theorem d1_6 : decode prog_164_method_2_code 6 = .ok (.iload_n 0, 1) := by decide +kernel
theorem d1_7 : decode prog_164_method_2_code 7 = .ok (.bipush 57, 2) := by decide +kernel
theorem d1_9 : decode prog_164_method_2_code 9 = .ok (.if_icmp .gt 7, 3) := by decide +kernel
theorem d1_12 : decode prog_164_method_2_code 12 = .ok (.iconst 1, 1) := by decide +kernel
theorem d1_13 : decode prog_164_method_2_code 13 = .ok (.goto 4, 3) := by decide +kernel
theorem pn1 : plainName "com/example/goalwright/goalwright/model/Syntax" = true := by first | (simp [plainName, overriddenIn]; done) | decide +kernel
theorem ef1 (m : MethodId) (c1 : Int32) : entryFrame m #[(.int c1)] 1 = mkF m 0 #[.val (.int c1)] [] := by first | (simp [entryFrame, mkF, argsToLocals, Value.category]; done) | rfl
def Q1 (Z : State) (c1 : Int32) (h0 : Heap) (n0 : Nat) (v : Option Value) (h : Heap) (L : List Loc) : Prop := v = some (.int (own_b (¬ c1 < (48 : Int32) ∧ ¬ (57 : Int32) < c1))) ∧ Fr n0 L ∧ h = h0
set_option maxRecDepth 65536 in
set_option maxHeartbeats 40000000 in
theorem rm1 (l : Launch) (Z : State) (a0 : Array Value) (hw : ∀ d ∈ tables_1, d.before a0 Z = true) (ws : List Jvm.Cond) (c1 : Int32) (h0 : Heap) (n0 : Nat) (Z0 : n0 ≤ h0.size) :
    MetFree l (⟨"com/example/goalwright/goalwright/model/Syntax", "isDigit", "(I)Z"⟩ : MethodName) (head1 (Jvm.Cond.code (⟨"com/example/goalwright/goalwright/model/Syntax", "isDigit", "(I)Z"⟩ : MethodName) prog_164_method_2_code 1 (some .boolean) :: ws) ({ frames := 0, cells := 0, slots := 0, locals := 0 } : Room)) (fun a U => a = #[(.int c1)] ∧ Z.Warmed39 U.vm ∧ U.heap = h0) (fun _ _ _ _ _ => True) (fun _ U o U' => ∃ v L, o = .returned v ∧ Q1 Z c1 h0 n0 v U'.heap L ∧ FrameEnd U o U' L ({ frames := 0, cells := 0, slots := 0, locals := 0 } : Room).cells ({ frames := 0, cells := 0, slots := 0, locals := 0 } : Room).slots) := by
  refine MetFree.of_bodySF (plainFor_of_name pn1) hisR ?_
  intro p e s m args below meth c s₁ Bd hml0 hP hK
  obtain ⟨rfl, hZ, hh⟩ := hP
  have hx := Bd.exec
  have hby := Bd.bytes
  have hlk : meth.locks = false := BodyLoose.notSynchronized Bd
  have hml : c.maxLocals = 1 := hml0
  have hown : s.vm.findClass "com/example/goalwright/goalwright/model/Syntax" = some m.cls := findClass_of_methodNamed Bd.named
  have hnm := (name_of_methodNamed Bd.named Bd.method).1
  have X0 : Stand p l e ({ frames := 0, cells := 0, slots := 0, locals := 0 } : Room) s m #[(.int c1)] below meth c s₁ [] 0 0 := Stand.of_body Bd
  have e0 : s₁.heap = h0 := by rw [← hh, Bd.state]; rfl
  have N0 := Fr.nil n0
  rw [ef1 m c1]
  show own_Go p e below (own_End s (Q1 Z c1 h0 n0) ({ frames := 0, cells := 0, slots := 0, locals := 0 } : Room).cells ({ frames := 0, cells := 0, slots := 0, locals := 0 } : Room).slots) s₁ (mkF m 0 #[.val (.int c1)] [])
  refine own_iloadN X0 hx (hb hby d1_0) (pc' := 1) rfl rfl ?_
  refine own_bipush X0 hx (48) (hb hby d1_1) (pc' := 3) rfl (by decide) ?_
  by_cases c_1 : c1 < (48 : Int32)
  · skip
    refine own_icmpY X0 hx (hb hby d1_3) (XT.ii_lt_t c_1) (pc' := 16) (by decide) (by decide) ?_
    refine own_iconst X0 hx (0) (hb hby d1_16) (pc' := 17) rfl rfl ?_
    refine own_retZ X0 hx hlk Bd.returns (by simp) (hb hby d1_17) (by decide) (by decide) ?_
    exact ⟨by simp [own_b, nar, c_1], N0, e0⟩
  · skip
    refine own_icmpN X0 hx (hb hby d1_3) (XT.ii_lt_f c_1) (pc' := 6) rfl ?_
    refine own_iloadN X0 hx (hb hby d1_6) (pc' := 7) rfl rfl ?_
    refine own_bipush X0 hx (57) (hb hby d1_7) (pc' := 9) rfl (by decide) ?_
    by_cases c_2 : (57 : Int32) < c1
    · skip
      refine own_icmpY X0 hx (hb hby d1_9) (XT.ii_gt_t c_2) (pc' := 16) (by decide) (by decide) ?_
      refine own_iconst X0 hx (0) (hb hby d1_16) (pc' := 17) rfl rfl ?_
      refine own_retZ X0 hx hlk Bd.returns (by simp) (hb hby d1_17) (by decide) (by decide) ?_
      exact ⟨by simp [own_b, nar, c_1, c_2], N0, e0⟩
    · skip
      refine own_icmpN X0 hx (hb hby d1_9) (XT.ii_gt_f c_2) (pc' := 12) rfl ?_
      refine own_iconst X0 hx (1) (hb hby d1_12) (pc' := 13) rfl rfl ?_
      refine own_goto X0 hx (hb hby d1_13) (pc' := 17) (by decide) (by decide) ?_
      refine own_retZ X0 hx hlk Bd.returns (by simp) (hb hby d1_17) (by decide) (by decide) ?_
      exact ⟨by simp [own_b, nar, c_1, c_2], N0, e0⟩
theorem d2_0 : decode method_2_code 0 = .ok (.iload_n 0, 1) := by decide +kernel
theorem d2_1 : decode method_2_code 1 = .ok (.bipush 48, 2) := by decide +kernel
theorem d2_3 : decode method_2_code 3 = .ok (.if_icmp .eq 57, 3) := by decide +kernel
theorem d2_60 : decode method_2_code 60 = .ok (.iconst 1, 1) := by decide +kernel
theorem d2_61 : decode method_2_code 61 = .ok (.goto 4, 3) := by decide +kernel
theorem d2_65 : decode method_2_code 65 = .ok (.ireturn, 1) := by decide +kernel
theorem d2_6 : decode method_2_code 6 = .ok (.iload_n 0, 1) := by decide +kernel
theorem d2_7 : decode method_2_code 7 = .ok (.bipush 49, 2) := by decide +kernel
theorem d2_9 : decode method_2_code 9 = .ok (.if_icmp .eq 51, 3) := by decide +kernel
theorem d2_12 : decode method_2_code 12 = .ok (.iload_n 0, 1) := by decide +kernel
theorem d2_13 : decode method_2_code 13 = .ok (.bipush 50, 2) := by decide +kernel
theorem d2_15 : decode method_2_code 15 = .ok (.if_icmp .eq 45, 3) := by decide +kernel
theorem d2_18 : decode method_2_code 18 = .ok (.iload_n 0, 1) := by decide +kernel
theorem d2_19 : decode method_2_code 19 = .ok (.bipush 51, 2) := by decide +kernel
theorem d2_21 : decode method_2_code 21 = .ok (.if_icmp .eq 39, 3) := by decide +kernel
theorem d2_24 : decode method_2_code 24 = .ok (.iload_n 0, 1) := by decide +kernel
theorem d2_25 : decode method_2_code 25 = .ok (.bipush 52, 2) := by decide +kernel
theorem d2_27 : decode method_2_code 27 = .ok (.if_icmp .eq 33, 3) := by decide +kernel
theorem d2_30 : decode method_2_code 30 = .ok (.iload_n 0, 1) := by decide +kernel
theorem d2_31 : decode method_2_code 31 = .ok (.bipush 53, 2) := by decide +kernel
theorem d2_33 : decode method_2_code 33 = .ok (.if_icmp .eq 27, 3) := by decide +kernel
theorem d2_36 : decode method_2_code 36 = .ok (.iload_n 0, 1) := by decide +kernel
theorem d2_37 : decode method_2_code 37 = .ok (.bipush 54, 2) := by decide +kernel
theorem d2_39 : decode method_2_code 39 = .ok (.if_icmp .eq 21, 3) := by decide +kernel
theorem d2_42 : decode method_2_code 42 = .ok (.iload_n 0, 1) := by decide +kernel
theorem d2_43 : decode method_2_code 43 = .ok (.bipush 55, 2) := by decide +kernel
theorem d2_45 : decode method_2_code 45 = .ok (.if_icmp .eq 15, 3) := by decide +kernel
theorem d2_48 : decode method_2_code 48 = .ok (.iload_n 0, 1) := by decide +kernel
theorem d2_49 : decode method_2_code 49 = .ok (.bipush 56, 2) := by decide +kernel
theorem d2_51 : decode method_2_code 51 = .ok (.if_icmp .eq 9, 3) := by decide +kernel
theorem d2_54 : decode method_2_code 54 = .ok (.iload_n 0, 1) := by decide +kernel
theorem d2_55 : decode method_2_code 55 = .ok (.bipush 57, 2) := by decide +kernel
theorem d2_57 : decode method_2_code 57 = .ok (.if_icmp .ne 7, 3) := by decide +kernel
theorem d2_64 : decode method_2_code 64 = .ok (.iconst 0, 1) := by decide +kernel
theorem pn2 : plainName "com/example/goalwright/goalwright/model/SyntaxIsDigitPinLaw" = true := by first | (simp [plainName, overriddenIn]; done) | decide +kernel
theorem ef2 (m : MethodId) (c1 : Int32) : entryFrame m #[(.int c1)] 1 = mkF m 0 #[.val (.int c1)] [] := by first | (simp [entryFrame, mkF, argsToLocals, Value.category]; done) | rfl
def Q2 (Z : State) (c1 : Int32) (h0 : Heap) (n0 : Nat) (v : Option Value) (h : Heap) (L : List Loc) : Prop := v = some (.int (own_b (c1 = (48 : Int32) ∨ c1 = (49 : Int32) ∨ c1 = (50 : Int32) ∨ c1 = (51 : Int32) ∨ c1 = (52 : Int32) ∨ c1 = (53 : Int32) ∨ c1 = (54 : Int32) ∨ c1 = (55 : Int32) ∨ c1 = (56 : Int32) ∨ c1 = (57 : Int32)))) ∧ Fr n0 L ∧ h = h0
set_option maxRecDepth 65536 in
set_option maxHeartbeats 40000000 in
theorem rm2 (l : Launch) (Z : State) (a0 : Array Value) (hw : ∀ d ∈ tables_1, d.before a0 Z = true) (ws : List Jvm.Cond) (c1 : Int32) (h0 : Heap) (n0 : Nat) (Z0 : n0 ≤ h0.size) :
    MetFree l (⟨"com/example/goalwright/goalwright/model/SyntaxIsDigitPinLaw", "oneOfTen", "(I)Z"⟩ : MethodName) (head1 (Jvm.Cond.code (⟨"com/example/goalwright/goalwright/model/SyntaxIsDigitPinLaw", "oneOfTen", "(I)Z"⟩ : MethodName) method_2_code 1 (some .boolean) :: ws) ({ frames := 0, cells := 0, slots := 0, locals := 0 } : Room)) (fun a U => a = #[(.int c1)] ∧ Z.Warmed39 U.vm ∧ U.heap = h0) (fun _ _ _ _ _ => True) (fun _ U o U' => ∃ v L, o = .returned v ∧ Q2 Z c1 h0 n0 v U'.heap L ∧ FrameEnd U o U' L ({ frames := 0, cells := 0, slots := 0, locals := 0 } : Room).cells ({ frames := 0, cells := 0, slots := 0, locals := 0 } : Room).slots) := by
  refine MetFree.of_bodySF (plainFor_of_name pn2) hisR ?_
  intro p e s m args below meth c s₁ Bd hml0 hP hK
  obtain ⟨rfl, hZ, hh⟩ := hP
  have hx := Bd.exec
  have hby := Bd.bytes
  have hlk : meth.locks = false := BodyLoose.notSynchronized Bd
  have hml : c.maxLocals = 1 := hml0
  have hown : s.vm.findClass "com/example/goalwright/goalwright/model/SyntaxIsDigitPinLaw" = some m.cls := findClass_of_methodNamed Bd.named
  have hnm := (name_of_methodNamed Bd.named Bd.method).1
  have X0 : Stand p l e ({ frames := 0, cells := 0, slots := 0, locals := 0 } : Room) s m #[(.int c1)] below meth c s₁ [] 0 0 := Stand.of_body Bd
  have e0 : s₁.heap = h0 := by rw [← hh, Bd.state]; rfl
  have N0 := Fr.nil n0
  rw [ef2 m c1]
  show own_Go p e below (own_End s (Q2 Z c1 h0 n0) ({ frames := 0, cells := 0, slots := 0, locals := 0 } : Room).cells ({ frames := 0, cells := 0, slots := 0, locals := 0 } : Room).slots) s₁ (mkF m 0 #[.val (.int c1)] [])
  refine own_iloadN X0 hx (hb hby d2_0) (pc' := 1) rfl rfl ?_
  refine own_bipush X0 hx (48) (hb hby d2_1) (pc' := 3) rfl (by decide) ?_
  by_cases c_1 : c1 = (48 : Int32)
  · skip
    refine own_icmpY X0 hx (hb hby d2_3) (XT.ii_eq_t c_1) (pc' := 60) (by decide) (by decide) ?_
    refine own_iconst X0 hx (1) (hb hby d2_60) (pc' := 61) rfl rfl ?_
    refine own_goto X0 hx (hb hby d2_61) (pc' := 65) (by decide) (by decide) ?_
    refine own_retZ X0 hx hlk Bd.returns (by simp) (hb hby d2_65) (by decide) (by decide) ?_
    exact ⟨by simp [own_b, nar, c_1], N0, e0⟩
  · skip
    refine own_icmpN X0 hx (hb hby d2_3) (XT.ii_eq_f c_1) (pc' := 6) rfl ?_
    refine own_iloadN X0 hx (hb hby d2_6) (pc' := 7) rfl rfl ?_
    refine own_bipush X0 hx (49) (hb hby d2_7) (pc' := 9) rfl (by decide) ?_
    by_cases c_2 : c1 = (49 : Int32)
    · skip
      refine own_icmpY X0 hx (hb hby d2_9) (XT.ii_eq_t c_2) (pc' := 60) (by decide) (by decide) ?_
      refine own_iconst X0 hx (1) (hb hby d2_60) (pc' := 61) rfl rfl ?_
      refine own_goto X0 hx (hb hby d2_61) (pc' := 65) (by decide) (by decide) ?_
      refine own_retZ X0 hx hlk Bd.returns (by simp) (hb hby d2_65) (by decide) (by decide) ?_
      exact ⟨by simp [own_b, nar, c_1, c_2], N0, e0⟩
    · skip
      refine own_icmpN X0 hx (hb hby d2_9) (XT.ii_eq_f c_2) (pc' := 12) rfl ?_
      refine own_iloadN X0 hx (hb hby d2_12) (pc' := 13) rfl rfl ?_
      refine own_bipush X0 hx (50) (hb hby d2_13) (pc' := 15) rfl (by decide) ?_
      by_cases c_3 : c1 = (50 : Int32)
      · skip
        refine own_icmpY X0 hx (hb hby d2_15) (XT.ii_eq_t c_3) (pc' := 60) (by decide) (by decide) ?_
        refine own_iconst X0 hx (1) (hb hby d2_60) (pc' := 61) rfl rfl ?_
        refine own_goto X0 hx (hb hby d2_61) (pc' := 65) (by decide) (by decide) ?_
        refine own_retZ X0 hx hlk Bd.returns (by simp) (hb hby d2_65) (by decide) (by decide) ?_
        exact ⟨by simp [own_b, nar, c_1, c_2, c_3], N0, e0⟩
      · skip
        refine own_icmpN X0 hx (hb hby d2_15) (XT.ii_eq_f c_3) (pc' := 18) rfl ?_
        refine own_iloadN X0 hx (hb hby d2_18) (pc' := 19) rfl rfl ?_
        refine own_bipush X0 hx (51) (hb hby d2_19) (pc' := 21) rfl (by decide) ?_
        by_cases c_4 : c1 = (51 : Int32)
        · skip
          refine own_icmpY X0 hx (hb hby d2_21) (XT.ii_eq_t c_4) (pc' := 60) (by decide) (by decide) ?_
          refine own_iconst X0 hx (1) (hb hby d2_60) (pc' := 61) rfl rfl ?_
          refine own_goto X0 hx (hb hby d2_61) (pc' := 65) (by decide) (by decide) ?_
          refine own_retZ X0 hx hlk Bd.returns (by simp) (hb hby d2_65) (by decide) (by decide) ?_
          exact ⟨by simp [own_b, nar, c_1, c_2, c_3, c_4], N0, e0⟩
        · skip
          refine own_icmpN X0 hx (hb hby d2_21) (XT.ii_eq_f c_4) (pc' := 24) rfl ?_
          refine own_iloadN X0 hx (hb hby d2_24) (pc' := 25) rfl rfl ?_
          refine own_bipush X0 hx (52) (hb hby d2_25) (pc' := 27) rfl (by decide) ?_
          by_cases c_5 : c1 = (52 : Int32)
          · skip
            refine own_icmpY X0 hx (hb hby d2_27) (XT.ii_eq_t c_5) (pc' := 60) (by decide) (by decide) ?_
            refine own_iconst X0 hx (1) (hb hby d2_60) (pc' := 61) rfl rfl ?_
            refine own_goto X0 hx (hb hby d2_61) (pc' := 65) (by decide) (by decide) ?_
            refine own_retZ X0 hx hlk Bd.returns (by simp) (hb hby d2_65) (by decide) (by decide) ?_
            exact ⟨by simp [own_b, nar, c_1, c_2, c_3, c_4, c_5], N0, e0⟩
          · skip
            refine own_icmpN X0 hx (hb hby d2_27) (XT.ii_eq_f c_5) (pc' := 30) rfl ?_
            refine own_iloadN X0 hx (hb hby d2_30) (pc' := 31) rfl rfl ?_
            refine own_bipush X0 hx (53) (hb hby d2_31) (pc' := 33) rfl (by decide) ?_
            by_cases c_6 : c1 = (53 : Int32)
            · skip
              refine own_icmpY X0 hx (hb hby d2_33) (XT.ii_eq_t c_6) (pc' := 60) (by decide) (by decide) ?_
              refine own_iconst X0 hx (1) (hb hby d2_60) (pc' := 61) rfl rfl ?_
              refine own_goto X0 hx (hb hby d2_61) (pc' := 65) (by decide) (by decide) ?_
              refine own_retZ X0 hx hlk Bd.returns (by simp) (hb hby d2_65) (by decide) (by decide) ?_
              exact ⟨by simp [own_b, nar, c_1, c_2, c_3, c_4, c_5, c_6], N0, e0⟩
            · skip
              refine own_icmpN X0 hx (hb hby d2_33) (XT.ii_eq_f c_6) (pc' := 36) rfl ?_
              refine own_iloadN X0 hx (hb hby d2_36) (pc' := 37) rfl rfl ?_
              refine own_bipush X0 hx (54) (hb hby d2_37) (pc' := 39) rfl (by decide) ?_
              by_cases c_7 : c1 = (54 : Int32)
              · skip
                refine own_icmpY X0 hx (hb hby d2_39) (XT.ii_eq_t c_7) (pc' := 60) (by decide) (by decide) ?_
                refine own_iconst X0 hx (1) (hb hby d2_60) (pc' := 61) rfl rfl ?_
                refine own_goto X0 hx (hb hby d2_61) (pc' := 65) (by decide) (by decide) ?_
                refine own_retZ X0 hx hlk Bd.returns (by simp) (hb hby d2_65) (by decide) (by decide) ?_
                exact ⟨by simp [own_b, nar, c_1, c_2, c_3, c_4, c_5, c_6, c_7], N0, e0⟩
              · skip
                refine own_icmpN X0 hx (hb hby d2_39) (XT.ii_eq_f c_7) (pc' := 42) rfl ?_
                refine own_iloadN X0 hx (hb hby d2_42) (pc' := 43) rfl rfl ?_
                refine own_bipush X0 hx (55) (hb hby d2_43) (pc' := 45) rfl (by decide) ?_
                by_cases c_8 : c1 = (55 : Int32)
                · skip
                  refine own_icmpY X0 hx (hb hby d2_45) (XT.ii_eq_t c_8) (pc' := 60) (by decide) (by decide) ?_
                  refine own_iconst X0 hx (1) (hb hby d2_60) (pc' := 61) rfl rfl ?_
                  refine own_goto X0 hx (hb hby d2_61) (pc' := 65) (by decide) (by decide) ?_
                  refine own_retZ X0 hx hlk Bd.returns (by simp) (hb hby d2_65) (by decide) (by decide) ?_
                  exact ⟨by simp [own_b, nar, c_1, c_2, c_3, c_4, c_5, c_6, c_7, c_8], N0, e0⟩
                · skip
                  refine own_icmpN X0 hx (hb hby d2_45) (XT.ii_eq_f c_8) (pc' := 48) rfl ?_
                  refine own_iloadN X0 hx (hb hby d2_48) (pc' := 49) rfl rfl ?_
                  refine own_bipush X0 hx (56) (hb hby d2_49) (pc' := 51) rfl (by decide) ?_
                  by_cases c_9 : c1 = (56 : Int32)
                  · skip
                    refine own_icmpY X0 hx (hb hby d2_51) (XT.ii_eq_t c_9) (pc' := 60) (by decide) (by decide) ?_
                    refine own_iconst X0 hx (1) (hb hby d2_60) (pc' := 61) rfl rfl ?_
                    refine own_goto X0 hx (hb hby d2_61) (pc' := 65) (by decide) (by decide) ?_
                    refine own_retZ X0 hx hlk Bd.returns (by simp) (hb hby d2_65) (by decide) (by decide) ?_
                    exact ⟨by simp [own_b, nar, c_1, c_2, c_3, c_4, c_5, c_6, c_7, c_8, c_9], N0, e0⟩
                  · skip
                    refine own_icmpN X0 hx (hb hby d2_51) (XT.ii_eq_f c_9) (pc' := 54) rfl ?_
                    refine own_iloadN X0 hx (hb hby d2_54) (pc' := 55) rfl rfl ?_
                    refine own_bipush X0 hx (57) (hb hby d2_55) (pc' := 57) rfl (by decide) ?_
                    by_cases c_10 : c1 = (57 : Int32)
                    · skip
                      refine own_icmpN X0 hx (hb hby d2_57) (XT.ii_ne_f c_10) (pc' := 60) rfl ?_
                      refine own_iconst X0 hx (1) (hb hby d2_60) (pc' := 61) rfl rfl ?_
                      refine own_goto X0 hx (hb hby d2_61) (pc' := 65) (by decide) (by decide) ?_
                      refine own_retZ X0 hx hlk Bd.returns (by simp) (hb hby d2_65) (by decide) (by decide) ?_
                      exact ⟨by simp [own_b, nar, c_1, c_2, c_3, c_4, c_5, c_6, c_7, c_8, c_9, c_10], N0, e0⟩
                    · skip
                      refine own_icmpY X0 hx (hb hby d2_57) (XT.ii_ne_t c_10) (pc' := 64) (by decide) (by decide) ?_
                      refine own_iconst X0 hx (0) (hb hby d2_64) (pc' := 65) rfl rfl ?_
                      refine own_retZ X0 hx hlk Bd.returns (by simp) (hb hby d2_65) (by decide) (by decide) ?_
                      exact ⟨by simp [own_b, nar, c_1, c_2, c_3, c_4, c_5, c_6, c_7, c_8, c_9, c_10], N0, e0⟩
theorem pd0_0 : parseMethodDescriptor "(I)Z" = some ⟨[.int], some .boolean⟩ := by decide +kernel
theorem pn0 : plainName "com/example/goalwright/goalwright/model/SyntaxIsDigitPinLaw" = true := by first | (simp [plainName, overriddenIn]; done) | decide +kernel
theorem ef0 (m : MethodId) (x0 : Int32) (x1 : Int32) : entryFrame m #[(.int x0), (.int x1)] maxLocals = mkF m 0 #[.val (.int x0), .val (.int x1), .unset, .unset, .unset] [] := by first | (simp [entryFrame, mkF, argsToLocals, Value.category, maxLocals]; done) | rfl
def Q0 (Z : State) (x0 : Int32) (x1 : Int32) (h0 : Heap) (n0 : Nat) (v : Option Value) (h : Heap) (L : List Loc) : Prop := v = some (.int 1) ∧ Fr n0 L
set_option maxRecDepth 65536 in
set_option maxHeartbeats 40000000 in
theorem rm0 (l : Launch) (Z : State) (a0 : Array Value) (hw : ∀ d ∈ tables_1, d.before a0 Z = true) (ws : List Jvm.Cond) (x0 : Int32) (x1 : Int32) (h0 : Heap) (n0 : Nat) (Z0 : n0 ≤ h0.size) :
    MetFree l x (head1 (Jvm.Cond.code x code maxLocals ret :: ws) room_1) (fun a U => a = #[(.int x0), (.int x1)] ∧ Z.Warmed39 U.vm ∧ U.heap = h0) (fun _ _ _ _ _ => True) (fun _ U o U' => ∃ v L, o = .returned v ∧ Q0 Z x0 x1 h0 n0 v U'.heap L ∧ FrameEnd U o U' L 0 0) := by
  refine MetFree.of_bodySF (plainFor_of_name pn0) hisR ?_
  intro p e s m args below meth c s₁ Bd hml0 hP hK
  obtain ⟨rfl, hZ, hh⟩ := hP
  have hx := Bd.exec
  have hby := Bd.bytes
  have hlk : meth.locks = false := BodyLoose.notSynchronized Bd
  have hml : c.maxLocals = 5 := hml0
  have hown : s.vm.findClass "com/example/goalwright/goalwright/model/SyntaxIsDigitPinLaw" = some m.cls := findClass_of_methodNamed Bd.named
  have hnm := (name_of_methodNamed Bd.named Bd.method).1
  have X0 : Stand p l e room_1 s m #[(.int x0), (.int x1)] below meth c s₁ [] 0 0 := Stand.of_body Bd
  have e0 : s₁.heap = h0 := by rw [← hh, Bd.state]; rfl
  have N0 := Fr.nil n0
  rw [ef0 m x0 x1]
  show own_Go p e below (own_End s (Q0 Z x0 x1 h0 n0) 0 0) s₁ (mkF m 0 #[.val (.int x0), .val (.int x1), .unset, .unset, .unset] [])
  refine own_bipush X0 hx (45) (hb hby at_0) (pc' := 2) rfl (by decide) ?_
  refine own_iloadN X0 hx (hb hby at_2) (pc' := 3) rfl rfl ?_
  refine own_bipush X0 hx (15) (hb hby at_3) (pc' := 5) rfl (by decide) ?_
  refine own_iand X0 hx (hb hby at_5) (pc' := 6) rfl ?_
  refine own_iadd X0 hx (hb hby at_6) (pc' := 7) rfl ?_
  refine own_istoreN X0 hx (hb hby at_7) (pc' := 8) (Ls' := #[.val (.int x0), .val (.int x1), .val (.int ((45 : Int32) + (x1 &&& (15 : Int32)))), .unset, .unset]) rfl rfl ?_
  refine own_iloadN X0 hx (hb hby at_8) (pc' := 9) rfl rfl ?_
  obtain ⟨_, _, ⟨T_1, L_1, k_1, n_1⟩, -, X_1, ⟨Lc_1, hQ_1, l_1, y_1, z_1⟩, st_1⟩ := Jvm.LawKit.callS X0 hx (y := (⟨"com/example/goalwright/goalwright/model/Syntax", "isDigit", "(I)Z"⟩ : MethodName)) hown (mvT hZ (hw _ (List.mem_of_getElem? (i := 0) rfl))) (mvT hZ (hw _ (List.mem_of_getElem? (i := 1) rfl))) (mvT hZ (hw _ (List.mem_of_getElem? (i := 2) rfl))) (mvT hZ (hw _ (List.mem_of_getElem? (i := 3) rfl))) (by decide) (backOf (W := 0) (rm1 l Z a0 hw [] x0 h0 n0 Z0) hZ (hw _ (List.mem_of_getElem? (i := 3) rfl)) (hw _ (List.mem_of_getElem? (i := 2) rfl)) (by decide) (by decide)) (g := (mkF m 9 #[.val (.int x0), .val (.int x1), .val (.int ((45 : Int32) + (x1 &&& (15 : Int32)))), .unset, .unset] [(.int x0)])) rfl (by rw [hml]; rfl) (argsL := [(.int x0)]) (rest := []) (lenOf pd0_0 rfl) rfl (by show 2 * 0 + _ ≤ _; exact Nat.le_of_eq rfl) (hb hby at_9) (fun _ _ => ⟨rfl, e0, (by decide : 0 + 0 ≤ _), (by decide : 0 + 0 ≤ _)⟩)
  dsimp only [Pt.U, Pt.locs, Pt.cells, Pt.slots] at X_1 l_1 y_1 z_1 st_1 hQ_1
  subst l_1 y_1 z_1
  refine own_st st_1 ?_
  obtain ⟨rfl, Nq_1, eq_1⟩ := hQ_1
  have N_1 := Fr.app N0 Nq_1
  show own_Go p e below _ T_1 (mkF m 12 #[.val (.int x0), .val (.int x1), .val (.int ((45 : Int32) + (x1 &&& (15 : Int32)))), .unset, .unset] [(.int (own_b (¬ x0 < (48 : Int32) ∧ ¬ (57 : Int32) < x0)))])
  refine own_iloadN X_1 hx (hb hby at_12) (pc' := 13) rfl rfl ?_
  obtain ⟨_, _, ⟨T_2, L_2, k_2, n_2⟩, -, X_2, ⟨Lc_2, hQ_2, l_2, y_2, z_2⟩, st_2⟩ := Jvm.LawKit.callS X_1 hx (y := (⟨"com/example/goalwright/goalwright/model/SyntaxIsDigitPinLaw", "oneOfTen", "(I)Z"⟩ : MethodName)) hown (mvT hZ (hw _ (List.mem_of_getElem? (i := 4) rfl))) (mvT hZ (hw _ (List.mem_of_getElem? (i := 5) rfl))) (mvT hZ (hw _ (List.mem_of_getElem? (i := 6) rfl))) (mvT hZ (hw _ (List.mem_of_getElem? (i := 7) rfl))) (by decide) (backOf (W := 1) (rm2 l Z a0 hw [] x0 h0 n0 Z0) hZ (hw _ (List.mem_of_getElem? (i := 7) rfl)) (hw _ (List.mem_of_getElem? (i := 6) rfl)) (by decide) (by decide)) (g := (mkF m 13 #[.val (.int x0), .val (.int x1), .val (.int ((45 : Int32) + (x1 &&& (15 : Int32)))), .unset, .unset] [(.int x0), (.int (own_b (¬ x0 < (48 : Int32) ∧ ¬ (57 : Int32) < x0)))])) rfl (by rw [hml]; rfl) (argsL := [(.int x0)]) (rest := [(.int (own_b (¬ x0 < (48 : Int32) ∧ ¬ (57 : Int32) < x0)))]) (lenOf pd0_0 rfl) rfl (by show 2 * 0 + _ ≤ _; exact Nat.le_of_eq rfl) (hb hby at_13) (fun _ _ => ⟨rfl, eq_1, (by decide : 0 + 0 ≤ _), (by decide : 0 + 0 ≤ _)⟩)
  dsimp only [Pt.U, Pt.locs, Pt.cells, Pt.slots] at X_2 l_2 y_2 z_2 st_2 hQ_2
  subst l_2 y_2 z_2
  refine own_st st_2 ?_
  obtain ⟨rfl, Nq_2, eq_2⟩ := hQ_2
  have N_2 := Fr.app N_1 Nq_2
  show own_Go p e below _ T_2 (mkF m 16 #[.val (.int x0), .val (.int x1), .val (.int ((45 : Int32) + (x1 &&& (15 : Int32)))), .unset, .unset] [(.int (own_b (x0 = (48 : Int32) ∨ x0 = (49 : Int32) ∨ x0 = (50 : Int32) ∨ x0 = (51 : Int32) ∨ x0 = (52 : Int32) ∨ x0 = (53 : Int32) ∨ x0 = (54 : Int32) ∨ x0 = (55 : Int32) ∨ x0 = (56 : Int32) ∨ x0 = (57 : Int32)))), (.int (own_b (¬ x0 < (48 : Int32) ∧ ¬ (57 : Int32) < x0)))])
  refine own_icmpN X_2 hx (hb hby at_16) (XT.ii_ne_f (own_biff (own_ten _))) (pc' := 19) rfl ?_
  refine own_iconst X_2 hx (1) (hb hby at_19) (pc' := 20) rfl rfl ?_
  refine own_goto X_2 hx (hb hby at_20) (pc' := 24) (by decide) (by decide) ?_
  refine own_istoreN X_2 hx (hb hby at_24) (pc' := 25) (Ls' := #[.val (.int x0), .val (.int x1), .val (.int ((45 : Int32) + (x1 &&& (15 : Int32)))), .val (.int (1 : Int32)), .unset]) rfl rfl ?_
  refine own_iloadN X_2 hx (hb hby at_25) (pc' := 26) rfl rfl ?_
  obtain ⟨_, _, ⟨T_3, L_3, k_3, n_3⟩, -, X_3, ⟨Lc_3, hQ_3, l_3, y_3, z_3⟩, st_3⟩ := Jvm.LawKit.callS X_2 hx (y := (⟨"com/example/goalwright/goalwright/model/Syntax", "isDigit", "(I)Z"⟩ : MethodName)) hown (mvT hZ (hw _ (List.mem_of_getElem? (i := 0) rfl))) (mvT hZ (hw _ (List.mem_of_getElem? (i := 1) rfl))) (mvT hZ (hw _ (List.mem_of_getElem? (i := 2) rfl))) (mvT hZ (hw _ (List.mem_of_getElem? (i := 3) rfl))) (by decide) (backOf (W := 0) (rm1 l Z a0 hw [] ((45 : Int32) + (x1 &&& (15 : Int32))) h0 n0 Z0) hZ (hw _ (List.mem_of_getElem? (i := 3) rfl)) (hw _ (List.mem_of_getElem? (i := 2) rfl)) (by decide) (by decide)) (g := (mkF m 26 #[.val (.int x0), .val (.int x1), .val (.int ((45 : Int32) + (x1 &&& (15 : Int32)))), .val (.int (1 : Int32)), .unset] [(.int ((45 : Int32) + (x1 &&& (15 : Int32))))])) rfl (by rw [hml]; rfl) (argsL := [(.int ((45 : Int32) + (x1 &&& (15 : Int32))))]) (rest := []) (lenOf pd0_0 rfl) rfl (by show 2 * 0 + _ ≤ _; exact Nat.le_of_eq rfl) (hb hby at_26) (fun _ _ => ⟨rfl, eq_2, (by decide : 0 + 0 ≤ _), (by decide : 0 + 0 ≤ _)⟩)
  dsimp only [Pt.U, Pt.locs, Pt.cells, Pt.slots] at X_3 l_3 y_3 z_3 st_3 hQ_3
  subst l_3 y_3 z_3
  refine own_st st_3 ?_
  obtain ⟨rfl, Nq_3, eq_3⟩ := hQ_3
  have N_3 := Fr.app N_2 Nq_3
  show own_Go p e below _ T_3 (mkF m 29 #[.val (.int x0), .val (.int x1), .val (.int ((45 : Int32) + (x1 &&& (15 : Int32)))), .val (.int (1 : Int32)), .unset] [(.int (own_b (¬ ((45 : Int32) + (x1 &&& (15 : Int32))) < (48 : Int32) ∧ ¬ (57 : Int32) < ((45 : Int32) + (x1 &&& (15 : Int32))))))])
  refine own_iloadN X_3 hx (hb hby at_29) (pc' := 30) rfl rfl ?_
  obtain ⟨_, _, ⟨T_4, L_4, k_4, n_4⟩, -, X_4, ⟨Lc_4, hQ_4, l_4, y_4, z_4⟩, st_4⟩ := Jvm.LawKit.callS X_3 hx (y := (⟨"com/example/goalwright/goalwright/model/SyntaxIsDigitPinLaw", "oneOfTen", "(I)Z"⟩ : MethodName)) hown (mvT hZ (hw _ (List.mem_of_getElem? (i := 4) rfl))) (mvT hZ (hw _ (List.mem_of_getElem? (i := 5) rfl))) (mvT hZ (hw _ (List.mem_of_getElem? (i := 6) rfl))) (mvT hZ (hw _ (List.mem_of_getElem? (i := 7) rfl))) (by decide) (backOf (W := 1) (rm2 l Z a0 hw [] ((45 : Int32) + (x1 &&& (15 : Int32))) h0 n0 Z0) hZ (hw _ (List.mem_of_getElem? (i := 7) rfl)) (hw _ (List.mem_of_getElem? (i := 6) rfl)) (by decide) (by decide)) (g := (mkF m 30 #[.val (.int x0), .val (.int x1), .val (.int ((45 : Int32) + (x1 &&& (15 : Int32)))), .val (.int (1 : Int32)), .unset] [(.int ((45 : Int32) + (x1 &&& (15 : Int32)))), (.int (own_b (¬ ((45 : Int32) + (x1 &&& (15 : Int32))) < (48 : Int32) ∧ ¬ (57 : Int32) < ((45 : Int32) + (x1 &&& (15 : Int32))))))])) rfl (by rw [hml]; rfl) (argsL := [(.int ((45 : Int32) + (x1 &&& (15 : Int32))))]) (rest := [(.int (own_b (¬ ((45 : Int32) + (x1 &&& (15 : Int32))) < (48 : Int32) ∧ ¬ (57 : Int32) < ((45 : Int32) + (x1 &&& (15 : Int32))))))]) (lenOf pd0_0 rfl) rfl (by show 2 * 0 + _ ≤ _; exact Nat.le_of_eq rfl) (hb hby at_30) (fun _ _ => ⟨rfl, eq_3, (by decide : 0 + 0 ≤ _), (by decide : 0 + 0 ≤ _)⟩)
  dsimp only [Pt.U, Pt.locs, Pt.cells, Pt.slots] at X_4 l_4 y_4 z_4 st_4 hQ_4
  subst l_4 y_4 z_4
  refine own_st st_4 ?_
  obtain ⟨rfl, Nq_4, eq_4⟩ := hQ_4
  have N_4 := Fr.app N_3 Nq_4
  show own_Go p e below _ T_4 (mkF m 33 #[.val (.int x0), .val (.int x1), .val (.int ((45 : Int32) + (x1 &&& (15 : Int32)))), .val (.int (1 : Int32)), .unset] [(.int (own_b (((45 : Int32) + (x1 &&& (15 : Int32))) = (48 : Int32) ∨ ((45 : Int32) + (x1 &&& (15 : Int32))) = (49 : Int32) ∨ ((45 : Int32) + (x1 &&& (15 : Int32))) = (50 : Int32) ∨ ((45 : Int32) + (x1 &&& (15 : Int32))) = (51 : Int32) ∨ ((45 : Int32) + (x1 &&& (15 : Int32))) = (52 : Int32) ∨ ((45 : Int32) + (x1 &&& (15 : Int32))) = (53 : Int32) ∨ ((45 : Int32) + (x1 &&& (15 : Int32))) = (54 : Int32) ∨ ((45 : Int32) + (x1 &&& (15 : Int32))) = (55 : Int32) ∨ ((45 : Int32) + (x1 &&& (15 : Int32))) = (56 : Int32) ∨ ((45 : Int32) + (x1 &&& (15 : Int32))) = (57 : Int32)))), (.int (own_b (¬ ((45 : Int32) + (x1 &&& (15 : Int32))) < (48 : Int32) ∧ ¬ (57 : Int32) < ((45 : Int32) + (x1 &&& (15 : Int32))))))])
  refine own_icmpN X_4 hx (hb hby at_33) (XT.ii_ne_f (own_biff (own_ten _))) (pc' := 36) rfl ?_
  refine own_iconst X_4 hx (1) (hb hby at_36) (pc' := 37) rfl rfl ?_
  refine own_goto X_4 hx (hb hby at_37) (pc' := 41) (by decide) (by decide) ?_
  refine own_istore X_4 hx (hb hby at_41) (pc' := 43) (Ls' := #[.val (.int x0), .val (.int x1), .val (.int ((45 : Int32) + (x1 &&& (15 : Int32)))), .val (.int (1 : Int32)), .val (.int (1 : Int32))]) rfl rfl ?_
  refine own_iloadN X_4 hx (hb hby at_43) (pc' := 44) rfl rfl ?_
  refine own_ifN X_4 hx (hb hby at_44) (by decide) (pc' := 47) rfl ?_
  refine own_iload X_4 hx (hb hby at_47) (pc' := 49) rfl rfl ?_
  refine own_ifN X_4 hx (hb hby at_49) (by decide) (pc' := 52) rfl ?_
  refine own_iconst X_4 hx (1) (hb hby at_52) (pc' := 53) rfl rfl ?_
  refine own_goto X_4 hx (hb hby at_53) (pc' := 57) (by decide) (by decide) ?_
  refine own_retZ X_4 hx hlk Bd.returns (by simp) (hb hby at_57) (by decide) (by decide) ?_
  exact ⟨rfl, N_4⟩
set_option maxRecDepth 65536 in
set_option maxHeartbeats 40000000 in
theorem comes_1 {Post : Tables → Env → Array Value → State → Outcome → State → Prop} (hpost : ∀ tb e args s v u, (limb_1_1.after args s (.returned v) u = true ∧ limb_1_2.after args s (.returned v) u = true ∧ True) → FrameEnd s (.returned v) u (Jvm.fieldLocs frame_1_writes args s ++ Jvm.arrayLocs frame_1_arrays args s ++ Jvm.staticLocs frame_1_statics s) 0 0 → Post tb e args s (.returned v) u) :
    ArmFor flags0 classFile x code maxLocals ret World_1 tables_1 room_1 Calls_1 rest_1 Pre_1 Post := by
  intro l hfl _ _ p e ha hc hk s m args below hf hA hF happ hP
  obtain ⟨hcalls, hrest, hpre⟩ := hP
  obtain ⟨-, -, -, hnamed, -, -, -, hat⟩ := (Spec.applies_iff hf).mp happ
  obtain ⟨hg, hn⟩ := and_e (Cond.before_iff.mp (show (Jvm.Cond.and given_1 narrow_1).before args s = true from hpre))
  obtain ⟨gc, gr0⟩ := and_e hg
  obtain ⟨ga0, gr1⟩ := and_e gr0
  have ga1 := gr1
  obtain ⟨w0, w1, rfl⟩ : ∃ w0 w1 : Value, args = #[w0, w1] := by
    have hs : args.size = 2 := by simpa [Cond.value, given_1] using gc
    obtain ⟨L⟩ := args
    match L, hs with
    | [w0, w1], _ => exact ⟨w0, w1, rfl⟩
  have hw := fun d (hd : d ∈ tables_1) => atoms_spec (ws := Jvm.Cond.code x code maxLocals ret :: tables_1) hat d (List.mem_cons_of_mem _ hd)
  have hfit : Fit s := fun {y c} hc i hi => by
    obtain ⟨ha, rfl⟩ := Array.getElem?_eq_some_iff.mp hc
    have q := List.all_eq_true.mp ((Array.all_eq_true_iff_forall_mem.mp hF) _ (Array.getElem_mem ha)) i (List.mem_range.mpr hi)
    simpa [Array.getElem?_eq_getElem hi] using q
  obtain ⟨i0, ei0⟩ := is_v ga0
  obtain rfl : w0 = (.int i0) := Option.some.inj ei0
  obtain ⟨i1, ei1⟩ := is_v ga1
  obtain rfl : w1 = (.int i1) := Option.some.inj ei1
  obtain ⟨n, o, h1, h2, h3, _, L, rfl, ⟨rfl, N⟩, hq⟩ := rm0 l s _ hw tables_1 i0 i1 s.heap s.heap.size (Nat.le_refl _)  p e ha hc hk s m _ below hf ((Spec.applies_iff_loose hf).mp happ).1 ⟨rfl, State.Warmed39.refl s, rfl⟩ trivial
  refine ⟨n, _, h1, h2, h3, hpost _ _ _ _ _ _ ⟨Cond.after_iff.mpr rfl, Cond.after_iff.mpr (eq_i res_at (Term.int_eval (1)) rfl), trivial⟩ ⟨hq.1, hq.2.1, (hq.2.2.sift fun y hy => Or.inr (N y hy)).mono (by decide) (by decide)⟩⟩
theorem main_1_1 : Claimed_1_1 := comes_1 fun _ _ _ _ _ _ h hF => ⟨h.1, hF⟩
theorem main_1_2 : Claimed_1_2 := comes_1 fun _ _ _ _ _ _ h hF => ⟨h.2.1, hF⟩
end Jvm.Pilot.@@N@@
namespace Jvm.Pilot.@@N@@
open Jvm Jvm.ClassFile Sem Op Lib Jvm.Free Jvm.Stand Jvm.Pilot.@@N@@.Jvm.D
/-! MADE BY PROGRAM (witnessworld.py) out of the Statement's table words and the real class files: 7 classes; the members and pool entries that the words name. The judged class is class 1, her method 2. -/
namespace start1
open Jvm.ClassFile
def u (s : String) : CpInfo := .utf8 (stringToUtf16 s)
/-- a pool by its gaps: so many unusable entries, then the entry; so many at the end -/
def gap : Nat → List CpInfo → List CpInfo
  | 0, r => r
  | n + 1, r => .unusable :: gap n r
def poolList (es : List (Nat × CpInfo)) (last : Nat) : List CpInfo := es.foldr (fun e r => gap e.1 (e.2 :: r)) (gap last [])
def pool (es : List (Nat × CpInfo)) (last : Nat) : Array CpInfo := ⟨poolList es last⟩
def fileOf (pool : Array CpInfo) (this : Nat) (attrs : Array Attribute := #[]) (ms : Array MethodInfo := #[]) (fl : Nat := 33) (sup : Nat := 0) (ifs : Array Nat := #[]) (fds : Array FieldInfo := #[]) : ClassFile where
  minorVersion := 0
  majorVersion := 65
  constantPool := pool
  accessFlags := fl
  thisClass := this
  superClass := sup
  interfaces := ifs
  fields := fds
  methods := ms
  attributes := attrs
def plain (name : String) (sup : Option ClassId) : Class where
  name := name
  kind := .ordinary
  loader := none
  accessFlags := 33
  super := sup
  interfaces := #[]
  cf := none
  fields := #[]
  methods := #[]
  instanceTypes := #[]
  staticTypes := #[]
  resolved := #[]
  callSites := []
  init := .initialized
  statics := none
  mirror := none

def pool0 : Array CpInfo := pool [(5, u "<init>"), (0, u "()V"), (1, .class_ 10), (1, u "java/lang/Object")] 113

def k0m0 : Method := { name := "<init>", desc := "()V", sig := { parameters := [], returnType := none }, accessFlags := 1, code := none }
/-- java/lang/Object -/
def k0 : Class := { plain "java/lang/Object" none with
  accessFlags := 33
  interfaces := #[]
  cf := some (fileOf pool0 8 #[] #[{ accessFlags := 1, nameIndex := 5, descriptorIndex := 6, attributes := #[] }] 33 0 #[] #[])
  fields := #[]
  methods := #[k0m0]
  instanceTypes := #[]
  staticTypes := #[]
  resolved := Array.replicate 124 none
  statics := none }

def pool1 : Array CpInfo := pool [(2, .class_ 4), (1, u "java/lang/Object"), (0, u "<init>"), (0, u "()V"), (0, .methodref 8 9), (0, .class_ 10), (0, .nameAndType 11 12), (0, u "com/example/goalwright/goalwright/model/Syntax"), (0, u "isDigit"), (0, u "(I)Z"), (0, .methodref 14 15), (0, .class_ 16), (0, .nameAndType 17 12), (0, u "com/example/goalwright/goalwright/model/SyntaxIsDigitPinLaw"), (0, u "oneOfTen"), (3, u "law"), (0, u "(II)Z")] 2

def k1m0 : Method := { name := "<init>", desc := "()V", sig := { parameters := [], returnType := none }, accessFlags := 2, code := none }
def k1c1 : Code := { maxStack := 2, maxLocals := 1, code := method_2_code, exceptionTable := #[], attributes := #[] }
def k1m1 : Method := { name := "oneOfTen", desc := "(I)Z", sig := { parameters := [.int], returnType := some .boolean }, accessFlags := 10, code := some k1c1 }
def k1c2 : Code := { maxStack := 3, maxLocals := 5, code := code, exceptionTable := #[], attributes := #[] }
def k1m2 : Method := { name := "law", desc := "(II)Z", sig := { parameters := [.int, .int], returnType := some .boolean }, accessFlags := 9, code := some k1c2 }
/-- com/example/goalwright/goalwright/model/SyntaxIsDigitPinLaw -/
def k1 : Class := { plain "com/example/goalwright/goalwright/model/SyntaxIsDigitPinLaw" (some 0) with
  accessFlags := 49
  interfaces := #[]
  cf := some (fileOf pool1 14 #[] #[{ accessFlags := 2, nameIndex := 5, descriptorIndex := 6, attributes := #[] }, { accessFlags := 10, nameIndex := 17, descriptorIndex := 12, attributes := #[] }, { accessFlags := 9, nameIndex := 21, descriptorIndex := 22, attributes := #[] }] 49 2 #[] #[])
  fields := #[]
  methods := #[k1m0, k1m1, k1m2]
  instanceTypes := #[]
  staticTypes := #[]
  resolved := Array.replicate 25 none
  statics := none }

def pool2 : Array CpInfo := pool [(2, .class_ 4), (1, u "java/lang/Object"), (0, u "<init>"), (0, u "()V"), (5, u "(I)Z"), (1, .class_ 16), (1, u "com/example/goalwright/goalwright/model/Syntax"), (0, u "isDigit"), (58, u "SYMBOL_PUNCTUATION"), (0, u "Ljava/lang/String;"), (1, u "CLOSING_BRACKETS")] 28

def k2m0 : Method := { name := "<init>", desc := "()V", sig := { parameters := [], returnType := none }, accessFlags := 2, code := none }
def k2c1 : Code := { maxStack := 2, maxLocals := 1, code := prog_164_method_2_code, exceptionTable := #[], attributes := #[] }
def k2m1 : Method := { name := "isDigit", desc := "(I)Z", sig := { parameters := [.int], returnType := some .boolean }, accessFlags := 9, code := some k2c1 }
/-- com/example/goalwright/goalwright/model/Syntax -/
def k2 : Class := { plain "com/example/goalwright/goalwright/model/Syntax" (some 0) with
  accessFlags := 49
  interfaces := #[]
  cf := some (fileOf pool2 14 #[] #[{ accessFlags := 2, nameIndex := 5, descriptorIndex := 6, attributes := #[] }, { accessFlags := 9, nameIndex := 17, descriptorIndex := 12, attributes := #[] }] 49 2 #[] #[{ accessFlags := 26, nameIndex := 76, descriptorIndex := 77, attributes := #[] }, { accessFlags := 26, nameIndex := 79, descriptorIndex := 77, attributes := #[] }])
  fields := #[{ name := "SYMBOL_PUNCTUATION", type := (.object "java/lang/String"), accessFlags := 26, slot := 0, constantValue := 0 }, { name := "CLOSING_BRACKETS", type := (.object "java/lang/String"), accessFlags := 26, slot := 1, constantValue := 0 }]
  methods := #[k2m0, k2m1]
  instanceTypes := #[]
  staticTypes := #[(.object "java/lang/String"), (.object "java/lang/String")]
  resolved := Array.replicate 108 none
  statics := none }

def pool3 : Array CpInfo := pool [(1, u "java/lang/Cloneable"), (0, .class_ 1), (0, u "java/lang/Object"), (0, .class_ 3)] 3

/-- java/lang/Cloneable -/
def k3 : Class := { plain "java/lang/Cloneable" (some 0) with
  accessFlags := 1537
  interfaces := #[]
  cf := some (fileOf pool3 2 #[] #[] 1537 4 #[] #[])
  fields := #[]
  methods := #[]
  instanceTypes := #[]
  staticTypes := #[]
  resolved := Array.replicate 8 none
  statics := none }

def pool4 : Array CpInfo := pool [(1, u "java/io/Serializable"), (0, .class_ 1), (0, u "java/lang/Object"), (0, .class_ 3)] 3

/-- java/io/Serializable -/
def k4 : Class := { plain "java/io/Serializable" (some 0) with
  accessFlags := 1537
  interfaces := #[]
  cf := some (fileOf pool4 2 #[] #[] 1537 4 #[] #[])
  fields := #[]
  methods := #[]
  instanceTypes := #[]
  staticTypes := #[]
  resolved := Array.replicate 8 none
  statics := none }

/-- the primitive byte -/
def k5 : Class := { plain "byte" none with kind := .primitive 'B', accessFlags := 0x411 }
/-- [B -/
def k6 : Class := { plain "[B" (some 0) with kind := .array 5 .byte, interfaces := #[3, 4], accessFlags := 1041 }

def heap : Heap := #[]
def classes : Array Class := #[k0, k1, k2, k3, k4, k5, k6]
def interned : List (Array UInt16 × Addr) := []
def slotsUsed : Nat := 0
def theMethod : MethodId := ⟨1, 2⟩
def args0 : Array Value := #[.int 5, .int 300]
def aboutOver (below : List Frame) : State where
  vm := { classes := classes, interned := interned.toArray }
  heap := heap
  slotsUsed := slotsUsed
  threads := #[{ frames := .invoking theMethod args0 :: below }]
def below0 : List Frame := [.native { method := ⟨0, 0⟩, args := #[] }]
def about1 : State := aboutOver below0
def p0 : Program := .bare "" "" ""
def e0 : Env := launch0.env 0 0 0
theorem w_frames : about1.frames = Frame.invoking theMethod args0 :: below0 := rfl
set_option maxRecDepth 65536 in
theorem w_args : argsFit about1.vm theMethod args0 = true := by decide +kernel
set_option maxRecDepth 65536 in
theorem w_heap : heapFits about1 = true := by decide +kernel
set_option maxRecDepth 65536 in
theorem w_runnable : about1.curStatus? = some .runnable := by decide +kernel
set_option maxRecDepth 65536 in
theorem w_alone : about1.alone = true := by decide +kernel
set_option maxRecDepth 65536 in
theorem w_named : about1.methodNamed? x = some theMethod := by decide +kernel
set_option maxRecDepth 65536 in
theorem w_hears : about1.hears theMethod below0 = true := by decide +kernel
set_option maxRecDepth 65536 in
theorem w_ripe : about1.ripe theMethod args0 below0 = true := by decide +kernel
theorem w_running : about1.status = .running := rfl
set_option maxRecDepth 65536 in
theorem w_room : about1.hasRoom e0.platform room_1 = true :=
  launch0.hasRoom_least _ room_1 (by decide +kernel) (by decide +kernel) (by decide +kernel) (by decide +kernel) (by decide +kernel) (by decide +kernel)
theorem allAtoms_all (ts : List Jvm.Cond) (a : Array Jvm.Value) (st : Jvm.State) : (allAtoms ts).before a st = ts.all (fun c => c.before a st) := by
  induction ts with
  | nil => rfl
  | cons c t ih =>
    show (Jvm.Cond.and c (allAtoms t)).before a st = _
    rw [Jvm.Cond.before_and, ih, List.all_cons]
def words1 : List Jvm.Cond := Jvm.Cond.code x code maxLocals ret :: tables_1
/-- a 'code' word, met by the world's own term for the bytes: nothing is compared byte by byte -/
theorem code_word {y : MethodName} {bytes : ByteArray} {mx : Nat} {rt : Option FieldType} {a : Array Value} {s : State} {m : MethodId} {meth : Method} {c : Code} (h1 : s.methodNamed? y = some m) (h2 : s.vm.method? m = some meth) (h3 : meth.code = some c) (h4 : c.code = bytes)
    (h5 : (c.maxLocals == mx && c.exceptionTable.isEmpty && decide (c.maxStack ≤ mostOperands) && decide (meth.sig.returnType = rt) && !meth.locks && decide (parseMethodDescriptor y.desc = some meth.sig)) = true) : (Jvm.Cond.code y bytes mx rt).before a s = true := by
  simp only [Bool.and_eq_true, beq_iff_eq, Bool.not_eq_true', decide_eq_true_eq] at h5
  obtain ⟨⟨⟨⟨⟨g1, g2⟩, g3⟩, g4⟩, g5⟩, g6⟩ := h5
  simp [Cond.before, Cond.holds, Cond.value, h1, h2, h3, h4, g1, g2, g3, g4, g5, g6]
def isCode : Jvm.Cond → Bool
  | .code _ _ _ _ => true
  | _ => false
theorem all_split {L : List Jvm.Cond} {P : Jvm.Cond → Bool} (h1 : L.all (fun c => isCode c || P c) = true) (h2 : ∀ c ∈ L.filter isCode, P c = true) : L.all P = true := by
  refine List.all_eq_true.mpr fun c hc => ?_
  have h := List.all_eq_true.mp h1 c hc
  rcases Bool.eq_false_or_eq_true (isCode c) with hi | hi
  · exact h2 c (List.mem_filter.mpr ⟨hc, hi⟩)
  · simpa [hi] using h
set_option maxRecDepth 65536 in
theorem w_c0 : (Jvm.Cond.code x code maxLocals ret).before args0 about1 = true := code_word (m := ⟨1, 2⟩) (meth := k1m2) (c := k1c2) (by decide +kernel) rfl rfl rfl (by decide +kernel)
set_option maxRecDepth 65536 in
theorem w_c1 : (Jvm.Cond.code ({ cls := "com/example/goalwright/goalwright/model/Syntax", name := "isDigit", desc := "(I)Z" } : Jvm.MethodName) prog_164_method_2_code (1 : Nat) (Option.some Jvm.ClassFile.FieldType.boolean)).before args0 about1 = true := code_word (m := ⟨2, 1⟩) (meth := k2m1) (c := k2c1) (by decide +kernel) rfl rfl rfl (by decide +kernel)
set_option maxRecDepth 65536 in
theorem w_c2 : (Jvm.Cond.code ({ cls := "com/example/goalwright/goalwright/model/SyntaxIsDigitPinLaw", name := "oneOfTen", desc := "(I)Z" } : Jvm.MethodName) method_2_code (1 : Nat) (Option.some Jvm.ClassFile.FieldType.boolean)).before args0 about1 = true := code_word (m := ⟨1, 1⟩) (meth := k1m1) (c := k1c1) (by decide +kernel) rfl rfl rfl (by decide +kernel)
def codes1 : List Jvm.Cond := [Jvm.Cond.code x code maxLocals ret, Jvm.Cond.code ({ cls := "com/example/goalwright/goalwright/model/Syntax", name := "isDigit", desc := "(I)Z" } : Jvm.MethodName) prog_164_method_2_code (1 : Nat) (Option.some Jvm.ClassFile.FieldType.boolean), Jvm.Cond.code ({ cls := "com/example/goalwright/goalwright/model/SyntaxIsDigitPinLaw", name := "oneOfTen", desc := "(I)Z" } : Jvm.MethodName) method_2_code (1 : Nat) (Option.some Jvm.ClassFile.FieldType.boolean)]
set_option maxRecDepth 65536 in
theorem codes_eq : words1.filter isCode = codes1 := rfl
theorem w_codes : ∀ c ∈ words1.filter isCode, c.before args0 about1 = true := by
  rw [codes_eq]
  intro c hc
  simp only [codes1, List.mem_cons, List.not_mem_nil, or_false] at hc
  rcases hc with rfl | rfl | rfl
  · exact w_c0
  · exact w_c1
  · exact w_c2
set_option maxRecDepth 65536 in
theorem w_t1 : words1.all (fun c => isCode c || c.before args0 about1) = true := by decide +kernel
theorem w_tables : (allAtoms (Jvm.Cond.code x code maxLocals ret :: tables_1)).before args0 about1 = true := by
  rw [allAtoms_all]
  show words1.all (fun c => c.before args0 about1) = true
  refine all_split ?_ w_codes
  rw [w_t1]
set_option maxRecDepth 65536 in
theorem w_case : (Jvm.Cond.and given_1 narrow_1).before args0 about1 = true := by decide +kernel
theorem w_applies : (headSpec (Jvm.Cond.code x code maxLocals ret :: tables_1) room_1).applies x e0.platform about1 = true :=
  (Spec.applies_iff w_frames).mpr ⟨w_running, w_runnable, w_alone, w_named, w_hears, w_ripe, w_room, w_tables⟩
theorem atStart : AtStart classFile x code maxLocals ret World_1 tables_1 room_1 Calls_1 rest_1 Pre_1 launch0 p0 e0 about1 theMethod args0 below0 :=
  ⟨lists_1, trivial, launch0.admits_env _ _ _, launch0.least_env, fairChoices_fair.cas, fairChoices_fair.clock, w_frames, w_args, w_heap, w_applies, trivial, trivial, w_case⟩
end start1
theorem witness_1 : WitnessClaimed_1 := ⟨start1.p0, start1.e0, start1.about1, start1.theMethod, start1.args0, start1.below0, start1.atStart⟩
end Jvm.Pilot.@@N@@
