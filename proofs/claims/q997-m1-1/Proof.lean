import JvmDerived
import JvmDerived.Pilot.@@N@@Statement
import JvmDerived.Pilot.@@N@@Code
set_option linter.unusedVariables false
set_option linter.unusedSimpArgs false
namespace Jvm.Pilot.@@N@@
open Jvm Jvm.ClassFile Sem Op Lib Jvm.Free Jvm.Stand Jvm.LawKit Jvm.RoadKit Bundle Jvm.Pilot.@@N@@.Jvm.D
/-- a boolean as an int -/
def own_b (P : Prop) [Decidable P] : Int32 := if P then 1 else 0
theorem own_b1 {P : Prop} [Decidable P] (h : P) : own_b P = 1 := if_pos h
theorem own_b0 {P : Prop} [Decidable P] (h : ¬ P) : own_b P = 0 := if_neg h
theorem own_b0_eq_f {P : Prop} [Decidable P] (h : P) : ifCond.holds .eq (own_b P) = false := by rw [own_b1 h]; rfl
theorem own_b0_eq_t {P : Prop} [Decidable P] (h : ¬ P) : ifCond.holds .eq (own_b P) = true := by rw [own_b0 h]; rfl
theorem own_b0_ne_t {P : Prop} [Decidable P] (h : P) : ifCond.holds .ne (own_b P) = true := by rw [own_b1 h]; rfl
theorem own_b0_ne_f {P : Prop} [Decidable P] (h : ¬ P) : ifCond.holds .ne (own_b P) = false := by rw [own_b0 h]; rfl
theorem own_bnar (P : Prop) [Decidable P] : nar .boolean (own_b P) = own_b P := by by_cases h : P <;> simp [own_b, h, nar]
theorem own_biff {P Q : Prop} [Decidable P] [Decidable Q] (h : P ↔ Q) : own_b P = own_b Q := by by_cases q : Q <;> simp [own_b, h, q]
/-! own_Go: from T with the frame g on top the method's run comes to an end of which P holds. One rule a plain instruction, so that a walk may fork anywhere. -/
def own_Go (p : Program) (e : Env) (below : List Frame) (P : State → Outcome → Prop) (T : State) (g : JFrame) : Prop :=
  ∃ s₂ o, Steps p.tables e below (T.setTop g) s₂ ∧ s₂.status = .running ∧ Ended s₂ below o ∧ P s₂ o
section OwnGo
variable {p : Program} {l : Launch} {e : Env} {R : Room} {s : State} {m : MethodId} {args : Array Value} {below : List Frame} {meth : Method} {c : Code} {T T' : State} {locs : List Loc} {cells slots : Nat} {P : State → Outcome → Prop} {Ls Ls' : Array Slot} {st : List Value} {pc pc' : Nat} {g g' : JFrame}
theorem own_st (h : ∀ t, Steps p.tables e below (T'.setTop g') t → Steps p.tables e below (T.setTop g) t) (k : own_Go p e below P T' g') : own_Go p e below P T g := by
  obtain ⟨s₂, o, h1, h2⟩ := k; exact ⟨s₂, o, h _ h1, h2⟩
theorem own_tr (h : Steps p.tables e below (T.setTop g) (T'.setTop g')) (k : own_Go p e below P T' g') : own_Go p e below P T g := by
  obtain ⟨s₂, o, h1, h2⟩ := k; exact ⟨s₂, o, h.trans h1, h2⟩
theorem own_aloadN (X : Stand p l e R s m args below meth c T locs cells slots) (hx : p.tables.exec = Jvm.exec) {k : Fin 4} {v : Value} (hd : decode c.code pc = .ok (.aload_n k, 1)) (hp : pc + 1 = pc') (hl : Ls[k.val]? = some (.val v)) (hv : v.isRef = true) (h : own_Go p e below P T (mkF m pc' Ls (v :: st))) : own_Go p e below P T (mkF m pc Ls st) := by
  subst hp; exact own_st (fun t k => XS.aloadN X.here hx rfl hd hl hv k) h
theorem own_aload (X : Stand p l e R s m args below meth c T locs cells slots) (hx : p.tables.exec = Jvm.exec) {k : Nat} {v : Value} (hd : decode c.code pc = .ok (.aload k, 2)) (hp : pc + 2 = pc') (hl : Ls[k]? = some (.val v)) (hv : v.isRef = true) (h : own_Go p e below P T (mkF m pc' Ls (v :: st))) : own_Go p e below P T (mkF m pc Ls st) := by
  subst hp; exact own_st (fun t k => XS.aload X.here hx rfl hd hl hv k) h
theorem own_iloadN (X : Stand p l e R s m args below meth c T locs cells slots) (hx : p.tables.exec = Jvm.exec) {k : Fin 4} {v : Int32} (hd : decode c.code pc = .ok (.iload_n k, 1)) (hp : pc + 1 = pc') (hl : Ls[k.val]? = some (.val (.int v))) (h : own_Go p e below P T (mkF m pc' Ls (.int v :: st))) : own_Go p e below P T (mkF m pc Ls st) := by
  subst hp; exact own_st (fun t k => XS.iloadN X.here hx rfl hd hl k) h
theorem own_iload (X : Stand p l e R s m args below meth c T locs cells slots) (hx : p.tables.exec = Jvm.exec) {k : Nat} {v : Int32} (hd : decode c.code pc = .ok (.iload k, 2)) (hp : pc + 2 = pc') (hl : Ls[k]? = some (.val (.int v))) (h : own_Go p e below P T (mkF m pc' Ls (.int v :: st))) : own_Go p e below P T (mkF m pc Ls st) := by
  subst hp; exact own_st (fun t k => XS.iload X.here hx rfl hd hl k) h
theorem own_lloadN (X : Stand p l e R s m args below meth c T locs cells slots) (hx : p.tables.exec = Jvm.exec) {k : Fin 4} {v : Int64} (hd : decode c.code pc = .ok (.lload_n k, 1)) (hp : pc + 1 = pc') (hl : Ls[k.val]? = some (.val (.long v))) (h : own_Go p e below P T (mkF m pc' Ls (.long v :: st))) : own_Go p e below P T (mkF m pc Ls st) := by
  subst hp; exact own_st (fun t k => XT.lloadN X.here hx rfl hd hl k) h
theorem own_lload (X : Stand p l e R s m args below meth c T locs cells slots) (hx : p.tables.exec = Jvm.exec) {k : Nat} {v : Int64} (hd : decode c.code pc = .ok (.lload k, 2)) (hp : pc + 2 = pc') (hl : Ls[k]? = some (.val (.long v))) (h : own_Go p e below P T (mkF m pc' Ls (.long v :: st))) : own_Go p e below P T (mkF m pc Ls st) := by
  subst hp; exact own_st (fun t k => XT.lload X.here hx rfl hd hl k) h
theorem own_iconst (X : Stand p l e R s m args below meth c T locs cells slots) (hx : p.tables.exec = Jvm.exec) {i : Int} (v : Int32) (hd : decode c.code pc = .ok (.iconst i, 1)) (hp : pc + 1 = pc') (hv : Int32.ofInt i = v) (h : own_Go p e below P T (mkF m pc' Ls (.int v :: st))) : own_Go p e below P T (mkF m pc Ls st) := by
  subst hp hv; exact own_st (fun t k => XS.iconst X.here hx rfl hd k) h
theorem own_bipush (X : Stand p l e R s m args below meth c T locs cells slots) (hx : p.tables.exec = Jvm.exec) {i : Int} (v : Int32) (hd : decode c.code pc = .ok (.bipush i, 2)) (hp : pc + 2 = pc') (hv : (Int8.ofInt i).toInt32 = v) (h : own_Go p e below P T (mkF m pc' Ls (.int v :: st))) : own_Go p e below P T (mkF m pc Ls st) := by
  subst hp hv; exact own_st (fun t k => XS.bipush X.here hx rfl hd k) h
theorem own_sipush (X : Stand p l e R s m args below meth c T locs cells slots) (hx : p.tables.exec = Jvm.exec) {i : Int} (v : Int32) (hd : decode c.code pc = .ok (.sipush i, 3)) (hp : pc + 3 = pc') (hv : (Int16.ofInt i).toInt32 = v) (h : own_Go p e below P T (mkF m pc' Ls (.int v :: st))) : own_Go p e below P T (mkF m pc Ls st) := by
  subst hp hv; exact own_st (fun t k => XS.sipush X.here hx rfl hd k) h
theorem own_lconst (X : Stand p l e R s m args below meth c T locs cells slots) (hx : p.tables.exec = Jvm.exec) {i : Fin 2} (v : Int64) (hd : decode c.code pc = .ok (.lconst i, 1)) (hp : pc + 1 = pc') (hv : Int64.ofNat i = v) (h : own_Go p e below P T (mkF m pc' Ls (.long v :: st))) : own_Go p e below P T (mkF m pc Ls st) := by
  subst hp hv; exact own_st (fun t k => XT.lconst X.here hx rfl hd k) h
theorem own_ldcI (X : Stand p l e R s m args below meth c T locs cells slots) (hx : p.tables.exec = Jvm.exec) {own : String} {index : Nat} {v : Int32} (hown : s.vm.findClass own = some m.cls) (hc : (Cond.constant own index v).before args s = true) (hd : decode c.code pc = .ok (.ldc index, 2)) (hp : pc + 2 = pc') (h : own_Go p e below P T (mkF m pc' Ls (.int v :: st))) : own_Go p e below P T (mkF m pc Ls st) := by
  subst hp; exact own_st (fun t k => X.ldcI hx hown hc rfl hd k) h
theorem own_ldcJ (X : Stand p l e R s m args below meth c T locs cells slots) (hx : p.tables.exec = Jvm.exec) {own : String} {index : Nat} {v : Int64} (hown : s.vm.findClass own = some m.cls) (hc : (Cond.constantLong own index v).before args s = true) (hd : decode c.code pc = .ok (.ldc2_w index, 3)) (hp : pc + 3 = pc') (h : own_Go p e below P T (mkF m pc' Ls (.long v :: st))) : own_Go p e below P T (mkF m pc Ls st) := by
  subst hp; exact own_st (fun t k => X.ldc2J hx hown hc rfl hd k) h
theorem own_null (X : Stand p l e R s m args below meth c T locs cells slots) (hx : p.tables.exec = Jvm.exec) (hd : decode c.code pc = .ok (.aconst_null, 1)) (hp : pc + 1 = pc') (h : own_Go p e below P T (mkF m pc' Ls (.null :: st))) : own_Go p e below P T (mkF m pc Ls st) := by
  subst hp; exact own_st (fun t k => XS.aconstNull X.here hx rfl hd k) h
theorem own_iadd (X : Stand p l e R s m args below meth c T locs cells slots) (hx : p.tables.exec = Jvm.exec) {x y : Int32} (hd : decode c.code pc = .ok (.iadd, 1)) (hp : pc + 1 = pc') (h : own_Go p e below P T (mkF m pc' Ls (.int (x + y) :: st))) : own_Go p e below P T (mkF m pc Ls (.int y :: .int x :: st)) := by
  subst hp; exact own_st (fun t k => XS.iadd X.here hx rfl hd rfl k) h
theorem own_isub (X : Stand p l e R s m args below meth c T locs cells slots) (hx : p.tables.exec = Jvm.exec) {x y : Int32} (hd : decode c.code pc = .ok (.isub, 1)) (hp : pc + 1 = pc') (h : own_Go p e below P T (mkF m pc' Ls (.int (x - y) :: st))) : own_Go p e below P T (mkF m pc Ls (.int y :: .int x :: st)) := by
  subst hp; exact own_st (fun t k => XS.isub X.here hx rfl hd rfl k) h
theorem own_iand (X : Stand p l e R s m args below meth c T locs cells slots) (hx : p.tables.exec = Jvm.exec) {x y : Int32} (hd : decode c.code pc = .ok (.iand, 1)) (hp : pc + 1 = pc') (h : own_Go p e below P T (mkF m pc' Ls (.int (x &&& y) :: st))) : own_Go p e below P T (mkF m pc Ls (.int y :: .int x :: st)) := by
  subst hp; exact own_st (fun t k => XS.iand X.here hx rfl hd rfl k) h
theorem own_imul (X : Stand p l e R s m args below meth c T locs cells slots) (hx : p.tables.exec = Jvm.exec) {x y : Int32} (hd : decode c.code pc = .ok (.imul, 1)) (hp : pc + 1 = pc') (h : own_Go p e below P T (mkF m pc' Ls (.int (x * y) :: st))) : own_Go p e below P T (mkF m pc Ls (.int y :: .int x :: st)) := by
  subst hp; exact own_st (fun t k => XS.imul X.here hx rfl hd rfl k) h
theorem own_irem (X : Stand p l e R s m args below meth c T locs cells slots) (hx : p.tables.exec = Jvm.exec) {x y : Int32} (hd : decode c.code pc = .ok (.irem, 1)) (hp : pc + 1 = pc') (hy : y ≠ 0) (h : own_Go p e below P T (mkF m pc' Ls (.int (x % y) :: st))) : own_Go p e below P T (mkF m pc Ls (.int y :: .int x :: st)) := by
  subst hp; exact own_st (fun t k => iremM X hx rfl hd rfl hy k) h
theorem own_ishr (X : Stand p l e R s m args below meth c T locs cells slots) (hx : p.tables.exec = Jvm.exec) {x y : Int32} (hd : decode c.code pc = .ok (.ishr, 1)) (hp : pc + 1 = pc') (h : own_Go p e below P T (mkF m pc' Ls (.int (x >>> (y &&& 31)) :: st))) : own_Go p e below P T (mkF m pc Ls (.int y :: .int x :: st)) := by
  subst hp; exact own_st (fun t k => XT.ishr X.here hx rfl hd rfl k) h
theorem own_iushr (X : Stand p l e R s m args below meth c T locs cells slots) (hx : p.tables.exec = Jvm.exec) {x y : Int32} (hd : decode c.code pc = .ok (.iushr, 1)) (hp : pc + 1 = pc') (h : own_Go p e below P T (mkF m pc' Ls (.int (XT.ushr x y) :: st))) : own_Go p e below P T (mkF m pc Ls (.int y :: .int x :: st)) := by
  subst hp; exact own_st (fun t k => XT.iushr X.here hx rfl hd rfl k) h
theorem own_i2b (X : Stand p l e R s m args below meth c T locs cells slots) (hx : p.tables.exec = Jvm.exec) {x : Int32} (hd : decode c.code pc = .ok (.i2b, 1)) (hp : pc + 1 = pc') (h : own_Go p e below P T (mkF m pc' Ls (.int (nar .byte x) :: st))) : own_Go p e below P T (mkF m pc Ls (.int x :: st)) := by
  subst hp; exact own_st (fun t k => XT.i2b X.here hx rfl hd rfl k) h
theorem own_i2c (X : Stand p l e R s m args below meth c T locs cells slots) (hx : p.tables.exec = Jvm.exec) {x : Int32} (hd : decode c.code pc = .ok (.i2c, 1)) (hp : pc + 1 = pc') (h : own_Go p e below P T (mkF m pc' Ls (.int (nar .char x) :: st))) : own_Go p e below P T (mkF m pc Ls (.int x :: st)) := by
  subst hp; exact own_st (fun t k => XT.i2c X.here hx rfl hd rfl k) h
theorem own_i2l (X : Stand p l e R s m args below meth c T locs cells slots) (hx : p.tables.exec = Jvm.exec) {x : Int32} (hd : decode c.code pc = .ok (.i2l, 1)) (hp : pc + 1 = pc') (h : own_Go p e below P T (mkF m pc' Ls (.long x.toInt64 :: st))) : own_Go p e below P T (mkF m pc Ls (.int x :: st)) := by
  subst hp; exact own_st (fun t k => XT.i2l X.here hx rfl hd rfl k) h
theorem own_l2i (X : Stand p l e R s m args below meth c T locs cells slots) (hx : p.tables.exec = Jvm.exec) {x : Int64} (hd : decode c.code pc = .ok (.l2i, 1)) (hp : pc + 1 = pc') (h : own_Go p e below P T (mkF m pc' Ls (.int x.toInt32 :: st))) : own_Go p e below P T (mkF m pc Ls (.long x :: st)) := by
  subst hp; exact own_st (fun t k => XT.l2i X.here hx rfl hd rfl k) h
theorem own_lushr (X : Stand p l e R s m args below meth c T locs cells slots) (hx : p.tables.exec = Jvm.exec) {x : Int64} {y : Int32} (hd : decode c.code pc = .ok (.lushr, 1)) (hp : pc + 1 = pc') (h : own_Go p e below P T (mkF m pc' Ls (.long (XT.ushrL x y) :: st))) : own_Go p e below P T (mkF m pc Ls (.int y :: .long x :: st)) := by
  subst hp; exact own_st (fun t k => XT.lushr X.here hx rfl hd rfl k) h
theorem own_lcmp (X : Stand p l e R s m args below meth c T locs cells slots) (hx : p.tables.exec = Jvm.exec) {x y : Int64} (hd : decode c.code pc = .ok (.lcmp, 1)) (hp : pc + 1 = pc') (h : own_Go p e below P T (mkF m pc' Ls (.int (XT.cmpL x y) :: st))) : own_Go p e below P T (mkF m pc Ls (.long y :: .long x :: st)) := by
  subst hp; exact own_st (fun t k => XT.lcmp X.here hx rfl hd rfl k) h
theorem own_dup (X : Stand p l e R s m args below meth c T locs cells slots) (hx : p.tables.exec = Jvm.exec) {x : Value} (hd : decode c.code pc = .ok (.dup, 1)) (hp : pc + 1 = pc') (hc : x.category = 1) (h : own_Go p e below P T (mkF m pc' Ls (x :: x :: st))) : own_Go p e below P T (mkF m pc Ls (x :: st)) := by
  subst hp; exact own_st (fun t k => XS.dup X.here hx rfl hd rfl hc k) h
theorem own_dupX1 (X : Stand p l e R s m args below meth c T locs cells slots) (hx : p.tables.exec = Jvm.exec) {x y : Value} (hd : decode c.code pc = .ok (.dup_x1, 1)) (hp : pc + 1 = pc') (hc : x.category = 1) (hc' : y.category = 1) (h : own_Go p e below P T (mkF m pc' Ls (x :: y :: x :: st))) : own_Go p e below P T (mkF m pc Ls (x :: y :: st)) := by
  subst hp; exact own_st (fun t k => XT.dupX1 X.here hx rfl hd rfl hc hc' k) h
theorem own_pop (X : Stand p l e R s m args below meth c T locs cells slots) (hx : p.tables.exec = Jvm.exec) {x : Value} (hd : decode c.code pc = .ok (.pop, 1)) (hp : pc + 1 = pc') (hc : x.category = 1) (h : own_Go p e below P T (mkF m pc' Ls st)) : own_Go p e below P T (mkF m pc Ls (x :: st)) := by
  subst hp; exact own_st (fun t k => XT.pop X.here hx rfl hd rfl hc k) h
theorem own_istoreN (X : Stand p l e R s m args below meth c T locs cells slots) (hx : p.tables.exec = Jvm.exec) {k : Fin 4} {x : Int32} (hd : decode c.code pc = .ok (.istore_n k, 1)) (hp : pc + 1 = pc') (hl : storeLocals Ls k.val (.int x) = some Ls') (h : own_Go p e below P T (mkF m pc' Ls' st)) : own_Go p e below P T (mkF m pc Ls (.int x :: st)) := by
  subst hp; exact own_st (fun t k => XS.istoreN X.here hx rfl hd rfl hl k) h
theorem own_istore (X : Stand p l e R s m args below meth c T locs cells slots) (hx : p.tables.exec = Jvm.exec) {k : Nat} {x : Int32} (hd : decode c.code pc = .ok (.istore k, 2)) (hp : pc + 2 = pc') (hl : storeLocals Ls k (.int x) = some Ls') (h : own_Go p e below P T (mkF m pc' Ls' st)) : own_Go p e below P T (mkF m pc Ls (.int x :: st)) := by
  subst hp; exact own_st (fun t k => XS.istore X.here hx rfl hd rfl hl k) h
theorem own_lstoreN (X : Stand p l e R s m args below meth c T locs cells slots) (hx : p.tables.exec = Jvm.exec) {k : Fin 4} {x : Int64} (hd : decode c.code pc = .ok (.lstore_n k, 1)) (hp : pc + 1 = pc') (hl : storeLocals Ls k.val (.long x) = some Ls') (h : own_Go p e below P T (mkF m pc' Ls' st)) : own_Go p e below P T (mkF m pc Ls (.long x :: st)) := by
  subst hp; exact own_st (fun t k => XT.lstoreN X.here hx rfl hd rfl hl k) h
theorem own_lstore (X : Stand p l e R s m args below meth c T locs cells slots) (hx : p.tables.exec = Jvm.exec) {k : Nat} {x : Int64} (hd : decode c.code pc = .ok (.lstore k, 2)) (hp : pc + 2 = pc') (hl : storeLocals Ls k (.long x) = some Ls') (h : own_Go p e below P T (mkF m pc' Ls' st)) : own_Go p e below P T (mkF m pc Ls (.long x :: st)) := by
  subst hp; exact own_st (fun t k => XT.lstore X.here hx rfl hd rfl hl k) h
theorem own_astoreN (X : Stand p l e R s m args below meth c T locs cells slots) (hx : p.tables.exec = Jvm.exec) {k : Fin 4} {x : Value} (hd : decode c.code pc = .ok (.astore_n k, 1)) (hp : pc + 1 = pc') (hv : x.isRef = true) (hl : storeLocals Ls k.val x = some Ls') (h : own_Go p e below P T (mkF m pc' Ls' st)) : own_Go p e below P T (mkF m pc Ls (x :: st)) := by
  subst hp; exact own_st (fun t k => XS.astoreN X.here hx rfl hd rfl hv hl k) h
theorem own_astore (X : Stand p l e R s m args below meth c T locs cells slots) (hx : p.tables.exec = Jvm.exec) {k : Nat} {x : Value} (hd : decode c.code pc = .ok (.astore k, 2)) (hp : pc + 2 = pc') (hv : x.isRef = true) (hl : storeLocals Ls k x = some Ls') (h : own_Go p e below P T (mkF m pc' Ls' st)) : own_Go p e below P T (mkF m pc Ls (x :: st)) := by
  subst hp; exact own_st (fun t k => XS.astore X.here hx rfl hd rfl hv hl k) h
theorem own_goto (X : Stand p l e R s m args below meth c T locs cells slots) (hx : p.tables.exec = Jvm.exec) {o : Int} (hd : decode c.code pc = .ok (.goto o, 3)) (ho : 0 ≤ (pc : Int) + o) (hp : ((pc : Int) + o).toNat = pc') (h : own_Go p e below P T (mkF m pc' Ls st)) : own_Go p e below P T (mkF m pc Ls st) := by
  exact own_st (fun t k => XS.goto X.here hx rfl (pc0 := pc) rfl hd ho hp k) h
theorem own_ifY (X : Stand p l e R s m args below meth c T locs cells slots) (hx : p.tables.exec = Jvm.exec) {cd : ClassFile.Cond} {x : Int32} {o : Int} (hd : decode c.code pc = .ok (.ifCond cd o, 3)) (hc : ifCond.holds cd x = true) (ho : 0 ≤ (pc : Int) + o) (hp : ((pc : Int) + o).toNat = pc') (h : own_Go p e below P T (mkF m pc' Ls st)) : own_Go p e below P T (mkF m pc Ls (.int x :: st)) := by
  exact own_st (fun t k => XS.ifYes X.here hx rfl (pc0 := pc) rfl hd rfl hc ho hp k) h
theorem own_ifN (X : Stand p l e R s m args below meth c T locs cells slots) (hx : p.tables.exec = Jvm.exec) {cd : ClassFile.Cond} {x : Int32} {o : Int} (hd : decode c.code pc = .ok (.ifCond cd o, 3)) (hc : ifCond.holds cd x = false) (hp : pc + 3 = pc') (h : own_Go p e below P T (mkF m pc' Ls st)) : own_Go p e below P T (mkF m pc Ls (.int x :: st)) := by
  subst hp; exact own_st (fun t k => XS.ifNo X.here hx rfl hd rfl hc k) h
theorem own_icmpY (X : Stand p l e R s m args below meth c T locs cells slots) (hx : p.tables.exec = Jvm.exec) {cd : ClassFile.Cond} {x y : Int32} {o : Int} (hd : decode c.code pc = .ok (.if_icmp cd o, 3)) (hc : if_icmp.holds cd x y = true) (ho : 0 ≤ (pc : Int) + o) (hp : ((pc : Int) + o).toNat = pc') (h : own_Go p e below P T (mkF m pc' Ls st)) : own_Go p e below P T (mkF m pc Ls (.int y :: .int x :: st)) := by
  exact own_st (fun t k => XS.icmpYes X.here hx rfl (pc0 := pc) rfl hd rfl hc ho hp k) h
theorem own_icmpN (X : Stand p l e R s m args below meth c T locs cells slots) (hx : p.tables.exec = Jvm.exec) {cd : ClassFile.Cond} {x y : Int32} {o : Int} (hd : decode c.code pc = .ok (.if_icmp cd o, 3)) (hc : if_icmp.holds cd x y = false) (hp : pc + 3 = pc') (h : own_Go p e below P T (mkF m pc' Ls st)) : own_Go p e below P T (mkF m pc Ls (.int y :: .int x :: st)) := by
  subst hp; exact own_st (fun t k => XS.icmpNo X.here hx rfl hd rfl hc k) h
theorem own_ifnullY (X : Stand p l e R s m args below meth c T locs cells slots) (hx : p.tables.exec = Jvm.exec) {o : Int} (hd : decode c.code pc = .ok (.ifnull o, 3)) (ho : 0 ≤ (pc : Int) + o) (hp : ((pc : Int) + o).toNat = pc') (h : own_Go p e below P T (mkF m pc' Ls st)) : own_Go p e below P T (mkF m pc Ls (.null :: st)) := by
  exact own_st (fun t k => XS.ifnullYes X.here hx rfl (pc0 := pc) rfl hd rfl ho hp k) h
theorem own_ifnullN (X : Stand p l e R s m args below meth c T locs cells slots) (hx : p.tables.exec = Jvm.exec) {a : Addr} {o : Int} (hd : decode c.code pc = .ok (.ifnull o, 3)) (hp : pc + 3 = pc') (h : own_Go p e below P T (mkF m pc' Ls st)) : own_Go p e below P T (mkF m pc Ls (.ref a :: st)) := by
  subst hp; exact own_st (fun t k => XS.ifnullNo X.here hx rfl hd rfl k) h
theorem own_ifnonnullY (X : Stand p l e R s m args below meth c T locs cells slots) (hx : p.tables.exec = Jvm.exec) {a : Addr} {o : Int} (hd : decode c.code pc = .ok (.ifnonnull o, 3)) (ho : 0 ≤ (pc : Int) + o) (hp : ((pc : Int) + o).toNat = pc') (h : own_Go p e below P T (mkF m pc' Ls st)) : own_Go p e below P T (mkF m pc Ls (.ref a :: st)) := by
  exact own_st (fun t k => XT.ifnonnullYes X.here hx rfl (pc0 := pc) rfl hd rfl ho hp k) h
theorem own_ifnonnullN (X : Stand p l e R s m args below meth c T locs cells slots) (hx : p.tables.exec = Jvm.exec) {o : Int} (hd : decode c.code pc = .ok (.ifnonnull o, 3)) (hp : pc + 3 = pc') (h : own_Go p e below P T (mkF m pc' Ls st)) : own_Go p e below P T (mkF m pc Ls (.null :: st)) := by
  subst hp; exact own_st (fun t k => XT.ifnonnullNo X.here hx rfl hd rfl k) h
theorem own_acmpY (X : Stand p l e R s m args below meth c T locs cells slots) (hx : p.tables.exec = Jvm.exec) {cd : ACond} {x y : Value} {o : Int} (h1 : x.isRef = true) (h2 : y.isRef = true) (hd : decode c.code pc = .ok (.if_acmp cd o, 3)) (hc : XT.acmp cd x y = true) (ho : 0 ≤ (pc : Int) + o) (hp : ((pc : Int) + o).toNat = pc') (h : own_Go p e below P T (mkF m pc' Ls st)) : own_Go p e below P T (mkF m pc Ls (y :: x :: st)) := by
  exact own_st (fun t k => XT.acmpYes X.here hx rfl (pc0 := pc) rfl hd rfl h1 h2 hc ho hp k) h
theorem own_acmpN (X : Stand p l e R s m args below meth c T locs cells slots) (hx : p.tables.exec = Jvm.exec) {cd : ACond} {x y : Value} {o : Int} (h1 : x.isRef = true) (h2 : y.isRef = true) (hd : decode c.code pc = .ok (.if_acmp cd o, 3)) (hc : XT.acmp cd x y = false) (hp : pc + 3 = pc') (h : own_Go p e below P T (mkF m pc' Ls st)) : own_Go p e below P T (mkF m pc Ls (y :: x :: st)) := by
  subst hp; exact own_st (fun t k => XT.acmpNo X.here hx rfl hd rfl h1 h2 hc k) h
theorem own_cut (h1 : own_Go p e below P T g' → own_Go p e below P T g) (h2 : own_Go p e below P T g') : own_Go p e below P T g := h1 h2
theorem own_iinc (X : Stand p l e R s m args below meth c T locs cells slots) (hx : p.tables.exec = Jvm.exec) {k : Nat} {cst : Int} {x : Int32} (v : Int32) (hd : decode c.code pc = .ok (.iinc k cst, 3)) (hp : pc + 3 = pc') (hl : Ls[k]? = some (.val (.int x))) (hv : x + Int32.ofInt cst = v) (hs : storeLocals Ls k (.int v) = some Ls') (h : own_Go p e below P T (mkF m pc' Ls' st)) : own_Go p e below P T (mkF m pc Ls st) := by
  subst hp hv; exact own_st (fun t k => XS.iinc X.here hx rfl hd hl hs k) h
theorem own_stv {Ls : Array Slot} {k : Nat} {v : Value} {o : Slot} (hv : v.isRef = true) (hold : Ls[k]? = some o) (ho : o = .unset ∨ ∃ w, o = .val w ∧ w.category = 1) : storeLocals Ls k v = some (Ls.setIfInBounds k (.val v)) := XS.store1 hold ho (XT.cat1 hv)
abbrev own_End (s : State) (Q : Option Value → Heap → List Loc → Prop) (k n : Nat) : State → Outcome → Prop := fun u o => ∃ v L, o = .returned v ∧ Q v u.heap L ∧ FrameEnd s o u L k n
variable {Q : Option Value → Heap → List Loc → Prop} {ck sn : Nat}
theorem own_retZ (X : Stand p l e R s m args below meth c T locs cells slots) (hx : p.tables.exec = Jvm.exec) (hk : meth.locks = false) {t : FieldType} (hret : meth.sig.returnType = some t) (ht : t = .boolean ∨ t = .byte ∨ t = .char ∨ t = .short) {z : Int32} (hd : decode c.code pc = .ok (.ireturn, 1)) (hc : cells ≤ ck) (hs : slots ≤ sn) (hQ : Q (some (.int (nar t z))) T.heap locs) :
    own_Go p e below (own_End s Q ck sn) T (mkF m pc Ls (.int z :: st)) := by
  obtain ⟨fs, hr, hrun, hended, hW, hsame⟩ := X.leave (v := some (.int (nar t z))) (fun h => by rw [hret] at h; cases h) hk
  exact ⟨_, _, retN X hx hret ht hd hr, hrun, hended, _, _, rfl, hQ, ⟨_, rfl⟩, hW, hsame.mono hc hs⟩
theorem own_retI (X : Stand p l e R s m args below meth c T locs cells slots) (hx : p.tables.exec = Jvm.exec) (hk : meth.locks = false) (hret : meth.sig.returnType = some .int) {z : Int32} (hd : decode c.code pc = .ok (.ireturn, 1)) (hc : cells ≤ ck) (hs : slots ≤ sn) (hQ : Q (some (.int z)) T.heap locs) :
    own_Go p e below (own_End s Q ck sn) T (mkF m pc Ls (.int z :: st)) := by
  obtain ⟨fs, hr, hrun, hended, hW, hsame⟩ := X.leave (v := some (.int z)) (fun h => by rw [hret] at h; cases h) hk
  exact ⟨_, _, retOut X hx hret rfl (Or.inl ⟨rfl, Or.inl rfl, z, rfl⟩) hd hr, hrun, hended, _, _, rfl, hQ, ⟨_, rfl⟩, hW, hsame.mono hc hs⟩
theorem own_retL (X : Stand p l e R s m args below meth c T locs cells slots) (hx : p.tables.exec = Jvm.exec) (hk : meth.locks = false) (hret : meth.sig.returnType = some .long) {z : Int64} (hd : decode c.code pc = .ok (.lreturn, 1)) (hc : cells ≤ ck) (hs : slots ≤ sn) (hQ : Q (some (.long z)) T.heap locs) :
    own_Go p e below (own_End s Q ck sn) T (mkF m pc Ls (.long z :: st)) := by
  obtain ⟨fs, hr, hrun, hended, hW, hsame⟩ := X.leave (v := some (.long z)) (fun h => by rw [hret] at h; cases h) hk
  exact ⟨_, _, retOut X hx hret rfl (Or.inr (Or.inl ⟨rfl, rfl, z, rfl⟩)) hd hr, hrun, hended, _, _, rfl, hQ, ⟨_, rfl⟩, hW, hsame.mono hc hs⟩
theorem own_narR {t : FieldType} {w : Value} (ht : t.isReference = true) (hw : w.isRef = true) : narrow t w = w := by
  rcases ref_cases hw with rfl | ⟨a, rfl⟩ <;> cases t <;> first | rfl | (cases ht; done)
theorem own_retA (X : Stand p l e R s m args below meth c T locs cells slots) (hx : p.tables.exec = Jvm.exec) (hk : meth.locks = false) {t : FieldType} (hret : meth.sig.returnType = some t) (ht : t.isReference = true) {w : Value} (hw : w.isRef = true) (hd : decode c.code pc = .ok (.areturn, 1)) (hc : cells ≤ ck) (hs : slots ≤ sn) (hQ : Q (some w) T.heap locs) :
    own_Go p e below (own_End s Q ck sn) T (mkF m pc Ls (w :: st)) := by
  obtain ⟨fs, hr, hrun, hended, hW, hsame⟩ := X.leave (v := some w) (fun h => by rw [hret] at h; cases h) hk
  exact ⟨_, _, retOut X hx hret (own_narR ht hw) (Or.inr (Or.inr (Or.inr (Or.inr ⟨rfl, ht, hw⟩)))) hd hr, hrun, hended, _, _, rfl, hQ, ⟨_, rfl⟩, hW, hsame.mono hc hs⟩
theorem own_retV (X : Stand p l e R s m args below meth c T locs cells slots) (hx : p.tables.exec = Jvm.exec) (hk : meth.locks = false) (hret : meth.sig.returnType = none) (hd : decode c.code pc = .ok (.return_, 1)) (hc : cells ≤ ck) (hs : slots ≤ sn) (hQ : Q none T.heap locs) :
    own_Go p e below (own_End s Q ck sn) T (mkF m pc Ls []) := by
  obtain ⟨fs, hr, hrun, hended, hW, hsame⟩ := X.leave (v := none) (fun _ => rfl) hk
  exact ⟨_, _, X.returnOut hx hret hd hr, hrun, hended, _, _, rfl, hQ, ⟨_, rfl⟩, hW, hsame.mono hc hs⟩
end OwnGo
def own_ln (ch cr ln : Int32) : Int32 := if ch = 10 ∧ ¬ cr = 0 then ln else if ch = 10 ∨ ch = 13 then ln + 1 else ln
def own_co (ch cr co : Int32) : Int32 := if ch = 10 ∧ ¬ cr = 0 then co else if ch = 10 ∨ ch = 13 then 1 else co + 1
def own_ea (pr ch : Int32) : Int32 := if ¬ (ch = 10 ∨ ch = 13) then 0 else if ch = 10 ∧ pr = 13 then 0 else 1
theorem own_l1 (x : Int32) : own_ln x 0 1 = 1 + (if x = 10 ∨ x = 13 then 1 else 0) := by
  by_cases h1 : x = 10 <;> by_cases h2 : x = 13 <;> simp_all [own_ln]
theorem own_c1 (x : Int32) : own_co x 0 1 = (if x = 10 ∨ x = 13 then 1 else 2) := by
  by_cases h1 : x = 10 <;> by_cases h2 : x = 13 <;> simp_all [own_co]
theorem own_l2 (x y : Int32) : own_ln y (own_b (x = 13)) (own_ln x 0 1) = 1 + ((if x = 10 ∨ x = 13 then 1 else 0) + own_ea x y) := by
  by_cases h1 : x = 10 <;> by_cases h2 : x = 13 <;> by_cases h3 : y = 10 <;> by_cases h4 : y = 13 <;> simp_all [own_ln, own_ea, own_b]
theorem own_c2 (x y : Int32) : own_co y (own_b (x = 13)) (own_co x 0 1) = (if y = 10 ∨ y = 13 then 1 else if x = 10 ∨ x = 13 then 2 else 3) := by
  by_cases h1 : x = 10 <;> by_cases h2 : x = 13 <;> by_cases h3 : y = 10 <;> by_cases h4 : y = 13 <;> simp_all [own_co, own_b]
theorem own_l3 (x y z : Int32) : own_ln z (own_b (y = 13)) (own_ln y (own_b (x = 13)) (own_ln x 0 1)) = 1 + (((if x = 10 ∨ x = 13 then 1 else 0) + own_ea x y) + own_ea y z) := by
  rw [own_l2]
  generalize (if x = 10 ∨ x = 13 then (1 : Int32) else 0) + own_ea x y = w
  by_cases h3 : y = 10 <;> by_cases h4 : y = 13 <;> by_cases h5 : z = 10 <;> by_cases h6 : z = 13 <;> simp_all [own_ln, own_ea, own_b, Int32.add_assoc]
theorem own_c3 (x y z : Int32) : own_co z (own_b (y = 13)) (own_co y (own_b (x = 13)) (own_co x 0 1)) = (if z = 10 ∨ z = 13 then 1 else if y = 10 ∨ y = 13 then 2 else if x = 10 ∨ x = 13 then 3 else 4) := by
  rw [own_c2]
  by_cases h1 : x = 10 ∨ x = 13 <;> by_cases h3 : y = 10 <;> by_cases h4 : y = 13 <;> by_cases h5 : z = 10 <;> by_cases h6 : z = 13 <;> simp_all [own_co, own_b]
theorem d1_0 : decode method_2_code 0 = .ok (.iload_n 0, 1) := by decide +kernel
theorem d1_1 : decode method_2_code 1 = .ok (.iconst 3, 1) := by decide +kernel
theorem d1_2 : decode method_2_code 2 = .ok (.iand, 1) := by decide +kernel
theorem d1_3 : decode method_2_code 3 = .ok (.istore_n 1, 1) := by decide +kernel
theorem d1_4 : decode method_2_code 4 = .ok (.iload_n 1, 1) := by decide +kernel
theorem d1_5 : decode method_2_code 5 = .ok (.ifCond .ne 6, 3) := by decide +kernel
theorem d1_8 : decode method_2_code 8 = .ok (.bipush 10, 2) := by decide +kernel
theorem d1_10 : decode method_2_code 10 = .ok (.ireturn, 1) := by decide +kernel
theorem d1_11 : decode method_2_code 11 = .ok (.iload_n 1, 1) := by decide +kernel
theorem d1_12 : decode method_2_code 12 = .ok (.iconst 1, 1) := by decide +kernel
theorem d1_13 : decode method_2_code 13 = .ok (.if_icmp .ne 6, 3) := by decide +kernel
theorem d1_16 : decode method_2_code 16 = .ok (.bipush 13, 2) := by decide +kernel
theorem d1_18 : decode method_2_code 18 = .ok (.ireturn, 1) := by decide +kernel
theorem d1_19 : decode method_2_code 19 = .ok (.iload_n 0, 1) := by decide +kernel
theorem d1_20 : decode method_2_code 20 = .ok (.iconst 2, 1) := by decide +kernel
theorem d1_21 : decode method_2_code 21 = .ok (.iushr, 1) := by decide +kernel
theorem d1_22 : decode method_2_code 22 = .ok (.i2c, 1) := by decide +kernel
theorem d1_23 : decode method_2_code 23 = .ok (.ireturn, 1) := by decide +kernel
theorem pn1 : plainFor (⟨"com/example/muster/muster/xml/TextPositionAdvancePinLaw", "pick", "(I)C"⟩ : MethodName) = true := by first | exact plainFor_of_name (by first | (simp [plainName, overriddenIn]; done) | decide +kernel) | decide +kernel
theorem ef1 (m : MethodId) (x1 : Int32) : entryFrame m #[(.int x1)] 2 = mkF m 0 #[.val (.int x1), .unset] [] := by first | (simp [entryFrame, mkF, argsToLocals, Value.category]; done) | rfl
def Q1 (Z : State) (x1 : Int32) (h0 : Heap) (n0 : Nat) (v : Option Value) (h : Heap) (L : List Loc) : Prop := (∃ c : Int32, v = some (.int c)) ∧ Fr n0 L ∧ h = h0
set_option maxRecDepth 65536 in
set_option maxHeartbeats 40000000 in
theorem rm1 (l : Launch) (Z : State) (a0 : Array Value) (hw : ∀ d ∈ tables_1, d.before a0 Z = true) (ws : List Jvm.Cond) (x1 : Int32) (h0 : Heap) (n0 : Nat) (Z0 : n0 ≤ h0.size) :
    MetFree l (⟨"com/example/muster/muster/xml/TextPositionAdvancePinLaw", "pick", "(I)C"⟩ : MethodName) (head1 (Jvm.Cond.code (⟨"com/example/muster/muster/xml/TextPositionAdvancePinLaw", "pick", "(I)C"⟩ : MethodName) method_2_code 2 (some .char) :: ws) ({ frames := 0, cells := 0, slots := 0, locals := 0 } : Room)) (fun a U => a = #[(.int x1)] ∧ Z.Warmed39 U.vm ∧ U.heap = h0) (fun _ _ _ _ _ => True) (fun _ U o U' => ∃ v L, o = .returned v ∧ Q1 Z x1 h0 n0 v U'.heap L ∧ FrameEnd U o U' L ({ frames := 0, cells := 0, slots := 0, locals := 0 } : Room).cells ({ frames := 0, cells := 0, slots := 0, locals := 0 } : Room).slots) := by
  refine MetFree.of_bodySF pn1 hisR ?_
  intro p e s m args below meth c s₁ Bd hml0 hP hK
  obtain ⟨rfl, hZ, hh⟩ := hP
  have hx := Bd.exec
  have hby := Bd.bytes
  have hlk : meth.locks = false := BodyLoose.notSynchronized Bd
  have hml : c.maxLocals = 2 := hml0
  have hown : s.vm.findClass "com/example/muster/muster/xml/TextPositionAdvancePinLaw" = some m.cls := findClass_of_methodNamed Bd.named
  have hnm := (name_of_methodNamed Bd.named Bd.method).1
  have X0 : Stand p l e ({ frames := 0, cells := 0, slots := 0, locals := 0 } : Room) s m #[(.int x1)] below meth c s₁ [] 0 0 := Stand.of_body Bd
  have e0 : s₁.heap = h0 := by rw [← hh, Bd.state]; rfl
  have N0 := Fr.nil n0
  rw [ef1 m x1]
  show own_Go p e below (own_End s (Q1 Z x1 h0 n0) ({ frames := 0, cells := 0, slots := 0, locals := 0 } : Room).cells ({ frames := 0, cells := 0, slots := 0, locals := 0 } : Room).slots) s₁ (mkF m 0 #[.val (.int x1), .unset] [])
  refine own_iloadN X0 hx (hb hby d1_0) (pc' := 1) rfl rfl ?_
  refine own_iconst X0 hx (3) (hb hby d1_1) (pc' := 2) rfl rfl ?_
  refine own_iand X0 hx (hb hby d1_2) (pc' := 3) rfl ?_
  refine own_istoreN X0 hx (hb hby d1_3) (pc' := 4) (Ls' := #[.val (.int x1), .val (.int (x1 &&& (3 : Int32)))]) rfl rfl ?_
  refine own_iloadN X0 hx (hb hby d1_4) (pc' := 5) rfl rfl ?_
  by_cases c_1 : (x1 &&& (3 : Int32)) = (0 : Int32)
  · skip
    refine own_ifN X0 hx (hb hby d1_5) (XT.i0_ne_f c_1) (pc' := 8) rfl ?_
    refine own_bipush X0 hx (10) (hb hby d1_8) (pc' := 10) rfl (by decide) ?_
    refine own_retZ X0 hx hlk Bd.returns (by simp) (hb hby d1_10) (by decide) (by decide) ?_
    rw [e0]
    exact ⟨⟨_, rfl⟩, N0, rfl⟩
  · skip
    refine own_ifY X0 hx (hb hby d1_5) (XT.i0_ne_t c_1) (pc' := 11) (by decide) (by decide) ?_
    refine own_iloadN X0 hx (hb hby d1_11) (pc' := 12) rfl rfl ?_
    refine own_iconst X0 hx (1) (hb hby d1_12) (pc' := 13) rfl rfl ?_
    by_cases c_2 : (x1 &&& (3 : Int32)) = (1 : Int32)
    · skip
      refine own_icmpN X0 hx (hb hby d1_13) (XT.ii_ne_f c_2) (pc' := 16) rfl ?_
      refine own_bipush X0 hx (13) (hb hby d1_16) (pc' := 18) rfl (by decide) ?_
      refine own_retZ X0 hx hlk Bd.returns (by simp) (hb hby d1_18) (by decide) (by decide) ?_
      rw [e0]
      exact ⟨⟨_, rfl⟩, N0, rfl⟩
    · skip
      refine own_icmpY X0 hx (hb hby d1_13) (XT.ii_ne_t c_2) (pc' := 19) (by decide) (by decide) ?_
      refine own_iloadN X0 hx (hb hby d1_19) (pc' := 20) rfl rfl ?_
      refine own_iconst X0 hx (2) (hb hby d1_20) (pc' := 21) rfl rfl ?_
      refine own_iushr X0 hx (hb hby d1_21) (pc' := 22) rfl ?_
      refine own_i2c X0 hx (hb hby d1_22) (pc' := 23) rfl ?_
      refine own_retZ X0 hx hlk Bd.returns (by simp) (hb hby d1_23) (by decide) (by decide) ?_
      rw [e0]
      exact ⟨⟨_, rfl⟩, N0, rfl⟩
theorem d2_0 : decode prog_33_method_1_code 0 = .ok (.aload_n 0, 1) := by decide +kernel
theorem d2_1 : decode prog_33_method_1_code 1 = .ok (.invokespecial 1, 3) := by decide +kernel
theorem d2_4 : decode prog_33_method_1_code 4 = .ok (.aload_n 0, 1) := by decide +kernel
theorem d2_5 : decode prog_33_method_1_code 5 = .ok (.iconst 1, 1) := by decide +kernel
theorem d2_6 : decode prog_33_method_1_code 6 = .ok (.putfield 7, 3) := by decide +kernel
theorem d2_9 : decode prog_33_method_1_code 9 = .ok (.aload_n 0, 1) := by decide +kernel
theorem d2_10 : decode prog_33_method_1_code 10 = .ok (.iconst 1, 1) := by decide +kernel
theorem d2_11 : decode prog_33_method_1_code 11 = .ok (.putfield 13, 3) := by decide +kernel
theorem d2_14 : decode prog_33_method_1_code 14 = .ok (.return_, 1) := by decide +kernel
theorem pn2 : plainFor (⟨"com/example/muster/muster/xml/TextPosition", "<init>", "()V"⟩ : MethodName) = true := by first | exact plainFor_of_name (by first | (simp [plainName, overriddenIn]; done) | decide +kernel) | decide +kernel
theorem ef2 (m : MethodId) (a1 : Addr) : entryFrame m #[(.ref a1)] 1 = mkF m 0 #[.val (.ref a1)] [] := by first | (simp [entryFrame, mkF, argsToLocals, Value.category]; done) | rfl
def Q2 (Z : State) (a1 : Addr) (h0 : Heap) (n0 : Nat) (v : Option Value) (h : Heap) (L : List Loc) : Prop := v = none ∧ Fr n0 L ∧ Keep h0 h [a1] ∧ Fld Z h a1 "com/example/muster/muster/xml/TextPosition" "line" "I" (.int (1 : Int32)) ∧ Fld Z h a1 "com/example/muster/muster/xml/TextPosition" "column" "I" (.int (1 : Int32)) ∧ Fld Z h a1 "com/example/muster/muster/xml/TextPosition" "afterCarriageReturn" "Z" (.int (0 : Int32))
set_option maxRecDepth 65536 in
set_option maxHeartbeats 40000000 in
theorem rm2 (l : Launch) (Z : State) (a0 : Array Value) (hw : ∀ d ∈ tables_1, d.before a0 Z = true) (ws : List Jvm.Cond) (a1 : Addr) (h0 : Heap) (n0 : Nat) (Z0 : n0 ≤ h0.size) (A_a : Exa Z h0 a1 "com/example/muster/muster/xml/TextPosition") (F_line : Fld Z h0 a1 "com/example/muster/muster/xml/TextPosition" "line" "I" (.int (0 : Int32))) (F_column : Fld Z h0 a1 "com/example/muster/muster/xml/TextPosition" "column" "I" (.int (0 : Int32))) (F_afterCarriageReturn : Fld Z h0 a1 "com/example/muster/muster/xml/TextPosition" "afterCarriageReturn" "Z" (.int (0 : Int32))) (ga : n0 ≤ a1) :
    MetFree l (⟨"com/example/muster/muster/xml/TextPosition", "<init>", "()V"⟩ : MethodName) (head1 (Jvm.Cond.code (⟨"com/example/muster/muster/xml/TextPosition", "<init>", "()V"⟩ : MethodName) prog_33_method_1_code 1 none :: ws) ({ frames := 1, cells := 0, slots := 0, locals := 12 } : Room)) (fun a U => a = #[(.ref a1)] ∧ Z.Warmed39 U.vm ∧ U.heap = h0) (fun _ _ _ _ _ => True) (fun _ U o U' => ∃ v L, o = .returned v ∧ Q2 Z a1 h0 n0 v U'.heap L ∧ FrameEnd U o U' L ({ frames := 1, cells := 0, slots := 0, locals := 12 } : Room).cells ({ frames := 1, cells := 0, slots := 0, locals := 12 } : Room).slots) := by
  refine MetFree.of_bodySF pn2 hisR ?_
  intro p e s m args below meth c s₁ Bd hml0 hP hK
  obtain ⟨rfl, hZ, hh⟩ := hP
  have hx := Bd.exec
  have hby := Bd.bytes
  have hlk : meth.locks = false := BodyLoose.notSynchronized Bd
  have hml : c.maxLocals = 1 := hml0
  have hown : s.vm.findClass "com/example/muster/muster/xml/TextPosition" = some m.cls := findClass_of_methodNamed Bd.named
  have hnm := (name_of_methodNamed Bd.named Bd.method).1
  have X0 : Stand p l e ({ frames := 1, cells := 0, slots := 0, locals := 12 } : Room) s m #[(.ref a1)] below meth c s₁ [] 0 0 := Stand.of_body Bd
  have e0 : s₁.heap = h0 := by rw [← hh, Bd.state]; rfl
  have N0 := Fr.nil n0
  have K0 : Keep h0 h0 [a1] := Keep.refl _ _
  rw [ef2 m a1]
  show own_Go p e below (own_End s (Q2 Z a1 h0 n0) ({ frames := 1, cells := 0, slots := 0, locals := 12 } : Room).cells ({ frames := 1, cells := 0, slots := 0, locals := 12 } : Room).slots) s₁ (mkF m 0 #[.val (.ref a1)] [])
  refine own_aloadN X0 hx (hb hby d2_0) (pc' := 1) rfl rfl rfl ?_
  obtain ⟨T_1, X_1, e_1, st_1⟩ := initO X0 hx hZ hown (hw _ (List.mem_of_getElem? (i := 10) rfl)) (hw _ (List.mem_of_getElem? (i := 11) rfl)) (hw _ (List.mem_of_getElem? (i := 12) rfl)) e0 (g := (mkF m 1 #[.val (.ref a1)] [(.ref a1)])) rfl (by rw [hml]; rfl) rfl (hb hby d2_1) (by decide) (W := 0) (by show 2 * 0 + _ ≤ _; exact Nat.le_of_eq rfl) (by decide)
  refine own_st st_1 ?_
  show own_Go p e below _ T_1 (mkF m 4 #[.val (.ref a1)] [])
  refine own_aloadN X_1 hx (hb hby d2_4) (pc' := 5) rfl rfl rfl ?_
  refine own_iconst X_1 hx (1) (hb hby d2_5) (pc' := 6) rfl rfl ?_
  obtain ⟨T_2, h_2, X_2, e_2, W_2, st_2⟩ := putF X_1 hx hZ hown (host := "") (Or.inl (hw _ (List.mem_of_getElem? (i := 13) rfl))) Via.refl e_1 F_line A_a (Or.inl (hw _ (List.mem_of_getElem? (i := 14) rfl))) (hw _ (List.mem_of_getElem? (i := 5) rfl)) (ty := .int) (by decide) rfl rfl (g := (mkF m 6 #[.val (.ref a1)] [(.int (1 : Int32)), (.ref a1)])) rfl rfl (hb hby d2_6)
  have F_3 : Fld Z h_2 a1 "com/example/muster/muster/xml/TextPosition" "line" "I" (.int (1 : Int32)) := F_line.same W_2
  have A_5 : Exa Z h_2 a1 "com/example/muster/muster/xml/TextPosition" := A_a.wr W_2
  have F_6 : Fld Z h_2 a1 "com/example/muster/muster/xml/TextPosition" "column" "I" (.int (0 : Int32)) := F_column.other W_2 (Or.inr (RoadKit.slot_ne (Or.inl (hw _ (List.mem_of_getElem? (i := 16) rfl))) (Or.inl (hw _ (List.mem_of_getElem? (i := 14) rfl))) (by decide) (t := .int) (t' := .int) (by decide) (by decide)))
  have F_7 : Fld Z h_2 a1 "com/example/muster/muster/xml/TextPosition" "afterCarriageReturn" "Z" (.int (0 : Int32)) := F_afterCarriageReturn.other W_2 (Or.inr (RoadKit.slot_ne (Or.inl (hw _ (List.mem_of_getElem? (i := 23) rfl))) (Or.inl (hw _ (List.mem_of_getElem? (i := 14) rfl))) (by decide) (t := .boolean) (t' := .int) (by decide) (by decide)))
  have Z_4 : n0 ≤ h_2.size := by rw [W_2.size]; exact Z0
  have K_4 : Keep h0 h_2 [a1] := K0.wr W_2 (Or.inl (List.mem_of_getElem? (i := 0) rfl))
  have N_2 := Fr.snoc X_2 N0 ga
  refine own_st st_2 ?_
  show own_Go p e below _ T_2 (mkF m 9 #[.val (.ref a1)] [])
  refine own_aloadN X_2 hx (hb hby d2_9) (pc' := 10) rfl rfl rfl ?_
  refine own_iconst X_2 hx (1) (hb hby d2_10) (pc' := 11) rfl rfl ?_
  obtain ⟨T_8, h_8, X_8, e_8, W_8, st_8⟩ := putF X_2 hx hZ hown (host := "") (Or.inl (hw _ (List.mem_of_getElem? (i := 15) rfl))) Via.refl e_2 F_6 A_5 (Or.inl (hw _ (List.mem_of_getElem? (i := 16) rfl))) (hw _ (List.mem_of_getElem? (i := 5) rfl)) (ty := .int) (by decide) rfl rfl (g := (mkF m 11 #[.val (.ref a1)] [(.int (1 : Int32)), (.ref a1)])) rfl rfl (hb hby d2_11)
  have F_9 : Fld Z h_8 a1 "com/example/muster/muster/xml/TextPosition" "column" "I" (.int (1 : Int32)) := F_6.same W_8
  have F_11 : Fld Z h_8 a1 "com/example/muster/muster/xml/TextPosition" "line" "I" (.int (1 : Int32)) := F_3.other W_8 (Or.inr (RoadKit.slot_ne (Or.inl (hw _ (List.mem_of_getElem? (i := 14) rfl))) (Or.inl (hw _ (List.mem_of_getElem? (i := 16) rfl))) (by decide) (t := .int) (t' := .int) (by decide) (by decide)))
  have A_12 : Exa Z h_8 a1 "com/example/muster/muster/xml/TextPosition" := A_5.wr W_8
  have F_13 : Fld Z h_8 a1 "com/example/muster/muster/xml/TextPosition" "afterCarriageReturn" "Z" (.int (0 : Int32)) := F_7.other W_8 (Or.inr (RoadKit.slot_ne (Or.inl (hw _ (List.mem_of_getElem? (i := 23) rfl))) (Or.inl (hw _ (List.mem_of_getElem? (i := 16) rfl))) (by decide) (t := .boolean) (t' := .int) (by decide) (by decide)))
  have Z_10 : n0 ≤ h_8.size := by rw [W_8.size]; exact Z_4
  have K_10 : Keep h0 h_8 [a1] := K_4.wr W_8 (Or.inl (List.mem_of_getElem? (i := 0) rfl))
  have N_8 := Fr.snoc X_8 N_2 ga
  refine own_st st_8 ?_
  show own_Go p e below _ T_8 (mkF m 14 #[.val (.ref a1)] [])
  refine own_retV X_8 hx hlk Bd.returns (hb hby d2_14) (by decide) (by decide) ?_
  rw [e_8]
  exact ⟨rfl, N_8, K_10, F_11, F_9, F_13⟩
theorem d3_0 : decode prog_33_method_2_code 0 = .ok (.iload_n 1, 1) := by decide +kernel
theorem d3_1 : decode prog_33_method_2_code 1 = .ok (.bipush 10, 2) := by decide +kernel
theorem d3_3 : decode prog_33_method_2_code 3 = .ok (.if_icmp .ne 13, 3) := by decide +kernel
theorem d3_6 : decode prog_33_method_2_code 6 = .ok (.aload_n 0, 1) := by decide +kernel
theorem d3_7 : decode prog_33_method_2_code 7 = .ok (.getfield 16, 3) := by decide +kernel
theorem d3_10 : decode prog_33_method_2_code 10 = .ok (.ifCond .eq 6, 3) := by decide +kernel
theorem d3_16 : decode prog_33_method_2_code 16 = .ok (.iload_n 1, 1) := by decide +kernel
theorem d3_17 : decode prog_33_method_2_code 17 = .ok (.bipush 10, 2) := by decide +kernel
theorem d3_19 : decode prog_33_method_2_code 19 = .ok (.if_icmp .eq 9, 3) := by decide +kernel
theorem d3_28 : decode prog_33_method_2_code 28 = .ok (.aload_n 0, 1) := by decide +kernel
theorem d3_29 : decode prog_33_method_2_code 29 = .ok (.dup, 1) := by decide +kernel
theorem d3_30 : decode prog_33_method_2_code 30 = .ok (.getfield 7, 3) := by decide +kernel
theorem d3_33 : decode prog_33_method_2_code 33 = .ok (.iconst 1, 1) := by decide +kernel
theorem d3_34 : decode prog_33_method_2_code 34 = .ok (.iadd, 1) := by decide +kernel
theorem d3_35 : decode prog_33_method_2_code 35 = .ok (.putfield 7, 3) := by decide +kernel
theorem d3_38 : decode prog_33_method_2_code 38 = .ok (.aload_n 0, 1) := by decide +kernel
theorem d3_39 : decode prog_33_method_2_code 39 = .ok (.iconst 1, 1) := by decide +kernel
theorem d3_40 : decode prog_33_method_2_code 40 = .ok (.putfield 13, 3) := by decide +kernel
theorem d3_43 : decode prog_33_method_2_code 43 = .ok (.goto 13, 3) := by decide +kernel
theorem d3_56 : decode prog_33_method_2_code 56 = .ok (.aload_n 0, 1) := by decide +kernel
theorem d3_57 : decode prog_33_method_2_code 57 = .ok (.iload_n 1, 1) := by decide +kernel
theorem d3_58 : decode prog_33_method_2_code 58 = .ok (.bipush 13, 2) := by decide +kernel
theorem d3_60 : decode prog_33_method_2_code 60 = .ok (.if_icmp .ne 7, 3) := by decide +kernel
theorem d3_67 : decode prog_33_method_2_code 67 = .ok (.iconst 0, 1) := by decide +kernel
theorem d3_68 : decode prog_33_method_2_code 68 = .ok (.putfield 16, 3) := by decide +kernel
theorem d3_71 : decode prog_33_method_2_code 71 = .ok (.return_, 1) := by decide +kernel
theorem d3_13 : decode prog_33_method_2_code 13 = .ok (.goto 43, 3) := by decide +kernel
theorem d3_22 : decode prog_33_method_2_code 22 = .ok (.iload_n 1, 1) := by decide +kernel
theorem d3_23 : decode prog_33_method_2_code 23 = .ok (.bipush 13, 2) := by decide +kernel
theorem d3_25 : decode prog_33_method_2_code 25 = .ok (.if_icmp .ne 21, 3) := by decide +kernel
theorem d3_63 : decode prog_33_method_2_code 63 = .ok (.iconst 1, 1) := by decide +kernel
theorem d3_64 : decode prog_33_method_2_code 64 = .ok (.goto 4, 3) := by decide +kernel
theorem d3_46 : decode prog_33_method_2_code 46 = .ok (.aload_n 0, 1) := by decide +kernel
theorem d3_47 : decode prog_33_method_2_code 47 = .ok (.dup, 1) := by decide +kernel
theorem d3_48 : decode prog_33_method_2_code 48 = .ok (.getfield 13, 3) := by decide +kernel
theorem d3_51 : decode prog_33_method_2_code 51 = .ok (.iconst 1, 1) := by decide +kernel
theorem d3_52 : decode prog_33_method_2_code 52 = .ok (.iadd, 1) := by decide +kernel
theorem d3_53 : decode prog_33_method_2_code 53 = .ok (.putfield 13, 3) := by decide +kernel
theorem pn3 : plainFor (⟨"com/example/muster/muster/xml/TextPosition", "advance", "(C)V"⟩ : MethodName) = true := by first | exact plainFor_of_name (by first | (simp [plainName, overriddenIn]; done) | decide +kernel) | decide +kernel
theorem ef3 (m : MethodId) (a1 : Addr) (ch : Int32) : entryFrame m #[(.ref a1), (.int ch)] 2 = mkF m 0 #[.val (.ref a1), .val (.int ch)] [] := by first | (simp [entryFrame, mkF, argsToLocals, Value.category]; done) | rfl
def Q3 (Z : State) (a1 : Addr) (ch : Int32) (ln : Int32) (co : Int32) (cr : Int32) (h0 : Heap) (n0 : Nat) (v : Option Value) (h : Heap) (L : List Loc) : Prop := v = none ∧ Fr n0 L ∧ Keep h0 h [a1] ∧ Fld Z h a1 "com/example/muster/muster/xml/TextPosition" "line" "I" (.int (own_ln ch cr ln)) ∧ Fld Z h a1 "com/example/muster/muster/xml/TextPosition" "column" "I" (.int (own_co ch cr co)) ∧ Fld Z h a1 "com/example/muster/muster/xml/TextPosition" "afterCarriageReturn" "Z" (.int (own_b (ch = 13)))
set_option maxRecDepth 65536 in
set_option maxHeartbeats 40000000 in
theorem rm3 (l : Launch) (Z : State) (a0 : Array Value) (hw : ∀ d ∈ tables_1, d.before a0 Z = true) (ws : List Jvm.Cond) (a1 : Addr) (ch : Int32) (ln : Int32) (co : Int32) (cr : Int32) (h0 : Heap) (n0 : Nat) (Z0 : n0 ≤ h0.size) (A_a : Exa Z h0 a1 "com/example/muster/muster/xml/TextPosition") (F_line : Fld Z h0 a1 "com/example/muster/muster/xml/TextPosition" "line" "I" (.int ln)) (F_column : Fld Z h0 a1 "com/example/muster/muster/xml/TextPosition" "column" "I" (.int co)) (F_afterCarriageReturn : Fld Z h0 a1 "com/example/muster/muster/xml/TextPosition" "afterCarriageReturn" "Z" (.int cr)) (ga : n0 ≤ a1) :
    MetFree l (⟨"com/example/muster/muster/xml/TextPosition", "advance", "(C)V"⟩ : MethodName) (head1 (Jvm.Cond.code (⟨"com/example/muster/muster/xml/TextPosition", "advance", "(C)V"⟩ : MethodName) prog_33_method_2_code 2 none :: ws) ({ frames := 0, cells := 0, slots := 0, locals := 0 } : Room)) (fun a U => a = #[(.ref a1), (.int ch)] ∧ Z.Warmed39 U.vm ∧ U.heap = h0) (fun _ _ _ _ _ => True) (fun _ U o U' => ∃ v L, o = .returned v ∧ Q3 Z a1 ch ln co cr h0 n0 v U'.heap L ∧ FrameEnd U o U' L ({ frames := 0, cells := 0, slots := 0, locals := 0 } : Room).cells ({ frames := 0, cells := 0, slots := 0, locals := 0 } : Room).slots) := by
  refine MetFree.of_bodySF pn3 hisR ?_
  intro p e s m args below meth c s₁ Bd hml0 hP hK
  obtain ⟨rfl, hZ, hh⟩ := hP
  have hx := Bd.exec
  have hby := Bd.bytes
  have hlk : meth.locks = false := BodyLoose.notSynchronized Bd
  have hml : c.maxLocals = 2 := hml0
  have hown : s.vm.findClass "com/example/muster/muster/xml/TextPosition" = some m.cls := findClass_of_methodNamed Bd.named
  have hnm := (name_of_methodNamed Bd.named Bd.method).1
  have X0 : Stand p l e ({ frames := 0, cells := 0, slots := 0, locals := 0 } : Room) s m #[(.ref a1), (.int ch)] below meth c s₁ [] 0 0 := Stand.of_body Bd
  have e0 : s₁.heap = h0 := by rw [← hh, Bd.state]; rfl
  have N0 := Fr.nil n0
  have K0 : Keep h0 h0 [a1] := Keep.refl _ _
  rw [ef3 m a1 ch]
  show own_Go p e below (own_End s (Q3 Z a1 ch ln co cr h0 n0) ({ frames := 0, cells := 0, slots := 0, locals := 0 } : Room).cells ({ frames := 0, cells := 0, slots := 0, locals := 0 } : Room).slots) s₁ (mkF m 0 #[.val (.ref a1), .val (.int ch)] [])
  refine own_iloadN X0 hx (hb hby d3_0) (pc' := 1) rfl rfl ?_
  refine own_bipush X0 hx (10) (hb hby d3_1) (pc' := 3) rfl (by decide) ?_
  by_cases c_1 : ch = (10 : Int32)
  · skip
    refine own_icmpN X0 hx (hb hby d3_3) (XT.ii_ne_f c_1) (pc' := 6) rfl ?_
    refine own_aloadN X0 hx (hb hby d3_6) (pc' := 7) rfl rfl rfl ?_
    obtain ⟨T_2, X_2, e_2, st_2⟩ := getF X0 hx hZ hown (host := "") (Or.inl (hw _ (List.mem_of_getElem? (i := 22) rfl))) Via.refl e0 F_afterCarriageReturn (g := (mkF m 7 #[.val (.ref a1), .val (.int ch)] [(.ref a1)])) rfl rfl (hb hby d3_7)
    refine own_st st_2 ?_
    show own_Go p e below _ T_2 (mkF m 10 #[.val (.ref a1), .val (.int ch)] [(.int cr)])
    by_cases c_3 : cr = (0 : Int32)
    · skip
      refine own_ifY X_2 hx (hb hby d3_10) (XT.i0_eq_t c_3) (pc' := 16) (by decide) (by decide) ?_
      refine own_iloadN X_2 hx (hb hby d3_16) (pc' := 17) rfl rfl ?_
      refine own_bipush X_2 hx (10) (hb hby d3_17) (pc' := 19) rfl (by decide) ?_
      refine own_icmpY X_2 hx (hb hby d3_19) (XT.ii_eq_t c_1) (pc' := 28) (by decide) (by decide) ?_
      refine own_aloadN X_2 hx (hb hby d3_28) (pc' := 29) rfl rfl rfl ?_
      refine own_dup X_2 hx (hb hby d3_29) (pc' := 30) rfl rfl ?_
      obtain ⟨T_4, X_4, e_4, st_4⟩ := getF X_2 hx hZ hown (host := "") (Or.inl (hw _ (List.mem_of_getElem? (i := 13) rfl))) Via.refl e_2 F_line (g := (mkF m 30 #[.val (.ref a1), .val (.int ch)] [(.ref a1), (.ref a1)])) rfl rfl (hb hby d3_30)
      refine own_st st_4 ?_
      show own_Go p e below _ T_4 (mkF m 33 #[.val (.ref a1), .val (.int ch)] [(.int ln), (.ref a1)])
      refine own_iconst X_4 hx (1) (hb hby d3_33) (pc' := 34) rfl rfl ?_
      refine own_iadd X_4 hx (hb hby d3_34) (pc' := 35) rfl ?_
      obtain ⟨T_5, h_5, X_5, e_5, W_5, st_5⟩ := putF X_4 hx hZ hown (host := "") (Or.inl (hw _ (List.mem_of_getElem? (i := 13) rfl))) Via.refl e_4 F_line A_a (Or.inl (hw _ (List.mem_of_getElem? (i := 14) rfl))) (hw _ (List.mem_of_getElem? (i := 5) rfl)) (ty := .int) (by decide) rfl rfl (g := (mkF m 35 #[.val (.ref a1), .val (.int ch)] [(.int (ln + (1 : Int32))), (.ref a1)])) rfl rfl (hb hby d3_35)
      have F_6 : Fld Z h_5 a1 "com/example/muster/muster/xml/TextPosition" "line" "I" (.int (ln + (1 : Int32))) := F_line.same W_5
      have A_8 : Exa Z h_5 a1 "com/example/muster/muster/xml/TextPosition" := A_a.wr W_5
      have F_9 : Fld Z h_5 a1 "com/example/muster/muster/xml/TextPosition" "column" "I" (.int co) := F_column.other W_5 (Or.inr (RoadKit.slot_ne (Or.inl (hw _ (List.mem_of_getElem? (i := 16) rfl))) (Or.inl (hw _ (List.mem_of_getElem? (i := 14) rfl))) (by decide) (t := .int) (t' := .int) (by decide) (by decide)))
      have F_10 : Fld Z h_5 a1 "com/example/muster/muster/xml/TextPosition" "afterCarriageReturn" "Z" (.int cr) := F_afterCarriageReturn.other W_5 (Or.inr (RoadKit.slot_ne (Or.inl (hw _ (List.mem_of_getElem? (i := 23) rfl))) (Or.inl (hw _ (List.mem_of_getElem? (i := 14) rfl))) (by decide) (t := .boolean) (t' := .int) (by decide) (by decide)))
      have Z_7 : n0 ≤ h_5.size := by rw [W_5.size]; exact Z0
      have K_7 : Keep h0 h_5 [a1] := K0.wr W_5 (Or.inl (List.mem_of_getElem? (i := 0) rfl))
      have N_5 := Fr.snoc X_5 N0 ga
      refine own_st st_5 ?_
      show own_Go p e below _ T_5 (mkF m 38 #[.val (.ref a1), .val (.int ch)] [])
      refine own_aloadN X_5 hx (hb hby d3_38) (pc' := 39) rfl rfl rfl ?_
      refine own_iconst X_5 hx (1) (hb hby d3_39) (pc' := 40) rfl rfl ?_
      obtain ⟨T_11, h_11, X_11, e_11, W_11, st_11⟩ := putF X_5 hx hZ hown (host := "") (Or.inl (hw _ (List.mem_of_getElem? (i := 15) rfl))) Via.refl e_5 F_9 A_8 (Or.inl (hw _ (List.mem_of_getElem? (i := 16) rfl))) (hw _ (List.mem_of_getElem? (i := 5) rfl)) (ty := .int) (by decide) rfl rfl (g := (mkF m 40 #[.val (.ref a1), .val (.int ch)] [(.int (1 : Int32)), (.ref a1)])) rfl rfl (hb hby d3_40)
      have F_12 : Fld Z h_11 a1 "com/example/muster/muster/xml/TextPosition" "column" "I" (.int (1 : Int32)) := F_9.same W_11
      have F_14 : Fld Z h_11 a1 "com/example/muster/muster/xml/TextPosition" "line" "I" (.int (ln + (1 : Int32))) := F_6.other W_11 (Or.inr (RoadKit.slot_ne (Or.inl (hw _ (List.mem_of_getElem? (i := 14) rfl))) (Or.inl (hw _ (List.mem_of_getElem? (i := 16) rfl))) (by decide) (t := .int) (t' := .int) (by decide) (by decide)))
      have A_15 : Exa Z h_11 a1 "com/example/muster/muster/xml/TextPosition" := A_8.wr W_11
      have F_16 : Fld Z h_11 a1 "com/example/muster/muster/xml/TextPosition" "afterCarriageReturn" "Z" (.int cr) := F_10.other W_11 (Or.inr (RoadKit.slot_ne (Or.inl (hw _ (List.mem_of_getElem? (i := 23) rfl))) (Or.inl (hw _ (List.mem_of_getElem? (i := 16) rfl))) (by decide) (t := .boolean) (t' := .int) (by decide) (by decide)))
      have Z_13 : n0 ≤ h_11.size := by rw [W_11.size]; exact Z_7
      have K_13 : Keep h0 h_11 [a1] := K_7.wr W_11 (Or.inl (List.mem_of_getElem? (i := 0) rfl))
      have N_11 := Fr.snoc X_11 N_5 ga
      refine own_st st_11 ?_
      show own_Go p e below _ T_11 (mkF m 43 #[.val (.ref a1), .val (.int ch)] [])
      refine own_goto X_11 hx (hb hby d3_43) (pc' := 56) (by decide) (by decide) ?_
      refine own_aloadN X_11 hx (hb hby d3_56) (pc' := 57) rfl rfl rfl ?_
      refine own_iloadN X_11 hx (hb hby d3_57) (pc' := 58) rfl rfl ?_
      refine own_bipush X_11 hx (13) (hb hby d3_58) (pc' := 60) rfl (by decide) ?_
      by_cases c_17 : ch = (13 : Int32)
      · skip
        exact absurd (c_1.symm.trans c_17) (by decide)
      · skip
        refine own_icmpY X_11 hx (hb hby d3_60) (XT.ii_ne_t c_17) (pc' := 67) (by decide) (by decide) ?_
        refine own_iconst X_11 hx (0) (hb hby d3_67) (pc' := 68) rfl rfl ?_
        obtain ⟨T_18, h_18, X_18, e_18, W_18, st_18⟩ := putF X_11 hx hZ hown (host := "") (Or.inl (hw _ (List.mem_of_getElem? (i := 22) rfl))) Via.refl e_11 F_16 A_15 (Or.inl (hw _ (List.mem_of_getElem? (i := 23) rfl))) (hw _ (List.mem_of_getElem? (i := 5) rfl)) (ty := .boolean) (by decide) rfl rfl (g := (mkF m 68 #[.val (.ref a1), .val (.int ch)] [(.int (0 : Int32)), (.ref a1)])) rfl rfl (hb hby d3_68)
        have F_19 : Fld Z h_18 a1 "com/example/muster/muster/xml/TextPosition" "afterCarriageReturn" "Z" (.int (0 : Int32)) := F_16.same W_18
        have F_21 : Fld Z h_18 a1 "com/example/muster/muster/xml/TextPosition" "column" "I" (.int (1 : Int32)) := F_12.other W_18 (Or.inr (RoadKit.slot_ne (Or.inl (hw _ (List.mem_of_getElem? (i := 16) rfl))) (Or.inl (hw _ (List.mem_of_getElem? (i := 23) rfl))) (by decide) (t := .int) (t' := .boolean) (by decide) (by decide)))
        have F_22 : Fld Z h_18 a1 "com/example/muster/muster/xml/TextPosition" "line" "I" (.int (ln + (1 : Int32))) := F_14.other W_18 (Or.inr (RoadKit.slot_ne (Or.inl (hw _ (List.mem_of_getElem? (i := 14) rfl))) (Or.inl (hw _ (List.mem_of_getElem? (i := 23) rfl))) (by decide) (t := .int) (t' := .boolean) (by decide) (by decide)))
        have A_23 : Exa Z h_18 a1 "com/example/muster/muster/xml/TextPosition" := A_15.wr W_18
        have Z_20 : n0 ≤ h_18.size := by rw [W_18.size]; exact Z_13
        have K_20 : Keep h0 h_18 [a1] := K_13.wr W_18 (Or.inl (List.mem_of_getElem? (i := 0) rfl))
        have N_18 := Fr.snoc X_18 N_11 ga
        refine own_st st_18 ?_
        show own_Go p e below _ T_18 (mkF m 71 #[.val (.ref a1), .val (.int ch)] [])
        refine own_retV X_18 hx hlk Bd.returns (hb hby d3_71) (by decide) (by decide) ?_
        rw [e_18]
        exact ⟨rfl, N_18, K_20, (by rw [show (own_ln ch cr ln) = (ln + (1 : Int32)) from by simp [own_ln, own_co, own_b, c_1, c_3, c_17]]; exact F_22), (by rw [show (own_co ch cr co) = (1 : Int32) from by simp [own_ln, own_co, own_b, c_1, c_3, c_17]]; exact F_21), (by rw [show (own_b (ch = 13)) = (0 : Int32) from by simp [own_ln, own_co, own_b, c_1, c_3, c_17]]; exact F_19)⟩
    · skip
      refine own_ifN X_2 hx (hb hby d3_10) (XT.i0_eq_f c_3) (pc' := 13) rfl ?_
      refine own_goto X_2 hx (hb hby d3_13) (pc' := 56) (by decide) (by decide) ?_
      refine own_aloadN X_2 hx (hb hby d3_56) (pc' := 57) rfl rfl rfl ?_
      refine own_iloadN X_2 hx (hb hby d3_57) (pc' := 58) rfl rfl ?_
      refine own_bipush X_2 hx (13) (hb hby d3_58) (pc' := 60) rfl (by decide) ?_
      by_cases c_24 : ch = (13 : Int32)
      · skip
        exact absurd (c_1.symm.trans c_24) (by decide)
      · skip
        refine own_icmpY X_2 hx (hb hby d3_60) (XT.ii_ne_t c_24) (pc' := 67) (by decide) (by decide) ?_
        refine own_iconst X_2 hx (0) (hb hby d3_67) (pc' := 68) rfl rfl ?_
        obtain ⟨T_25, h_25, X_25, e_25, W_25, st_25⟩ := putF X_2 hx hZ hown (host := "") (Or.inl (hw _ (List.mem_of_getElem? (i := 22) rfl))) Via.refl e_2 F_afterCarriageReturn A_a (Or.inl (hw _ (List.mem_of_getElem? (i := 23) rfl))) (hw _ (List.mem_of_getElem? (i := 5) rfl)) (ty := .boolean) (by decide) rfl rfl (g := (mkF m 68 #[.val (.ref a1), .val (.int ch)] [(.int (0 : Int32)), (.ref a1)])) rfl rfl (hb hby d3_68)
        have F_26 : Fld Z h_25 a1 "com/example/muster/muster/xml/TextPosition" "afterCarriageReturn" "Z" (.int (0 : Int32)) := F_afterCarriageReturn.same W_25
        have A_28 : Exa Z h_25 a1 "com/example/muster/muster/xml/TextPosition" := A_a.wr W_25
        have F_29 : Fld Z h_25 a1 "com/example/muster/muster/xml/TextPosition" "line" "I" (.int ln) := F_line.other W_25 (Or.inr (RoadKit.slot_ne (Or.inl (hw _ (List.mem_of_getElem? (i := 14) rfl))) (Or.inl (hw _ (List.mem_of_getElem? (i := 23) rfl))) (by decide) (t := .int) (t' := .boolean) (by decide) (by decide)))
        have F_30 : Fld Z h_25 a1 "com/example/muster/muster/xml/TextPosition" "column" "I" (.int co) := F_column.other W_25 (Or.inr (RoadKit.slot_ne (Or.inl (hw _ (List.mem_of_getElem? (i := 16) rfl))) (Or.inl (hw _ (List.mem_of_getElem? (i := 23) rfl))) (by decide) (t := .int) (t' := .boolean) (by decide) (by decide)))
        have Z_27 : n0 ≤ h_25.size := by rw [W_25.size]; exact Z0
        have K_27 : Keep h0 h_25 [a1] := K0.wr W_25 (Or.inl (List.mem_of_getElem? (i := 0) rfl))
        have N_25 := Fr.snoc X_25 N0 ga
        refine own_st st_25 ?_
        show own_Go p e below _ T_25 (mkF m 71 #[.val (.ref a1), .val (.int ch)] [])
        refine own_retV X_25 hx hlk Bd.returns (hb hby d3_71) (by decide) (by decide) ?_
        rw [e_25]
        exact ⟨rfl, N_25, K_27, (by rw [show (own_ln ch cr ln) = ln from by simp [own_ln, own_co, own_b, c_1, c_3, c_24]]; exact F_29), (by rw [show (own_co ch cr co) = co from by simp [own_ln, own_co, own_b, c_1, c_3, c_24]]; exact F_30), (by rw [show (own_b (ch = 13)) = (0 : Int32) from by simp [own_ln, own_co, own_b, c_1, c_3, c_24]]; exact F_26)⟩
  · skip
    refine own_icmpY X0 hx (hb hby d3_3) (XT.ii_ne_t c_1) (pc' := 16) (by decide) (by decide) ?_
    refine own_iloadN X0 hx (hb hby d3_16) (pc' := 17) rfl rfl ?_
    refine own_bipush X0 hx (10) (hb hby d3_17) (pc' := 19) rfl (by decide) ?_
    refine own_icmpN X0 hx (hb hby d3_19) (XT.ii_eq_f c_1) (pc' := 22) rfl ?_
    refine own_iloadN X0 hx (hb hby d3_22) (pc' := 23) rfl rfl ?_
    refine own_bipush X0 hx (13) (hb hby d3_23) (pc' := 25) rfl (by decide) ?_
    by_cases c_31 : ch = (13 : Int32)
    · skip
      refine own_icmpN X0 hx (hb hby d3_25) (XT.ii_ne_f c_31) (pc' := 28) rfl ?_
      refine own_aloadN X0 hx (hb hby d3_28) (pc' := 29) rfl rfl rfl ?_
      refine own_dup X0 hx (hb hby d3_29) (pc' := 30) rfl rfl ?_
      obtain ⟨T_32, X_32, e_32, st_32⟩ := getF X0 hx hZ hown (host := "") (Or.inl (hw _ (List.mem_of_getElem? (i := 13) rfl))) Via.refl e0 F_line (g := (mkF m 30 #[.val (.ref a1), .val (.int ch)] [(.ref a1), (.ref a1)])) rfl rfl (hb hby d3_30)
      refine own_st st_32 ?_
      show own_Go p e below _ T_32 (mkF m 33 #[.val (.ref a1), .val (.int ch)] [(.int ln), (.ref a1)])
      refine own_iconst X_32 hx (1) (hb hby d3_33) (pc' := 34) rfl rfl ?_
      refine own_iadd X_32 hx (hb hby d3_34) (pc' := 35) rfl ?_
      obtain ⟨T_33, h_33, X_33, e_33, W_33, st_33⟩ := putF X_32 hx hZ hown (host := "") (Or.inl (hw _ (List.mem_of_getElem? (i := 13) rfl))) Via.refl e_32 F_line A_a (Or.inl (hw _ (List.mem_of_getElem? (i := 14) rfl))) (hw _ (List.mem_of_getElem? (i := 5) rfl)) (ty := .int) (by decide) rfl rfl (g := (mkF m 35 #[.val (.ref a1), .val (.int ch)] [(.int (ln + (1 : Int32))), (.ref a1)])) rfl rfl (hb hby d3_35)
      have F_34 : Fld Z h_33 a1 "com/example/muster/muster/xml/TextPosition" "line" "I" (.int (ln + (1 : Int32))) := F_line.same W_33
      have A_36 : Exa Z h_33 a1 "com/example/muster/muster/xml/TextPosition" := A_a.wr W_33
      have F_37 : Fld Z h_33 a1 "com/example/muster/muster/xml/TextPosition" "column" "I" (.int co) := F_column.other W_33 (Or.inr (RoadKit.slot_ne (Or.inl (hw _ (List.mem_of_getElem? (i := 16) rfl))) (Or.inl (hw _ (List.mem_of_getElem? (i := 14) rfl))) (by decide) (t := .int) (t' := .int) (by decide) (by decide)))
      have F_38 : Fld Z h_33 a1 "com/example/muster/muster/xml/TextPosition" "afterCarriageReturn" "Z" (.int cr) := F_afterCarriageReturn.other W_33 (Or.inr (RoadKit.slot_ne (Or.inl (hw _ (List.mem_of_getElem? (i := 23) rfl))) (Or.inl (hw _ (List.mem_of_getElem? (i := 14) rfl))) (by decide) (t := .boolean) (t' := .int) (by decide) (by decide)))
      have Z_35 : n0 ≤ h_33.size := by rw [W_33.size]; exact Z0
      have K_35 : Keep h0 h_33 [a1] := K0.wr W_33 (Or.inl (List.mem_of_getElem? (i := 0) rfl))
      have N_33 := Fr.snoc X_33 N0 ga
      refine own_st st_33 ?_
      show own_Go p e below _ T_33 (mkF m 38 #[.val (.ref a1), .val (.int ch)] [])
      refine own_aloadN X_33 hx (hb hby d3_38) (pc' := 39) rfl rfl rfl ?_
      refine own_iconst X_33 hx (1) (hb hby d3_39) (pc' := 40) rfl rfl ?_
      obtain ⟨T_39, h_39, X_39, e_39, W_39, st_39⟩ := putF X_33 hx hZ hown (host := "") (Or.inl (hw _ (List.mem_of_getElem? (i := 15) rfl))) Via.refl e_33 F_37 A_36 (Or.inl (hw _ (List.mem_of_getElem? (i := 16) rfl))) (hw _ (List.mem_of_getElem? (i := 5) rfl)) (ty := .int) (by decide) rfl rfl (g := (mkF m 40 #[.val (.ref a1), .val (.int ch)] [(.int (1 : Int32)), (.ref a1)])) rfl rfl (hb hby d3_40)
      have F_40 : Fld Z h_39 a1 "com/example/muster/muster/xml/TextPosition" "column" "I" (.int (1 : Int32)) := F_37.same W_39
      have F_42 : Fld Z h_39 a1 "com/example/muster/muster/xml/TextPosition" "line" "I" (.int (ln + (1 : Int32))) := F_34.other W_39 (Or.inr (RoadKit.slot_ne (Or.inl (hw _ (List.mem_of_getElem? (i := 14) rfl))) (Or.inl (hw _ (List.mem_of_getElem? (i := 16) rfl))) (by decide) (t := .int) (t' := .int) (by decide) (by decide)))
      have A_43 : Exa Z h_39 a1 "com/example/muster/muster/xml/TextPosition" := A_36.wr W_39
      have F_44 : Fld Z h_39 a1 "com/example/muster/muster/xml/TextPosition" "afterCarriageReturn" "Z" (.int cr) := F_38.other W_39 (Or.inr (RoadKit.slot_ne (Or.inl (hw _ (List.mem_of_getElem? (i := 23) rfl))) (Or.inl (hw _ (List.mem_of_getElem? (i := 16) rfl))) (by decide) (t := .boolean) (t' := .int) (by decide) (by decide)))
      have Z_41 : n0 ≤ h_39.size := by rw [W_39.size]; exact Z_35
      have K_41 : Keep h0 h_39 [a1] := K_35.wr W_39 (Or.inl (List.mem_of_getElem? (i := 0) rfl))
      have N_39 := Fr.snoc X_39 N_33 ga
      refine own_st st_39 ?_
      show own_Go p e below _ T_39 (mkF m 43 #[.val (.ref a1), .val (.int ch)] [])
      refine own_goto X_39 hx (hb hby d3_43) (pc' := 56) (by decide) (by decide) ?_
      refine own_aloadN X_39 hx (hb hby d3_56) (pc' := 57) rfl rfl rfl ?_
      refine own_iloadN X_39 hx (hb hby d3_57) (pc' := 58) rfl rfl ?_
      refine own_bipush X_39 hx (13) (hb hby d3_58) (pc' := 60) rfl (by decide) ?_
      refine own_icmpN X_39 hx (hb hby d3_60) (XT.ii_ne_f c_31) (pc' := 63) rfl ?_
      refine own_iconst X_39 hx (1) (hb hby d3_63) (pc' := 64) rfl rfl ?_
      refine own_goto X_39 hx (hb hby d3_64) (pc' := 68) (by decide) (by decide) ?_
      obtain ⟨T_45, h_45, X_45, e_45, W_45, st_45⟩ := putF X_39 hx hZ hown (host := "") (Or.inl (hw _ (List.mem_of_getElem? (i := 22) rfl))) Via.refl e_39 F_44 A_43 (Or.inl (hw _ (List.mem_of_getElem? (i := 23) rfl))) (hw _ (List.mem_of_getElem? (i := 5) rfl)) (ty := .boolean) (by decide) rfl rfl (g := (mkF m 68 #[.val (.ref a1), .val (.int ch)] [(.int (1 : Int32)), (.ref a1)])) rfl rfl (hb hby d3_68)
      have F_46 : Fld Z h_45 a1 "com/example/muster/muster/xml/TextPosition" "afterCarriageReturn" "Z" (.int (1 : Int32)) := F_44.same W_45
      have F_48 : Fld Z h_45 a1 "com/example/muster/muster/xml/TextPosition" "column" "I" (.int (1 : Int32)) := F_40.other W_45 (Or.inr (RoadKit.slot_ne (Or.inl (hw _ (List.mem_of_getElem? (i := 16) rfl))) (Or.inl (hw _ (List.mem_of_getElem? (i := 23) rfl))) (by decide) (t := .int) (t' := .boolean) (by decide) (by decide)))
      have F_49 : Fld Z h_45 a1 "com/example/muster/muster/xml/TextPosition" "line" "I" (.int (ln + (1 : Int32))) := F_42.other W_45 (Or.inr (RoadKit.slot_ne (Or.inl (hw _ (List.mem_of_getElem? (i := 14) rfl))) (Or.inl (hw _ (List.mem_of_getElem? (i := 23) rfl))) (by decide) (t := .int) (t' := .boolean) (by decide) (by decide)))
      have A_50 : Exa Z h_45 a1 "com/example/muster/muster/xml/TextPosition" := A_43.wr W_45
      have Z_47 : n0 ≤ h_45.size := by rw [W_45.size]; exact Z_41
      have K_47 : Keep h0 h_45 [a1] := K_41.wr W_45 (Or.inl (List.mem_of_getElem? (i := 0) rfl))
      have N_45 := Fr.snoc X_45 N_39 ga
      refine own_st st_45 ?_
      show own_Go p e below _ T_45 (mkF m 71 #[.val (.ref a1), .val (.int ch)] [])
      refine own_retV X_45 hx hlk Bd.returns (hb hby d3_71) (by decide) (by decide) ?_
      rw [e_45]
      exact ⟨rfl, N_45, K_47, (by rw [show (own_ln ch cr ln) = (ln + (1 : Int32)) from by simp [own_ln, own_co, own_b, c_1, c_31]]; exact F_49), (by rw [show (own_co ch cr co) = (1 : Int32) from by simp [own_ln, own_co, own_b, c_1, c_31]]; exact F_48), (by rw [show (own_b (ch = 13)) = (1 : Int32) from by simp [own_ln, own_co, own_b, c_1, c_31]]; exact F_46)⟩
    · skip
      refine own_icmpY X0 hx (hb hby d3_25) (XT.ii_ne_t c_31) (pc' := 46) (by decide) (by decide) ?_
      refine own_aloadN X0 hx (hb hby d3_46) (pc' := 47) rfl rfl rfl ?_
      refine own_dup X0 hx (hb hby d3_47) (pc' := 48) rfl rfl ?_
      obtain ⟨T_51, X_51, e_51, st_51⟩ := getF X0 hx hZ hown (host := "") (Or.inl (hw _ (List.mem_of_getElem? (i := 15) rfl))) Via.refl e0 F_column (g := (mkF m 48 #[.val (.ref a1), .val (.int ch)] [(.ref a1), (.ref a1)])) rfl rfl (hb hby d3_48)
      refine own_st st_51 ?_
      show own_Go p e below _ T_51 (mkF m 51 #[.val (.ref a1), .val (.int ch)] [(.int co), (.ref a1)])
      refine own_iconst X_51 hx (1) (hb hby d3_51) (pc' := 52) rfl rfl ?_
      refine own_iadd X_51 hx (hb hby d3_52) (pc' := 53) rfl ?_
      obtain ⟨T_52, h_52, X_52, e_52, W_52, st_52⟩ := putF X_51 hx hZ hown (host := "") (Or.inl (hw _ (List.mem_of_getElem? (i := 15) rfl))) Via.refl e_51 F_column A_a (Or.inl (hw _ (List.mem_of_getElem? (i := 16) rfl))) (hw _ (List.mem_of_getElem? (i := 5) rfl)) (ty := .int) (by decide) rfl rfl (g := (mkF m 53 #[.val (.ref a1), .val (.int ch)] [(.int (co + (1 : Int32))), (.ref a1)])) rfl rfl (hb hby d3_53)
      have F_53 : Fld Z h_52 a1 "com/example/muster/muster/xml/TextPosition" "column" "I" (.int (co + (1 : Int32))) := F_column.same W_52
      have A_55 : Exa Z h_52 a1 "com/example/muster/muster/xml/TextPosition" := A_a.wr W_52
      have F_56 : Fld Z h_52 a1 "com/example/muster/muster/xml/TextPosition" "line" "I" (.int ln) := F_line.other W_52 (Or.inr (RoadKit.slot_ne (Or.inl (hw _ (List.mem_of_getElem? (i := 14) rfl))) (Or.inl (hw _ (List.mem_of_getElem? (i := 16) rfl))) (by decide) (t := .int) (t' := .int) (by decide) (by decide)))
      have F_57 : Fld Z h_52 a1 "com/example/muster/muster/xml/TextPosition" "afterCarriageReturn" "Z" (.int cr) := F_afterCarriageReturn.other W_52 (Or.inr (RoadKit.slot_ne (Or.inl (hw _ (List.mem_of_getElem? (i := 23) rfl))) (Or.inl (hw _ (List.mem_of_getElem? (i := 16) rfl))) (by decide) (t := .boolean) (t' := .int) (by decide) (by decide)))
      have Z_54 : n0 ≤ h_52.size := by rw [W_52.size]; exact Z0
      have K_54 : Keep h0 h_52 [a1] := K0.wr W_52 (Or.inl (List.mem_of_getElem? (i := 0) rfl))
      have N_52 := Fr.snoc X_52 N0 ga
      refine own_st st_52 ?_
      show own_Go p e below _ T_52 (mkF m 56 #[.val (.ref a1), .val (.int ch)] [])
      refine own_aloadN X_52 hx (hb hby d3_56) (pc' := 57) rfl rfl rfl ?_
      refine own_iloadN X_52 hx (hb hby d3_57) (pc' := 58) rfl rfl ?_
      refine own_bipush X_52 hx (13) (hb hby d3_58) (pc' := 60) rfl (by decide) ?_
      refine own_icmpY X_52 hx (hb hby d3_60) (XT.ii_ne_t c_31) (pc' := 67) (by decide) (by decide) ?_
      refine own_iconst X_52 hx (0) (hb hby d3_67) (pc' := 68) rfl rfl ?_
      obtain ⟨T_58, h_58, X_58, e_58, W_58, st_58⟩ := putF X_52 hx hZ hown (host := "") (Or.inl (hw _ (List.mem_of_getElem? (i := 22) rfl))) Via.refl e_52 F_57 A_55 (Or.inl (hw _ (List.mem_of_getElem? (i := 23) rfl))) (hw _ (List.mem_of_getElem? (i := 5) rfl)) (ty := .boolean) (by decide) rfl rfl (g := (mkF m 68 #[.val (.ref a1), .val (.int ch)] [(.int (0 : Int32)), (.ref a1)])) rfl rfl (hb hby d3_68)
      have F_59 : Fld Z h_58 a1 "com/example/muster/muster/xml/TextPosition" "afterCarriageReturn" "Z" (.int (0 : Int32)) := F_57.same W_58
      have F_61 : Fld Z h_58 a1 "com/example/muster/muster/xml/TextPosition" "column" "I" (.int (co + (1 : Int32))) := F_53.other W_58 (Or.inr (RoadKit.slot_ne (Or.inl (hw _ (List.mem_of_getElem? (i := 16) rfl))) (Or.inl (hw _ (List.mem_of_getElem? (i := 23) rfl))) (by decide) (t := .int) (t' := .boolean) (by decide) (by decide)))
      have A_62 : Exa Z h_58 a1 "com/example/muster/muster/xml/TextPosition" := A_55.wr W_58
      have F_63 : Fld Z h_58 a1 "com/example/muster/muster/xml/TextPosition" "line" "I" (.int ln) := F_56.other W_58 (Or.inr (RoadKit.slot_ne (Or.inl (hw _ (List.mem_of_getElem? (i := 14) rfl))) (Or.inl (hw _ (List.mem_of_getElem? (i := 23) rfl))) (by decide) (t := .int) (t' := .boolean) (by decide) (by decide)))
      have Z_60 : n0 ≤ h_58.size := by rw [W_58.size]; exact Z_54
      have K_60 : Keep h0 h_58 [a1] := K_54.wr W_58 (Or.inl (List.mem_of_getElem? (i := 0) rfl))
      have N_58 := Fr.snoc X_58 N_52 ga
      refine own_st st_58 ?_
      show own_Go p e below _ T_58 (mkF m 71 #[.val (.ref a1), .val (.int ch)] [])
      refine own_retV X_58 hx hlk Bd.returns (hb hby d3_71) (by decide) (by decide) ?_
      rw [e_58]
      exact ⟨rfl, N_58, K_60, (by rw [show (own_ln ch cr ln) = ln from by simp [own_ln, own_co, own_b, c_1, c_31]]; exact F_63), (by rw [show (own_co ch cr co) = (co + (1 : Int32)) from by simp [own_ln, own_co, own_b, c_1, c_31]]; exact F_61), (by rw [show (own_b (ch = 13)) = (0 : Int32) from by simp [own_ln, own_co, own_b, c_1, c_31]]; exact F_59)⟩
theorem d4_0 : decode prog_33_method_3_code 0 = .ok (.aload_n 0, 1) := by decide +kernel
theorem d4_1 : decode prog_33_method_3_code 1 = .ok (.getfield 7, 3) := by decide +kernel
theorem d4_4 : decode prog_33_method_3_code 4 = .ok (.ireturn, 1) := by decide +kernel
theorem pn4 : plainFor (⟨"com/example/muster/muster/xml/TextPosition", "getLine", "()I"⟩ : MethodName) = true := by first | exact plainFor_of_name (by first | (simp [plainName, overriddenIn]; done) | decide +kernel) | decide +kernel
theorem ef4 (m : MethodId) (a1 : Addr) : entryFrame m #[(.ref a1)] 1 = mkF m 0 #[.val (.ref a1)] [] := by first | (simp [entryFrame, mkF, argsToLocals, Value.category]; done) | rfl
def Q4 (Z : State) (a1 : Addr) (ln : Int32) (h0 : Heap) (n0 : Nat) (v : Option Value) (h : Heap) (L : List Loc) : Prop := v = some (.int ln) ∧ Fr n0 L ∧ h = h0
set_option maxRecDepth 65536 in
set_option maxHeartbeats 40000000 in
theorem rm4 (l : Launch) (Z : State) (a0 : Array Value) (hw : ∀ d ∈ tables_1, d.before a0 Z = true) (ws : List Jvm.Cond) (a1 : Addr) (ln : Int32) (h0 : Heap) (n0 : Nat) (Z0 : n0 ≤ h0.size) (F_a : Fld Z h0 a1 "com/example/muster/muster/xml/TextPosition" "line" "I" (.int ln)) :
    MetFree l (⟨"com/example/muster/muster/xml/TextPosition", "getLine", "()I"⟩ : MethodName) (head1 (Jvm.Cond.code (⟨"com/example/muster/muster/xml/TextPosition", "getLine", "()I"⟩ : MethodName) prog_33_method_3_code 1 (some .int) :: ws) ({ frames := 0, cells := 0, slots := 0, locals := 0 } : Room)) (fun a U => a = #[(.ref a1)] ∧ Z.Warmed39 U.vm ∧ U.heap = h0) (fun _ _ _ _ _ => True) (fun _ U o U' => ∃ v L, o = .returned v ∧ Q4 Z a1 ln h0 n0 v U'.heap L ∧ FrameEnd U o U' L ({ frames := 0, cells := 0, slots := 0, locals := 0 } : Room).cells ({ frames := 0, cells := 0, slots := 0, locals := 0 } : Room).slots) := by
  refine MetFree.of_bodySF pn4 hisR ?_
  intro p e s m args below meth c s₁ Bd hml0 hP hK
  obtain ⟨rfl, hZ, hh⟩ := hP
  have hx := Bd.exec
  have hby := Bd.bytes
  have hlk : meth.locks = false := BodyLoose.notSynchronized Bd
  have hml : c.maxLocals = 1 := hml0
  have hown : s.vm.findClass "com/example/muster/muster/xml/TextPosition" = some m.cls := findClass_of_methodNamed Bd.named
  have hnm := (name_of_methodNamed Bd.named Bd.method).1
  have X0 : Stand p l e ({ frames := 0, cells := 0, slots := 0, locals := 0 } : Room) s m #[(.ref a1)] below meth c s₁ [] 0 0 := Stand.of_body Bd
  have e0 : s₁.heap = h0 := by rw [← hh, Bd.state]; rfl
  have N0 := Fr.nil n0
  rw [ef4 m a1]
  show own_Go p e below (own_End s (Q4 Z a1 ln h0 n0) ({ frames := 0, cells := 0, slots := 0, locals := 0 } : Room).cells ({ frames := 0, cells := 0, slots := 0, locals := 0 } : Room).slots) s₁ (mkF m 0 #[.val (.ref a1)] [])
  refine own_aloadN X0 hx (hb hby d4_0) (pc' := 1) rfl rfl rfl ?_
  obtain ⟨T_1, X_1, e_1, st_1⟩ := getF X0 hx hZ hown (host := "") (Or.inl (hw _ (List.mem_of_getElem? (i := 13) rfl))) Via.refl e0 F_a (g := (mkF m 1 #[.val (.ref a1)] [(.ref a1)])) rfl rfl (hb hby d4_1)
  refine own_st st_1 ?_
  show own_Go p e below _ T_1 (mkF m 4 #[.val (.ref a1)] [(.int ln)])
  refine own_retI X_1 hx hlk Bd.returns (hb hby d4_4) (by decide) (by decide) ?_
  rw [e_1]
  exact ⟨rfl, N0, rfl⟩
theorem d5_0 : decode prog_33_method_4_code 0 = .ok (.aload_n 0, 1) := by decide +kernel
theorem d5_1 : decode prog_33_method_4_code 1 = .ok (.getfield 13, 3) := by decide +kernel
theorem d5_4 : decode prog_33_method_4_code 4 = .ok (.ireturn, 1) := by decide +kernel
theorem pn5 : plainFor (⟨"com/example/muster/muster/xml/TextPosition", "getColumn", "()I"⟩ : MethodName) = true := by first | exact plainFor_of_name (by first | (simp [plainName, overriddenIn]; done) | decide +kernel) | decide +kernel
theorem ef5 (m : MethodId) (a1 : Addr) : entryFrame m #[(.ref a1)] 1 = mkF m 0 #[.val (.ref a1)] [] := by first | (simp [entryFrame, mkF, argsToLocals, Value.category]; done) | rfl
def Q5 (Z : State) (a1 : Addr) (co : Int32) (h0 : Heap) (n0 : Nat) (v : Option Value) (h : Heap) (L : List Loc) : Prop := v = some (.int co) ∧ Fr n0 L ∧ h = h0
set_option maxRecDepth 65536 in
set_option maxHeartbeats 40000000 in
theorem rm5 (l : Launch) (Z : State) (a0 : Array Value) (hw : ∀ d ∈ tables_1, d.before a0 Z = true) (ws : List Jvm.Cond) (a1 : Addr) (co : Int32) (h0 : Heap) (n0 : Nat) (Z0 : n0 ≤ h0.size) (F_a : Fld Z h0 a1 "com/example/muster/muster/xml/TextPosition" "column" "I" (.int co)) :
    MetFree l (⟨"com/example/muster/muster/xml/TextPosition", "getColumn", "()I"⟩ : MethodName) (head1 (Jvm.Cond.code (⟨"com/example/muster/muster/xml/TextPosition", "getColumn", "()I"⟩ : MethodName) prog_33_method_4_code 1 (some .int) :: ws) ({ frames := 0, cells := 0, slots := 0, locals := 0 } : Room)) (fun a U => a = #[(.ref a1)] ∧ Z.Warmed39 U.vm ∧ U.heap = h0) (fun _ _ _ _ _ => True) (fun _ U o U' => ∃ v L, o = .returned v ∧ Q5 Z a1 co h0 n0 v U'.heap L ∧ FrameEnd U o U' L ({ frames := 0, cells := 0, slots := 0, locals := 0 } : Room).cells ({ frames := 0, cells := 0, slots := 0, locals := 0 } : Room).slots) := by
  refine MetFree.of_bodySF pn5 hisR ?_
  intro p e s m args below meth c s₁ Bd hml0 hP hK
  obtain ⟨rfl, hZ, hh⟩ := hP
  have hx := Bd.exec
  have hby := Bd.bytes
  have hlk : meth.locks = false := BodyLoose.notSynchronized Bd
  have hml : c.maxLocals = 1 := hml0
  have hown : s.vm.findClass "com/example/muster/muster/xml/TextPosition" = some m.cls := findClass_of_methodNamed Bd.named
  have hnm := (name_of_methodNamed Bd.named Bd.method).1
  have X0 : Stand p l e ({ frames := 0, cells := 0, slots := 0, locals := 0 } : Room) s m #[(.ref a1)] below meth c s₁ [] 0 0 := Stand.of_body Bd
  have e0 : s₁.heap = h0 := by rw [← hh, Bd.state]; rfl
  have N0 := Fr.nil n0
  rw [ef5 m a1]
  show own_Go p e below (own_End s (Q5 Z a1 co h0 n0) ({ frames := 0, cells := 0, slots := 0, locals := 0 } : Room).cells ({ frames := 0, cells := 0, slots := 0, locals := 0 } : Room).slots) s₁ (mkF m 0 #[.val (.ref a1)] [])
  refine own_aloadN X0 hx (hb hby d5_0) (pc' := 1) rfl rfl rfl ?_
  obtain ⟨T_1, X_1, e_1, st_1⟩ := getF X0 hx hZ hown (host := "") (Or.inl (hw _ (List.mem_of_getElem? (i := 15) rfl))) Via.refl e0 F_a (g := (mkF m 1 #[.val (.ref a1)] [(.ref a1)])) rfl rfl (hb hby d5_1)
  refine own_st st_1 ?_
  show own_Go p e below _ T_1 (mkF m 4 #[.val (.ref a1)] [(.int co)])
  refine own_retI X_1 hx hlk Bd.returns (hb hby d5_4) (by decide) (by decide) ?_
  rw [e_1]
  exact ⟨rfl, N0, rfl⟩
theorem d6_0 : decode method_3_code 0 = .ok (.iload_n 0, 1) := by decide +kernel
theorem d6_1 : decode method_3_code 1 = .ok (.bipush 10, 2) := by decide +kernel
theorem d6_3 : decode method_3_code 3 = .ok (.if_icmp .eq 9, 3) := by decide +kernel
theorem d6_12 : decode method_3_code 12 = .ok (.iconst 1, 1) := by decide +kernel
theorem d6_13 : decode method_3_code 13 = .ok (.goto 4, 3) := by decide +kernel
theorem d6_17 : decode method_3_code 17 = .ok (.ireturn, 1) := by decide +kernel
theorem d6_6 : decode method_3_code 6 = .ok (.iload_n 0, 1) := by decide +kernel
theorem d6_7 : decode method_3_code 7 = .ok (.bipush 13, 2) := by decide +kernel
theorem d6_9 : decode method_3_code 9 = .ok (.if_icmp .ne 7, 3) := by decide +kernel
theorem d6_16 : decode method_3_code 16 = .ok (.iconst 0, 1) := by decide +kernel
theorem pn6 : plainFor (⟨"com/example/muster/muster/xml/TextPositionAdvancePinLaw", "ends", "(C)Z"⟩ : MethodName) = true := by first | exact plainFor_of_name (by first | (simp [plainName, overriddenIn]; done) | decide +kernel) | decide +kernel
theorem ef6 (m : MethodId) (ch : Int32) : entryFrame m #[(.int ch)] 1 = mkF m 0 #[.val (.int ch)] [] := by first | (simp [entryFrame, mkF, argsToLocals, Value.category]; done) | rfl
def Q6 (Z : State) (ch : Int32) (h0 : Heap) (n0 : Nat) (v : Option Value) (h : Heap) (L : List Loc) : Prop := v = some (.int (own_b (ch = 10 ∨ ch = 13))) ∧ Fr n0 L ∧ h = h0
set_option maxRecDepth 65536 in
set_option maxHeartbeats 40000000 in
theorem rm6 (l : Launch) (Z : State) (a0 : Array Value) (hw : ∀ d ∈ tables_1, d.before a0 Z = true) (ws : List Jvm.Cond) (ch : Int32) (h0 : Heap) (n0 : Nat) (Z0 : n0 ≤ h0.size) :
    MetFree l (⟨"com/example/muster/muster/xml/TextPositionAdvancePinLaw", "ends", "(C)Z"⟩ : MethodName) (head1 (Jvm.Cond.code (⟨"com/example/muster/muster/xml/TextPositionAdvancePinLaw", "ends", "(C)Z"⟩ : MethodName) method_3_code 1 (some .boolean) :: ws) ({ frames := 0, cells := 0, slots := 0, locals := 0 } : Room)) (fun a U => a = #[(.int ch)] ∧ Z.Warmed39 U.vm ∧ U.heap = h0) (fun _ _ _ _ _ => True) (fun _ U o U' => ∃ v L, o = .returned v ∧ Q6 Z ch h0 n0 v U'.heap L ∧ FrameEnd U o U' L ({ frames := 0, cells := 0, slots := 0, locals := 0 } : Room).cells ({ frames := 0, cells := 0, slots := 0, locals := 0 } : Room).slots) := by
  refine MetFree.of_bodySF pn6 hisR ?_
  intro p e s m args below meth c s₁ Bd hml0 hP hK
  obtain ⟨rfl, hZ, hh⟩ := hP
  have hx := Bd.exec
  have hby := Bd.bytes
  have hlk : meth.locks = false := BodyLoose.notSynchronized Bd
  have hml : c.maxLocals = 1 := hml0
  have hown : s.vm.findClass "com/example/muster/muster/xml/TextPositionAdvancePinLaw" = some m.cls := findClass_of_methodNamed Bd.named
  have hnm := (name_of_methodNamed Bd.named Bd.method).1
  have X0 : Stand p l e ({ frames := 0, cells := 0, slots := 0, locals := 0 } : Room) s m #[(.int ch)] below meth c s₁ [] 0 0 := Stand.of_body Bd
  have e0 : s₁.heap = h0 := by rw [← hh, Bd.state]; rfl
  have N0 := Fr.nil n0
  rw [ef6 m ch]
  show own_Go p e below (own_End s (Q6 Z ch h0 n0) ({ frames := 0, cells := 0, slots := 0, locals := 0 } : Room).cells ({ frames := 0, cells := 0, slots := 0, locals := 0 } : Room).slots) s₁ (mkF m 0 #[.val (.int ch)] [])
  refine own_iloadN X0 hx (hb hby d6_0) (pc' := 1) rfl rfl ?_
  refine own_bipush X0 hx (10) (hb hby d6_1) (pc' := 3) rfl (by decide) ?_
  by_cases c_1 : ch = (10 : Int32)
  · skip
    refine own_icmpY X0 hx (hb hby d6_3) (XT.ii_eq_t c_1) (pc' := 12) (by decide) (by decide) ?_
    refine own_iconst X0 hx (1) (hb hby d6_12) (pc' := 13) rfl rfl ?_
    refine own_goto X0 hx (hb hby d6_13) (pc' := 17) (by decide) (by decide) ?_
    refine own_retZ X0 hx hlk Bd.returns (by simp) (hb hby d6_17) (by decide) (by decide) ?_
    rw [e0]
    exact ⟨by simp [own_b, nar, c_1], N0, rfl⟩
  · skip
    refine own_icmpN X0 hx (hb hby d6_3) (XT.ii_eq_f c_1) (pc' := 6) rfl ?_
    refine own_iloadN X0 hx (hb hby d6_6) (pc' := 7) rfl rfl ?_
    refine own_bipush X0 hx (13) (hb hby d6_7) (pc' := 9) rfl (by decide) ?_
    by_cases c_2 : ch = (13 : Int32)
    · skip
      refine own_icmpN X0 hx (hb hby d6_9) (XT.ii_ne_f c_2) (pc' := 12) rfl ?_
      refine own_iconst X0 hx (1) (hb hby d6_12) (pc' := 13) rfl rfl ?_
      refine own_goto X0 hx (hb hby d6_13) (pc' := 17) (by decide) (by decide) ?_
      refine own_retZ X0 hx hlk Bd.returns (by simp) (hb hby d6_17) (by decide) (by decide) ?_
      rw [e0]
      exact ⟨by simp [own_b, nar, c_1, c_2], N0, rfl⟩
    · skip
      refine own_icmpY X0 hx (hb hby d6_9) (XT.ii_ne_t c_2) (pc' := 16) (by decide) (by decide) ?_
      refine own_iconst X0 hx (0) (hb hby d6_16) (pc' := 17) rfl rfl ?_
      refine own_retZ X0 hx hlk Bd.returns (by simp) (hb hby d6_17) (by decide) (by decide) ?_
      rw [e0]
      exact ⟨by simp [own_b, nar, c_1, c_2], N0, rfl⟩
theorem d7_0 : decode method_4_code 0 = .ok (.iload_n 1, 1) := by decide +kernel
theorem d7_1 : decode method_4_code 1 = .ok (.invokestatic 7, 3) := by decide +kernel
theorem d7_4 : decode method_4_code 4 = .ok (.ifCond .ne 5, 3) := by decide +kernel
theorem d7_9 : decode method_4_code 9 = .ok (.iload_n 1, 1) := by decide +kernel
theorem d7_10 : decode method_4_code 10 = .ok (.bipush 10, 2) := by decide +kernel
theorem d7_12 : decode method_4_code 12 = .ok (.if_icmp .ne 11, 3) := by decide +kernel
theorem d7_15 : decode method_4_code 15 = .ok (.iload_n 0, 1) := by decide +kernel
theorem d7_16 : decode method_4_code 16 = .ok (.bipush 13, 2) := by decide +kernel
theorem d7_18 : decode method_4_code 18 = .ok (.if_icmp .ne 5, 3) := by decide +kernel
theorem d7_21 : decode method_4_code 21 = .ok (.iconst 0, 1) := by decide +kernel
theorem d7_22 : decode method_4_code 22 = .ok (.ireturn, 1) := by decide +kernel
theorem d7_23 : decode method_4_code 23 = .ok (.iconst 1, 1) := by decide +kernel
theorem d7_24 : decode method_4_code 24 = .ok (.ireturn, 1) := by decide +kernel
theorem d7_7 : decode method_4_code 7 = .ok (.iconst 0, 1) := by decide +kernel
theorem d7_8 : decode method_4_code 8 = .ok (.ireturn, 1) := by decide +kernel
theorem pd7_0 : parseMethodDescriptor "(C)Z" = some ⟨[.char], some .boolean⟩ := by decide +kernel
theorem pn7 : plainFor (⟨"com/example/muster/muster/xml/TextPositionAdvancePinLaw", "endsAfter", "(CC)I"⟩ : MethodName) = true := by first | exact plainFor_of_name (by first | (simp [plainName, overriddenIn]; done) | decide +kernel) | decide +kernel
theorem ef7 (m : MethodId) (pr : Int32) (ch : Int32) : entryFrame m #[(.int pr), (.int ch)] 2 = mkF m 0 #[.val (.int pr), .val (.int ch)] [] := by first | (simp [entryFrame, mkF, argsToLocals, Value.category]; done) | rfl
def Q7 (Z : State) (pr : Int32) (ch : Int32) (h0 : Heap) (n0 : Nat) (v : Option Value) (h : Heap) (L : List Loc) : Prop := v = some (.int (own_ea pr ch)) ∧ Fr n0 L ∧ h = h0
set_option maxRecDepth 65536 in
set_option maxHeartbeats 40000000 in
theorem rm7 (l : Launch) (Z : State) (a0 : Array Value) (hw : ∀ d ∈ tables_1, d.before a0 Z = true) (ws : List Jvm.Cond) (pr : Int32) (ch : Int32) (h0 : Heap) (n0 : Nat) (Z0 : n0 ≤ h0.size) :
    MetFree l (⟨"com/example/muster/muster/xml/TextPositionAdvancePinLaw", "endsAfter", "(CC)I"⟩ : MethodName) (head1 (Jvm.Cond.code (⟨"com/example/muster/muster/xml/TextPositionAdvancePinLaw", "endsAfter", "(CC)I"⟩ : MethodName) method_4_code 2 (some .int) :: ws) ({ frames := 1, cells := 0, slots := 0, locals := 12 } : Room)) (fun a U => a = #[(.int pr), (.int ch)] ∧ Z.Warmed39 U.vm ∧ U.heap = h0) (fun _ _ _ _ _ => True) (fun _ U o U' => ∃ v L, o = .returned v ∧ Q7 Z pr ch h0 n0 v U'.heap L ∧ FrameEnd U o U' L ({ frames := 1, cells := 0, slots := 0, locals := 12 } : Room).cells ({ frames := 1, cells := 0, slots := 0, locals := 12 } : Room).slots) := by
  refine MetFree.of_bodySF pn7 hisR ?_
  intro p e s m args below meth c s₁ Bd hml0 hP hK
  obtain ⟨rfl, hZ, hh⟩ := hP
  have hx := Bd.exec
  have hby := Bd.bytes
  have hlk : meth.locks = false := BodyLoose.notSynchronized Bd
  have hml : c.maxLocals = 2 := hml0
  have hown : s.vm.findClass "com/example/muster/muster/xml/TextPositionAdvancePinLaw" = some m.cls := findClass_of_methodNamed Bd.named
  have hnm := (name_of_methodNamed Bd.named Bd.method).1
  have X0 : Stand p l e ({ frames := 1, cells := 0, slots := 0, locals := 12 } : Room) s m #[(.int pr), (.int ch)] below meth c s₁ [] 0 0 := Stand.of_body Bd
  have e0 : s₁.heap = h0 := by rw [← hh, Bd.state]; rfl
  have N0 := Fr.nil n0
  rw [ef7 m pr ch]
  show own_Go p e below (own_End s (Q7 Z pr ch h0 n0) ({ frames := 1, cells := 0, slots := 0, locals := 12 } : Room).cells ({ frames := 1, cells := 0, slots := 0, locals := 12 } : Room).slots) s₁ (mkF m 0 #[.val (.int pr), .val (.int ch)] [])
  refine own_iloadN X0 hx (hb hby d7_0) (pc' := 1) rfl rfl ?_
  obtain ⟨_, _, ⟨T_1, L_1, k_1, n_1⟩, -, X_1, ⟨Lc_1, hQ_1, l_1, y_1, z_1⟩, st_1⟩ := Jvm.LawKit.callS X0 hx (y := (⟨"com/example/muster/muster/xml/TextPositionAdvancePinLaw", "ends", "(C)Z"⟩ : MethodName)) hown (mvT hZ (hw _ (List.mem_of_getElem? (i := 34) rfl))) (mvT hZ (hw _ (List.mem_of_getElem? (i := 35) rfl))) (mvT hZ (hw _ (List.mem_of_getElem? (i := 2) rfl))) (mvT hZ (hw _ (List.mem_of_getElem? (i := 36) rfl))) (by decide) (backOf (W := 0) (rm6 l Z a0 hw [] ch h0 n0 Z0) hZ (hw _ (List.mem_of_getElem? (i := 36) rfl)) (hw _ (List.mem_of_getElem? (i := 2) rfl)) (by decide) (by decide)) (g := (mkF m 1 #[.val (.int pr), .val (.int ch)] [(.int ch)])) rfl (by rw [hml]; rfl) (argsL := [(.int ch)]) (rest := []) (lenOf pd7_0 rfl) rfl (by show 2 * 0 + _ ≤ _; exact Nat.le_of_eq rfl) (hb hby d7_1) (fun _ _ => ⟨rfl, e0, (by decide : 0 + 0 ≤ _), (by decide : 0 + 0 ≤ _)⟩)
  dsimp only [Pt.U, Pt.locs, Pt.cells, Pt.slots] at X_1 l_1 y_1 z_1 st_1 hQ_1
  subst l_1 y_1 z_1
  refine own_st st_1 ?_
  obtain ⟨rfl, Nq_1, eq_1⟩ := hQ_1
  have N_1 := Fr.app N0 Nq_1
  show own_Go p e below _ T_1 (mkF m 4 #[.val (.int pr), .val (.int ch)] [(.int (own_b (ch = 10 ∨ ch = 13)))])
  by_cases c_2 : ch = 10 ∨ ch = 13
  · skip
    refine own_ifY X_1 hx (hb hby d7_4) (own_b0_ne_t c_2) (pc' := 9) (by decide) (by decide) ?_
    refine own_iloadN X_1 hx (hb hby d7_9) (pc' := 10) rfl rfl ?_
    refine own_bipush X_1 hx (10) (hb hby d7_10) (pc' := 12) rfl (by decide) ?_
    by_cases c_3 : ch = (10 : Int32)
    · skip
      refine own_icmpN X_1 hx (hb hby d7_12) (XT.ii_ne_f c_3) (pc' := 15) rfl ?_
      refine own_iloadN X_1 hx (hb hby d7_15) (pc' := 16) rfl rfl ?_
      refine own_bipush X_1 hx (13) (hb hby d7_16) (pc' := 18) rfl (by decide) ?_
      by_cases c_4 : pr = (13 : Int32)
      · skip
        refine own_icmpN X_1 hx (hb hby d7_18) (XT.ii_ne_f c_4) (pc' := 21) rfl ?_
        refine own_iconst X_1 hx (0) (hb hby d7_21) (pc' := 22) rfl rfl ?_
        refine own_retI X_1 hx hlk Bd.returns (hb hby d7_22) (by decide) (by decide) ?_
        rw [eq_1]
        exact ⟨by rw [own_ea]; simp only [c_2, not_true_eq_false, not_false_eq_true, if_true, if_false]; simp [c_3, c_4], N_1, rfl⟩
      · skip
        refine own_icmpY X_1 hx (hb hby d7_18) (XT.ii_ne_t c_4) (pc' := 23) (by decide) (by decide) ?_
        refine own_iconst X_1 hx (1) (hb hby d7_23) (pc' := 24) rfl rfl ?_
        refine own_retI X_1 hx hlk Bd.returns (hb hby d7_24) (by decide) (by decide) ?_
        rw [eq_1]
        exact ⟨by rw [own_ea]; simp only [c_2, not_true_eq_false, not_false_eq_true, if_true, if_false]; simp [c_3, c_4], N_1, rfl⟩
    · skip
      refine own_icmpY X_1 hx (hb hby d7_12) (XT.ii_ne_t c_3) (pc' := 23) (by decide) (by decide) ?_
      refine own_iconst X_1 hx (1) (hb hby d7_23) (pc' := 24) rfl rfl ?_
      refine own_retI X_1 hx hlk Bd.returns (hb hby d7_24) (by decide) (by decide) ?_
      rw [eq_1]
      exact ⟨by rw [own_ea]; simp only [c_2, not_true_eq_false, not_false_eq_true, if_true, if_false]; simp [c_3], N_1, rfl⟩
  · skip
    refine own_ifN X_1 hx (hb hby d7_4) (own_b0_ne_f c_2) (pc' := 7) rfl ?_
    refine own_iconst X_1 hx (0) (hb hby d7_7) (pc' := 8) rfl rfl ?_
    refine own_retI X_1 hx hlk Bd.returns (hb hby d7_8) (by decide) (by decide) ?_
    rw [eq_1]
    exact ⟨by rw [own_ea]; simp only [c_2, not_true_eq_false, not_false_eq_true, if_true, if_false], N_1, rfl⟩
theorem pd0_0 : parseMethodDescriptor "(I)C" = some ⟨[.int], some .char⟩ := by decide +kernel
theorem pd0_1 : parseMethodDescriptor "()V" = some ⟨[], none⟩ := by decide +kernel
theorem pd0_2 : parseMethodDescriptor "(C)V" = some ⟨[.char], none⟩ := by decide +kernel
theorem pd0_3 : parseMethodDescriptor "()I" = some ⟨[], some .int⟩ := by decide +kernel
theorem pd0_4 : parseMethodDescriptor "(C)Z" = some ⟨[.char], some .boolean⟩ := by decide +kernel
theorem pd0_5 : parseMethodDescriptor "(CC)I" = some ⟨[.char, .char], some .int⟩ := by decide +kernel
theorem pn0 : plainFor x = true := by first | exact plainFor_of_name (by first | (simp [plainName, overriddenIn]; done) | decide +kernel) | decide +kernel
theorem ef0 (m : MethodId) (x0 : Int32) (x1 : Int32) (x2 : Int32) : entryFrame m #[(.int x0), (.int x1), (.int x2)] maxLocals = mkF m 0 #[.val (.int x0), .val (.int x1), .val (.int x2), .unset, .unset, .unset, .unset, .unset, .unset, .unset, .unset, .unset, .unset, .unset, .unset, .unset, .unset, .unset, .unset] [] := by first | (simp [entryFrame, mkF, argsToLocals, Value.category, maxLocals]; done) | rfl
def Q0 (Z : State) (x0 : Int32) (x1 : Int32) (x2 : Int32) (h0 : Heap) (n0 : Nat) (v : Option Value) (h : Heap) (L : List Loc) : Prop := v = some (.int 1) ∧ Fr n0 L
set_option maxRecDepth 65536 in
set_option maxHeartbeats 40000000 in
theorem rm0 (l : Launch) (Z : State) (a0 : Array Value) (hw : ∀ d ∈ tables_1, d.before a0 Z = true) (ws : List Jvm.Cond) (x0 : Int32) (x1 : Int32) (x2 : Int32) (h0 : Heap) (n0 : Nat) (Z0 : n0 ≤ h0.size) :
    MetFree l x (head1 (Jvm.Cond.code x code maxLocals ret :: ws) room_1) (fun a U => a = #[(.int x0), (.int x1), (.int x2)] ∧ Z.Warmed39 U.vm ∧ U.heap = h0) (fun _ _ _ _ _ => True) (fun _ U o U' => ∃ v L, o = .returned v ∧ Q0 Z x0 x1 x2 h0 n0 v U'.heap L ∧ FrameEnd U o U' L 1 3) := by
  refine MetFree.of_bodySF pn0 hisR ?_
  intro p e s m args below meth c s₁ Bd hml0 hP hK
  obtain ⟨rfl, hZ, hh⟩ := hP
  have hx := Bd.exec
  have hby := Bd.bytes
  have hlk : meth.locks = false := BodyLoose.notSynchronized Bd
  have hml : c.maxLocals = 19 := hml0
  have hown : s.vm.findClass "com/example/muster/muster/xml/TextPositionAdvancePinLaw" = some m.cls := findClass_of_methodNamed Bd.named
  have hnm := (name_of_methodNamed Bd.named Bd.method).1
  have X0 : Stand p l e room_1 s m #[(.int x0), (.int x1), (.int x2)] below meth c s₁ [] 0 0 := Stand.of_body Bd
  have e0 : s₁.heap = h0 := by rw [← hh, Bd.state]; rfl
  have N0 := Fr.nil n0
  rw [ef0 m x0 x1 x2]
  show own_Go p e below (own_End s (Q0 Z x0 x1 x2 h0 n0) 1 3) s₁ (mkF m 0 #[.val (.int x0), .val (.int x1), .val (.int x2), .unset, .unset, .unset, .unset, .unset, .unset, .unset, .unset, .unset, .unset, .unset, .unset, .unset, .unset, .unset, .unset] [])
  refine own_iloadN X0 hx (hb hby at_0) (pc' := 1) rfl rfl ?_
  obtain ⟨_, _, ⟨T_1, L_1, k_1, n_1⟩, -, X_1, ⟨Lc_1, hQ_1, l_1, y_1, z_1⟩, st_1⟩ := Jvm.LawKit.callS X0 hx (y := (⟨"com/example/muster/muster/xml/TextPositionAdvancePinLaw", "pick", "(I)C"⟩ : MethodName)) hown (mvT hZ (hw _ (List.mem_of_getElem? (i := 0) rfl))) (mvT hZ (hw _ (List.mem_of_getElem? (i := 1) rfl))) (mvT hZ (hw _ (List.mem_of_getElem? (i := 2) rfl))) (mvT hZ (hw _ (List.mem_of_getElem? (i := 3) rfl))) (by decide) (backOf (W := 0) (rm1 l Z a0 hw [] x0 h0 n0 Z0) hZ (hw _ (List.mem_of_getElem? (i := 3) rfl)) (hw _ (List.mem_of_getElem? (i := 2) rfl)) (by decide) (by decide)) (g := (mkF m 1 #[.val (.int x0), .val (.int x1), .val (.int x2), .unset, .unset, .unset, .unset, .unset, .unset, .unset, .unset, .unset, .unset, .unset, .unset, .unset, .unset, .unset, .unset] [(.int x0)])) rfl (by rw [hml]; rfl) (argsL := [(.int x0)]) (rest := []) (lenOf pd0_0 rfl) rfl (by show 2 * 0 + _ ≤ _; exact Nat.le_of_eq rfl) (hb hby at_1) (fun _ _ => ⟨rfl, e0, (by decide : 0 + 0 ≤ _), (by decide : 0 + 0 ≤ _)⟩)
  dsimp only [Pt.U, Pt.locs, Pt.cells, Pt.slots] at X_1 l_1 y_1 z_1 st_1 hQ_1
  subst l_1 y_1 z_1
  refine own_st st_1 ?_
  obtain ⟨⟨ch_1, rfl⟩, Nq_1, eq_1⟩ := hQ_1
  have N_1 := Fr.app N0 Nq_1
  show own_Go p e below _ T_1 (mkF m 4 #[.val (.int x0), .val (.int x1), .val (.int x2), .unset, .unset, .unset, .unset, .unset, .unset, .unset, .unset, .unset, .unset, .unset, .unset, .unset, .unset, .unset, .unset] [(.int ch_1)])
  refine own_istoreN X_1 hx (hb hby at_4) (pc' := 5) (Ls' := #[.val (.int x0), .val (.int x1), .val (.int x2), .val (.int ch_1), .unset, .unset, .unset, .unset, .unset, .unset, .unset, .unset, .unset, .unset, .unset, .unset, .unset, .unset, .unset]) rfl rfl ?_
  refine own_iloadN X_1 hx (hb hby at_5) (pc' := 6) rfl rfl ?_
  obtain ⟨_, _, ⟨T_2, L_2, k_2, n_2⟩, -, X_2, ⟨Lc_2, hQ_2, l_2, y_2, z_2⟩, st_2⟩ := Jvm.LawKit.callS X_1 hx (y := (⟨"com/example/muster/muster/xml/TextPositionAdvancePinLaw", "pick", "(I)C"⟩ : MethodName)) hown (mvT hZ (hw _ (List.mem_of_getElem? (i := 0) rfl))) (mvT hZ (hw _ (List.mem_of_getElem? (i := 1) rfl))) (mvT hZ (hw _ (List.mem_of_getElem? (i := 2) rfl))) (mvT hZ (hw _ (List.mem_of_getElem? (i := 3) rfl))) (by decide) (backOf (W := 0) (rm1 l Z a0 hw [] x1 h0 n0 Z0) hZ (hw _ (List.mem_of_getElem? (i := 3) rfl)) (hw _ (List.mem_of_getElem? (i := 2) rfl)) (by decide) (by decide)) (g := (mkF m 6 #[.val (.int x0), .val (.int x1), .val (.int x2), .val (.int ch_1), .unset, .unset, .unset, .unset, .unset, .unset, .unset, .unset, .unset, .unset, .unset, .unset, .unset, .unset, .unset] [(.int x1)])) rfl (by rw [hml]; rfl) (argsL := [(.int x1)]) (rest := []) (lenOf pd0_0 rfl) rfl (by show 2 * 0 + _ ≤ _; exact Nat.le_of_eq rfl) (hb hby at_6) (fun _ _ => ⟨rfl, eq_1, (by decide : 0 + 0 ≤ _), (by decide : 0 + 0 ≤ _)⟩)
  dsimp only [Pt.U, Pt.locs, Pt.cells, Pt.slots] at X_2 l_2 y_2 z_2 st_2 hQ_2
  subst l_2 y_2 z_2
  refine own_st st_2 ?_
  obtain ⟨⟨ch_2, rfl⟩, Nq_2, eq_2⟩ := hQ_2
  have N_2 := Fr.app N_1 Nq_2
  show own_Go p e below _ T_2 (mkF m 9 #[.val (.int x0), .val (.int x1), .val (.int x2), .val (.int ch_1), .unset, .unset, .unset, .unset, .unset, .unset, .unset, .unset, .unset, .unset, .unset, .unset, .unset, .unset, .unset] [(.int ch_2)])
  refine own_istore X_2 hx (hb hby at_9) (pc' := 11) (Ls' := #[.val (.int x0), .val (.int x1), .val (.int x2), .val (.int ch_1), .val (.int ch_2), .unset, .unset, .unset, .unset, .unset, .unset, .unset, .unset, .unset, .unset, .unset, .unset, .unset, .unset]) rfl rfl ?_
  refine own_iloadN X_2 hx (hb hby at_11) (pc' := 12) rfl rfl ?_
  obtain ⟨_, _, ⟨T_3, L_3, k_3, n_3⟩, -, X_3, ⟨Lc_3, hQ_3, l_3, y_3, z_3⟩, st_3⟩ := Jvm.LawKit.callS X_2 hx (y := (⟨"com/example/muster/muster/xml/TextPositionAdvancePinLaw", "pick", "(I)C"⟩ : MethodName)) hown (mvT hZ (hw _ (List.mem_of_getElem? (i := 0) rfl))) (mvT hZ (hw _ (List.mem_of_getElem? (i := 1) rfl))) (mvT hZ (hw _ (List.mem_of_getElem? (i := 2) rfl))) (mvT hZ (hw _ (List.mem_of_getElem? (i := 3) rfl))) (by decide) (backOf (W := 0) (rm1 l Z a0 hw [] x2 h0 n0 Z0) hZ (hw _ (List.mem_of_getElem? (i := 3) rfl)) (hw _ (List.mem_of_getElem? (i := 2) rfl)) (by decide) (by decide)) (g := (mkF m 12 #[.val (.int x0), .val (.int x1), .val (.int x2), .val (.int ch_1), .val (.int ch_2), .unset, .unset, .unset, .unset, .unset, .unset, .unset, .unset, .unset, .unset, .unset, .unset, .unset, .unset] [(.int x2)])) rfl (by rw [hml]; rfl) (argsL := [(.int x2)]) (rest := []) (lenOf pd0_0 rfl) rfl (by show 2 * 0 + _ ≤ _; exact Nat.le_of_eq rfl) (hb hby at_12) (fun _ _ => ⟨rfl, eq_2, (by decide : 0 + 0 ≤ _), (by decide : 0 + 0 ≤ _)⟩)
  dsimp only [Pt.U, Pt.locs, Pt.cells, Pt.slots] at X_3 l_3 y_3 z_3 st_3 hQ_3
  subst l_3 y_3 z_3
  refine own_st st_3 ?_
  obtain ⟨⟨ch_3, rfl⟩, Nq_3, eq_3⟩ := hQ_3
  have N_3 := Fr.app N_2 Nq_3
  show own_Go p e below _ T_3 (mkF m 15 #[.val (.int x0), .val (.int x1), .val (.int x2), .val (.int ch_1), .val (.int ch_2), .unset, .unset, .unset, .unset, .unset, .unset, .unset, .unset, .unset, .unset, .unset, .unset, .unset, .unset] [(.int ch_3)])
  refine own_istore X_3 hx (hb hby at_15) (pc' := 17) (Ls' := #[.val (.int x0), .val (.int x1), .val (.int x2), .val (.int ch_1), .val (.int ch_2), .val (.int ch_3), .unset, .unset, .unset, .unset, .unset, .unset, .unset, .unset, .unset, .unset, .unset, .unset, .unset]) rfl rfl ?_
  obtain ⟨T_4, h_4, X_4, e_4, E_4, A_4, D_4, -, st_4⟩ := newO X_3 hx hZ hown (hw _ (List.mem_of_getElem? (i := 4) rfl)) (hw _ (List.mem_of_getElem? (i := 5) rfl)) (hw _ (List.mem_of_getElem? (i := 6) rfl)) eq_3 (g := (mkF m 17 #[.val (.int x0), .val (.int x1), .val (.int x2), .val (.int ch_1), .val (.int ch_2), .val (.int ch_3), .unset, .unset, .unset, .unset, .unset, .unset, .unset, .unset, .unset, .unset, .unset, .unset, .unset] [])) rfl (hb hby at_17) (by decide) (by decide)
  obtain ⟨a_4, g_4⟩ : ∃ z, z = h0.size := ⟨_, rfl⟩
  rw [← g_4] at A_4 D_4 st_4
  have ge_4 : n0 ≤ a_4 := Nat.le_trans Z0 (Nat.le_of_eq g_4.symm)
  have Z_5 : n0 ≤ h_4.size := Nat.le_trans Z0 E_4.1
  have F_6 : Fld Z h_4 a_4 "com/example/muster/muster/xml/TextPosition" "line" "I" (.int (0 : Int32)) := D_4 (Or.inl (hw _ (List.mem_of_getElem? (i := 14) rfl))) (ty := .int) (by decide)
  have F_7 : Fld Z h_4 a_4 "com/example/muster/muster/xml/TextPosition" "column" "I" (.int (0 : Int32)) := D_4 (Or.inl (hw _ (List.mem_of_getElem? (i := 16) rfl))) (ty := .int) (by decide)
  have F_8 : Fld Z h_4 a_4 "com/example/muster/muster/xml/TextPosition" "afterCarriageReturn" "Z" (.int (0 : Int32)) := D_4 (Or.inl (hw _ (List.mem_of_getElem? (i := 23) rfl))) (ty := .boolean) (by decide)
  refine own_st st_4 ?_
  show own_Go p e below _ T_4 (mkF m 20 #[.val (.int x0), .val (.int x1), .val (.int x2), .val (.int ch_1), .val (.int ch_2), .val (.int ch_3), .unset, .unset, .unset, .unset, .unset, .unset, .unset, .unset, .unset, .unset, .unset, .unset, .unset] [(.ref a_4)])
  refine own_dup X_4 hx (hb hby at_20) (pc' := 21) rfl rfl ?_
  obtain ⟨_, _, ⟨T_9, L_9, k_9, n_9⟩, -, X_9, ⟨Lc_9, hQ_9, l_9, y_9, z_9⟩, st_9⟩ := X_4.specialBack hx  (y := (⟨"com/example/muster/muster/xml/TextPosition", "<init>", "()V"⟩ : MethodName)) rfl hown (mvT hZ (hw _ (List.mem_of_getElem? (i := 7) rfl))) (mvT hZ (hw _ (List.mem_of_getElem? (i := 8) rfl))) (mvT hZ (hw _ (List.mem_of_getElem? (i := 9) rfl))) (by decide) (backOf (W := 1) (rm2 l Z a0 hw [] a_4 h_4 n0 Z_5 A_4 F_6 F_7 F_8 ge_4) hZ (hw _ (List.mem_of_getElem? (i := 9) rfl)) (hw _ (List.mem_of_getElem? (i := 6) rfl)) (by decide) (by decide)) (g := (mkF m 21 #[.val (.int x0), .val (.int x1), .val (.int x2), .val (.int ch_1), .val (.int ch_2), .val (.int ch_3), .unset, .unset, .unset, .unset, .unset, .unset, .unset, .unset, .unset, .unset, .unset, .unset, .unset] [(.ref a_4), (.ref a_4)])) rfl (by rw [hml]; rfl) (Steps.refl _) (a := a_4) (argsL := []) (rest := [(.ref a_4)]) (lenOf pd0_1 rfl) rfl (by show 2 * 0 + _ ≤ _; exact Nat.le_of_eq rfl) (hb hby at_21) (fun _ _ => ⟨rfl, e_4, (by decide : 1 + 0 ≤ _), (by decide : 3 + 0 ≤ _)⟩)
  dsimp only [Pt.U, Pt.locs, Pt.cells, Pt.slots] at X_9 l_9 y_9 z_9 st_9 hQ_9
  subst l_9 y_9 z_9
  refine own_tr st_9 ?_
  obtain ⟨rfl, Nq_9, Kq_9, q0_9, q1_9, q2_9⟩ := hQ_9
  have N_9 := Fr.app N_3 Nq_9
  have F_10 : Fld Z T_9.heap a_4 "com/example/muster/muster/xml/TextPosition" "line" "I" (.int (1 : Int32)) := q0_9
  have F_11 : Fld Z T_9.heap a_4 "com/example/muster/muster/xml/TextPosition" "column" "I" (.int (1 : Int32)) := q1_9
  have F_12 : Fld Z T_9.heap a_4 "com/example/muster/muster/xml/TextPosition" "afterCarriageReturn" "Z" (.int (0 : Int32)) := q2_9
  have A_14 : Exa Z T_9.heap a_4 "com/example/muster/muster/xml/TextPosition" := A_4.keep Kq_9
  have Z_13 : n0 ≤ T_9.heap.size := Nat.le_trans Z_5 Kq_9.1
  show own_Go p e below _ T_9 (mkF m 24 #[.val (.int x0), .val (.int x1), .val (.int x2), .val (.int ch_1), .val (.int ch_2), .val (.int ch_3), .unset, .unset, .unset, .unset, .unset, .unset, .unset, .unset, .unset, .unset, .unset, .unset, .unset] [(.ref a_4)])
  refine own_astore X_9 hx (hb hby at_24) (pc' := 26) (Ls' := #[.val (.int x0), .val (.int x1), .val (.int x2), .val (.int ch_1), .val (.int ch_2), .val (.int ch_3), .val (.ref a_4), .unset, .unset, .unset, .unset, .unset, .unset, .unset, .unset, .unset, .unset, .unset, .unset]) rfl rfl rfl ?_
  refine own_aload X_9 hx (hb hby at_26) (pc' := 28) rfl rfl rfl ?_
  refine own_iloadN X_9 hx (hb hby at_28) (pc' := 29) rfl rfl ?_
  obtain ⟨cq_15, kq_15, qa_15, qb_15, qc_15⟩ := isOf hZ rfl A_14
  obtain ⟨_, _, ⟨T_15, L_15, k_15, n_15⟩, -, X_15, ⟨Lc_15, hQ_15, l_15, y_15, z_15⟩, st_15⟩ := X_9.virtualBack hx  (y := (⟨"com/example/muster/muster/xml/TextPosition", "advance", "(C)V"⟩ : MethodName)) (z := (⟨"com/example/muster/muster/xml/TextPosition", "advance", "(C)V"⟩ : MethodName)) hown (mvT hZ (hw _ (List.mem_of_getElem? (i := 17) rfl))) (mvT hZ (hw _ (List.mem_of_getElem? (i := 18) rfl))) (notFace_of_selects (args := #[]) (mvT hZ (hw _ (List.mem_of_getElem? (i := 20) rfl)))) (mvT hZ (hw _ (List.mem_of_getElem? (i := 20) rfl))) (mvT hZ (hw _ (List.mem_of_getElem? (i := 19) rfl))) (by decide) (backOf (W := 0) (rm3 l Z a0 hw [] a_4 ch_1 (1 : Int32) (1 : Int32) (0 : Int32) T_9.heap n0 Z_13 A_14 F_10 F_11 F_12 ge_4) hZ (hw _ (List.mem_of_getElem? (i := 21) rfl)) (hw _ (List.mem_of_getElem? (i := 6) rfl)) (by decide) (by decide)) qa_15 qc_15 (g := (mkF m 29 #[.val (.int x0), .val (.int x1), .val (.int x2), .val (.int ch_1), .val (.int ch_2), .val (.int ch_3), .val (.ref a_4), .unset, .unset, .unset, .unset, .unset, .unset, .unset, .unset, .unset, .unset, .unset, .unset] [(.int ch_1), (.ref a_4)])) rfl (by rw [hml]; rfl) (Steps.refl _) (argsL := [(.int ch_1)]) (rest := []) (lenOf pd0_2 rfl) rfl (by show 2 * 0 + _ ≤ _; exact Nat.le_of_eq rfl) (hb hby at_29) (fun _ _ => ⟨rfl, rfl, (by decide : 1 + 0 ≤ _), (by decide : 3 + 0 ≤ _)⟩)
  dsimp only [Pt.U, Pt.locs, Pt.cells, Pt.slots] at X_15 l_15 y_15 z_15 st_15 hQ_15
  subst l_15 y_15 z_15
  refine own_tr st_15 ?_
  obtain ⟨rfl, Nq_15, Kq_15, q0_15, q1_15, q2_15⟩ := hQ_15
  have N_15 := Fr.app N_9 Nq_15
  have F_16 : Fld Z T_15.heap a_4 "com/example/muster/muster/xml/TextPosition" "line" "I" (.int (own_ln ch_1 (0 : Int32) (1 : Int32))) := q0_15
  have F_17 : Fld Z T_15.heap a_4 "com/example/muster/muster/xml/TextPosition" "column" "I" (.int (own_co ch_1 (0 : Int32) (1 : Int32))) := q1_15
  have F_18 : Fld Z T_15.heap a_4 "com/example/muster/muster/xml/TextPosition" "afterCarriageReturn" "Z" (.int (own_b (ch_1 = 13))) := q2_15
  have A_20 : Exa Z T_15.heap a_4 "com/example/muster/muster/xml/TextPosition" := A_14.keep Kq_15
  have Z_19 : n0 ≤ T_15.heap.size := Nat.le_trans Z_13 Kq_15.1
  show own_Go p e below _ T_15 (mkF m 32 #[.val (.int x0), .val (.int x1), .val (.int x2), .val (.int ch_1), .val (.int ch_2), .val (.int ch_3), .val (.ref a_4), .unset, .unset, .unset, .unset, .unset, .unset, .unset, .unset, .unset, .unset, .unset, .unset] [])
  refine own_aload X_15 hx (hb hby at_32) (pc' := 34) rfl rfl rfl ?_
  obtain ⟨cq_21, kq_21, qa_21, qb_21, qc_21⟩ := isOf hZ rfl A_20
  obtain ⟨_, _, ⟨T_21, L_21, k_21, n_21⟩, -, X_21, ⟨Lc_21, hQ_21, l_21, y_21, z_21⟩, st_21⟩ := X_15.virtualBack hx  (y := (⟨"com/example/muster/muster/xml/TextPosition", "getLine", "()I"⟩ : MethodName)) (z := (⟨"com/example/muster/muster/xml/TextPosition", "getLine", "()I"⟩ : MethodName)) hown (mvT hZ (hw _ (List.mem_of_getElem? (i := 24) rfl))) (mvT hZ (hw _ (List.mem_of_getElem? (i := 25) rfl))) (notFace_of_selects (args := #[]) (mvT hZ (hw _ (List.mem_of_getElem? (i := 27) rfl)))) (mvT hZ (hw _ (List.mem_of_getElem? (i := 27) rfl))) (mvT hZ (hw _ (List.mem_of_getElem? (i := 26) rfl))) (by decide) (backOf (W := 0) (rm4 l Z a0 hw [] a_4 (own_ln ch_1 (0 : Int32) (1 : Int32)) T_15.heap n0 Z_19 F_16) hZ (hw _ (List.mem_of_getElem? (i := 28) rfl)) (hw _ (List.mem_of_getElem? (i := 6) rfl)) (by decide) (by decide)) qa_21 qc_21 (g := (mkF m 34 #[.val (.int x0), .val (.int x1), .val (.int x2), .val (.int ch_1), .val (.int ch_2), .val (.int ch_3), .val (.ref a_4), .unset, .unset, .unset, .unset, .unset, .unset, .unset, .unset, .unset, .unset, .unset, .unset] [(.ref a_4)])) rfl (by rw [hml]; rfl) (Steps.refl _) (argsL := []) (rest := []) (lenOf pd0_3 rfl) rfl (by show 2 * 0 + _ ≤ _; exact Nat.le_of_eq rfl) (hb hby at_34) (fun _ _ => ⟨rfl, rfl, (by decide : 1 + 0 ≤ _), (by decide : 3 + 0 ≤ _)⟩)
  dsimp only [Pt.U, Pt.locs, Pt.cells, Pt.slots] at X_21 l_21 y_21 z_21 st_21 hQ_21
  subst l_21 y_21 z_21
  refine own_tr st_21 ?_
  obtain ⟨rfl, Nq_21, eq_21⟩ := hQ_21
  have N_21 := Fr.app N_15 Nq_21
  show own_Go p e below _ T_21 (mkF m 37 #[.val (.int x0), .val (.int x1), .val (.int x2), .val (.int ch_1), .val (.int ch_2), .val (.int ch_3), .val (.ref a_4), .unset, .unset, .unset, .unset, .unset, .unset, .unset, .unset, .unset, .unset, .unset, .unset] [(.int (own_ln ch_1 (0 : Int32) (1 : Int32)))])
  refine own_istore X_21 hx (hb hby at_37) (pc' := 39) (Ls' := #[.val (.int x0), .val (.int x1), .val (.int x2), .val (.int ch_1), .val (.int ch_2), .val (.int ch_3), .val (.ref a_4), .val (.int (own_ln ch_1 (0 : Int32) (1 : Int32))), .unset, .unset, .unset, .unset, .unset, .unset, .unset, .unset, .unset, .unset, .unset]) rfl rfl ?_
  refine own_aload X_21 hx (hb hby at_39) (pc' := 41) rfl rfl rfl ?_
  obtain ⟨cq_22, kq_22, qa_22, qb_22, qc_22⟩ := isOf hZ eq_21 A_20
  obtain ⟨_, _, ⟨T_22, L_22, k_22, n_22⟩, -, X_22, ⟨Lc_22, hQ_22, l_22, y_22, z_22⟩, st_22⟩ := X_21.virtualBack hx  (y := (⟨"com/example/muster/muster/xml/TextPosition", "getColumn", "()I"⟩ : MethodName)) (z := (⟨"com/example/muster/muster/xml/TextPosition", "getColumn", "()I"⟩ : MethodName)) hown (mvT hZ (hw _ (List.mem_of_getElem? (i := 29) rfl))) (mvT hZ (hw _ (List.mem_of_getElem? (i := 30) rfl))) (notFace_of_selects (args := #[]) (mvT hZ (hw _ (List.mem_of_getElem? (i := 32) rfl)))) (mvT hZ (hw _ (List.mem_of_getElem? (i := 32) rfl))) (mvT hZ (hw _ (List.mem_of_getElem? (i := 31) rfl))) (by decide) (backOf (W := 0) (rm5 l Z a0 hw [] a_4 (own_co ch_1 (0 : Int32) (1 : Int32)) T_15.heap n0 Z_19 F_17) hZ (hw _ (List.mem_of_getElem? (i := 33) rfl)) (hw _ (List.mem_of_getElem? (i := 6) rfl)) (by decide) (by decide)) qa_22 qc_22 (g := (mkF m 41 #[.val (.int x0), .val (.int x1), .val (.int x2), .val (.int ch_1), .val (.int ch_2), .val (.int ch_3), .val (.ref a_4), .val (.int (own_ln ch_1 (0 : Int32) (1 : Int32))), .unset, .unset, .unset, .unset, .unset, .unset, .unset, .unset, .unset, .unset, .unset] [(.ref a_4)])) rfl (by rw [hml]; rfl) (Steps.refl _) (argsL := []) (rest := []) (lenOf pd0_3 rfl) rfl (by show 2 * 0 + _ ≤ _; exact Nat.le_of_eq rfl) (hb hby at_41) (fun _ _ => ⟨rfl, eq_21, (by decide : 1 + 0 ≤ _), (by decide : 3 + 0 ≤ _)⟩)
  dsimp only [Pt.U, Pt.locs, Pt.cells, Pt.slots] at X_22 l_22 y_22 z_22 st_22 hQ_22
  subst l_22 y_22 z_22
  refine own_tr st_22 ?_
  obtain ⟨rfl, Nq_22, eq_22⟩ := hQ_22
  have N_22 := Fr.app N_21 Nq_22
  show own_Go p e below _ T_22 (mkF m 44 #[.val (.int x0), .val (.int x1), .val (.int x2), .val (.int ch_1), .val (.int ch_2), .val (.int ch_3), .val (.ref a_4), .val (.int (own_ln ch_1 (0 : Int32) (1 : Int32))), .unset, .unset, .unset, .unset, .unset, .unset, .unset, .unset, .unset, .unset, .unset] [(.int (own_co ch_1 (0 : Int32) (1 : Int32)))])
  refine own_istore X_22 hx (hb hby at_44) (pc' := 46) (Ls' := #[.val (.int x0), .val (.int x1), .val (.int x2), .val (.int ch_1), .val (.int ch_2), .val (.int ch_3), .val (.ref a_4), .val (.int (own_ln ch_1 (0 : Int32) (1 : Int32))), .val (.int (own_co ch_1 (0 : Int32) (1 : Int32))), .unset, .unset, .unset, .unset, .unset, .unset, .unset, .unset, .unset, .unset]) rfl rfl ?_
  refine own_aload X_22 hx (hb hby at_46) (pc' := 48) rfl rfl rfl ?_
  refine own_iload X_22 hx (hb hby at_48) (pc' := 50) rfl rfl ?_
  obtain ⟨cq_23, kq_23, qa_23, qb_23, qc_23⟩ := isOf hZ eq_22 A_20
  obtain ⟨_, _, ⟨T_23, L_23, k_23, n_23⟩, -, X_23, ⟨Lc_23, hQ_23, l_23, y_23, z_23⟩, st_23⟩ := X_22.virtualBack hx  (y := (⟨"com/example/muster/muster/xml/TextPosition", "advance", "(C)V"⟩ : MethodName)) (z := (⟨"com/example/muster/muster/xml/TextPosition", "advance", "(C)V"⟩ : MethodName)) hown (mvT hZ (hw _ (List.mem_of_getElem? (i := 17) rfl))) (mvT hZ (hw _ (List.mem_of_getElem? (i := 18) rfl))) (notFace_of_selects (args := #[]) (mvT hZ (hw _ (List.mem_of_getElem? (i := 20) rfl)))) (mvT hZ (hw _ (List.mem_of_getElem? (i := 20) rfl))) (mvT hZ (hw _ (List.mem_of_getElem? (i := 19) rfl))) (by decide) (backOf (W := 0) (rm3 l Z a0 hw [] a_4 ch_2 (own_ln ch_1 (0 : Int32) (1 : Int32)) (own_co ch_1 (0 : Int32) (1 : Int32)) (own_b (ch_1 = 13)) T_15.heap n0 Z_19 A_20 F_16 F_17 F_18 ge_4) hZ (hw _ (List.mem_of_getElem? (i := 21) rfl)) (hw _ (List.mem_of_getElem? (i := 6) rfl)) (by decide) (by decide)) qa_23 qc_23 (g := (mkF m 50 #[.val (.int x0), .val (.int x1), .val (.int x2), .val (.int ch_1), .val (.int ch_2), .val (.int ch_3), .val (.ref a_4), .val (.int (own_ln ch_1 (0 : Int32) (1 : Int32))), .val (.int (own_co ch_1 (0 : Int32) (1 : Int32))), .unset, .unset, .unset, .unset, .unset, .unset, .unset, .unset, .unset, .unset] [(.int ch_2), (.ref a_4)])) rfl (by rw [hml]; rfl) (Steps.refl _) (argsL := [(.int ch_2)]) (rest := []) (lenOf pd0_2 rfl) rfl (by show 2 * 0 + _ ≤ _; exact Nat.le_of_eq rfl) (hb hby at_50) (fun _ _ => ⟨rfl, eq_22, (by decide : 1 + 0 ≤ _), (by decide : 3 + 0 ≤ _)⟩)
  dsimp only [Pt.U, Pt.locs, Pt.cells, Pt.slots] at X_23 l_23 y_23 z_23 st_23 hQ_23
  subst l_23 y_23 z_23
  refine own_tr st_23 ?_
  obtain ⟨rfl, Nq_23, Kq_23, q0_23, q1_23, q2_23⟩ := hQ_23
  have N_23 := Fr.app N_22 Nq_23
  have F_24 : Fld Z T_23.heap a_4 "com/example/muster/muster/xml/TextPosition" "line" "I" (.int (own_ln ch_2 (own_b (ch_1 = 13)) (own_ln ch_1 (0 : Int32) (1 : Int32)))) := q0_23
  have F_25 : Fld Z T_23.heap a_4 "com/example/muster/muster/xml/TextPosition" "column" "I" (.int (own_co ch_2 (own_b (ch_1 = 13)) (own_co ch_1 (0 : Int32) (1 : Int32)))) := q1_23
  have F_26 : Fld Z T_23.heap a_4 "com/example/muster/muster/xml/TextPosition" "afterCarriageReturn" "Z" (.int (own_b (ch_2 = 13))) := q2_23
  have A_28 : Exa Z T_23.heap a_4 "com/example/muster/muster/xml/TextPosition" := A_20.keep Kq_23
  have Z_27 : n0 ≤ T_23.heap.size := Nat.le_trans Z_19 Kq_23.1
  show own_Go p e below _ T_23 (mkF m 53 #[.val (.int x0), .val (.int x1), .val (.int x2), .val (.int ch_1), .val (.int ch_2), .val (.int ch_3), .val (.ref a_4), .val (.int (own_ln ch_1 (0 : Int32) (1 : Int32))), .val (.int (own_co ch_1 (0 : Int32) (1 : Int32))), .unset, .unset, .unset, .unset, .unset, .unset, .unset, .unset, .unset, .unset] [])
  refine own_aload X_23 hx (hb hby at_53) (pc' := 55) rfl rfl rfl ?_
  obtain ⟨cq_29, kq_29, qa_29, qb_29, qc_29⟩ := isOf hZ rfl A_28
  obtain ⟨_, _, ⟨T_29, L_29, k_29, n_29⟩, -, X_29, ⟨Lc_29, hQ_29, l_29, y_29, z_29⟩, st_29⟩ := X_23.virtualBack hx  (y := (⟨"com/example/muster/muster/xml/TextPosition", "getLine", "()I"⟩ : MethodName)) (z := (⟨"com/example/muster/muster/xml/TextPosition", "getLine", "()I"⟩ : MethodName)) hown (mvT hZ (hw _ (List.mem_of_getElem? (i := 24) rfl))) (mvT hZ (hw _ (List.mem_of_getElem? (i := 25) rfl))) (notFace_of_selects (args := #[]) (mvT hZ (hw _ (List.mem_of_getElem? (i := 27) rfl)))) (mvT hZ (hw _ (List.mem_of_getElem? (i := 27) rfl))) (mvT hZ (hw _ (List.mem_of_getElem? (i := 26) rfl))) (by decide) (backOf (W := 0) (rm4 l Z a0 hw [] a_4 (own_ln ch_2 (own_b (ch_1 = 13)) (own_ln ch_1 (0 : Int32) (1 : Int32))) T_23.heap n0 Z_27 F_24) hZ (hw _ (List.mem_of_getElem? (i := 28) rfl)) (hw _ (List.mem_of_getElem? (i := 6) rfl)) (by decide) (by decide)) qa_29 qc_29 (g := (mkF m 55 #[.val (.int x0), .val (.int x1), .val (.int x2), .val (.int ch_1), .val (.int ch_2), .val (.int ch_3), .val (.ref a_4), .val (.int (own_ln ch_1 (0 : Int32) (1 : Int32))), .val (.int (own_co ch_1 (0 : Int32) (1 : Int32))), .unset, .unset, .unset, .unset, .unset, .unset, .unset, .unset, .unset, .unset] [(.ref a_4)])) rfl (by rw [hml]; rfl) (Steps.refl _) (argsL := []) (rest := []) (lenOf pd0_3 rfl) rfl (by show 2 * 0 + _ ≤ _; exact Nat.le_of_eq rfl) (hb hby at_55) (fun _ _ => ⟨rfl, rfl, (by decide : 1 + 0 ≤ _), (by decide : 3 + 0 ≤ _)⟩)
  dsimp only [Pt.U, Pt.locs, Pt.cells, Pt.slots] at X_29 l_29 y_29 z_29 st_29 hQ_29
  subst l_29 y_29 z_29
  refine own_tr st_29 ?_
  obtain ⟨rfl, Nq_29, eq_29⟩ := hQ_29
  have N_29 := Fr.app N_23 Nq_29
  show own_Go p e below _ T_29 (mkF m 58 #[.val (.int x0), .val (.int x1), .val (.int x2), .val (.int ch_1), .val (.int ch_2), .val (.int ch_3), .val (.ref a_4), .val (.int (own_ln ch_1 (0 : Int32) (1 : Int32))), .val (.int (own_co ch_1 (0 : Int32) (1 : Int32))), .unset, .unset, .unset, .unset, .unset, .unset, .unset, .unset, .unset, .unset] [(.int (own_ln ch_2 (own_b (ch_1 = 13)) (own_ln ch_1 (0 : Int32) (1 : Int32))))])
  refine own_istore X_29 hx (hb hby at_58) (pc' := 60) (Ls' := #[.val (.int x0), .val (.int x1), .val (.int x2), .val (.int ch_1), .val (.int ch_2), .val (.int ch_3), .val (.ref a_4), .val (.int (own_ln ch_1 (0 : Int32) (1 : Int32))), .val (.int (own_co ch_1 (0 : Int32) (1 : Int32))), .val (.int (own_ln ch_2 (own_b (ch_1 = 13)) (own_ln ch_1 (0 : Int32) (1 : Int32)))), .unset, .unset, .unset, .unset, .unset, .unset, .unset, .unset, .unset]) rfl rfl ?_
  refine own_aload X_29 hx (hb hby at_60) (pc' := 62) rfl rfl rfl ?_
  obtain ⟨cq_30, kq_30, qa_30, qb_30, qc_30⟩ := isOf hZ eq_29 A_28
  obtain ⟨_, _, ⟨T_30, L_30, k_30, n_30⟩, -, X_30, ⟨Lc_30, hQ_30, l_30, y_30, z_30⟩, st_30⟩ := X_29.virtualBack hx  (y := (⟨"com/example/muster/muster/xml/TextPosition", "getColumn", "()I"⟩ : MethodName)) (z := (⟨"com/example/muster/muster/xml/TextPosition", "getColumn", "()I"⟩ : MethodName)) hown (mvT hZ (hw _ (List.mem_of_getElem? (i := 29) rfl))) (mvT hZ (hw _ (List.mem_of_getElem? (i := 30) rfl))) (notFace_of_selects (args := #[]) (mvT hZ (hw _ (List.mem_of_getElem? (i := 32) rfl)))) (mvT hZ (hw _ (List.mem_of_getElem? (i := 32) rfl))) (mvT hZ (hw _ (List.mem_of_getElem? (i := 31) rfl))) (by decide) (backOf (W := 0) (rm5 l Z a0 hw [] a_4 (own_co ch_2 (own_b (ch_1 = 13)) (own_co ch_1 (0 : Int32) (1 : Int32))) T_23.heap n0 Z_27 F_25) hZ (hw _ (List.mem_of_getElem? (i := 33) rfl)) (hw _ (List.mem_of_getElem? (i := 6) rfl)) (by decide) (by decide)) qa_30 qc_30 (g := (mkF m 62 #[.val (.int x0), .val (.int x1), .val (.int x2), .val (.int ch_1), .val (.int ch_2), .val (.int ch_3), .val (.ref a_4), .val (.int (own_ln ch_1 (0 : Int32) (1 : Int32))), .val (.int (own_co ch_1 (0 : Int32) (1 : Int32))), .val (.int (own_ln ch_2 (own_b (ch_1 = 13)) (own_ln ch_1 (0 : Int32) (1 : Int32)))), .unset, .unset, .unset, .unset, .unset, .unset, .unset, .unset, .unset] [(.ref a_4)])) rfl (by rw [hml]; rfl) (Steps.refl _) (argsL := []) (rest := []) (lenOf pd0_3 rfl) rfl (by show 2 * 0 + _ ≤ _; exact Nat.le_of_eq rfl) (hb hby at_62) (fun _ _ => ⟨rfl, eq_29, (by decide : 1 + 0 ≤ _), (by decide : 3 + 0 ≤ _)⟩)
  dsimp only [Pt.U, Pt.locs, Pt.cells, Pt.slots] at X_30 l_30 y_30 z_30 st_30 hQ_30
  subst l_30 y_30 z_30
  refine own_tr st_30 ?_
  obtain ⟨rfl, Nq_30, eq_30⟩ := hQ_30
  have N_30 := Fr.app N_29 Nq_30
  show own_Go p e below _ T_30 (mkF m 65 #[.val (.int x0), .val (.int x1), .val (.int x2), .val (.int ch_1), .val (.int ch_2), .val (.int ch_3), .val (.ref a_4), .val (.int (own_ln ch_1 (0 : Int32) (1 : Int32))), .val (.int (own_co ch_1 (0 : Int32) (1 : Int32))), .val (.int (own_ln ch_2 (own_b (ch_1 = 13)) (own_ln ch_1 (0 : Int32) (1 : Int32)))), .unset, .unset, .unset, .unset, .unset, .unset, .unset, .unset, .unset] [(.int (own_co ch_2 (own_b (ch_1 = 13)) (own_co ch_1 (0 : Int32) (1 : Int32))))])
  refine own_istore X_30 hx (hb hby at_65) (pc' := 67) (Ls' := #[.val (.int x0), .val (.int x1), .val (.int x2), .val (.int ch_1), .val (.int ch_2), .val (.int ch_3), .val (.ref a_4), .val (.int (own_ln ch_1 (0 : Int32) (1 : Int32))), .val (.int (own_co ch_1 (0 : Int32) (1 : Int32))), .val (.int (own_ln ch_2 (own_b (ch_1 = 13)) (own_ln ch_1 (0 : Int32) (1 : Int32)))), .val (.int (own_co ch_2 (own_b (ch_1 = 13)) (own_co ch_1 (0 : Int32) (1 : Int32)))), .unset, .unset, .unset, .unset, .unset, .unset, .unset, .unset]) rfl rfl ?_
  refine own_aload X_30 hx (hb hby at_67) (pc' := 69) rfl rfl rfl ?_
  refine own_iload X_30 hx (hb hby at_69) (pc' := 71) rfl rfl ?_
  obtain ⟨cq_31, kq_31, qa_31, qb_31, qc_31⟩ := isOf hZ eq_30 A_28
  obtain ⟨_, _, ⟨T_31, L_31, k_31, n_31⟩, -, X_31, ⟨Lc_31, hQ_31, l_31, y_31, z_31⟩, st_31⟩ := X_30.virtualBack hx  (y := (⟨"com/example/muster/muster/xml/TextPosition", "advance", "(C)V"⟩ : MethodName)) (z := (⟨"com/example/muster/muster/xml/TextPosition", "advance", "(C)V"⟩ : MethodName)) hown (mvT hZ (hw _ (List.mem_of_getElem? (i := 17) rfl))) (mvT hZ (hw _ (List.mem_of_getElem? (i := 18) rfl))) (notFace_of_selects (args := #[]) (mvT hZ (hw _ (List.mem_of_getElem? (i := 20) rfl)))) (mvT hZ (hw _ (List.mem_of_getElem? (i := 20) rfl))) (mvT hZ (hw _ (List.mem_of_getElem? (i := 19) rfl))) (by decide) (backOf (W := 0) (rm3 l Z a0 hw [] a_4 ch_3 (own_ln ch_2 (own_b (ch_1 = 13)) (own_ln ch_1 (0 : Int32) (1 : Int32))) (own_co ch_2 (own_b (ch_1 = 13)) (own_co ch_1 (0 : Int32) (1 : Int32))) (own_b (ch_2 = 13)) T_23.heap n0 Z_27 A_28 F_24 F_25 F_26 ge_4) hZ (hw _ (List.mem_of_getElem? (i := 21) rfl)) (hw _ (List.mem_of_getElem? (i := 6) rfl)) (by decide) (by decide)) qa_31 qc_31 (g := (mkF m 71 #[.val (.int x0), .val (.int x1), .val (.int x2), .val (.int ch_1), .val (.int ch_2), .val (.int ch_3), .val (.ref a_4), .val (.int (own_ln ch_1 (0 : Int32) (1 : Int32))), .val (.int (own_co ch_1 (0 : Int32) (1 : Int32))), .val (.int (own_ln ch_2 (own_b (ch_1 = 13)) (own_ln ch_1 (0 : Int32) (1 : Int32)))), .val (.int (own_co ch_2 (own_b (ch_1 = 13)) (own_co ch_1 (0 : Int32) (1 : Int32)))), .unset, .unset, .unset, .unset, .unset, .unset, .unset, .unset] [(.int ch_3), (.ref a_4)])) rfl (by rw [hml]; rfl) (Steps.refl _) (argsL := [(.int ch_3)]) (rest := []) (lenOf pd0_2 rfl) rfl (by show 2 * 0 + _ ≤ _; exact Nat.le_of_eq rfl) (hb hby at_71) (fun _ _ => ⟨rfl, eq_30, (by decide : 1 + 0 ≤ _), (by decide : 3 + 0 ≤ _)⟩)
  dsimp only [Pt.U, Pt.locs, Pt.cells, Pt.slots] at X_31 l_31 y_31 z_31 st_31 hQ_31
  subst l_31 y_31 z_31
  refine own_tr st_31 ?_
  obtain ⟨rfl, Nq_31, Kq_31, q0_31, q1_31, q2_31⟩ := hQ_31
  have N_31 := Fr.app N_30 Nq_31
  have F_32 : Fld Z T_31.heap a_4 "com/example/muster/muster/xml/TextPosition" "line" "I" (.int (own_ln ch_3 (own_b (ch_2 = 13)) (own_ln ch_2 (own_b (ch_1 = 13)) (own_ln ch_1 (0 : Int32) (1 : Int32))))) := q0_31
  have F_33 : Fld Z T_31.heap a_4 "com/example/muster/muster/xml/TextPosition" "column" "I" (.int (own_co ch_3 (own_b (ch_2 = 13)) (own_co ch_2 (own_b (ch_1 = 13)) (own_co ch_1 (0 : Int32) (1 : Int32))))) := q1_31
  have F_34 : Fld Z T_31.heap a_4 "com/example/muster/muster/xml/TextPosition" "afterCarriageReturn" "Z" (.int (own_b (ch_3 = 13))) := q2_31
  have A_36 : Exa Z T_31.heap a_4 "com/example/muster/muster/xml/TextPosition" := A_28.keep Kq_31
  have Z_35 : n0 ≤ T_31.heap.size := Nat.le_trans Z_27 Kq_31.1
  show own_Go p e below _ T_31 (mkF m 74 #[.val (.int x0), .val (.int x1), .val (.int x2), .val (.int ch_1), .val (.int ch_2), .val (.int ch_3), .val (.ref a_4), .val (.int (own_ln ch_1 (0 : Int32) (1 : Int32))), .val (.int (own_co ch_1 (0 : Int32) (1 : Int32))), .val (.int (own_ln ch_2 (own_b (ch_1 = 13)) (own_ln ch_1 (0 : Int32) (1 : Int32)))), .val (.int (own_co ch_2 (own_b (ch_1 = 13)) (own_co ch_1 (0 : Int32) (1 : Int32)))), .unset, .unset, .unset, .unset, .unset, .unset, .unset, .unset] [])
  refine own_aload X_31 hx (hb hby at_74) (pc' := 76) rfl rfl rfl ?_
  obtain ⟨cq_37, kq_37, qa_37, qb_37, qc_37⟩ := isOf hZ rfl A_36
  obtain ⟨_, _, ⟨T_37, L_37, k_37, n_37⟩, -, X_37, ⟨Lc_37, hQ_37, l_37, y_37, z_37⟩, st_37⟩ := X_31.virtualBack hx  (y := (⟨"com/example/muster/muster/xml/TextPosition", "getLine", "()I"⟩ : MethodName)) (z := (⟨"com/example/muster/muster/xml/TextPosition", "getLine", "()I"⟩ : MethodName)) hown (mvT hZ (hw _ (List.mem_of_getElem? (i := 24) rfl))) (mvT hZ (hw _ (List.mem_of_getElem? (i := 25) rfl))) (notFace_of_selects (args := #[]) (mvT hZ (hw _ (List.mem_of_getElem? (i := 27) rfl)))) (mvT hZ (hw _ (List.mem_of_getElem? (i := 27) rfl))) (mvT hZ (hw _ (List.mem_of_getElem? (i := 26) rfl))) (by decide) (backOf (W := 0) (rm4 l Z a0 hw [] a_4 (own_ln ch_3 (own_b (ch_2 = 13)) (own_ln ch_2 (own_b (ch_1 = 13)) (own_ln ch_1 (0 : Int32) (1 : Int32)))) T_31.heap n0 Z_35 F_32) hZ (hw _ (List.mem_of_getElem? (i := 28) rfl)) (hw _ (List.mem_of_getElem? (i := 6) rfl)) (by decide) (by decide)) qa_37 qc_37 (g := (mkF m 76 #[.val (.int x0), .val (.int x1), .val (.int x2), .val (.int ch_1), .val (.int ch_2), .val (.int ch_3), .val (.ref a_4), .val (.int (own_ln ch_1 (0 : Int32) (1 : Int32))), .val (.int (own_co ch_1 (0 : Int32) (1 : Int32))), .val (.int (own_ln ch_2 (own_b (ch_1 = 13)) (own_ln ch_1 (0 : Int32) (1 : Int32)))), .val (.int (own_co ch_2 (own_b (ch_1 = 13)) (own_co ch_1 (0 : Int32) (1 : Int32)))), .unset, .unset, .unset, .unset, .unset, .unset, .unset, .unset] [(.ref a_4)])) rfl (by rw [hml]; rfl) (Steps.refl _) (argsL := []) (rest := []) (lenOf pd0_3 rfl) rfl (by show 2 * 0 + _ ≤ _; exact Nat.le_of_eq rfl) (hb hby at_76) (fun _ _ => ⟨rfl, rfl, (by decide : 1 + 0 ≤ _), (by decide : 3 + 0 ≤ _)⟩)
  dsimp only [Pt.U, Pt.locs, Pt.cells, Pt.slots] at X_37 l_37 y_37 z_37 st_37 hQ_37
  subst l_37 y_37 z_37
  refine own_tr st_37 ?_
  obtain ⟨rfl, Nq_37, eq_37⟩ := hQ_37
  have N_37 := Fr.app N_31 Nq_37
  show own_Go p e below _ T_37 (mkF m 79 #[.val (.int x0), .val (.int x1), .val (.int x2), .val (.int ch_1), .val (.int ch_2), .val (.int ch_3), .val (.ref a_4), .val (.int (own_ln ch_1 (0 : Int32) (1 : Int32))), .val (.int (own_co ch_1 (0 : Int32) (1 : Int32))), .val (.int (own_ln ch_2 (own_b (ch_1 = 13)) (own_ln ch_1 (0 : Int32) (1 : Int32)))), .val (.int (own_co ch_2 (own_b (ch_1 = 13)) (own_co ch_1 (0 : Int32) (1 : Int32)))), .unset, .unset, .unset, .unset, .unset, .unset, .unset, .unset] [(.int (own_ln ch_3 (own_b (ch_2 = 13)) (own_ln ch_2 (own_b (ch_1 = 13)) (own_ln ch_1 (0 : Int32) (1 : Int32)))))])
  refine own_istore X_37 hx (hb hby at_79) (pc' := 81) (Ls' := #[.val (.int x0), .val (.int x1), .val (.int x2), .val (.int ch_1), .val (.int ch_2), .val (.int ch_3), .val (.ref a_4), .val (.int (own_ln ch_1 (0 : Int32) (1 : Int32))), .val (.int (own_co ch_1 (0 : Int32) (1 : Int32))), .val (.int (own_ln ch_2 (own_b (ch_1 = 13)) (own_ln ch_1 (0 : Int32) (1 : Int32)))), .val (.int (own_co ch_2 (own_b (ch_1 = 13)) (own_co ch_1 (0 : Int32) (1 : Int32)))), .val (.int (own_ln ch_3 (own_b (ch_2 = 13)) (own_ln ch_2 (own_b (ch_1 = 13)) (own_ln ch_1 (0 : Int32) (1 : Int32))))), .unset, .unset, .unset, .unset, .unset, .unset, .unset]) rfl rfl ?_
  refine own_aload X_37 hx (hb hby at_81) (pc' := 83) rfl rfl rfl ?_
  obtain ⟨cq_38, kq_38, qa_38, qb_38, qc_38⟩ := isOf hZ eq_37 A_36
  obtain ⟨_, _, ⟨T_38, L_38, k_38, n_38⟩, -, X_38, ⟨Lc_38, hQ_38, l_38, y_38, z_38⟩, st_38⟩ := X_37.virtualBack hx  (y := (⟨"com/example/muster/muster/xml/TextPosition", "getColumn", "()I"⟩ : MethodName)) (z := (⟨"com/example/muster/muster/xml/TextPosition", "getColumn", "()I"⟩ : MethodName)) hown (mvT hZ (hw _ (List.mem_of_getElem? (i := 29) rfl))) (mvT hZ (hw _ (List.mem_of_getElem? (i := 30) rfl))) (notFace_of_selects (args := #[]) (mvT hZ (hw _ (List.mem_of_getElem? (i := 32) rfl)))) (mvT hZ (hw _ (List.mem_of_getElem? (i := 32) rfl))) (mvT hZ (hw _ (List.mem_of_getElem? (i := 31) rfl))) (by decide) (backOf (W := 0) (rm5 l Z a0 hw [] a_4 (own_co ch_3 (own_b (ch_2 = 13)) (own_co ch_2 (own_b (ch_1 = 13)) (own_co ch_1 (0 : Int32) (1 : Int32)))) T_31.heap n0 Z_35 F_33) hZ (hw _ (List.mem_of_getElem? (i := 33) rfl)) (hw _ (List.mem_of_getElem? (i := 6) rfl)) (by decide) (by decide)) qa_38 qc_38 (g := (mkF m 83 #[.val (.int x0), .val (.int x1), .val (.int x2), .val (.int ch_1), .val (.int ch_2), .val (.int ch_3), .val (.ref a_4), .val (.int (own_ln ch_1 (0 : Int32) (1 : Int32))), .val (.int (own_co ch_1 (0 : Int32) (1 : Int32))), .val (.int (own_ln ch_2 (own_b (ch_1 = 13)) (own_ln ch_1 (0 : Int32) (1 : Int32)))), .val (.int (own_co ch_2 (own_b (ch_1 = 13)) (own_co ch_1 (0 : Int32) (1 : Int32)))), .val (.int (own_ln ch_3 (own_b (ch_2 = 13)) (own_ln ch_2 (own_b (ch_1 = 13)) (own_ln ch_1 (0 : Int32) (1 : Int32))))), .unset, .unset, .unset, .unset, .unset, .unset, .unset] [(.ref a_4)])) rfl (by rw [hml]; rfl) (Steps.refl _) (argsL := []) (rest := []) (lenOf pd0_3 rfl) rfl (by show 2 * 0 + _ ≤ _; exact Nat.le_of_eq rfl) (hb hby at_83) (fun _ _ => ⟨rfl, eq_37, (by decide : 1 + 0 ≤ _), (by decide : 3 + 0 ≤ _)⟩)
  dsimp only [Pt.U, Pt.locs, Pt.cells, Pt.slots] at X_38 l_38 y_38 z_38 st_38 hQ_38
  subst l_38 y_38 z_38
  refine own_tr st_38 ?_
  obtain ⟨rfl, Nq_38, eq_38⟩ := hQ_38
  have N_38 := Fr.app N_37 Nq_38
  show own_Go p e below _ T_38 (mkF m 86 #[.val (.int x0), .val (.int x1), .val (.int x2), .val (.int ch_1), .val (.int ch_2), .val (.int ch_3), .val (.ref a_4), .val (.int (own_ln ch_1 (0 : Int32) (1 : Int32))), .val (.int (own_co ch_1 (0 : Int32) (1 : Int32))), .val (.int (own_ln ch_2 (own_b (ch_1 = 13)) (own_ln ch_1 (0 : Int32) (1 : Int32)))), .val (.int (own_co ch_2 (own_b (ch_1 = 13)) (own_co ch_1 (0 : Int32) (1 : Int32)))), .val (.int (own_ln ch_3 (own_b (ch_2 = 13)) (own_ln ch_2 (own_b (ch_1 = 13)) (own_ln ch_1 (0 : Int32) (1 : Int32))))), .unset, .unset, .unset, .unset, .unset, .unset, .unset] [(.int (own_co ch_3 (own_b (ch_2 = 13)) (own_co ch_2 (own_b (ch_1 = 13)) (own_co ch_1 (0 : Int32) (1 : Int32)))))])
  refine own_istore X_38 hx (hb hby at_86) (pc' := 88) (Ls' := #[.val (.int x0), .val (.int x1), .val (.int x2), .val (.int ch_1), .val (.int ch_2), .val (.int ch_3), .val (.ref a_4), .val (.int (own_ln ch_1 (0 : Int32) (1 : Int32))), .val (.int (own_co ch_1 (0 : Int32) (1 : Int32))), .val (.int (own_ln ch_2 (own_b (ch_1 = 13)) (own_ln ch_1 (0 : Int32) (1 : Int32)))), .val (.int (own_co ch_2 (own_b (ch_1 = 13)) (own_co ch_1 (0 : Int32) (1 : Int32)))), .val (.int (own_ln ch_3 (own_b (ch_2 = 13)) (own_ln ch_2 (own_b (ch_1 = 13)) (own_ln ch_1 (0 : Int32) (1 : Int32))))), .val (.int (own_co ch_3 (own_b (ch_2 = 13)) (own_co ch_2 (own_b (ch_1 = 13)) (own_co ch_1 (0 : Int32) (1 : Int32))))), .unset, .unset, .unset, .unset, .unset, .unset]) rfl rfl ?_
  refine own_iloadN X_38 hx (hb hby at_88) (pc' := 89) rfl rfl ?_
  obtain ⟨_, _, ⟨T_39, L_39, k_39, n_39⟩, -, X_39, ⟨Lc_39, hQ_39, l_39, y_39, z_39⟩, st_39⟩ := Jvm.LawKit.callS X_38 hx (y := (⟨"com/example/muster/muster/xml/TextPositionAdvancePinLaw", "ends", "(C)Z"⟩ : MethodName)) hown (mvT hZ (hw _ (List.mem_of_getElem? (i := 34) rfl))) (mvT hZ (hw _ (List.mem_of_getElem? (i := 35) rfl))) (mvT hZ (hw _ (List.mem_of_getElem? (i := 2) rfl))) (mvT hZ (hw _ (List.mem_of_getElem? (i := 36) rfl))) (by decide) (backOf (W := 0) (rm6 l Z a0 hw [] ch_1 T_31.heap n0 Z_35) hZ (hw _ (List.mem_of_getElem? (i := 36) rfl)) (hw _ (List.mem_of_getElem? (i := 2) rfl)) (by decide) (by decide)) (g := (mkF m 89 #[.val (.int x0), .val (.int x1), .val (.int x2), .val (.int ch_1), .val (.int ch_2), .val (.int ch_3), .val (.ref a_4), .val (.int (own_ln ch_1 (0 : Int32) (1 : Int32))), .val (.int (own_co ch_1 (0 : Int32) (1 : Int32))), .val (.int (own_ln ch_2 (own_b (ch_1 = 13)) (own_ln ch_1 (0 : Int32) (1 : Int32)))), .val (.int (own_co ch_2 (own_b (ch_1 = 13)) (own_co ch_1 (0 : Int32) (1 : Int32)))), .val (.int (own_ln ch_3 (own_b (ch_2 = 13)) (own_ln ch_2 (own_b (ch_1 = 13)) (own_ln ch_1 (0 : Int32) (1 : Int32))))), .val (.int (own_co ch_3 (own_b (ch_2 = 13)) (own_co ch_2 (own_b (ch_1 = 13)) (own_co ch_1 (0 : Int32) (1 : Int32))))), .unset, .unset, .unset, .unset, .unset, .unset] [(.int ch_1)])) rfl (by rw [hml]; rfl) (argsL := [(.int ch_1)]) (rest := []) (lenOf pd0_4 rfl) rfl (by show 2 * 0 + _ ≤ _; exact Nat.le_of_eq rfl) (hb hby at_89) (fun _ _ => ⟨rfl, eq_38, (by decide : 1 + 0 ≤ _), (by decide : 3 + 0 ≤ _)⟩)
  dsimp only [Pt.U, Pt.locs, Pt.cells, Pt.slots] at X_39 l_39 y_39 z_39 st_39 hQ_39
  subst l_39 y_39 z_39
  refine own_st st_39 ?_
  obtain ⟨rfl, Nq_39, eq_39⟩ := hQ_39
  have N_39 := Fr.app N_38 Nq_39
  show own_Go p e below _ T_39 (mkF m 92 #[.val (.int x0), .val (.int x1), .val (.int x2), .val (.int ch_1), .val (.int ch_2), .val (.int ch_3), .val (.ref a_4), .val (.int (own_ln ch_1 (0 : Int32) (1 : Int32))), .val (.int (own_co ch_1 (0 : Int32) (1 : Int32))), .val (.int (own_ln ch_2 (own_b (ch_1 = 13)) (own_ln ch_1 (0 : Int32) (1 : Int32)))), .val (.int (own_co ch_2 (own_b (ch_1 = 13)) (own_co ch_1 (0 : Int32) (1 : Int32)))), .val (.int (own_ln ch_3 (own_b (ch_2 = 13)) (own_ln ch_2 (own_b (ch_1 = 13)) (own_ln ch_1 (0 : Int32) (1 : Int32))))), .val (.int (own_co ch_3 (own_b (ch_2 = 13)) (own_co ch_2 (own_b (ch_1 = 13)) (own_co ch_1 (0 : Int32) (1 : Int32))))), .unset, .unset, .unset, .unset, .unset, .unset] [(.int (own_b (ch_1 = 10 ∨ ch_1 = 13)))])
  by_cases c_40 : ch_1 = 10 ∨ ch_1 = 13
  · skip
    refine own_ifN X_39 hx (hb hby at_92) (own_b0_eq_f c_40) (pc' := 95) rfl ?_
    refine own_iconst X_39 hx (1) (hb hby at_95) (pc' := 96) rfl rfl ?_
    refine own_goto X_39 hx (hb hby at_96) (pc' := 100) (by decide) (by decide) ?_
    refine own_istore X_39 hx (hb hby at_100) (pc' := 102) (Ls' := #[.val (.int x0), .val (.int x1), .val (.int x2), .val (.int ch_1), .val (.int ch_2), .val (.int ch_3), .val (.ref a_4), .val (.int (own_ln ch_1 (0 : Int32) (1 : Int32))), .val (.int (own_co ch_1 (0 : Int32) (1 : Int32))), .val (.int (own_ln ch_2 (own_b (ch_1 = 13)) (own_ln ch_1 (0 : Int32) (1 : Int32)))), .val (.int (own_co ch_2 (own_b (ch_1 = 13)) (own_co ch_1 (0 : Int32) (1 : Int32)))), .val (.int (own_ln ch_3 (own_b (ch_2 = 13)) (own_ln ch_2 (own_b (ch_1 = 13)) (own_ln ch_1 (0 : Int32) (1 : Int32))))), .val (.int (own_co ch_3 (own_b (ch_2 = 13)) (own_co ch_2 (own_b (ch_1 = 13)) (own_co ch_1 (0 : Int32) (1 : Int32))))), .val (.int (1 : Int32)), .unset, .unset, .unset, .unset, .unset]) rfl rfl ?_
    refine own_iload X_39 hx (hb hby at_102) (pc' := 104) rfl rfl ?_
    refine own_iloadN X_39 hx (hb hby at_104) (pc' := 105) rfl rfl ?_
    refine own_iload X_39 hx (hb hby at_105) (pc' := 107) rfl rfl ?_
    obtain ⟨_, _, ⟨T_41, L_41, k_41, n_41⟩, -, X_41, ⟨Lc_41, hQ_41, l_41, y_41, z_41⟩, st_41⟩ := Jvm.LawKit.callS X_39 hx (y := (⟨"com/example/muster/muster/xml/TextPositionAdvancePinLaw", "endsAfter", "(CC)I"⟩ : MethodName)) hown (mvT hZ (hw _ (List.mem_of_getElem? (i := 37) rfl))) (mvT hZ (hw _ (List.mem_of_getElem? (i := 38) rfl))) (mvT hZ (hw _ (List.mem_of_getElem? (i := 2) rfl))) (mvT hZ (hw _ (List.mem_of_getElem? (i := 39) rfl))) (by decide) (backOf (W := 1) (rm7 l Z a0 hw [] ch_1 ch_2 T_31.heap n0 Z_35) hZ (hw _ (List.mem_of_getElem? (i := 39) rfl)) (hw _ (List.mem_of_getElem? (i := 2) rfl)) (by decide) (by decide)) (g := (mkF m 107 #[.val (.int x0), .val (.int x1), .val (.int x2), .val (.int ch_1), .val (.int ch_2), .val (.int ch_3), .val (.ref a_4), .val (.int (own_ln ch_1 (0 : Int32) (1 : Int32))), .val (.int (own_co ch_1 (0 : Int32) (1 : Int32))), .val (.int (own_ln ch_2 (own_b (ch_1 = 13)) (own_ln ch_1 (0 : Int32) (1 : Int32)))), .val (.int (own_co ch_2 (own_b (ch_1 = 13)) (own_co ch_1 (0 : Int32) (1 : Int32)))), .val (.int (own_ln ch_3 (own_b (ch_2 = 13)) (own_ln ch_2 (own_b (ch_1 = 13)) (own_ln ch_1 (0 : Int32) (1 : Int32))))), .val (.int (own_co ch_3 (own_b (ch_2 = 13)) (own_co ch_2 (own_b (ch_1 = 13)) (own_co ch_1 (0 : Int32) (1 : Int32))))), .val (.int (1 : Int32)), .unset, .unset, .unset, .unset, .unset] [(.int ch_2), (.int ch_1), (.int (1 : Int32))])) rfl (by rw [hml]; rfl) (argsL := [(.int ch_1), (.int ch_2)]) (rest := [(.int (1 : Int32))]) (lenOf pd0_5 rfl) rfl (by show 2 * 0 + _ ≤ _; exact Nat.le_of_eq rfl) (hb hby at_107) (fun _ _ => ⟨rfl, eq_39, (by decide : 1 + 0 ≤ _), (by decide : 3 + 0 ≤ _)⟩)
    dsimp only [Pt.U, Pt.locs, Pt.cells, Pt.slots] at X_41 l_41 y_41 z_41 st_41 hQ_41
    subst l_41 y_41 z_41
    refine own_st st_41 ?_
    obtain ⟨rfl, Nq_41, eq_41⟩ := hQ_41
    have N_41 := Fr.app N_39 Nq_41
    show own_Go p e below _ T_41 (mkF m 110 #[.val (.int x0), .val (.int x1), .val (.int x2), .val (.int ch_1), .val (.int ch_2), .val (.int ch_3), .val (.ref a_4), .val (.int (own_ln ch_1 (0 : Int32) (1 : Int32))), .val (.int (own_co ch_1 (0 : Int32) (1 : Int32))), .val (.int (own_ln ch_2 (own_b (ch_1 = 13)) (own_ln ch_1 (0 : Int32) (1 : Int32)))), .val (.int (own_co ch_2 (own_b (ch_1 = 13)) (own_co ch_1 (0 : Int32) (1 : Int32)))), .val (.int (own_ln ch_3 (own_b (ch_2 = 13)) (own_ln ch_2 (own_b (ch_1 = 13)) (own_ln ch_1 (0 : Int32) (1 : Int32))))), .val (.int (own_co ch_3 (own_b (ch_2 = 13)) (own_co ch_2 (own_b (ch_1 = 13)) (own_co ch_1 (0 : Int32) (1 : Int32))))), .val (.int (1 : Int32)), .unset, .unset, .unset, .unset, .unset] [(.int (own_ea ch_1 ch_2)), (.int (1 : Int32))])
    refine own_iadd X_41 hx (hb hby at_110) (pc' := 111) rfl ?_
    refine own_istore X_41 hx (hb hby at_111) (pc' := 113) (Ls' := #[.val (.int x0), .val (.int x1), .val (.int x2), .val (.int ch_1), .val (.int ch_2), .val (.int ch_3), .val (.ref a_4), .val (.int (own_ln ch_1 (0 : Int32) (1 : Int32))), .val (.int (own_co ch_1 (0 : Int32) (1 : Int32))), .val (.int (own_ln ch_2 (own_b (ch_1 = 13)) (own_ln ch_1 (0 : Int32) (1 : Int32)))), .val (.int (own_co ch_2 (own_b (ch_1 = 13)) (own_co ch_1 (0 : Int32) (1 : Int32)))), .val (.int (own_ln ch_3 (own_b (ch_2 = 13)) (own_ln ch_2 (own_b (ch_1 = 13)) (own_ln ch_1 (0 : Int32) (1 : Int32))))), .val (.int (own_co ch_3 (own_b (ch_2 = 13)) (own_co ch_2 (own_b (ch_1 = 13)) (own_co ch_1 (0 : Int32) (1 : Int32))))), .val (.int (1 : Int32)), .val (.int ((1 : Int32) + (own_ea ch_1 ch_2))), .unset, .unset, .unset, .unset]) rfl rfl ?_
    refine own_iload X_41 hx (hb hby at_113) (pc' := 115) rfl rfl ?_
    refine own_iload X_41 hx (hb hby at_115) (pc' := 117) rfl rfl ?_
    refine own_iload X_41 hx (hb hby at_117) (pc' := 119) rfl rfl ?_
    obtain ⟨_, _, ⟨T_42, L_42, k_42, n_42⟩, -, X_42, ⟨Lc_42, hQ_42, l_42, y_42, z_42⟩, st_42⟩ := Jvm.LawKit.callS X_41 hx (y := (⟨"com/example/muster/muster/xml/TextPositionAdvancePinLaw", "endsAfter", "(CC)I"⟩ : MethodName)) hown (mvT hZ (hw _ (List.mem_of_getElem? (i := 37) rfl))) (mvT hZ (hw _ (List.mem_of_getElem? (i := 38) rfl))) (mvT hZ (hw _ (List.mem_of_getElem? (i := 2) rfl))) (mvT hZ (hw _ (List.mem_of_getElem? (i := 39) rfl))) (by decide) (backOf (W := 1) (rm7 l Z a0 hw [] ch_2 ch_3 T_31.heap n0 Z_35) hZ (hw _ (List.mem_of_getElem? (i := 39) rfl)) (hw _ (List.mem_of_getElem? (i := 2) rfl)) (by decide) (by decide)) (g := (mkF m 119 #[.val (.int x0), .val (.int x1), .val (.int x2), .val (.int ch_1), .val (.int ch_2), .val (.int ch_3), .val (.ref a_4), .val (.int (own_ln ch_1 (0 : Int32) (1 : Int32))), .val (.int (own_co ch_1 (0 : Int32) (1 : Int32))), .val (.int (own_ln ch_2 (own_b (ch_1 = 13)) (own_ln ch_1 (0 : Int32) (1 : Int32)))), .val (.int (own_co ch_2 (own_b (ch_1 = 13)) (own_co ch_1 (0 : Int32) (1 : Int32)))), .val (.int (own_ln ch_3 (own_b (ch_2 = 13)) (own_ln ch_2 (own_b (ch_1 = 13)) (own_ln ch_1 (0 : Int32) (1 : Int32))))), .val (.int (own_co ch_3 (own_b (ch_2 = 13)) (own_co ch_2 (own_b (ch_1 = 13)) (own_co ch_1 (0 : Int32) (1 : Int32))))), .val (.int (1 : Int32)), .val (.int ((1 : Int32) + (own_ea ch_1 ch_2))), .unset, .unset, .unset, .unset] [(.int ch_3), (.int ch_2), (.int ((1 : Int32) + (own_ea ch_1 ch_2)))])) rfl (by rw [hml]; rfl) (argsL := [(.int ch_2), (.int ch_3)]) (rest := [(.int ((1 : Int32) + (own_ea ch_1 ch_2)))]) (lenOf pd0_5 rfl) rfl (by show 2 * 0 + _ ≤ _; exact Nat.le_of_eq rfl) (hb hby at_119) (fun _ _ => ⟨rfl, eq_41, (by decide : 1 + 0 ≤ _), (by decide : 3 + 0 ≤ _)⟩)
    dsimp only [Pt.U, Pt.locs, Pt.cells, Pt.slots] at X_42 l_42 y_42 z_42 st_42 hQ_42
    subst l_42 y_42 z_42
    refine own_st st_42 ?_
    obtain ⟨rfl, Nq_42, eq_42⟩ := hQ_42
    have N_42 := Fr.app N_41 Nq_42
    show own_Go p e below _ T_42 (mkF m 122 #[.val (.int x0), .val (.int x1), .val (.int x2), .val (.int ch_1), .val (.int ch_2), .val (.int ch_3), .val (.ref a_4), .val (.int (own_ln ch_1 (0 : Int32) (1 : Int32))), .val (.int (own_co ch_1 (0 : Int32) (1 : Int32))), .val (.int (own_ln ch_2 (own_b (ch_1 = 13)) (own_ln ch_1 (0 : Int32) (1 : Int32)))), .val (.int (own_co ch_2 (own_b (ch_1 = 13)) (own_co ch_1 (0 : Int32) (1 : Int32)))), .val (.int (own_ln ch_3 (own_b (ch_2 = 13)) (own_ln ch_2 (own_b (ch_1 = 13)) (own_ln ch_1 (0 : Int32) (1 : Int32))))), .val (.int (own_co ch_3 (own_b (ch_2 = 13)) (own_co ch_2 (own_b (ch_1 = 13)) (own_co ch_1 (0 : Int32) (1 : Int32))))), .val (.int (1 : Int32)), .val (.int ((1 : Int32) + (own_ea ch_1 ch_2))), .unset, .unset, .unset, .unset] [(.int (own_ea ch_2 ch_3)), (.int ((1 : Int32) + (own_ea ch_1 ch_2)))])
    refine own_iadd X_42 hx (hb hby at_122) (pc' := 123) rfl ?_
    refine own_istore X_42 hx (hb hby at_123) (pc' := 125) (Ls' := #[.val (.int x0), .val (.int x1), .val (.int x2), .val (.int ch_1), .val (.int ch_2), .val (.int ch_3), .val (.ref a_4), .val (.int (own_ln ch_1 (0 : Int32) (1 : Int32))), .val (.int (own_co ch_1 (0 : Int32) (1 : Int32))), .val (.int (own_ln ch_2 (own_b (ch_1 = 13)) (own_ln ch_1 (0 : Int32) (1 : Int32)))), .val (.int (own_co ch_2 (own_b (ch_1 = 13)) (own_co ch_1 (0 : Int32) (1 : Int32)))), .val (.int (own_ln ch_3 (own_b (ch_2 = 13)) (own_ln ch_2 (own_b (ch_1 = 13)) (own_ln ch_1 (0 : Int32) (1 : Int32))))), .val (.int (own_co ch_3 (own_b (ch_2 = 13)) (own_co ch_2 (own_b (ch_1 = 13)) (own_co ch_1 (0 : Int32) (1 : Int32))))), .val (.int (1 : Int32)), .val (.int ((1 : Int32) + (own_ea ch_1 ch_2))), .val (.int (((1 : Int32) + (own_ea ch_1 ch_2)) + (own_ea ch_2 ch_3))), .unset, .unset, .unset]) rfl rfl ?_
    refine own_iloadN X_42 hx (hb hby at_125) (pc' := 126) rfl rfl ?_
    obtain ⟨_, _, ⟨T_43, L_43, k_43, n_43⟩, -, X_43, ⟨Lc_43, hQ_43, l_43, y_43, z_43⟩, st_43⟩ := Jvm.LawKit.callS X_42 hx (y := (⟨"com/example/muster/muster/xml/TextPositionAdvancePinLaw", "ends", "(C)Z"⟩ : MethodName)) hown (mvT hZ (hw _ (List.mem_of_getElem? (i := 34) rfl))) (mvT hZ (hw _ (List.mem_of_getElem? (i := 35) rfl))) (mvT hZ (hw _ (List.mem_of_getElem? (i := 2) rfl))) (mvT hZ (hw _ (List.mem_of_getElem? (i := 36) rfl))) (by decide) (backOf (W := 0) (rm6 l Z a0 hw [] ch_1 T_31.heap n0 Z_35) hZ (hw _ (List.mem_of_getElem? (i := 36) rfl)) (hw _ (List.mem_of_getElem? (i := 2) rfl)) (by decide) (by decide)) (g := (mkF m 126 #[.val (.int x0), .val (.int x1), .val (.int x2), .val (.int ch_1), .val (.int ch_2), .val (.int ch_3), .val (.ref a_4), .val (.int (own_ln ch_1 (0 : Int32) (1 : Int32))), .val (.int (own_co ch_1 (0 : Int32) (1 : Int32))), .val (.int (own_ln ch_2 (own_b (ch_1 = 13)) (own_ln ch_1 (0 : Int32) (1 : Int32)))), .val (.int (own_co ch_2 (own_b (ch_1 = 13)) (own_co ch_1 (0 : Int32) (1 : Int32)))), .val (.int (own_ln ch_3 (own_b (ch_2 = 13)) (own_ln ch_2 (own_b (ch_1 = 13)) (own_ln ch_1 (0 : Int32) (1 : Int32))))), .val (.int (own_co ch_3 (own_b (ch_2 = 13)) (own_co ch_2 (own_b (ch_1 = 13)) (own_co ch_1 (0 : Int32) (1 : Int32))))), .val (.int (1 : Int32)), .val (.int ((1 : Int32) + (own_ea ch_1 ch_2))), .val (.int (((1 : Int32) + (own_ea ch_1 ch_2)) + (own_ea ch_2 ch_3))), .unset, .unset, .unset] [(.int ch_1)])) rfl (by rw [hml]; rfl) (argsL := [(.int ch_1)]) (rest := []) (lenOf pd0_4 rfl) rfl (by show 2 * 0 + _ ≤ _; exact Nat.le_of_eq rfl) (hb hby at_126) (fun _ _ => ⟨rfl, eq_42, (by decide : 1 + 0 ≤ _), (by decide : 3 + 0 ≤ _)⟩)
    dsimp only [Pt.U, Pt.locs, Pt.cells, Pt.slots] at X_43 l_43 y_43 z_43 st_43 hQ_43
    subst l_43 y_43 z_43
    refine own_st st_43 ?_
    obtain ⟨rfl, Nq_43, eq_43⟩ := hQ_43
    have N_43 := Fr.app N_42 Nq_43
    show own_Go p e below _ T_43 (mkF m 129 #[.val (.int x0), .val (.int x1), .val (.int x2), .val (.int ch_1), .val (.int ch_2), .val (.int ch_3), .val (.ref a_4), .val (.int (own_ln ch_1 (0 : Int32) (1 : Int32))), .val (.int (own_co ch_1 (0 : Int32) (1 : Int32))), .val (.int (own_ln ch_2 (own_b (ch_1 = 13)) (own_ln ch_1 (0 : Int32) (1 : Int32)))), .val (.int (own_co ch_2 (own_b (ch_1 = 13)) (own_co ch_1 (0 : Int32) (1 : Int32)))), .val (.int (own_ln ch_3 (own_b (ch_2 = 13)) (own_ln ch_2 (own_b (ch_1 = 13)) (own_ln ch_1 (0 : Int32) (1 : Int32))))), .val (.int (own_co ch_3 (own_b (ch_2 = 13)) (own_co ch_2 (own_b (ch_1 = 13)) (own_co ch_1 (0 : Int32) (1 : Int32))))), .val (.int (1 : Int32)), .val (.int ((1 : Int32) + (own_ea ch_1 ch_2))), .val (.int (((1 : Int32) + (own_ea ch_1 ch_2)) + (own_ea ch_2 ch_3))), .unset, .unset, .unset] [(.int (own_b (ch_1 = 10 ∨ ch_1 = 13)))])
    refine own_ifN X_43 hx (hb hby at_129) (own_b0_eq_f c_40) (pc' := 132) rfl ?_
    refine own_iconst X_43 hx (1) (hb hby at_132) (pc' := 133) rfl rfl ?_
    refine own_goto X_43 hx (hb hby at_133) (pc' := 137) (by decide) (by decide) ?_
    refine own_istore X_43 hx (hb hby at_137) (pc' := 139) (Ls' := #[.val (.int x0), .val (.int x1), .val (.int x2), .val (.int ch_1), .val (.int ch_2), .val (.int ch_3), .val (.ref a_4), .val (.int (own_ln ch_1 (0 : Int32) (1 : Int32))), .val (.int (own_co ch_1 (0 : Int32) (1 : Int32))), .val (.int (own_ln ch_2 (own_b (ch_1 = 13)) (own_ln ch_1 (0 : Int32) (1 : Int32)))), .val (.int (own_co ch_2 (own_b (ch_1 = 13)) (own_co ch_1 (0 : Int32) (1 : Int32)))), .val (.int (own_ln ch_3 (own_b (ch_2 = 13)) (own_ln ch_2 (own_b (ch_1 = 13)) (own_ln ch_1 (0 : Int32) (1 : Int32))))), .val (.int (own_co ch_3 (own_b (ch_2 = 13)) (own_co ch_2 (own_b (ch_1 = 13)) (own_co ch_1 (0 : Int32) (1 : Int32))))), .val (.int (1 : Int32)), .val (.int ((1 : Int32) + (own_ea ch_1 ch_2))), .val (.int (((1 : Int32) + (own_ea ch_1 ch_2)) + (own_ea ch_2 ch_3))), .val (.int (1 : Int32)), .unset, .unset]) rfl rfl ?_
    refine own_iload X_43 hx (hb hby at_139) (pc' := 141) rfl rfl ?_
    obtain ⟨_, _, ⟨T_44, L_44, k_44, n_44⟩, -, X_44, ⟨Lc_44, hQ_44, l_44, y_44, z_44⟩, st_44⟩ := Jvm.LawKit.callS X_43 hx (y := (⟨"com/example/muster/muster/xml/TextPositionAdvancePinLaw", "ends", "(C)Z"⟩ : MethodName)) hown (mvT hZ (hw _ (List.mem_of_getElem? (i := 34) rfl))) (mvT hZ (hw _ (List.mem_of_getElem? (i := 35) rfl))) (mvT hZ (hw _ (List.mem_of_getElem? (i := 2) rfl))) (mvT hZ (hw _ (List.mem_of_getElem? (i := 36) rfl))) (by decide) (backOf (W := 0) (rm6 l Z a0 hw [] ch_2 T_31.heap n0 Z_35) hZ (hw _ (List.mem_of_getElem? (i := 36) rfl)) (hw _ (List.mem_of_getElem? (i := 2) rfl)) (by decide) (by decide)) (g := (mkF m 141 #[.val (.int x0), .val (.int x1), .val (.int x2), .val (.int ch_1), .val (.int ch_2), .val (.int ch_3), .val (.ref a_4), .val (.int (own_ln ch_1 (0 : Int32) (1 : Int32))), .val (.int (own_co ch_1 (0 : Int32) (1 : Int32))), .val (.int (own_ln ch_2 (own_b (ch_1 = 13)) (own_ln ch_1 (0 : Int32) (1 : Int32)))), .val (.int (own_co ch_2 (own_b (ch_1 = 13)) (own_co ch_1 (0 : Int32) (1 : Int32)))), .val (.int (own_ln ch_3 (own_b (ch_2 = 13)) (own_ln ch_2 (own_b (ch_1 = 13)) (own_ln ch_1 (0 : Int32) (1 : Int32))))), .val (.int (own_co ch_3 (own_b (ch_2 = 13)) (own_co ch_2 (own_b (ch_1 = 13)) (own_co ch_1 (0 : Int32) (1 : Int32))))), .val (.int (1 : Int32)), .val (.int ((1 : Int32) + (own_ea ch_1 ch_2))), .val (.int (((1 : Int32) + (own_ea ch_1 ch_2)) + (own_ea ch_2 ch_3))), .val (.int (1 : Int32)), .unset, .unset] [(.int ch_2)])) rfl (by rw [hml]; rfl) (argsL := [(.int ch_2)]) (rest := []) (lenOf pd0_4 rfl) rfl (by show 2 * 0 + _ ≤ _; exact Nat.le_of_eq rfl) (hb hby at_141) (fun _ _ => ⟨rfl, eq_43, (by decide : 1 + 0 ≤ _), (by decide : 3 + 0 ≤ _)⟩)
    dsimp only [Pt.U, Pt.locs, Pt.cells, Pt.slots] at X_44 l_44 y_44 z_44 st_44 hQ_44
    subst l_44 y_44 z_44
    refine own_st st_44 ?_
    obtain ⟨rfl, Nq_44, eq_44⟩ := hQ_44
    have N_44 := Fr.app N_43 Nq_44
    show own_Go p e below _ T_44 (mkF m 144 #[.val (.int x0), .val (.int x1), .val (.int x2), .val (.int ch_1), .val (.int ch_2), .val (.int ch_3), .val (.ref a_4), .val (.int (own_ln ch_1 (0 : Int32) (1 : Int32))), .val (.int (own_co ch_1 (0 : Int32) (1 : Int32))), .val (.int (own_ln ch_2 (own_b (ch_1 = 13)) (own_ln ch_1 (0 : Int32) (1 : Int32)))), .val (.int (own_co ch_2 (own_b (ch_1 = 13)) (own_co ch_1 (0 : Int32) (1 : Int32)))), .val (.int (own_ln ch_3 (own_b (ch_2 = 13)) (own_ln ch_2 (own_b (ch_1 = 13)) (own_ln ch_1 (0 : Int32) (1 : Int32))))), .val (.int (own_co ch_3 (own_b (ch_2 = 13)) (own_co ch_2 (own_b (ch_1 = 13)) (own_co ch_1 (0 : Int32) (1 : Int32))))), .val (.int (1 : Int32)), .val (.int ((1 : Int32) + (own_ea ch_1 ch_2))), .val (.int (((1 : Int32) + (own_ea ch_1 ch_2)) + (own_ea ch_2 ch_3))), .val (.int (1 : Int32)), .unset, .unset] [(.int (own_b (ch_2 = 10 ∨ ch_2 = 13)))])
    by_cases c_45 : ch_2 = 10 ∨ ch_2 = 13
    · skip
      refine own_ifN X_44 hx (hb hby at_144) (own_b0_eq_f c_45) (pc' := 147) rfl ?_
      refine own_iconst X_44 hx (1) (hb hby at_147) (pc' := 148) rfl rfl ?_
      refine own_goto X_44 hx (hb hby at_148) (pc' := 163) (by decide) (by decide) ?_
      refine own_istore X_44 hx (hb hby at_163) (pc' := 165) (Ls' := #[.val (.int x0), .val (.int x1), .val (.int x2), .val (.int ch_1), .val (.int ch_2), .val (.int ch_3), .val (.ref a_4), .val (.int (own_ln ch_1 (0 : Int32) (1 : Int32))), .val (.int (own_co ch_1 (0 : Int32) (1 : Int32))), .val (.int (own_ln ch_2 (own_b (ch_1 = 13)) (own_ln ch_1 (0 : Int32) (1 : Int32)))), .val (.int (own_co ch_2 (own_b (ch_1 = 13)) (own_co ch_1 (0 : Int32) (1 : Int32)))), .val (.int (own_ln ch_3 (own_b (ch_2 = 13)) (own_ln ch_2 (own_b (ch_1 = 13)) (own_ln ch_1 (0 : Int32) (1 : Int32))))), .val (.int (own_co ch_3 (own_b (ch_2 = 13)) (own_co ch_2 (own_b (ch_1 = 13)) (own_co ch_1 (0 : Int32) (1 : Int32))))), .val (.int (1 : Int32)), .val (.int ((1 : Int32) + (own_ea ch_1 ch_2))), .val (.int (((1 : Int32) + (own_ea ch_1 ch_2)) + (own_ea ch_2 ch_3))), .val (.int (1 : Int32)), .val (.int (1 : Int32)), .unset]) rfl rfl ?_
      refine own_iload X_44 hx (hb hby at_165) (pc' := 167) rfl rfl ?_
      obtain ⟨_, _, ⟨T_46, L_46, k_46, n_46⟩, -, X_46, ⟨Lc_46, hQ_46, l_46, y_46, z_46⟩, st_46⟩ := Jvm.LawKit.callS X_44 hx (y := (⟨"com/example/muster/muster/xml/TextPositionAdvancePinLaw", "ends", "(C)Z"⟩ : MethodName)) hown (mvT hZ (hw _ (List.mem_of_getElem? (i := 34) rfl))) (mvT hZ (hw _ (List.mem_of_getElem? (i := 35) rfl))) (mvT hZ (hw _ (List.mem_of_getElem? (i := 2) rfl))) (mvT hZ (hw _ (List.mem_of_getElem? (i := 36) rfl))) (by decide) (backOf (W := 0) (rm6 l Z a0 hw [] ch_3 T_31.heap n0 Z_35) hZ (hw _ (List.mem_of_getElem? (i := 36) rfl)) (hw _ (List.mem_of_getElem? (i := 2) rfl)) (by decide) (by decide)) (g := (mkF m 167 #[.val (.int x0), .val (.int x1), .val (.int x2), .val (.int ch_1), .val (.int ch_2), .val (.int ch_3), .val (.ref a_4), .val (.int (own_ln ch_1 (0 : Int32) (1 : Int32))), .val (.int (own_co ch_1 (0 : Int32) (1 : Int32))), .val (.int (own_ln ch_2 (own_b (ch_1 = 13)) (own_ln ch_1 (0 : Int32) (1 : Int32)))), .val (.int (own_co ch_2 (own_b (ch_1 = 13)) (own_co ch_1 (0 : Int32) (1 : Int32)))), .val (.int (own_ln ch_3 (own_b (ch_2 = 13)) (own_ln ch_2 (own_b (ch_1 = 13)) (own_ln ch_1 (0 : Int32) (1 : Int32))))), .val (.int (own_co ch_3 (own_b (ch_2 = 13)) (own_co ch_2 (own_b (ch_1 = 13)) (own_co ch_1 (0 : Int32) (1 : Int32))))), .val (.int (1 : Int32)), .val (.int ((1 : Int32) + (own_ea ch_1 ch_2))), .val (.int (((1 : Int32) + (own_ea ch_1 ch_2)) + (own_ea ch_2 ch_3))), .val (.int (1 : Int32)), .val (.int (1 : Int32)), .unset] [(.int ch_3)])) rfl (by rw [hml]; rfl) (argsL := [(.int ch_3)]) (rest := []) (lenOf pd0_4 rfl) rfl (by show 2 * 0 + _ ≤ _; exact Nat.le_of_eq rfl) (hb hby at_167) (fun _ _ => ⟨rfl, eq_44, (by decide : 1 + 0 ≤ _), (by decide : 3 + 0 ≤ _)⟩)
      dsimp only [Pt.U, Pt.locs, Pt.cells, Pt.slots] at X_46 l_46 y_46 z_46 st_46 hQ_46
      subst l_46 y_46 z_46
      refine own_st st_46 ?_
      obtain ⟨rfl, Nq_46, eq_46⟩ := hQ_46
      have N_46 := Fr.app N_44 Nq_46
      show own_Go p e below _ T_46 (mkF m 170 #[.val (.int x0), .val (.int x1), .val (.int x2), .val (.int ch_1), .val (.int ch_2), .val (.int ch_3), .val (.ref a_4), .val (.int (own_ln ch_1 (0 : Int32) (1 : Int32))), .val (.int (own_co ch_1 (0 : Int32) (1 : Int32))), .val (.int (own_ln ch_2 (own_b (ch_1 = 13)) (own_ln ch_1 (0 : Int32) (1 : Int32)))), .val (.int (own_co ch_2 (own_b (ch_1 = 13)) (own_co ch_1 (0 : Int32) (1 : Int32)))), .val (.int (own_ln ch_3 (own_b (ch_2 = 13)) (own_ln ch_2 (own_b (ch_1 = 13)) (own_ln ch_1 (0 : Int32) (1 : Int32))))), .val (.int (own_co ch_3 (own_b (ch_2 = 13)) (own_co ch_2 (own_b (ch_1 = 13)) (own_co ch_1 (0 : Int32) (1 : Int32))))), .val (.int (1 : Int32)), .val (.int ((1 : Int32) + (own_ea ch_1 ch_2))), .val (.int (((1 : Int32) + (own_ea ch_1 ch_2)) + (own_ea ch_2 ch_3))), .val (.int (1 : Int32)), .val (.int (1 : Int32)), .unset] [(.int (own_b (ch_3 = 10 ∨ ch_3 = 13)))])
      by_cases c_47 : ch_3 = 10 ∨ ch_3 = 13
      · skip
        refine own_ifN X_46 hx (hb hby at_170) (own_b0_eq_f c_47) (pc' := 173) rfl ?_
        refine own_iconst X_46 hx (1) (hb hby at_173) (pc' := 174) rfl rfl ?_
        refine own_goto X_46 hx (hb hby at_174) (pc' := 201) (by decide) (by decide) ?_
        refine own_istore X_46 hx (hb hby at_201) (pc' := 203) (Ls' := #[.val (.int x0), .val (.int x1), .val (.int x2), .val (.int ch_1), .val (.int ch_2), .val (.int ch_3), .val (.ref a_4), .val (.int (own_ln ch_1 (0 : Int32) (1 : Int32))), .val (.int (own_co ch_1 (0 : Int32) (1 : Int32))), .val (.int (own_ln ch_2 (own_b (ch_1 = 13)) (own_ln ch_1 (0 : Int32) (1 : Int32)))), .val (.int (own_co ch_2 (own_b (ch_1 = 13)) (own_co ch_1 (0 : Int32) (1 : Int32)))), .val (.int (own_ln ch_3 (own_b (ch_2 = 13)) (own_ln ch_2 (own_b (ch_1 = 13)) (own_ln ch_1 (0 : Int32) (1 : Int32))))), .val (.int (own_co ch_3 (own_b (ch_2 = 13)) (own_co ch_2 (own_b (ch_1 = 13)) (own_co ch_1 (0 : Int32) (1 : Int32))))), .val (.int (1 : Int32)), .val (.int ((1 : Int32) + (own_ea ch_1 ch_2))), .val (.int (((1 : Int32) + (own_ea ch_1 ch_2)) + (own_ea ch_2 ch_3))), .val (.int (1 : Int32)), .val (.int (1 : Int32)), .val (.int (1 : Int32))]) rfl rfl ?_
        refine own_iload X_46 hx (hb hby at_203) (pc' := 205) rfl rfl ?_
        refine own_iconst X_46 hx (1) (hb hby at_205) (pc' := 206) rfl rfl ?_
        refine own_iload X_46 hx (hb hby at_206) (pc' := 208) rfl rfl ?_
        refine own_iadd X_46 hx (hb hby at_208) (pc' := 209) rfl ?_
        rw [show ((1 : Int32) + (1 : Int32)) = (2 : Int32) from by decide]
        refine own_icmpN X_46 hx (hb hby at_209) (XT.ii_ne_f (by have q := own_l1 ch_1; simp only [c_40, c_45, c_47, if_true, if_false] at q; first | exact q | simpa using q)) (pc' := 212) rfl ?_
        refine own_iload X_46 hx (hb hby at_212) (pc' := 214) rfl rfl ?_
        refine own_iload X_46 hx (hb hby at_214) (pc' := 216) rfl rfl ?_
        refine own_icmpN X_46 hx (hb hby at_216) (XT.ii_ne_f (by have q := own_c1 ch_1; simp only [c_40, c_45, c_47, if_true, if_false] at q; first | exact q | simpa using q)) (pc' := 219) rfl ?_
        refine own_iload X_46 hx (hb hby at_219) (pc' := 221) rfl rfl ?_
        refine own_iconst X_46 hx (1) (hb hby at_221) (pc' := 222) rfl rfl ?_
        refine own_iload X_46 hx (hb hby at_222) (pc' := 224) rfl rfl ?_
        refine own_iadd X_46 hx (hb hby at_224) (pc' := 225) rfl ?_
        refine own_icmpN X_46 hx (hb hby at_225) (XT.ii_ne_f (by have q := own_l2 ch_1 ch_2; simp only [c_40, c_45, c_47, if_true, if_false] at q; first | exact q | simpa using q)) (pc' := 228) rfl ?_
        refine own_iload X_46 hx (hb hby at_228) (pc' := 230) rfl rfl ?_
        refine own_iload X_46 hx (hb hby at_230) (pc' := 232) rfl rfl ?_
        refine own_icmpN X_46 hx (hb hby at_232) (XT.ii_ne_f (by have q := own_c2 ch_1 ch_2; simp only [c_40, c_45, c_47, if_true, if_false] at q; first | exact q | simpa using q)) (pc' := 235) rfl ?_
        refine own_iload X_46 hx (hb hby at_235) (pc' := 237) rfl rfl ?_
        refine own_iconst X_46 hx (1) (hb hby at_237) (pc' := 238) rfl rfl ?_
        refine own_iload X_46 hx (hb hby at_238) (pc' := 240) rfl rfl ?_
        refine own_iadd X_46 hx (hb hby at_240) (pc' := 241) rfl ?_
        refine own_icmpN X_46 hx (hb hby at_241) (XT.ii_ne_f (by have q := own_l3 ch_1 ch_2 ch_3; simp only [c_40, c_45, c_47, if_true, if_false] at q; first | exact q | simpa using q)) (pc' := 244) rfl ?_
        refine own_iload X_46 hx (hb hby at_244) (pc' := 246) rfl rfl ?_
        refine own_iload X_46 hx (hb hby at_246) (pc' := 248) rfl rfl ?_
        refine own_icmpN X_46 hx (hb hby at_248) (XT.ii_ne_f (by have q := own_c3 ch_1 ch_2 ch_3; simp only [c_40, c_45, c_47, if_true, if_false] at q; first | exact q | simpa using q)) (pc' := 251) rfl ?_
        refine own_iconst X_46 hx (1) (hb hby at_251) (pc' := 252) rfl rfl ?_
        refine own_goto X_46 hx (hb hby at_252) (pc' := 256) (by decide) (by decide) ?_
        refine own_retZ X_46 hx hlk Bd.returns (by simp) (hb hby at_256) (by decide) (by decide) ?_
        exact ⟨rfl, N_46⟩
      · skip
        refine own_ifY X_46 hx (hb hby at_170) (own_b0_eq_t c_47) (pc' := 177) (by decide) (by decide) ?_
        refine own_iload X_46 hx (hb hby at_177) (pc' := 179) rfl rfl ?_
        obtain ⟨_, _, ⟨T_48, L_48, k_48, n_48⟩, -, X_48, ⟨Lc_48, hQ_48, l_48, y_48, z_48⟩, st_48⟩ := Jvm.LawKit.callS X_46 hx (y := (⟨"com/example/muster/muster/xml/TextPositionAdvancePinLaw", "ends", "(C)Z"⟩ : MethodName)) hown (mvT hZ (hw _ (List.mem_of_getElem? (i := 34) rfl))) (mvT hZ (hw _ (List.mem_of_getElem? (i := 35) rfl))) (mvT hZ (hw _ (List.mem_of_getElem? (i := 2) rfl))) (mvT hZ (hw _ (List.mem_of_getElem? (i := 36) rfl))) (by decide) (backOf (W := 0) (rm6 l Z a0 hw [] ch_2 T_31.heap n0 Z_35) hZ (hw _ (List.mem_of_getElem? (i := 36) rfl)) (hw _ (List.mem_of_getElem? (i := 2) rfl)) (by decide) (by decide)) (g := (mkF m 179 #[.val (.int x0), .val (.int x1), .val (.int x2), .val (.int ch_1), .val (.int ch_2), .val (.int ch_3), .val (.ref a_4), .val (.int (own_ln ch_1 (0 : Int32) (1 : Int32))), .val (.int (own_co ch_1 (0 : Int32) (1 : Int32))), .val (.int (own_ln ch_2 (own_b (ch_1 = 13)) (own_ln ch_1 (0 : Int32) (1 : Int32)))), .val (.int (own_co ch_2 (own_b (ch_1 = 13)) (own_co ch_1 (0 : Int32) (1 : Int32)))), .val (.int (own_ln ch_3 (own_b (ch_2 = 13)) (own_ln ch_2 (own_b (ch_1 = 13)) (own_ln ch_1 (0 : Int32) (1 : Int32))))), .val (.int (own_co ch_3 (own_b (ch_2 = 13)) (own_co ch_2 (own_b (ch_1 = 13)) (own_co ch_1 (0 : Int32) (1 : Int32))))), .val (.int (1 : Int32)), .val (.int ((1 : Int32) + (own_ea ch_1 ch_2))), .val (.int (((1 : Int32) + (own_ea ch_1 ch_2)) + (own_ea ch_2 ch_3))), .val (.int (1 : Int32)), .val (.int (1 : Int32)), .unset] [(.int ch_2)])) rfl (by rw [hml]; rfl) (argsL := [(.int ch_2)]) (rest := []) (lenOf pd0_4 rfl) rfl (by show 2 * 0 + _ ≤ _; exact Nat.le_of_eq rfl) (hb hby at_179) (fun _ _ => ⟨rfl, eq_46, (by decide : 1 + 0 ≤ _), (by decide : 3 + 0 ≤ _)⟩)
        dsimp only [Pt.U, Pt.locs, Pt.cells, Pt.slots] at X_48 l_48 y_48 z_48 st_48 hQ_48
        subst l_48 y_48 z_48
        refine own_st st_48 ?_
        obtain ⟨rfl, Nq_48, eq_48⟩ := hQ_48
        have N_48 := Fr.app N_46 Nq_48
        show own_Go p e below _ T_48 (mkF m 182 #[.val (.int x0), .val (.int x1), .val (.int x2), .val (.int ch_1), .val (.int ch_2), .val (.int ch_3), .val (.ref a_4), .val (.int (own_ln ch_1 (0 : Int32) (1 : Int32))), .val (.int (own_co ch_1 (0 : Int32) (1 : Int32))), .val (.int (own_ln ch_2 (own_b (ch_1 = 13)) (own_ln ch_1 (0 : Int32) (1 : Int32)))), .val (.int (own_co ch_2 (own_b (ch_1 = 13)) (own_co ch_1 (0 : Int32) (1 : Int32)))), .val (.int (own_ln ch_3 (own_b (ch_2 = 13)) (own_ln ch_2 (own_b (ch_1 = 13)) (own_ln ch_1 (0 : Int32) (1 : Int32))))), .val (.int (own_co ch_3 (own_b (ch_2 = 13)) (own_co ch_2 (own_b (ch_1 = 13)) (own_co ch_1 (0 : Int32) (1 : Int32))))), .val (.int (1 : Int32)), .val (.int ((1 : Int32) + (own_ea ch_1 ch_2))), .val (.int (((1 : Int32) + (own_ea ch_1 ch_2)) + (own_ea ch_2 ch_3))), .val (.int (1 : Int32)), .val (.int (1 : Int32)), .unset] [(.int (own_b (ch_2 = 10 ∨ ch_2 = 13)))])
        refine own_ifN X_48 hx (hb hby at_182) (own_b0_eq_f c_45) (pc' := 185) rfl ?_
        refine own_iconst X_48 hx (2) (hb hby at_185) (pc' := 186) rfl rfl ?_
        refine own_goto X_48 hx (hb hby at_186) (pc' := 201) (by decide) (by decide) ?_
        refine own_istore X_48 hx (hb hby at_201) (pc' := 203) (Ls' := #[.val (.int x0), .val (.int x1), .val (.int x2), .val (.int ch_1), .val (.int ch_2), .val (.int ch_3), .val (.ref a_4), .val (.int (own_ln ch_1 (0 : Int32) (1 : Int32))), .val (.int (own_co ch_1 (0 : Int32) (1 : Int32))), .val (.int (own_ln ch_2 (own_b (ch_1 = 13)) (own_ln ch_1 (0 : Int32) (1 : Int32)))), .val (.int (own_co ch_2 (own_b (ch_1 = 13)) (own_co ch_1 (0 : Int32) (1 : Int32)))), .val (.int (own_ln ch_3 (own_b (ch_2 = 13)) (own_ln ch_2 (own_b (ch_1 = 13)) (own_ln ch_1 (0 : Int32) (1 : Int32))))), .val (.int (own_co ch_3 (own_b (ch_2 = 13)) (own_co ch_2 (own_b (ch_1 = 13)) (own_co ch_1 (0 : Int32) (1 : Int32))))), .val (.int (1 : Int32)), .val (.int ((1 : Int32) + (own_ea ch_1 ch_2))), .val (.int (((1 : Int32) + (own_ea ch_1 ch_2)) + (own_ea ch_2 ch_3))), .val (.int (1 : Int32)), .val (.int (1 : Int32)), .val (.int (2 : Int32))]) rfl rfl ?_
        refine own_iload X_48 hx (hb hby at_203) (pc' := 205) rfl rfl ?_
        refine own_iconst X_48 hx (1) (hb hby at_205) (pc' := 206) rfl rfl ?_
        refine own_iload X_48 hx (hb hby at_206) (pc' := 208) rfl rfl ?_
        refine own_iadd X_48 hx (hb hby at_208) (pc' := 209) rfl ?_
        rw [show ((1 : Int32) + (1 : Int32)) = (2 : Int32) from by decide]
        refine own_icmpN X_48 hx (hb hby at_209) (XT.ii_ne_f (by have q := own_l1 ch_1; simp only [c_40, c_45, c_47, if_true, if_false] at q; first | exact q | simpa using q)) (pc' := 212) rfl ?_
        refine own_iload X_48 hx (hb hby at_212) (pc' := 214) rfl rfl ?_
        refine own_iload X_48 hx (hb hby at_214) (pc' := 216) rfl rfl ?_
        refine own_icmpN X_48 hx (hb hby at_216) (XT.ii_ne_f (by have q := own_c1 ch_1; simp only [c_40, c_45, c_47, if_true, if_false] at q; first | exact q | simpa using q)) (pc' := 219) rfl ?_
        refine own_iload X_48 hx (hb hby at_219) (pc' := 221) rfl rfl ?_
        refine own_iconst X_48 hx (1) (hb hby at_221) (pc' := 222) rfl rfl ?_
        refine own_iload X_48 hx (hb hby at_222) (pc' := 224) rfl rfl ?_
        refine own_iadd X_48 hx (hb hby at_224) (pc' := 225) rfl ?_
        refine own_icmpN X_48 hx (hb hby at_225) (XT.ii_ne_f (by have q := own_l2 ch_1 ch_2; simp only [c_40, c_45, c_47, if_true, if_false] at q; first | exact q | simpa using q)) (pc' := 228) rfl ?_
        refine own_iload X_48 hx (hb hby at_228) (pc' := 230) rfl rfl ?_
        refine own_iload X_48 hx (hb hby at_230) (pc' := 232) rfl rfl ?_
        refine own_icmpN X_48 hx (hb hby at_232) (XT.ii_ne_f (by have q := own_c2 ch_1 ch_2; simp only [c_40, c_45, c_47, if_true, if_false] at q; first | exact q | simpa using q)) (pc' := 235) rfl ?_
        refine own_iload X_48 hx (hb hby at_235) (pc' := 237) rfl rfl ?_
        refine own_iconst X_48 hx (1) (hb hby at_237) (pc' := 238) rfl rfl ?_
        refine own_iload X_48 hx (hb hby at_238) (pc' := 240) rfl rfl ?_
        refine own_iadd X_48 hx (hb hby at_240) (pc' := 241) rfl ?_
        refine own_icmpN X_48 hx (hb hby at_241) (XT.ii_ne_f (by have q := own_l3 ch_1 ch_2 ch_3; simp only [c_40, c_45, c_47, if_true, if_false] at q; first | exact q | simpa using q)) (pc' := 244) rfl ?_
        refine own_iload X_48 hx (hb hby at_244) (pc' := 246) rfl rfl ?_
        refine own_iload X_48 hx (hb hby at_246) (pc' := 248) rfl rfl ?_
        refine own_icmpN X_48 hx (hb hby at_248) (XT.ii_ne_f (by have q := own_c3 ch_1 ch_2 ch_3; simp only [c_40, c_45, c_47, if_true, if_false] at q; first | exact q | simpa using q)) (pc' := 251) rfl ?_
        refine own_iconst X_48 hx (1) (hb hby at_251) (pc' := 252) rfl rfl ?_
        refine own_goto X_48 hx (hb hby at_252) (pc' := 256) (by decide) (by decide) ?_
        refine own_retZ X_48 hx hlk Bd.returns (by simp) (hb hby at_256) (by decide) (by decide) ?_
        exact ⟨rfl, N_48⟩
    · skip
      refine own_ifY X_44 hx (hb hby at_144) (own_b0_eq_t c_45) (pc' := 151) (by decide) (by decide) ?_
      refine own_iloadN X_44 hx (hb hby at_151) (pc' := 152) rfl rfl ?_
      obtain ⟨_, _, ⟨T_49, L_49, k_49, n_49⟩, -, X_49, ⟨Lc_49, hQ_49, l_49, y_49, z_49⟩, st_49⟩ := Jvm.LawKit.callS X_44 hx (y := (⟨"com/example/muster/muster/xml/TextPositionAdvancePinLaw", "ends", "(C)Z"⟩ : MethodName)) hown (mvT hZ (hw _ (List.mem_of_getElem? (i := 34) rfl))) (mvT hZ (hw _ (List.mem_of_getElem? (i := 35) rfl))) (mvT hZ (hw _ (List.mem_of_getElem? (i := 2) rfl))) (mvT hZ (hw _ (List.mem_of_getElem? (i := 36) rfl))) (by decide) (backOf (W := 0) (rm6 l Z a0 hw [] ch_1 T_31.heap n0 Z_35) hZ (hw _ (List.mem_of_getElem? (i := 36) rfl)) (hw _ (List.mem_of_getElem? (i := 2) rfl)) (by decide) (by decide)) (g := (mkF m 152 #[.val (.int x0), .val (.int x1), .val (.int x2), .val (.int ch_1), .val (.int ch_2), .val (.int ch_3), .val (.ref a_4), .val (.int (own_ln ch_1 (0 : Int32) (1 : Int32))), .val (.int (own_co ch_1 (0 : Int32) (1 : Int32))), .val (.int (own_ln ch_2 (own_b (ch_1 = 13)) (own_ln ch_1 (0 : Int32) (1 : Int32)))), .val (.int (own_co ch_2 (own_b (ch_1 = 13)) (own_co ch_1 (0 : Int32) (1 : Int32)))), .val (.int (own_ln ch_3 (own_b (ch_2 = 13)) (own_ln ch_2 (own_b (ch_1 = 13)) (own_ln ch_1 (0 : Int32) (1 : Int32))))), .val (.int (own_co ch_3 (own_b (ch_2 = 13)) (own_co ch_2 (own_b (ch_1 = 13)) (own_co ch_1 (0 : Int32) (1 : Int32))))), .val (.int (1 : Int32)), .val (.int ((1 : Int32) + (own_ea ch_1 ch_2))), .val (.int (((1 : Int32) + (own_ea ch_1 ch_2)) + (own_ea ch_2 ch_3))), .val (.int (1 : Int32)), .unset, .unset] [(.int ch_1)])) rfl (by rw [hml]; rfl) (argsL := [(.int ch_1)]) (rest := []) (lenOf pd0_4 rfl) rfl (by show 2 * 0 + _ ≤ _; exact Nat.le_of_eq rfl) (hb hby at_152) (fun _ _ => ⟨rfl, eq_44, (by decide : 1 + 0 ≤ _), (by decide : 3 + 0 ≤ _)⟩)
      dsimp only [Pt.U, Pt.locs, Pt.cells, Pt.slots] at X_49 l_49 y_49 z_49 st_49 hQ_49
      subst l_49 y_49 z_49
      refine own_st st_49 ?_
      obtain ⟨rfl, Nq_49, eq_49⟩ := hQ_49
      have N_49 := Fr.app N_44 Nq_49
      show own_Go p e below _ T_49 (mkF m 155 #[.val (.int x0), .val (.int x1), .val (.int x2), .val (.int ch_1), .val (.int ch_2), .val (.int ch_3), .val (.ref a_4), .val (.int (own_ln ch_1 (0 : Int32) (1 : Int32))), .val (.int (own_co ch_1 (0 : Int32) (1 : Int32))), .val (.int (own_ln ch_2 (own_b (ch_1 = 13)) (own_ln ch_1 (0 : Int32) (1 : Int32)))), .val (.int (own_co ch_2 (own_b (ch_1 = 13)) (own_co ch_1 (0 : Int32) (1 : Int32)))), .val (.int (own_ln ch_3 (own_b (ch_2 = 13)) (own_ln ch_2 (own_b (ch_1 = 13)) (own_ln ch_1 (0 : Int32) (1 : Int32))))), .val (.int (own_co ch_3 (own_b (ch_2 = 13)) (own_co ch_2 (own_b (ch_1 = 13)) (own_co ch_1 (0 : Int32) (1 : Int32))))), .val (.int (1 : Int32)), .val (.int ((1 : Int32) + (own_ea ch_1 ch_2))), .val (.int (((1 : Int32) + (own_ea ch_1 ch_2)) + (own_ea ch_2 ch_3))), .val (.int (1 : Int32)), .unset, .unset] [(.int (own_b (ch_1 = 10 ∨ ch_1 = 13)))])
      refine own_ifN X_49 hx (hb hby at_155) (own_b0_eq_f c_40) (pc' := 158) rfl ?_
      refine own_iconst X_49 hx (2) (hb hby at_158) (pc' := 159) rfl rfl ?_
      refine own_goto X_49 hx (hb hby at_159) (pc' := 163) (by decide) (by decide) ?_
      refine own_istore X_49 hx (hb hby at_163) (pc' := 165) (Ls' := #[.val (.int x0), .val (.int x1), .val (.int x2), .val (.int ch_1), .val (.int ch_2), .val (.int ch_3), .val (.ref a_4), .val (.int (own_ln ch_1 (0 : Int32) (1 : Int32))), .val (.int (own_co ch_1 (0 : Int32) (1 : Int32))), .val (.int (own_ln ch_2 (own_b (ch_1 = 13)) (own_ln ch_1 (0 : Int32) (1 : Int32)))), .val (.int (own_co ch_2 (own_b (ch_1 = 13)) (own_co ch_1 (0 : Int32) (1 : Int32)))), .val (.int (own_ln ch_3 (own_b (ch_2 = 13)) (own_ln ch_2 (own_b (ch_1 = 13)) (own_ln ch_1 (0 : Int32) (1 : Int32))))), .val (.int (own_co ch_3 (own_b (ch_2 = 13)) (own_co ch_2 (own_b (ch_1 = 13)) (own_co ch_1 (0 : Int32) (1 : Int32))))), .val (.int (1 : Int32)), .val (.int ((1 : Int32) + (own_ea ch_1 ch_2))), .val (.int (((1 : Int32) + (own_ea ch_1 ch_2)) + (own_ea ch_2 ch_3))), .val (.int (1 : Int32)), .val (.int (2 : Int32)), .unset]) rfl rfl ?_
      refine own_iload X_49 hx (hb hby at_165) (pc' := 167) rfl rfl ?_
      obtain ⟨_, _, ⟨T_50, L_50, k_50, n_50⟩, -, X_50, ⟨Lc_50, hQ_50, l_50, y_50, z_50⟩, st_50⟩ := Jvm.LawKit.callS X_49 hx (y := (⟨"com/example/muster/muster/xml/TextPositionAdvancePinLaw", "ends", "(C)Z"⟩ : MethodName)) hown (mvT hZ (hw _ (List.mem_of_getElem? (i := 34) rfl))) (mvT hZ (hw _ (List.mem_of_getElem? (i := 35) rfl))) (mvT hZ (hw _ (List.mem_of_getElem? (i := 2) rfl))) (mvT hZ (hw _ (List.mem_of_getElem? (i := 36) rfl))) (by decide) (backOf (W := 0) (rm6 l Z a0 hw [] ch_3 T_31.heap n0 Z_35) hZ (hw _ (List.mem_of_getElem? (i := 36) rfl)) (hw _ (List.mem_of_getElem? (i := 2) rfl)) (by decide) (by decide)) (g := (mkF m 167 #[.val (.int x0), .val (.int x1), .val (.int x2), .val (.int ch_1), .val (.int ch_2), .val (.int ch_3), .val (.ref a_4), .val (.int (own_ln ch_1 (0 : Int32) (1 : Int32))), .val (.int (own_co ch_1 (0 : Int32) (1 : Int32))), .val (.int (own_ln ch_2 (own_b (ch_1 = 13)) (own_ln ch_1 (0 : Int32) (1 : Int32)))), .val (.int (own_co ch_2 (own_b (ch_1 = 13)) (own_co ch_1 (0 : Int32) (1 : Int32)))), .val (.int (own_ln ch_3 (own_b (ch_2 = 13)) (own_ln ch_2 (own_b (ch_1 = 13)) (own_ln ch_1 (0 : Int32) (1 : Int32))))), .val (.int (own_co ch_3 (own_b (ch_2 = 13)) (own_co ch_2 (own_b (ch_1 = 13)) (own_co ch_1 (0 : Int32) (1 : Int32))))), .val (.int (1 : Int32)), .val (.int ((1 : Int32) + (own_ea ch_1 ch_2))), .val (.int (((1 : Int32) + (own_ea ch_1 ch_2)) + (own_ea ch_2 ch_3))), .val (.int (1 : Int32)), .val (.int (2 : Int32)), .unset] [(.int ch_3)])) rfl (by rw [hml]; rfl) (argsL := [(.int ch_3)]) (rest := []) (lenOf pd0_4 rfl) rfl (by show 2 * 0 + _ ≤ _; exact Nat.le_of_eq rfl) (hb hby at_167) (fun _ _ => ⟨rfl, eq_49, (by decide : 1 + 0 ≤ _), (by decide : 3 + 0 ≤ _)⟩)
      dsimp only [Pt.U, Pt.locs, Pt.cells, Pt.slots] at X_50 l_50 y_50 z_50 st_50 hQ_50
      subst l_50 y_50 z_50
      refine own_st st_50 ?_
      obtain ⟨rfl, Nq_50, eq_50⟩ := hQ_50
      have N_50 := Fr.app N_49 Nq_50
      show own_Go p e below _ T_50 (mkF m 170 #[.val (.int x0), .val (.int x1), .val (.int x2), .val (.int ch_1), .val (.int ch_2), .val (.int ch_3), .val (.ref a_4), .val (.int (own_ln ch_1 (0 : Int32) (1 : Int32))), .val (.int (own_co ch_1 (0 : Int32) (1 : Int32))), .val (.int (own_ln ch_2 (own_b (ch_1 = 13)) (own_ln ch_1 (0 : Int32) (1 : Int32)))), .val (.int (own_co ch_2 (own_b (ch_1 = 13)) (own_co ch_1 (0 : Int32) (1 : Int32)))), .val (.int (own_ln ch_3 (own_b (ch_2 = 13)) (own_ln ch_2 (own_b (ch_1 = 13)) (own_ln ch_1 (0 : Int32) (1 : Int32))))), .val (.int (own_co ch_3 (own_b (ch_2 = 13)) (own_co ch_2 (own_b (ch_1 = 13)) (own_co ch_1 (0 : Int32) (1 : Int32))))), .val (.int (1 : Int32)), .val (.int ((1 : Int32) + (own_ea ch_1 ch_2))), .val (.int (((1 : Int32) + (own_ea ch_1 ch_2)) + (own_ea ch_2 ch_3))), .val (.int (1 : Int32)), .val (.int (2 : Int32)), .unset] [(.int (own_b (ch_3 = 10 ∨ ch_3 = 13)))])
      by_cases c_51 : ch_3 = 10 ∨ ch_3 = 13
      · skip
        refine own_ifN X_50 hx (hb hby at_170) (own_b0_eq_f c_51) (pc' := 173) rfl ?_
        refine own_iconst X_50 hx (1) (hb hby at_173) (pc' := 174) rfl rfl ?_
        refine own_goto X_50 hx (hb hby at_174) (pc' := 201) (by decide) (by decide) ?_
        refine own_istore X_50 hx (hb hby at_201) (pc' := 203) (Ls' := #[.val (.int x0), .val (.int x1), .val (.int x2), .val (.int ch_1), .val (.int ch_2), .val (.int ch_3), .val (.ref a_4), .val (.int (own_ln ch_1 (0 : Int32) (1 : Int32))), .val (.int (own_co ch_1 (0 : Int32) (1 : Int32))), .val (.int (own_ln ch_2 (own_b (ch_1 = 13)) (own_ln ch_1 (0 : Int32) (1 : Int32)))), .val (.int (own_co ch_2 (own_b (ch_1 = 13)) (own_co ch_1 (0 : Int32) (1 : Int32)))), .val (.int (own_ln ch_3 (own_b (ch_2 = 13)) (own_ln ch_2 (own_b (ch_1 = 13)) (own_ln ch_1 (0 : Int32) (1 : Int32))))), .val (.int (own_co ch_3 (own_b (ch_2 = 13)) (own_co ch_2 (own_b (ch_1 = 13)) (own_co ch_1 (0 : Int32) (1 : Int32))))), .val (.int (1 : Int32)), .val (.int ((1 : Int32) + (own_ea ch_1 ch_2))), .val (.int (((1 : Int32) + (own_ea ch_1 ch_2)) + (own_ea ch_2 ch_3))), .val (.int (1 : Int32)), .val (.int (2 : Int32)), .val (.int (1 : Int32))]) rfl rfl ?_
        refine own_iload X_50 hx (hb hby at_203) (pc' := 205) rfl rfl ?_
        refine own_iconst X_50 hx (1) (hb hby at_205) (pc' := 206) rfl rfl ?_
        refine own_iload X_50 hx (hb hby at_206) (pc' := 208) rfl rfl ?_
        refine own_iadd X_50 hx (hb hby at_208) (pc' := 209) rfl ?_
        rw [show ((1 : Int32) + (1 : Int32)) = (2 : Int32) from by decide]
        refine own_icmpN X_50 hx (hb hby at_209) (XT.ii_ne_f (by have q := own_l1 ch_1; simp only [c_40, c_45, c_51, if_true, if_false] at q; first | exact q | simpa using q)) (pc' := 212) rfl ?_
        refine own_iload X_50 hx (hb hby at_212) (pc' := 214) rfl rfl ?_
        refine own_iload X_50 hx (hb hby at_214) (pc' := 216) rfl rfl ?_
        refine own_icmpN X_50 hx (hb hby at_216) (XT.ii_ne_f (by have q := own_c1 ch_1; simp only [c_40, c_45, c_51, if_true, if_false] at q; first | exact q | simpa using q)) (pc' := 219) rfl ?_
        refine own_iload X_50 hx (hb hby at_219) (pc' := 221) rfl rfl ?_
        refine own_iconst X_50 hx (1) (hb hby at_221) (pc' := 222) rfl rfl ?_
        refine own_iload X_50 hx (hb hby at_222) (pc' := 224) rfl rfl ?_
        refine own_iadd X_50 hx (hb hby at_224) (pc' := 225) rfl ?_
        refine own_icmpN X_50 hx (hb hby at_225) (XT.ii_ne_f (by have q := own_l2 ch_1 ch_2; simp only [c_40, c_45, c_51, if_true, if_false] at q; first | exact q | simpa using q)) (pc' := 228) rfl ?_
        refine own_iload X_50 hx (hb hby at_228) (pc' := 230) rfl rfl ?_
        refine own_iload X_50 hx (hb hby at_230) (pc' := 232) rfl rfl ?_
        refine own_icmpN X_50 hx (hb hby at_232) (XT.ii_ne_f (by have q := own_c2 ch_1 ch_2; simp only [c_40, c_45, c_51, if_true, if_false] at q; first | exact q | simpa using q)) (pc' := 235) rfl ?_
        refine own_iload X_50 hx (hb hby at_235) (pc' := 237) rfl rfl ?_
        refine own_iconst X_50 hx (1) (hb hby at_237) (pc' := 238) rfl rfl ?_
        refine own_iload X_50 hx (hb hby at_238) (pc' := 240) rfl rfl ?_
        refine own_iadd X_50 hx (hb hby at_240) (pc' := 241) rfl ?_
        refine own_icmpN X_50 hx (hb hby at_241) (XT.ii_ne_f (by have q := own_l3 ch_1 ch_2 ch_3; simp only [c_40, c_45, c_51, if_true, if_false] at q; first | exact q | simpa using q)) (pc' := 244) rfl ?_
        refine own_iload X_50 hx (hb hby at_244) (pc' := 246) rfl rfl ?_
        refine own_iload X_50 hx (hb hby at_246) (pc' := 248) rfl rfl ?_
        refine own_icmpN X_50 hx (hb hby at_248) (XT.ii_ne_f (by have q := own_c3 ch_1 ch_2 ch_3; simp only [c_40, c_45, c_51, if_true, if_false] at q; first | exact q | simpa using q)) (pc' := 251) rfl ?_
        refine own_iconst X_50 hx (1) (hb hby at_251) (pc' := 252) rfl rfl ?_
        refine own_goto X_50 hx (hb hby at_252) (pc' := 256) (by decide) (by decide) ?_
        refine own_retZ X_50 hx hlk Bd.returns (by simp) (hb hby at_256) (by decide) (by decide) ?_
        exact ⟨rfl, N_50⟩
      · skip
        refine own_ifY X_50 hx (hb hby at_170) (own_b0_eq_t c_51) (pc' := 177) (by decide) (by decide) ?_
        refine own_iload X_50 hx (hb hby at_177) (pc' := 179) rfl rfl ?_
        obtain ⟨_, _, ⟨T_52, L_52, k_52, n_52⟩, -, X_52, ⟨Lc_52, hQ_52, l_52, y_52, z_52⟩, st_52⟩ := Jvm.LawKit.callS X_50 hx (y := (⟨"com/example/muster/muster/xml/TextPositionAdvancePinLaw", "ends", "(C)Z"⟩ : MethodName)) hown (mvT hZ (hw _ (List.mem_of_getElem? (i := 34) rfl))) (mvT hZ (hw _ (List.mem_of_getElem? (i := 35) rfl))) (mvT hZ (hw _ (List.mem_of_getElem? (i := 2) rfl))) (mvT hZ (hw _ (List.mem_of_getElem? (i := 36) rfl))) (by decide) (backOf (W := 0) (rm6 l Z a0 hw [] ch_2 T_31.heap n0 Z_35) hZ (hw _ (List.mem_of_getElem? (i := 36) rfl)) (hw _ (List.mem_of_getElem? (i := 2) rfl)) (by decide) (by decide)) (g := (mkF m 179 #[.val (.int x0), .val (.int x1), .val (.int x2), .val (.int ch_1), .val (.int ch_2), .val (.int ch_3), .val (.ref a_4), .val (.int (own_ln ch_1 (0 : Int32) (1 : Int32))), .val (.int (own_co ch_1 (0 : Int32) (1 : Int32))), .val (.int (own_ln ch_2 (own_b (ch_1 = 13)) (own_ln ch_1 (0 : Int32) (1 : Int32)))), .val (.int (own_co ch_2 (own_b (ch_1 = 13)) (own_co ch_1 (0 : Int32) (1 : Int32)))), .val (.int (own_ln ch_3 (own_b (ch_2 = 13)) (own_ln ch_2 (own_b (ch_1 = 13)) (own_ln ch_1 (0 : Int32) (1 : Int32))))), .val (.int (own_co ch_3 (own_b (ch_2 = 13)) (own_co ch_2 (own_b (ch_1 = 13)) (own_co ch_1 (0 : Int32) (1 : Int32))))), .val (.int (1 : Int32)), .val (.int ((1 : Int32) + (own_ea ch_1 ch_2))), .val (.int (((1 : Int32) + (own_ea ch_1 ch_2)) + (own_ea ch_2 ch_3))), .val (.int (1 : Int32)), .val (.int (2 : Int32)), .unset] [(.int ch_2)])) rfl (by rw [hml]; rfl) (argsL := [(.int ch_2)]) (rest := []) (lenOf pd0_4 rfl) rfl (by show 2 * 0 + _ ≤ _; exact Nat.le_of_eq rfl) (hb hby at_179) (fun _ _ => ⟨rfl, eq_50, (by decide : 1 + 0 ≤ _), (by decide : 3 + 0 ≤ _)⟩)
        dsimp only [Pt.U, Pt.locs, Pt.cells, Pt.slots] at X_52 l_52 y_52 z_52 st_52 hQ_52
        subst l_52 y_52 z_52
        refine own_st st_52 ?_
        obtain ⟨rfl, Nq_52, eq_52⟩ := hQ_52
        have N_52 := Fr.app N_50 Nq_52
        show own_Go p e below _ T_52 (mkF m 182 #[.val (.int x0), .val (.int x1), .val (.int x2), .val (.int ch_1), .val (.int ch_2), .val (.int ch_3), .val (.ref a_4), .val (.int (own_ln ch_1 (0 : Int32) (1 : Int32))), .val (.int (own_co ch_1 (0 : Int32) (1 : Int32))), .val (.int (own_ln ch_2 (own_b (ch_1 = 13)) (own_ln ch_1 (0 : Int32) (1 : Int32)))), .val (.int (own_co ch_2 (own_b (ch_1 = 13)) (own_co ch_1 (0 : Int32) (1 : Int32)))), .val (.int (own_ln ch_3 (own_b (ch_2 = 13)) (own_ln ch_2 (own_b (ch_1 = 13)) (own_ln ch_1 (0 : Int32) (1 : Int32))))), .val (.int (own_co ch_3 (own_b (ch_2 = 13)) (own_co ch_2 (own_b (ch_1 = 13)) (own_co ch_1 (0 : Int32) (1 : Int32))))), .val (.int (1 : Int32)), .val (.int ((1 : Int32) + (own_ea ch_1 ch_2))), .val (.int (((1 : Int32) + (own_ea ch_1 ch_2)) + (own_ea ch_2 ch_3))), .val (.int (1 : Int32)), .val (.int (2 : Int32)), .unset] [(.int (own_b (ch_2 = 10 ∨ ch_2 = 13)))])
        refine own_ifY X_52 hx (hb hby at_182) (own_b0_eq_t c_45) (pc' := 189) (by decide) (by decide) ?_
        refine own_iloadN X_52 hx (hb hby at_189) (pc' := 190) rfl rfl ?_
        obtain ⟨_, _, ⟨T_53, L_53, k_53, n_53⟩, -, X_53, ⟨Lc_53, hQ_53, l_53, y_53, z_53⟩, st_53⟩ := Jvm.LawKit.callS X_52 hx (y := (⟨"com/example/muster/muster/xml/TextPositionAdvancePinLaw", "ends", "(C)Z"⟩ : MethodName)) hown (mvT hZ (hw _ (List.mem_of_getElem? (i := 34) rfl))) (mvT hZ (hw _ (List.mem_of_getElem? (i := 35) rfl))) (mvT hZ (hw _ (List.mem_of_getElem? (i := 2) rfl))) (mvT hZ (hw _ (List.mem_of_getElem? (i := 36) rfl))) (by decide) (backOf (W := 0) (rm6 l Z a0 hw [] ch_1 T_31.heap n0 Z_35) hZ (hw _ (List.mem_of_getElem? (i := 36) rfl)) (hw _ (List.mem_of_getElem? (i := 2) rfl)) (by decide) (by decide)) (g := (mkF m 190 #[.val (.int x0), .val (.int x1), .val (.int x2), .val (.int ch_1), .val (.int ch_2), .val (.int ch_3), .val (.ref a_4), .val (.int (own_ln ch_1 (0 : Int32) (1 : Int32))), .val (.int (own_co ch_1 (0 : Int32) (1 : Int32))), .val (.int (own_ln ch_2 (own_b (ch_1 = 13)) (own_ln ch_1 (0 : Int32) (1 : Int32)))), .val (.int (own_co ch_2 (own_b (ch_1 = 13)) (own_co ch_1 (0 : Int32) (1 : Int32)))), .val (.int (own_ln ch_3 (own_b (ch_2 = 13)) (own_ln ch_2 (own_b (ch_1 = 13)) (own_ln ch_1 (0 : Int32) (1 : Int32))))), .val (.int (own_co ch_3 (own_b (ch_2 = 13)) (own_co ch_2 (own_b (ch_1 = 13)) (own_co ch_1 (0 : Int32) (1 : Int32))))), .val (.int (1 : Int32)), .val (.int ((1 : Int32) + (own_ea ch_1 ch_2))), .val (.int (((1 : Int32) + (own_ea ch_1 ch_2)) + (own_ea ch_2 ch_3))), .val (.int (1 : Int32)), .val (.int (2 : Int32)), .unset] [(.int ch_1)])) rfl (by rw [hml]; rfl) (argsL := [(.int ch_1)]) (rest := []) (lenOf pd0_4 rfl) rfl (by show 2 * 0 + _ ≤ _; exact Nat.le_of_eq rfl) (hb hby at_190) (fun _ _ => ⟨rfl, eq_52, (by decide : 1 + 0 ≤ _), (by decide : 3 + 0 ≤ _)⟩)
        dsimp only [Pt.U, Pt.locs, Pt.cells, Pt.slots] at X_53 l_53 y_53 z_53 st_53 hQ_53
        subst l_53 y_53 z_53
        refine own_st st_53 ?_
        obtain ⟨rfl, Nq_53, eq_53⟩ := hQ_53
        have N_53 := Fr.app N_52 Nq_53
        show own_Go p e below _ T_53 (mkF m 193 #[.val (.int x0), .val (.int x1), .val (.int x2), .val (.int ch_1), .val (.int ch_2), .val (.int ch_3), .val (.ref a_4), .val (.int (own_ln ch_1 (0 : Int32) (1 : Int32))), .val (.int (own_co ch_1 (0 : Int32) (1 : Int32))), .val (.int (own_ln ch_2 (own_b (ch_1 = 13)) (own_ln ch_1 (0 : Int32) (1 : Int32)))), .val (.int (own_co ch_2 (own_b (ch_1 = 13)) (own_co ch_1 (0 : Int32) (1 : Int32)))), .val (.int (own_ln ch_3 (own_b (ch_2 = 13)) (own_ln ch_2 (own_b (ch_1 = 13)) (own_ln ch_1 (0 : Int32) (1 : Int32))))), .val (.int (own_co ch_3 (own_b (ch_2 = 13)) (own_co ch_2 (own_b (ch_1 = 13)) (own_co ch_1 (0 : Int32) (1 : Int32))))), .val (.int (1 : Int32)), .val (.int ((1 : Int32) + (own_ea ch_1 ch_2))), .val (.int (((1 : Int32) + (own_ea ch_1 ch_2)) + (own_ea ch_2 ch_3))), .val (.int (1 : Int32)), .val (.int (2 : Int32)), .unset] [(.int (own_b (ch_1 = 10 ∨ ch_1 = 13)))])
        refine own_ifN X_53 hx (hb hby at_193) (own_b0_eq_f c_40) (pc' := 196) rfl ?_
        refine own_iconst X_53 hx (3) (hb hby at_196) (pc' := 197) rfl rfl ?_
        refine own_goto X_53 hx (hb hby at_197) (pc' := 201) (by decide) (by decide) ?_
        refine own_istore X_53 hx (hb hby at_201) (pc' := 203) (Ls' := #[.val (.int x0), .val (.int x1), .val (.int x2), .val (.int ch_1), .val (.int ch_2), .val (.int ch_3), .val (.ref a_4), .val (.int (own_ln ch_1 (0 : Int32) (1 : Int32))), .val (.int (own_co ch_1 (0 : Int32) (1 : Int32))), .val (.int (own_ln ch_2 (own_b (ch_1 = 13)) (own_ln ch_1 (0 : Int32) (1 : Int32)))), .val (.int (own_co ch_2 (own_b (ch_1 = 13)) (own_co ch_1 (0 : Int32) (1 : Int32)))), .val (.int (own_ln ch_3 (own_b (ch_2 = 13)) (own_ln ch_2 (own_b (ch_1 = 13)) (own_ln ch_1 (0 : Int32) (1 : Int32))))), .val (.int (own_co ch_3 (own_b (ch_2 = 13)) (own_co ch_2 (own_b (ch_1 = 13)) (own_co ch_1 (0 : Int32) (1 : Int32))))), .val (.int (1 : Int32)), .val (.int ((1 : Int32) + (own_ea ch_1 ch_2))), .val (.int (((1 : Int32) + (own_ea ch_1 ch_2)) + (own_ea ch_2 ch_3))), .val (.int (1 : Int32)), .val (.int (2 : Int32)), .val (.int (3 : Int32))]) rfl rfl ?_
        refine own_iload X_53 hx (hb hby at_203) (pc' := 205) rfl rfl ?_
        refine own_iconst X_53 hx (1) (hb hby at_205) (pc' := 206) rfl rfl ?_
        refine own_iload X_53 hx (hb hby at_206) (pc' := 208) rfl rfl ?_
        refine own_iadd X_53 hx (hb hby at_208) (pc' := 209) rfl ?_
        rw [show ((1 : Int32) + (1 : Int32)) = (2 : Int32) from by decide]
        refine own_icmpN X_53 hx (hb hby at_209) (XT.ii_ne_f (by have q := own_l1 ch_1; simp only [c_40, c_45, c_51, if_true, if_false] at q; first | exact q | simpa using q)) (pc' := 212) rfl ?_
        refine own_iload X_53 hx (hb hby at_212) (pc' := 214) rfl rfl ?_
        refine own_iload X_53 hx (hb hby at_214) (pc' := 216) rfl rfl ?_
        refine own_icmpN X_53 hx (hb hby at_216) (XT.ii_ne_f (by have q := own_c1 ch_1; simp only [c_40, c_45, c_51, if_true, if_false] at q; first | exact q | simpa using q)) (pc' := 219) rfl ?_
        refine own_iload X_53 hx (hb hby at_219) (pc' := 221) rfl rfl ?_
        refine own_iconst X_53 hx (1) (hb hby at_221) (pc' := 222) rfl rfl ?_
        refine own_iload X_53 hx (hb hby at_222) (pc' := 224) rfl rfl ?_
        refine own_iadd X_53 hx (hb hby at_224) (pc' := 225) rfl ?_
        refine own_icmpN X_53 hx (hb hby at_225) (XT.ii_ne_f (by have q := own_l2 ch_1 ch_2; simp only [c_40, c_45, c_51, if_true, if_false] at q; first | exact q | simpa using q)) (pc' := 228) rfl ?_
        refine own_iload X_53 hx (hb hby at_228) (pc' := 230) rfl rfl ?_
        refine own_iload X_53 hx (hb hby at_230) (pc' := 232) rfl rfl ?_
        refine own_icmpN X_53 hx (hb hby at_232) (XT.ii_ne_f (by have q := own_c2 ch_1 ch_2; simp only [c_40, c_45, c_51, if_true, if_false] at q; first | exact q | simpa using q)) (pc' := 235) rfl ?_
        refine own_iload X_53 hx (hb hby at_235) (pc' := 237) rfl rfl ?_
        refine own_iconst X_53 hx (1) (hb hby at_237) (pc' := 238) rfl rfl ?_
        refine own_iload X_53 hx (hb hby at_238) (pc' := 240) rfl rfl ?_
        refine own_iadd X_53 hx (hb hby at_240) (pc' := 241) rfl ?_
        refine own_icmpN X_53 hx (hb hby at_241) (XT.ii_ne_f (by have q := own_l3 ch_1 ch_2 ch_3; simp only [c_40, c_45, c_51, if_true, if_false] at q; first | exact q | simpa using q)) (pc' := 244) rfl ?_
        refine own_iload X_53 hx (hb hby at_244) (pc' := 246) rfl rfl ?_
        refine own_iload X_53 hx (hb hby at_246) (pc' := 248) rfl rfl ?_
        refine own_icmpN X_53 hx (hb hby at_248) (XT.ii_ne_f (by have q := own_c3 ch_1 ch_2 ch_3; simp only [c_40, c_45, c_51, if_true, if_false] at q; first | exact q | simpa using q)) (pc' := 251) rfl ?_
        refine own_iconst X_53 hx (1) (hb hby at_251) (pc' := 252) rfl rfl ?_
        refine own_goto X_53 hx (hb hby at_252) (pc' := 256) (by decide) (by decide) ?_
        refine own_retZ X_53 hx hlk Bd.returns (by simp) (hb hby at_256) (by decide) (by decide) ?_
        exact ⟨rfl, N_53⟩
  · skip
    refine own_ifY X_39 hx (hb hby at_92) (own_b0_eq_t c_40) (pc' := 99) (by decide) (by decide) ?_
    refine own_iconst X_39 hx (0) (hb hby at_99) (pc' := 100) rfl rfl ?_
    refine own_istore X_39 hx (hb hby at_100) (pc' := 102) (Ls' := #[.val (.int x0), .val (.int x1), .val (.int x2), .val (.int ch_1), .val (.int ch_2), .val (.int ch_3), .val (.ref a_4), .val (.int (own_ln ch_1 (0 : Int32) (1 : Int32))), .val (.int (own_co ch_1 (0 : Int32) (1 : Int32))), .val (.int (own_ln ch_2 (own_b (ch_1 = 13)) (own_ln ch_1 (0 : Int32) (1 : Int32)))), .val (.int (own_co ch_2 (own_b (ch_1 = 13)) (own_co ch_1 (0 : Int32) (1 : Int32)))), .val (.int (own_ln ch_3 (own_b (ch_2 = 13)) (own_ln ch_2 (own_b (ch_1 = 13)) (own_ln ch_1 (0 : Int32) (1 : Int32))))), .val (.int (own_co ch_3 (own_b (ch_2 = 13)) (own_co ch_2 (own_b (ch_1 = 13)) (own_co ch_1 (0 : Int32) (1 : Int32))))), .val (.int (0 : Int32)), .unset, .unset, .unset, .unset, .unset]) rfl rfl ?_
    refine own_iload X_39 hx (hb hby at_102) (pc' := 104) rfl rfl ?_
    refine own_iloadN X_39 hx (hb hby at_104) (pc' := 105) rfl rfl ?_
    refine own_iload X_39 hx (hb hby at_105) (pc' := 107) rfl rfl ?_
    obtain ⟨_, _, ⟨T_54, L_54, k_54, n_54⟩, -, X_54, ⟨Lc_54, hQ_54, l_54, y_54, z_54⟩, st_54⟩ := Jvm.LawKit.callS X_39 hx (y := (⟨"com/example/muster/muster/xml/TextPositionAdvancePinLaw", "endsAfter", "(CC)I"⟩ : MethodName)) hown (mvT hZ (hw _ (List.mem_of_getElem? (i := 37) rfl))) (mvT hZ (hw _ (List.mem_of_getElem? (i := 38) rfl))) (mvT hZ (hw _ (List.mem_of_getElem? (i := 2) rfl))) (mvT hZ (hw _ (List.mem_of_getElem? (i := 39) rfl))) (by decide) (backOf (W := 1) (rm7 l Z a0 hw [] ch_1 ch_2 T_31.heap n0 Z_35) hZ (hw _ (List.mem_of_getElem? (i := 39) rfl)) (hw _ (List.mem_of_getElem? (i := 2) rfl)) (by decide) (by decide)) (g := (mkF m 107 #[.val (.int x0), .val (.int x1), .val (.int x2), .val (.int ch_1), .val (.int ch_2), .val (.int ch_3), .val (.ref a_4), .val (.int (own_ln ch_1 (0 : Int32) (1 : Int32))), .val (.int (own_co ch_1 (0 : Int32) (1 : Int32))), .val (.int (own_ln ch_2 (own_b (ch_1 = 13)) (own_ln ch_1 (0 : Int32) (1 : Int32)))), .val (.int (own_co ch_2 (own_b (ch_1 = 13)) (own_co ch_1 (0 : Int32) (1 : Int32)))), .val (.int (own_ln ch_3 (own_b (ch_2 = 13)) (own_ln ch_2 (own_b (ch_1 = 13)) (own_ln ch_1 (0 : Int32) (1 : Int32))))), .val (.int (own_co ch_3 (own_b (ch_2 = 13)) (own_co ch_2 (own_b (ch_1 = 13)) (own_co ch_1 (0 : Int32) (1 : Int32))))), .val (.int (0 : Int32)), .unset, .unset, .unset, .unset, .unset] [(.int ch_2), (.int ch_1), (.int (0 : Int32))])) rfl (by rw [hml]; rfl) (argsL := [(.int ch_1), (.int ch_2)]) (rest := [(.int (0 : Int32))]) (lenOf pd0_5 rfl) rfl (by show 2 * 0 + _ ≤ _; exact Nat.le_of_eq rfl) (hb hby at_107) (fun _ _ => ⟨rfl, eq_39, (by decide : 1 + 0 ≤ _), (by decide : 3 + 0 ≤ _)⟩)
    dsimp only [Pt.U, Pt.locs, Pt.cells, Pt.slots] at X_54 l_54 y_54 z_54 st_54 hQ_54
    subst l_54 y_54 z_54
    refine own_st st_54 ?_
    obtain ⟨rfl, Nq_54, eq_54⟩ := hQ_54
    have N_54 := Fr.app N_39 Nq_54
    show own_Go p e below _ T_54 (mkF m 110 #[.val (.int x0), .val (.int x1), .val (.int x2), .val (.int ch_1), .val (.int ch_2), .val (.int ch_3), .val (.ref a_4), .val (.int (own_ln ch_1 (0 : Int32) (1 : Int32))), .val (.int (own_co ch_1 (0 : Int32) (1 : Int32))), .val (.int (own_ln ch_2 (own_b (ch_1 = 13)) (own_ln ch_1 (0 : Int32) (1 : Int32)))), .val (.int (own_co ch_2 (own_b (ch_1 = 13)) (own_co ch_1 (0 : Int32) (1 : Int32)))), .val (.int (own_ln ch_3 (own_b (ch_2 = 13)) (own_ln ch_2 (own_b (ch_1 = 13)) (own_ln ch_1 (0 : Int32) (1 : Int32))))), .val (.int (own_co ch_3 (own_b (ch_2 = 13)) (own_co ch_2 (own_b (ch_1 = 13)) (own_co ch_1 (0 : Int32) (1 : Int32))))), .val (.int (0 : Int32)), .unset, .unset, .unset, .unset, .unset] [(.int (own_ea ch_1 ch_2)), (.int (0 : Int32))])
    refine own_iadd X_54 hx (hb hby at_110) (pc' := 111) rfl ?_
    refine own_istore X_54 hx (hb hby at_111) (pc' := 113) (Ls' := #[.val (.int x0), .val (.int x1), .val (.int x2), .val (.int ch_1), .val (.int ch_2), .val (.int ch_3), .val (.ref a_4), .val (.int (own_ln ch_1 (0 : Int32) (1 : Int32))), .val (.int (own_co ch_1 (0 : Int32) (1 : Int32))), .val (.int (own_ln ch_2 (own_b (ch_1 = 13)) (own_ln ch_1 (0 : Int32) (1 : Int32)))), .val (.int (own_co ch_2 (own_b (ch_1 = 13)) (own_co ch_1 (0 : Int32) (1 : Int32)))), .val (.int (own_ln ch_3 (own_b (ch_2 = 13)) (own_ln ch_2 (own_b (ch_1 = 13)) (own_ln ch_1 (0 : Int32) (1 : Int32))))), .val (.int (own_co ch_3 (own_b (ch_2 = 13)) (own_co ch_2 (own_b (ch_1 = 13)) (own_co ch_1 (0 : Int32) (1 : Int32))))), .val (.int (0 : Int32)), .val (.int ((0 : Int32) + (own_ea ch_1 ch_2))), .unset, .unset, .unset, .unset]) rfl rfl ?_
    refine own_iload X_54 hx (hb hby at_113) (pc' := 115) rfl rfl ?_
    refine own_iload X_54 hx (hb hby at_115) (pc' := 117) rfl rfl ?_
    refine own_iload X_54 hx (hb hby at_117) (pc' := 119) rfl rfl ?_
    obtain ⟨_, _, ⟨T_55, L_55, k_55, n_55⟩, -, X_55, ⟨Lc_55, hQ_55, l_55, y_55, z_55⟩, st_55⟩ := Jvm.LawKit.callS X_54 hx (y := (⟨"com/example/muster/muster/xml/TextPositionAdvancePinLaw", "endsAfter", "(CC)I"⟩ : MethodName)) hown (mvT hZ (hw _ (List.mem_of_getElem? (i := 37) rfl))) (mvT hZ (hw _ (List.mem_of_getElem? (i := 38) rfl))) (mvT hZ (hw _ (List.mem_of_getElem? (i := 2) rfl))) (mvT hZ (hw _ (List.mem_of_getElem? (i := 39) rfl))) (by decide) (backOf (W := 1) (rm7 l Z a0 hw [] ch_2 ch_3 T_31.heap n0 Z_35) hZ (hw _ (List.mem_of_getElem? (i := 39) rfl)) (hw _ (List.mem_of_getElem? (i := 2) rfl)) (by decide) (by decide)) (g := (mkF m 119 #[.val (.int x0), .val (.int x1), .val (.int x2), .val (.int ch_1), .val (.int ch_2), .val (.int ch_3), .val (.ref a_4), .val (.int (own_ln ch_1 (0 : Int32) (1 : Int32))), .val (.int (own_co ch_1 (0 : Int32) (1 : Int32))), .val (.int (own_ln ch_2 (own_b (ch_1 = 13)) (own_ln ch_1 (0 : Int32) (1 : Int32)))), .val (.int (own_co ch_2 (own_b (ch_1 = 13)) (own_co ch_1 (0 : Int32) (1 : Int32)))), .val (.int (own_ln ch_3 (own_b (ch_2 = 13)) (own_ln ch_2 (own_b (ch_1 = 13)) (own_ln ch_1 (0 : Int32) (1 : Int32))))), .val (.int (own_co ch_3 (own_b (ch_2 = 13)) (own_co ch_2 (own_b (ch_1 = 13)) (own_co ch_1 (0 : Int32) (1 : Int32))))), .val (.int (0 : Int32)), .val (.int ((0 : Int32) + (own_ea ch_1 ch_2))), .unset, .unset, .unset, .unset] [(.int ch_3), (.int ch_2), (.int ((0 : Int32) + (own_ea ch_1 ch_2)))])) rfl (by rw [hml]; rfl) (argsL := [(.int ch_2), (.int ch_3)]) (rest := [(.int ((0 : Int32) + (own_ea ch_1 ch_2)))]) (lenOf pd0_5 rfl) rfl (by show 2 * 0 + _ ≤ _; exact Nat.le_of_eq rfl) (hb hby at_119) (fun _ _ => ⟨rfl, eq_54, (by decide : 1 + 0 ≤ _), (by decide : 3 + 0 ≤ _)⟩)
    dsimp only [Pt.U, Pt.locs, Pt.cells, Pt.slots] at X_55 l_55 y_55 z_55 st_55 hQ_55
    subst l_55 y_55 z_55
    refine own_st st_55 ?_
    obtain ⟨rfl, Nq_55, eq_55⟩ := hQ_55
    have N_55 := Fr.app N_54 Nq_55
    show own_Go p e below _ T_55 (mkF m 122 #[.val (.int x0), .val (.int x1), .val (.int x2), .val (.int ch_1), .val (.int ch_2), .val (.int ch_3), .val (.ref a_4), .val (.int (own_ln ch_1 (0 : Int32) (1 : Int32))), .val (.int (own_co ch_1 (0 : Int32) (1 : Int32))), .val (.int (own_ln ch_2 (own_b (ch_1 = 13)) (own_ln ch_1 (0 : Int32) (1 : Int32)))), .val (.int (own_co ch_2 (own_b (ch_1 = 13)) (own_co ch_1 (0 : Int32) (1 : Int32)))), .val (.int (own_ln ch_3 (own_b (ch_2 = 13)) (own_ln ch_2 (own_b (ch_1 = 13)) (own_ln ch_1 (0 : Int32) (1 : Int32))))), .val (.int (own_co ch_3 (own_b (ch_2 = 13)) (own_co ch_2 (own_b (ch_1 = 13)) (own_co ch_1 (0 : Int32) (1 : Int32))))), .val (.int (0 : Int32)), .val (.int ((0 : Int32) + (own_ea ch_1 ch_2))), .unset, .unset, .unset, .unset] [(.int (own_ea ch_2 ch_3)), (.int ((0 : Int32) + (own_ea ch_1 ch_2)))])
    refine own_iadd X_55 hx (hb hby at_122) (pc' := 123) rfl ?_
    refine own_istore X_55 hx (hb hby at_123) (pc' := 125) (Ls' := #[.val (.int x0), .val (.int x1), .val (.int x2), .val (.int ch_1), .val (.int ch_2), .val (.int ch_3), .val (.ref a_4), .val (.int (own_ln ch_1 (0 : Int32) (1 : Int32))), .val (.int (own_co ch_1 (0 : Int32) (1 : Int32))), .val (.int (own_ln ch_2 (own_b (ch_1 = 13)) (own_ln ch_1 (0 : Int32) (1 : Int32)))), .val (.int (own_co ch_2 (own_b (ch_1 = 13)) (own_co ch_1 (0 : Int32) (1 : Int32)))), .val (.int (own_ln ch_3 (own_b (ch_2 = 13)) (own_ln ch_2 (own_b (ch_1 = 13)) (own_ln ch_1 (0 : Int32) (1 : Int32))))), .val (.int (own_co ch_3 (own_b (ch_2 = 13)) (own_co ch_2 (own_b (ch_1 = 13)) (own_co ch_1 (0 : Int32) (1 : Int32))))), .val (.int (0 : Int32)), .val (.int ((0 : Int32) + (own_ea ch_1 ch_2))), .val (.int (((0 : Int32) + (own_ea ch_1 ch_2)) + (own_ea ch_2 ch_3))), .unset, .unset, .unset]) rfl rfl ?_
    refine own_iloadN X_55 hx (hb hby at_125) (pc' := 126) rfl rfl ?_
    obtain ⟨_, _, ⟨T_56, L_56, k_56, n_56⟩, -, X_56, ⟨Lc_56, hQ_56, l_56, y_56, z_56⟩, st_56⟩ := Jvm.LawKit.callS X_55 hx (y := (⟨"com/example/muster/muster/xml/TextPositionAdvancePinLaw", "ends", "(C)Z"⟩ : MethodName)) hown (mvT hZ (hw _ (List.mem_of_getElem? (i := 34) rfl))) (mvT hZ (hw _ (List.mem_of_getElem? (i := 35) rfl))) (mvT hZ (hw _ (List.mem_of_getElem? (i := 2) rfl))) (mvT hZ (hw _ (List.mem_of_getElem? (i := 36) rfl))) (by decide) (backOf (W := 0) (rm6 l Z a0 hw [] ch_1 T_31.heap n0 Z_35) hZ (hw _ (List.mem_of_getElem? (i := 36) rfl)) (hw _ (List.mem_of_getElem? (i := 2) rfl)) (by decide) (by decide)) (g := (mkF m 126 #[.val (.int x0), .val (.int x1), .val (.int x2), .val (.int ch_1), .val (.int ch_2), .val (.int ch_3), .val (.ref a_4), .val (.int (own_ln ch_1 (0 : Int32) (1 : Int32))), .val (.int (own_co ch_1 (0 : Int32) (1 : Int32))), .val (.int (own_ln ch_2 (own_b (ch_1 = 13)) (own_ln ch_1 (0 : Int32) (1 : Int32)))), .val (.int (own_co ch_2 (own_b (ch_1 = 13)) (own_co ch_1 (0 : Int32) (1 : Int32)))), .val (.int (own_ln ch_3 (own_b (ch_2 = 13)) (own_ln ch_2 (own_b (ch_1 = 13)) (own_ln ch_1 (0 : Int32) (1 : Int32))))), .val (.int (own_co ch_3 (own_b (ch_2 = 13)) (own_co ch_2 (own_b (ch_1 = 13)) (own_co ch_1 (0 : Int32) (1 : Int32))))), .val (.int (0 : Int32)), .val (.int ((0 : Int32) + (own_ea ch_1 ch_2))), .val (.int (((0 : Int32) + (own_ea ch_1 ch_2)) + (own_ea ch_2 ch_3))), .unset, .unset, .unset] [(.int ch_1)])) rfl (by rw [hml]; rfl) (argsL := [(.int ch_1)]) (rest := []) (lenOf pd0_4 rfl) rfl (by show 2 * 0 + _ ≤ _; exact Nat.le_of_eq rfl) (hb hby at_126) (fun _ _ => ⟨rfl, eq_55, (by decide : 1 + 0 ≤ _), (by decide : 3 + 0 ≤ _)⟩)
    dsimp only [Pt.U, Pt.locs, Pt.cells, Pt.slots] at X_56 l_56 y_56 z_56 st_56 hQ_56
    subst l_56 y_56 z_56
    refine own_st st_56 ?_
    obtain ⟨rfl, Nq_56, eq_56⟩ := hQ_56
    have N_56 := Fr.app N_55 Nq_56
    show own_Go p e below _ T_56 (mkF m 129 #[.val (.int x0), .val (.int x1), .val (.int x2), .val (.int ch_1), .val (.int ch_2), .val (.int ch_3), .val (.ref a_4), .val (.int (own_ln ch_1 (0 : Int32) (1 : Int32))), .val (.int (own_co ch_1 (0 : Int32) (1 : Int32))), .val (.int (own_ln ch_2 (own_b (ch_1 = 13)) (own_ln ch_1 (0 : Int32) (1 : Int32)))), .val (.int (own_co ch_2 (own_b (ch_1 = 13)) (own_co ch_1 (0 : Int32) (1 : Int32)))), .val (.int (own_ln ch_3 (own_b (ch_2 = 13)) (own_ln ch_2 (own_b (ch_1 = 13)) (own_ln ch_1 (0 : Int32) (1 : Int32))))), .val (.int (own_co ch_3 (own_b (ch_2 = 13)) (own_co ch_2 (own_b (ch_1 = 13)) (own_co ch_1 (0 : Int32) (1 : Int32))))), .val (.int (0 : Int32)), .val (.int ((0 : Int32) + (own_ea ch_1 ch_2))), .val (.int (((0 : Int32) + (own_ea ch_1 ch_2)) + (own_ea ch_2 ch_3))), .unset, .unset, .unset] [(.int (own_b (ch_1 = 10 ∨ ch_1 = 13)))])
    refine own_ifY X_56 hx (hb hby at_129) (own_b0_eq_t c_40) (pc' := 136) (by decide) (by decide) ?_
    refine own_iconst X_56 hx (2) (hb hby at_136) (pc' := 137) rfl rfl ?_
    refine own_istore X_56 hx (hb hby at_137) (pc' := 139) (Ls' := #[.val (.int x0), .val (.int x1), .val (.int x2), .val (.int ch_1), .val (.int ch_2), .val (.int ch_3), .val (.ref a_4), .val (.int (own_ln ch_1 (0 : Int32) (1 : Int32))), .val (.int (own_co ch_1 (0 : Int32) (1 : Int32))), .val (.int (own_ln ch_2 (own_b (ch_1 = 13)) (own_ln ch_1 (0 : Int32) (1 : Int32)))), .val (.int (own_co ch_2 (own_b (ch_1 = 13)) (own_co ch_1 (0 : Int32) (1 : Int32)))), .val (.int (own_ln ch_3 (own_b (ch_2 = 13)) (own_ln ch_2 (own_b (ch_1 = 13)) (own_ln ch_1 (0 : Int32) (1 : Int32))))), .val (.int (own_co ch_3 (own_b (ch_2 = 13)) (own_co ch_2 (own_b (ch_1 = 13)) (own_co ch_1 (0 : Int32) (1 : Int32))))), .val (.int (0 : Int32)), .val (.int ((0 : Int32) + (own_ea ch_1 ch_2))), .val (.int (((0 : Int32) + (own_ea ch_1 ch_2)) + (own_ea ch_2 ch_3))), .val (.int (2 : Int32)), .unset, .unset]) rfl rfl ?_
    refine own_iload X_56 hx (hb hby at_139) (pc' := 141) rfl rfl ?_
    obtain ⟨_, _, ⟨T_57, L_57, k_57, n_57⟩, -, X_57, ⟨Lc_57, hQ_57, l_57, y_57, z_57⟩, st_57⟩ := Jvm.LawKit.callS X_56 hx (y := (⟨"com/example/muster/muster/xml/TextPositionAdvancePinLaw", "ends", "(C)Z"⟩ : MethodName)) hown (mvT hZ (hw _ (List.mem_of_getElem? (i := 34) rfl))) (mvT hZ (hw _ (List.mem_of_getElem? (i := 35) rfl))) (mvT hZ (hw _ (List.mem_of_getElem? (i := 2) rfl))) (mvT hZ (hw _ (List.mem_of_getElem? (i := 36) rfl))) (by decide) (backOf (W := 0) (rm6 l Z a0 hw [] ch_2 T_31.heap n0 Z_35) hZ (hw _ (List.mem_of_getElem? (i := 36) rfl)) (hw _ (List.mem_of_getElem? (i := 2) rfl)) (by decide) (by decide)) (g := (mkF m 141 #[.val (.int x0), .val (.int x1), .val (.int x2), .val (.int ch_1), .val (.int ch_2), .val (.int ch_3), .val (.ref a_4), .val (.int (own_ln ch_1 (0 : Int32) (1 : Int32))), .val (.int (own_co ch_1 (0 : Int32) (1 : Int32))), .val (.int (own_ln ch_2 (own_b (ch_1 = 13)) (own_ln ch_1 (0 : Int32) (1 : Int32)))), .val (.int (own_co ch_2 (own_b (ch_1 = 13)) (own_co ch_1 (0 : Int32) (1 : Int32)))), .val (.int (own_ln ch_3 (own_b (ch_2 = 13)) (own_ln ch_2 (own_b (ch_1 = 13)) (own_ln ch_1 (0 : Int32) (1 : Int32))))), .val (.int (own_co ch_3 (own_b (ch_2 = 13)) (own_co ch_2 (own_b (ch_1 = 13)) (own_co ch_1 (0 : Int32) (1 : Int32))))), .val (.int (0 : Int32)), .val (.int ((0 : Int32) + (own_ea ch_1 ch_2))), .val (.int (((0 : Int32) + (own_ea ch_1 ch_2)) + (own_ea ch_2 ch_3))), .val (.int (2 : Int32)), .unset, .unset] [(.int ch_2)])) rfl (by rw [hml]; rfl) (argsL := [(.int ch_2)]) (rest := []) (lenOf pd0_4 rfl) rfl (by show 2 * 0 + _ ≤ _; exact Nat.le_of_eq rfl) (hb hby at_141) (fun _ _ => ⟨rfl, eq_56, (by decide : 1 + 0 ≤ _), (by decide : 3 + 0 ≤ _)⟩)
    dsimp only [Pt.U, Pt.locs, Pt.cells, Pt.slots] at X_57 l_57 y_57 z_57 st_57 hQ_57
    subst l_57 y_57 z_57
    refine own_st st_57 ?_
    obtain ⟨rfl, Nq_57, eq_57⟩ := hQ_57
    have N_57 := Fr.app N_56 Nq_57
    show own_Go p e below _ T_57 (mkF m 144 #[.val (.int x0), .val (.int x1), .val (.int x2), .val (.int ch_1), .val (.int ch_2), .val (.int ch_3), .val (.ref a_4), .val (.int (own_ln ch_1 (0 : Int32) (1 : Int32))), .val (.int (own_co ch_1 (0 : Int32) (1 : Int32))), .val (.int (own_ln ch_2 (own_b (ch_1 = 13)) (own_ln ch_1 (0 : Int32) (1 : Int32)))), .val (.int (own_co ch_2 (own_b (ch_1 = 13)) (own_co ch_1 (0 : Int32) (1 : Int32)))), .val (.int (own_ln ch_3 (own_b (ch_2 = 13)) (own_ln ch_2 (own_b (ch_1 = 13)) (own_ln ch_1 (0 : Int32) (1 : Int32))))), .val (.int (own_co ch_3 (own_b (ch_2 = 13)) (own_co ch_2 (own_b (ch_1 = 13)) (own_co ch_1 (0 : Int32) (1 : Int32))))), .val (.int (0 : Int32)), .val (.int ((0 : Int32) + (own_ea ch_1 ch_2))), .val (.int (((0 : Int32) + (own_ea ch_1 ch_2)) + (own_ea ch_2 ch_3))), .val (.int (2 : Int32)), .unset, .unset] [(.int (own_b (ch_2 = 10 ∨ ch_2 = 13)))])
    by_cases c_58 : ch_2 = 10 ∨ ch_2 = 13
    · skip
      refine own_ifN X_57 hx (hb hby at_144) (own_b0_eq_f c_58) (pc' := 147) rfl ?_
      refine own_iconst X_57 hx (1) (hb hby at_147) (pc' := 148) rfl rfl ?_
      refine own_goto X_57 hx (hb hby at_148) (pc' := 163) (by decide) (by decide) ?_
      refine own_istore X_57 hx (hb hby at_163) (pc' := 165) (Ls' := #[.val (.int x0), .val (.int x1), .val (.int x2), .val (.int ch_1), .val (.int ch_2), .val (.int ch_3), .val (.ref a_4), .val (.int (own_ln ch_1 (0 : Int32) (1 : Int32))), .val (.int (own_co ch_1 (0 : Int32) (1 : Int32))), .val (.int (own_ln ch_2 (own_b (ch_1 = 13)) (own_ln ch_1 (0 : Int32) (1 : Int32)))), .val (.int (own_co ch_2 (own_b (ch_1 = 13)) (own_co ch_1 (0 : Int32) (1 : Int32)))), .val (.int (own_ln ch_3 (own_b (ch_2 = 13)) (own_ln ch_2 (own_b (ch_1 = 13)) (own_ln ch_1 (0 : Int32) (1 : Int32))))), .val (.int (own_co ch_3 (own_b (ch_2 = 13)) (own_co ch_2 (own_b (ch_1 = 13)) (own_co ch_1 (0 : Int32) (1 : Int32))))), .val (.int (0 : Int32)), .val (.int ((0 : Int32) + (own_ea ch_1 ch_2))), .val (.int (((0 : Int32) + (own_ea ch_1 ch_2)) + (own_ea ch_2 ch_3))), .val (.int (2 : Int32)), .val (.int (1 : Int32)), .unset]) rfl rfl ?_
      refine own_iload X_57 hx (hb hby at_165) (pc' := 167) rfl rfl ?_
      obtain ⟨_, _, ⟨T_59, L_59, k_59, n_59⟩, -, X_59, ⟨Lc_59, hQ_59, l_59, y_59, z_59⟩, st_59⟩ := Jvm.LawKit.callS X_57 hx (y := (⟨"com/example/muster/muster/xml/TextPositionAdvancePinLaw", "ends", "(C)Z"⟩ : MethodName)) hown (mvT hZ (hw _ (List.mem_of_getElem? (i := 34) rfl))) (mvT hZ (hw _ (List.mem_of_getElem? (i := 35) rfl))) (mvT hZ (hw _ (List.mem_of_getElem? (i := 2) rfl))) (mvT hZ (hw _ (List.mem_of_getElem? (i := 36) rfl))) (by decide) (backOf (W := 0) (rm6 l Z a0 hw [] ch_3 T_31.heap n0 Z_35) hZ (hw _ (List.mem_of_getElem? (i := 36) rfl)) (hw _ (List.mem_of_getElem? (i := 2) rfl)) (by decide) (by decide)) (g := (mkF m 167 #[.val (.int x0), .val (.int x1), .val (.int x2), .val (.int ch_1), .val (.int ch_2), .val (.int ch_3), .val (.ref a_4), .val (.int (own_ln ch_1 (0 : Int32) (1 : Int32))), .val (.int (own_co ch_1 (0 : Int32) (1 : Int32))), .val (.int (own_ln ch_2 (own_b (ch_1 = 13)) (own_ln ch_1 (0 : Int32) (1 : Int32)))), .val (.int (own_co ch_2 (own_b (ch_1 = 13)) (own_co ch_1 (0 : Int32) (1 : Int32)))), .val (.int (own_ln ch_3 (own_b (ch_2 = 13)) (own_ln ch_2 (own_b (ch_1 = 13)) (own_ln ch_1 (0 : Int32) (1 : Int32))))), .val (.int (own_co ch_3 (own_b (ch_2 = 13)) (own_co ch_2 (own_b (ch_1 = 13)) (own_co ch_1 (0 : Int32) (1 : Int32))))), .val (.int (0 : Int32)), .val (.int ((0 : Int32) + (own_ea ch_1 ch_2))), .val (.int (((0 : Int32) + (own_ea ch_1 ch_2)) + (own_ea ch_2 ch_3))), .val (.int (2 : Int32)), .val (.int (1 : Int32)), .unset] [(.int ch_3)])) rfl (by rw [hml]; rfl) (argsL := [(.int ch_3)]) (rest := []) (lenOf pd0_4 rfl) rfl (by show 2 * 0 + _ ≤ _; exact Nat.le_of_eq rfl) (hb hby at_167) (fun _ _ => ⟨rfl, eq_57, (by decide : 1 + 0 ≤ _), (by decide : 3 + 0 ≤ _)⟩)
      dsimp only [Pt.U, Pt.locs, Pt.cells, Pt.slots] at X_59 l_59 y_59 z_59 st_59 hQ_59
      subst l_59 y_59 z_59
      refine own_st st_59 ?_
      obtain ⟨rfl, Nq_59, eq_59⟩ := hQ_59
      have N_59 := Fr.app N_57 Nq_59
      show own_Go p e below _ T_59 (mkF m 170 #[.val (.int x0), .val (.int x1), .val (.int x2), .val (.int ch_1), .val (.int ch_2), .val (.int ch_3), .val (.ref a_4), .val (.int (own_ln ch_1 (0 : Int32) (1 : Int32))), .val (.int (own_co ch_1 (0 : Int32) (1 : Int32))), .val (.int (own_ln ch_2 (own_b (ch_1 = 13)) (own_ln ch_1 (0 : Int32) (1 : Int32)))), .val (.int (own_co ch_2 (own_b (ch_1 = 13)) (own_co ch_1 (0 : Int32) (1 : Int32)))), .val (.int (own_ln ch_3 (own_b (ch_2 = 13)) (own_ln ch_2 (own_b (ch_1 = 13)) (own_ln ch_1 (0 : Int32) (1 : Int32))))), .val (.int (own_co ch_3 (own_b (ch_2 = 13)) (own_co ch_2 (own_b (ch_1 = 13)) (own_co ch_1 (0 : Int32) (1 : Int32))))), .val (.int (0 : Int32)), .val (.int ((0 : Int32) + (own_ea ch_1 ch_2))), .val (.int (((0 : Int32) + (own_ea ch_1 ch_2)) + (own_ea ch_2 ch_3))), .val (.int (2 : Int32)), .val (.int (1 : Int32)), .unset] [(.int (own_b (ch_3 = 10 ∨ ch_3 = 13)))])
      by_cases c_60 : ch_3 = 10 ∨ ch_3 = 13
      · skip
        refine own_ifN X_59 hx (hb hby at_170) (own_b0_eq_f c_60) (pc' := 173) rfl ?_
        refine own_iconst X_59 hx (1) (hb hby at_173) (pc' := 174) rfl rfl ?_
        refine own_goto X_59 hx (hb hby at_174) (pc' := 201) (by decide) (by decide) ?_
        refine own_istore X_59 hx (hb hby at_201) (pc' := 203) (Ls' := #[.val (.int x0), .val (.int x1), .val (.int x2), .val (.int ch_1), .val (.int ch_2), .val (.int ch_3), .val (.ref a_4), .val (.int (own_ln ch_1 (0 : Int32) (1 : Int32))), .val (.int (own_co ch_1 (0 : Int32) (1 : Int32))), .val (.int (own_ln ch_2 (own_b (ch_1 = 13)) (own_ln ch_1 (0 : Int32) (1 : Int32)))), .val (.int (own_co ch_2 (own_b (ch_1 = 13)) (own_co ch_1 (0 : Int32) (1 : Int32)))), .val (.int (own_ln ch_3 (own_b (ch_2 = 13)) (own_ln ch_2 (own_b (ch_1 = 13)) (own_ln ch_1 (0 : Int32) (1 : Int32))))), .val (.int (own_co ch_3 (own_b (ch_2 = 13)) (own_co ch_2 (own_b (ch_1 = 13)) (own_co ch_1 (0 : Int32) (1 : Int32))))), .val (.int (0 : Int32)), .val (.int ((0 : Int32) + (own_ea ch_1 ch_2))), .val (.int (((0 : Int32) + (own_ea ch_1 ch_2)) + (own_ea ch_2 ch_3))), .val (.int (2 : Int32)), .val (.int (1 : Int32)), .val (.int (1 : Int32))]) rfl rfl ?_
        refine own_iload X_59 hx (hb hby at_203) (pc' := 205) rfl rfl ?_
        refine own_iconst X_59 hx (1) (hb hby at_205) (pc' := 206) rfl rfl ?_
        refine own_iload X_59 hx (hb hby at_206) (pc' := 208) rfl rfl ?_
        refine own_iadd X_59 hx (hb hby at_208) (pc' := 209) rfl ?_
        rw [show ((1 : Int32) + (0 : Int32)) = (1 : Int32) from by decide]
        refine own_icmpN X_59 hx (hb hby at_209) (XT.ii_ne_f (by have q := own_l1 ch_1; simp only [c_40, c_58, c_60, if_true, if_false] at q; first | exact q | simpa using q)) (pc' := 212) rfl ?_
        refine own_iload X_59 hx (hb hby at_212) (pc' := 214) rfl rfl ?_
        refine own_iload X_59 hx (hb hby at_214) (pc' := 216) rfl rfl ?_
        refine own_icmpN X_59 hx (hb hby at_216) (XT.ii_ne_f (by have q := own_c1 ch_1; simp only [c_40, c_58, c_60, if_true, if_false] at q; first | exact q | simpa using q)) (pc' := 219) rfl ?_
        refine own_iload X_59 hx (hb hby at_219) (pc' := 221) rfl rfl ?_
        refine own_iconst X_59 hx (1) (hb hby at_221) (pc' := 222) rfl rfl ?_
        refine own_iload X_59 hx (hb hby at_222) (pc' := 224) rfl rfl ?_
        refine own_iadd X_59 hx (hb hby at_224) (pc' := 225) rfl ?_
        refine own_icmpN X_59 hx (hb hby at_225) (XT.ii_ne_f (by have q := own_l2 ch_1 ch_2; simp only [c_40, c_58, c_60, if_true, if_false] at q; first | exact q | simpa using q)) (pc' := 228) rfl ?_
        refine own_iload X_59 hx (hb hby at_228) (pc' := 230) rfl rfl ?_
        refine own_iload X_59 hx (hb hby at_230) (pc' := 232) rfl rfl ?_
        refine own_icmpN X_59 hx (hb hby at_232) (XT.ii_ne_f (by have q := own_c2 ch_1 ch_2; simp only [c_40, c_58, c_60, if_true, if_false] at q; first | exact q | simpa using q)) (pc' := 235) rfl ?_
        refine own_iload X_59 hx (hb hby at_235) (pc' := 237) rfl rfl ?_
        refine own_iconst X_59 hx (1) (hb hby at_237) (pc' := 238) rfl rfl ?_
        refine own_iload X_59 hx (hb hby at_238) (pc' := 240) rfl rfl ?_
        refine own_iadd X_59 hx (hb hby at_240) (pc' := 241) rfl ?_
        refine own_icmpN X_59 hx (hb hby at_241) (XT.ii_ne_f (by have q := own_l3 ch_1 ch_2 ch_3; simp only [c_40, c_58, c_60, if_true, if_false] at q; first | exact q | simpa using q)) (pc' := 244) rfl ?_
        refine own_iload X_59 hx (hb hby at_244) (pc' := 246) rfl rfl ?_
        refine own_iload X_59 hx (hb hby at_246) (pc' := 248) rfl rfl ?_
        refine own_icmpN X_59 hx (hb hby at_248) (XT.ii_ne_f (by have q := own_c3 ch_1 ch_2 ch_3; simp only [c_40, c_58, c_60, if_true, if_false] at q; first | exact q | simpa using q)) (pc' := 251) rfl ?_
        refine own_iconst X_59 hx (1) (hb hby at_251) (pc' := 252) rfl rfl ?_
        refine own_goto X_59 hx (hb hby at_252) (pc' := 256) (by decide) (by decide) ?_
        refine own_retZ X_59 hx hlk Bd.returns (by simp) (hb hby at_256) (by decide) (by decide) ?_
        exact ⟨rfl, N_59⟩
      · skip
        refine own_ifY X_59 hx (hb hby at_170) (own_b0_eq_t c_60) (pc' := 177) (by decide) (by decide) ?_
        refine own_iload X_59 hx (hb hby at_177) (pc' := 179) rfl rfl ?_
        obtain ⟨_, _, ⟨T_61, L_61, k_61, n_61⟩, -, X_61, ⟨Lc_61, hQ_61, l_61, y_61, z_61⟩, st_61⟩ := Jvm.LawKit.callS X_59 hx (y := (⟨"com/example/muster/muster/xml/TextPositionAdvancePinLaw", "ends", "(C)Z"⟩ : MethodName)) hown (mvT hZ (hw _ (List.mem_of_getElem? (i := 34) rfl))) (mvT hZ (hw _ (List.mem_of_getElem? (i := 35) rfl))) (mvT hZ (hw _ (List.mem_of_getElem? (i := 2) rfl))) (mvT hZ (hw _ (List.mem_of_getElem? (i := 36) rfl))) (by decide) (backOf (W := 0) (rm6 l Z a0 hw [] ch_2 T_31.heap n0 Z_35) hZ (hw _ (List.mem_of_getElem? (i := 36) rfl)) (hw _ (List.mem_of_getElem? (i := 2) rfl)) (by decide) (by decide)) (g := (mkF m 179 #[.val (.int x0), .val (.int x1), .val (.int x2), .val (.int ch_1), .val (.int ch_2), .val (.int ch_3), .val (.ref a_4), .val (.int (own_ln ch_1 (0 : Int32) (1 : Int32))), .val (.int (own_co ch_1 (0 : Int32) (1 : Int32))), .val (.int (own_ln ch_2 (own_b (ch_1 = 13)) (own_ln ch_1 (0 : Int32) (1 : Int32)))), .val (.int (own_co ch_2 (own_b (ch_1 = 13)) (own_co ch_1 (0 : Int32) (1 : Int32)))), .val (.int (own_ln ch_3 (own_b (ch_2 = 13)) (own_ln ch_2 (own_b (ch_1 = 13)) (own_ln ch_1 (0 : Int32) (1 : Int32))))), .val (.int (own_co ch_3 (own_b (ch_2 = 13)) (own_co ch_2 (own_b (ch_1 = 13)) (own_co ch_1 (0 : Int32) (1 : Int32))))), .val (.int (0 : Int32)), .val (.int ((0 : Int32) + (own_ea ch_1 ch_2))), .val (.int (((0 : Int32) + (own_ea ch_1 ch_2)) + (own_ea ch_2 ch_3))), .val (.int (2 : Int32)), .val (.int (1 : Int32)), .unset] [(.int ch_2)])) rfl (by rw [hml]; rfl) (argsL := [(.int ch_2)]) (rest := []) (lenOf pd0_4 rfl) rfl (by show 2 * 0 + _ ≤ _; exact Nat.le_of_eq rfl) (hb hby at_179) (fun _ _ => ⟨rfl, eq_59, (by decide : 1 + 0 ≤ _), (by decide : 3 + 0 ≤ _)⟩)
        dsimp only [Pt.U, Pt.locs, Pt.cells, Pt.slots] at X_61 l_61 y_61 z_61 st_61 hQ_61
        subst l_61 y_61 z_61
        refine own_st st_61 ?_
        obtain ⟨rfl, Nq_61, eq_61⟩ := hQ_61
        have N_61 := Fr.app N_59 Nq_61
        show own_Go p e below _ T_61 (mkF m 182 #[.val (.int x0), .val (.int x1), .val (.int x2), .val (.int ch_1), .val (.int ch_2), .val (.int ch_3), .val (.ref a_4), .val (.int (own_ln ch_1 (0 : Int32) (1 : Int32))), .val (.int (own_co ch_1 (0 : Int32) (1 : Int32))), .val (.int (own_ln ch_2 (own_b (ch_1 = 13)) (own_ln ch_1 (0 : Int32) (1 : Int32)))), .val (.int (own_co ch_2 (own_b (ch_1 = 13)) (own_co ch_1 (0 : Int32) (1 : Int32)))), .val (.int (own_ln ch_3 (own_b (ch_2 = 13)) (own_ln ch_2 (own_b (ch_1 = 13)) (own_ln ch_1 (0 : Int32) (1 : Int32))))), .val (.int (own_co ch_3 (own_b (ch_2 = 13)) (own_co ch_2 (own_b (ch_1 = 13)) (own_co ch_1 (0 : Int32) (1 : Int32))))), .val (.int (0 : Int32)), .val (.int ((0 : Int32) + (own_ea ch_1 ch_2))), .val (.int (((0 : Int32) + (own_ea ch_1 ch_2)) + (own_ea ch_2 ch_3))), .val (.int (2 : Int32)), .val (.int (1 : Int32)), .unset] [(.int (own_b (ch_2 = 10 ∨ ch_2 = 13)))])
        refine own_ifN X_61 hx (hb hby at_182) (own_b0_eq_f c_58) (pc' := 185) rfl ?_
        refine own_iconst X_61 hx (2) (hb hby at_185) (pc' := 186) rfl rfl ?_
        refine own_goto X_61 hx (hb hby at_186) (pc' := 201) (by decide) (by decide) ?_
        refine own_istore X_61 hx (hb hby at_201) (pc' := 203) (Ls' := #[.val (.int x0), .val (.int x1), .val (.int x2), .val (.int ch_1), .val (.int ch_2), .val (.int ch_3), .val (.ref a_4), .val (.int (own_ln ch_1 (0 : Int32) (1 : Int32))), .val (.int (own_co ch_1 (0 : Int32) (1 : Int32))), .val (.int (own_ln ch_2 (own_b (ch_1 = 13)) (own_ln ch_1 (0 : Int32) (1 : Int32)))), .val (.int (own_co ch_2 (own_b (ch_1 = 13)) (own_co ch_1 (0 : Int32) (1 : Int32)))), .val (.int (own_ln ch_3 (own_b (ch_2 = 13)) (own_ln ch_2 (own_b (ch_1 = 13)) (own_ln ch_1 (0 : Int32) (1 : Int32))))), .val (.int (own_co ch_3 (own_b (ch_2 = 13)) (own_co ch_2 (own_b (ch_1 = 13)) (own_co ch_1 (0 : Int32) (1 : Int32))))), .val (.int (0 : Int32)), .val (.int ((0 : Int32) + (own_ea ch_1 ch_2))), .val (.int (((0 : Int32) + (own_ea ch_1 ch_2)) + (own_ea ch_2 ch_3))), .val (.int (2 : Int32)), .val (.int (1 : Int32)), .val (.int (2 : Int32))]) rfl rfl ?_
        refine own_iload X_61 hx (hb hby at_203) (pc' := 205) rfl rfl ?_
        refine own_iconst X_61 hx (1) (hb hby at_205) (pc' := 206) rfl rfl ?_
        refine own_iload X_61 hx (hb hby at_206) (pc' := 208) rfl rfl ?_
        refine own_iadd X_61 hx (hb hby at_208) (pc' := 209) rfl ?_
        rw [show ((1 : Int32) + (0 : Int32)) = (1 : Int32) from by decide]
        refine own_icmpN X_61 hx (hb hby at_209) (XT.ii_ne_f (by have q := own_l1 ch_1; simp only [c_40, c_58, c_60, if_true, if_false] at q; first | exact q | simpa using q)) (pc' := 212) rfl ?_
        refine own_iload X_61 hx (hb hby at_212) (pc' := 214) rfl rfl ?_
        refine own_iload X_61 hx (hb hby at_214) (pc' := 216) rfl rfl ?_
        refine own_icmpN X_61 hx (hb hby at_216) (XT.ii_ne_f (by have q := own_c1 ch_1; simp only [c_40, c_58, c_60, if_true, if_false] at q; first | exact q | simpa using q)) (pc' := 219) rfl ?_
        refine own_iload X_61 hx (hb hby at_219) (pc' := 221) rfl rfl ?_
        refine own_iconst X_61 hx (1) (hb hby at_221) (pc' := 222) rfl rfl ?_
        refine own_iload X_61 hx (hb hby at_222) (pc' := 224) rfl rfl ?_
        refine own_iadd X_61 hx (hb hby at_224) (pc' := 225) rfl ?_
        refine own_icmpN X_61 hx (hb hby at_225) (XT.ii_ne_f (by have q := own_l2 ch_1 ch_2; simp only [c_40, c_58, c_60, if_true, if_false] at q; first | exact q | simpa using q)) (pc' := 228) rfl ?_
        refine own_iload X_61 hx (hb hby at_228) (pc' := 230) rfl rfl ?_
        refine own_iload X_61 hx (hb hby at_230) (pc' := 232) rfl rfl ?_
        refine own_icmpN X_61 hx (hb hby at_232) (XT.ii_ne_f (by have q := own_c2 ch_1 ch_2; simp only [c_40, c_58, c_60, if_true, if_false] at q; first | exact q | simpa using q)) (pc' := 235) rfl ?_
        refine own_iload X_61 hx (hb hby at_235) (pc' := 237) rfl rfl ?_
        refine own_iconst X_61 hx (1) (hb hby at_237) (pc' := 238) rfl rfl ?_
        refine own_iload X_61 hx (hb hby at_238) (pc' := 240) rfl rfl ?_
        refine own_iadd X_61 hx (hb hby at_240) (pc' := 241) rfl ?_
        refine own_icmpN X_61 hx (hb hby at_241) (XT.ii_ne_f (by have q := own_l3 ch_1 ch_2 ch_3; simp only [c_40, c_58, c_60, if_true, if_false] at q; first | exact q | simpa using q)) (pc' := 244) rfl ?_
        refine own_iload X_61 hx (hb hby at_244) (pc' := 246) rfl rfl ?_
        refine own_iload X_61 hx (hb hby at_246) (pc' := 248) rfl rfl ?_
        refine own_icmpN X_61 hx (hb hby at_248) (XT.ii_ne_f (by have q := own_c3 ch_1 ch_2 ch_3; simp only [c_40, c_58, c_60, if_true, if_false] at q; first | exact q | simpa using q)) (pc' := 251) rfl ?_
        refine own_iconst X_61 hx (1) (hb hby at_251) (pc' := 252) rfl rfl ?_
        refine own_goto X_61 hx (hb hby at_252) (pc' := 256) (by decide) (by decide) ?_
        refine own_retZ X_61 hx hlk Bd.returns (by simp) (hb hby at_256) (by decide) (by decide) ?_
        exact ⟨rfl, N_61⟩
    · skip
      refine own_ifY X_57 hx (hb hby at_144) (own_b0_eq_t c_58) (pc' := 151) (by decide) (by decide) ?_
      refine own_iloadN X_57 hx (hb hby at_151) (pc' := 152) rfl rfl ?_
      obtain ⟨_, _, ⟨T_62, L_62, k_62, n_62⟩, -, X_62, ⟨Lc_62, hQ_62, l_62, y_62, z_62⟩, st_62⟩ := Jvm.LawKit.callS X_57 hx (y := (⟨"com/example/muster/muster/xml/TextPositionAdvancePinLaw", "ends", "(C)Z"⟩ : MethodName)) hown (mvT hZ (hw _ (List.mem_of_getElem? (i := 34) rfl))) (mvT hZ (hw _ (List.mem_of_getElem? (i := 35) rfl))) (mvT hZ (hw _ (List.mem_of_getElem? (i := 2) rfl))) (mvT hZ (hw _ (List.mem_of_getElem? (i := 36) rfl))) (by decide) (backOf (W := 0) (rm6 l Z a0 hw [] ch_1 T_31.heap n0 Z_35) hZ (hw _ (List.mem_of_getElem? (i := 36) rfl)) (hw _ (List.mem_of_getElem? (i := 2) rfl)) (by decide) (by decide)) (g := (mkF m 152 #[.val (.int x0), .val (.int x1), .val (.int x2), .val (.int ch_1), .val (.int ch_2), .val (.int ch_3), .val (.ref a_4), .val (.int (own_ln ch_1 (0 : Int32) (1 : Int32))), .val (.int (own_co ch_1 (0 : Int32) (1 : Int32))), .val (.int (own_ln ch_2 (own_b (ch_1 = 13)) (own_ln ch_1 (0 : Int32) (1 : Int32)))), .val (.int (own_co ch_2 (own_b (ch_1 = 13)) (own_co ch_1 (0 : Int32) (1 : Int32)))), .val (.int (own_ln ch_3 (own_b (ch_2 = 13)) (own_ln ch_2 (own_b (ch_1 = 13)) (own_ln ch_1 (0 : Int32) (1 : Int32))))), .val (.int (own_co ch_3 (own_b (ch_2 = 13)) (own_co ch_2 (own_b (ch_1 = 13)) (own_co ch_1 (0 : Int32) (1 : Int32))))), .val (.int (0 : Int32)), .val (.int ((0 : Int32) + (own_ea ch_1 ch_2))), .val (.int (((0 : Int32) + (own_ea ch_1 ch_2)) + (own_ea ch_2 ch_3))), .val (.int (2 : Int32)), .unset, .unset] [(.int ch_1)])) rfl (by rw [hml]; rfl) (argsL := [(.int ch_1)]) (rest := []) (lenOf pd0_4 rfl) rfl (by show 2 * 0 + _ ≤ _; exact Nat.le_of_eq rfl) (hb hby at_152) (fun _ _ => ⟨rfl, eq_57, (by decide : 1 + 0 ≤ _), (by decide : 3 + 0 ≤ _)⟩)
      dsimp only [Pt.U, Pt.locs, Pt.cells, Pt.slots] at X_62 l_62 y_62 z_62 st_62 hQ_62
      subst l_62 y_62 z_62
      refine own_st st_62 ?_
      obtain ⟨rfl, Nq_62, eq_62⟩ := hQ_62
      have N_62 := Fr.app N_57 Nq_62
      show own_Go p e below _ T_62 (mkF m 155 #[.val (.int x0), .val (.int x1), .val (.int x2), .val (.int ch_1), .val (.int ch_2), .val (.int ch_3), .val (.ref a_4), .val (.int (own_ln ch_1 (0 : Int32) (1 : Int32))), .val (.int (own_co ch_1 (0 : Int32) (1 : Int32))), .val (.int (own_ln ch_2 (own_b (ch_1 = 13)) (own_ln ch_1 (0 : Int32) (1 : Int32)))), .val (.int (own_co ch_2 (own_b (ch_1 = 13)) (own_co ch_1 (0 : Int32) (1 : Int32)))), .val (.int (own_ln ch_3 (own_b (ch_2 = 13)) (own_ln ch_2 (own_b (ch_1 = 13)) (own_ln ch_1 (0 : Int32) (1 : Int32))))), .val (.int (own_co ch_3 (own_b (ch_2 = 13)) (own_co ch_2 (own_b (ch_1 = 13)) (own_co ch_1 (0 : Int32) (1 : Int32))))), .val (.int (0 : Int32)), .val (.int ((0 : Int32) + (own_ea ch_1 ch_2))), .val (.int (((0 : Int32) + (own_ea ch_1 ch_2)) + (own_ea ch_2 ch_3))), .val (.int (2 : Int32)), .unset, .unset] [(.int (own_b (ch_1 = 10 ∨ ch_1 = 13)))])
      refine own_ifY X_62 hx (hb hby at_155) (own_b0_eq_t c_40) (pc' := 162) (by decide) (by decide) ?_
      refine own_iconst X_62 hx (3) (hb hby at_162) (pc' := 163) rfl rfl ?_
      refine own_istore X_62 hx (hb hby at_163) (pc' := 165) (Ls' := #[.val (.int x0), .val (.int x1), .val (.int x2), .val (.int ch_1), .val (.int ch_2), .val (.int ch_3), .val (.ref a_4), .val (.int (own_ln ch_1 (0 : Int32) (1 : Int32))), .val (.int (own_co ch_1 (0 : Int32) (1 : Int32))), .val (.int (own_ln ch_2 (own_b (ch_1 = 13)) (own_ln ch_1 (0 : Int32) (1 : Int32)))), .val (.int (own_co ch_2 (own_b (ch_1 = 13)) (own_co ch_1 (0 : Int32) (1 : Int32)))), .val (.int (own_ln ch_3 (own_b (ch_2 = 13)) (own_ln ch_2 (own_b (ch_1 = 13)) (own_ln ch_1 (0 : Int32) (1 : Int32))))), .val (.int (own_co ch_3 (own_b (ch_2 = 13)) (own_co ch_2 (own_b (ch_1 = 13)) (own_co ch_1 (0 : Int32) (1 : Int32))))), .val (.int (0 : Int32)), .val (.int ((0 : Int32) + (own_ea ch_1 ch_2))), .val (.int (((0 : Int32) + (own_ea ch_1 ch_2)) + (own_ea ch_2 ch_3))), .val (.int (2 : Int32)), .val (.int (3 : Int32)), .unset]) rfl rfl ?_
      refine own_iload X_62 hx (hb hby at_165) (pc' := 167) rfl rfl ?_
      obtain ⟨_, _, ⟨T_63, L_63, k_63, n_63⟩, -, X_63, ⟨Lc_63, hQ_63, l_63, y_63, z_63⟩, st_63⟩ := Jvm.LawKit.callS X_62 hx (y := (⟨"com/example/muster/muster/xml/TextPositionAdvancePinLaw", "ends", "(C)Z"⟩ : MethodName)) hown (mvT hZ (hw _ (List.mem_of_getElem? (i := 34) rfl))) (mvT hZ (hw _ (List.mem_of_getElem? (i := 35) rfl))) (mvT hZ (hw _ (List.mem_of_getElem? (i := 2) rfl))) (mvT hZ (hw _ (List.mem_of_getElem? (i := 36) rfl))) (by decide) (backOf (W := 0) (rm6 l Z a0 hw [] ch_3 T_31.heap n0 Z_35) hZ (hw _ (List.mem_of_getElem? (i := 36) rfl)) (hw _ (List.mem_of_getElem? (i := 2) rfl)) (by decide) (by decide)) (g := (mkF m 167 #[.val (.int x0), .val (.int x1), .val (.int x2), .val (.int ch_1), .val (.int ch_2), .val (.int ch_3), .val (.ref a_4), .val (.int (own_ln ch_1 (0 : Int32) (1 : Int32))), .val (.int (own_co ch_1 (0 : Int32) (1 : Int32))), .val (.int (own_ln ch_2 (own_b (ch_1 = 13)) (own_ln ch_1 (0 : Int32) (1 : Int32)))), .val (.int (own_co ch_2 (own_b (ch_1 = 13)) (own_co ch_1 (0 : Int32) (1 : Int32)))), .val (.int (own_ln ch_3 (own_b (ch_2 = 13)) (own_ln ch_2 (own_b (ch_1 = 13)) (own_ln ch_1 (0 : Int32) (1 : Int32))))), .val (.int (own_co ch_3 (own_b (ch_2 = 13)) (own_co ch_2 (own_b (ch_1 = 13)) (own_co ch_1 (0 : Int32) (1 : Int32))))), .val (.int (0 : Int32)), .val (.int ((0 : Int32) + (own_ea ch_1 ch_2))), .val (.int (((0 : Int32) + (own_ea ch_1 ch_2)) + (own_ea ch_2 ch_3))), .val (.int (2 : Int32)), .val (.int (3 : Int32)), .unset] [(.int ch_3)])) rfl (by rw [hml]; rfl) (argsL := [(.int ch_3)]) (rest := []) (lenOf pd0_4 rfl) rfl (by show 2 * 0 + _ ≤ _; exact Nat.le_of_eq rfl) (hb hby at_167) (fun _ _ => ⟨rfl, eq_62, (by decide : 1 + 0 ≤ _), (by decide : 3 + 0 ≤ _)⟩)
      dsimp only [Pt.U, Pt.locs, Pt.cells, Pt.slots] at X_63 l_63 y_63 z_63 st_63 hQ_63
      subst l_63 y_63 z_63
      refine own_st st_63 ?_
      obtain ⟨rfl, Nq_63, eq_63⟩ := hQ_63
      have N_63 := Fr.app N_62 Nq_63
      show own_Go p e below _ T_63 (mkF m 170 #[.val (.int x0), .val (.int x1), .val (.int x2), .val (.int ch_1), .val (.int ch_2), .val (.int ch_3), .val (.ref a_4), .val (.int (own_ln ch_1 (0 : Int32) (1 : Int32))), .val (.int (own_co ch_1 (0 : Int32) (1 : Int32))), .val (.int (own_ln ch_2 (own_b (ch_1 = 13)) (own_ln ch_1 (0 : Int32) (1 : Int32)))), .val (.int (own_co ch_2 (own_b (ch_1 = 13)) (own_co ch_1 (0 : Int32) (1 : Int32)))), .val (.int (own_ln ch_3 (own_b (ch_2 = 13)) (own_ln ch_2 (own_b (ch_1 = 13)) (own_ln ch_1 (0 : Int32) (1 : Int32))))), .val (.int (own_co ch_3 (own_b (ch_2 = 13)) (own_co ch_2 (own_b (ch_1 = 13)) (own_co ch_1 (0 : Int32) (1 : Int32))))), .val (.int (0 : Int32)), .val (.int ((0 : Int32) + (own_ea ch_1 ch_2))), .val (.int (((0 : Int32) + (own_ea ch_1 ch_2)) + (own_ea ch_2 ch_3))), .val (.int (2 : Int32)), .val (.int (3 : Int32)), .unset] [(.int (own_b (ch_3 = 10 ∨ ch_3 = 13)))])
      by_cases c_64 : ch_3 = 10 ∨ ch_3 = 13
      · skip
        refine own_ifN X_63 hx (hb hby at_170) (own_b0_eq_f c_64) (pc' := 173) rfl ?_
        refine own_iconst X_63 hx (1) (hb hby at_173) (pc' := 174) rfl rfl ?_
        refine own_goto X_63 hx (hb hby at_174) (pc' := 201) (by decide) (by decide) ?_
        refine own_istore X_63 hx (hb hby at_201) (pc' := 203) (Ls' := #[.val (.int x0), .val (.int x1), .val (.int x2), .val (.int ch_1), .val (.int ch_2), .val (.int ch_3), .val (.ref a_4), .val (.int (own_ln ch_1 (0 : Int32) (1 : Int32))), .val (.int (own_co ch_1 (0 : Int32) (1 : Int32))), .val (.int (own_ln ch_2 (own_b (ch_1 = 13)) (own_ln ch_1 (0 : Int32) (1 : Int32)))), .val (.int (own_co ch_2 (own_b (ch_1 = 13)) (own_co ch_1 (0 : Int32) (1 : Int32)))), .val (.int (own_ln ch_3 (own_b (ch_2 = 13)) (own_ln ch_2 (own_b (ch_1 = 13)) (own_ln ch_1 (0 : Int32) (1 : Int32))))), .val (.int (own_co ch_3 (own_b (ch_2 = 13)) (own_co ch_2 (own_b (ch_1 = 13)) (own_co ch_1 (0 : Int32) (1 : Int32))))), .val (.int (0 : Int32)), .val (.int ((0 : Int32) + (own_ea ch_1 ch_2))), .val (.int (((0 : Int32) + (own_ea ch_1 ch_2)) + (own_ea ch_2 ch_3))), .val (.int (2 : Int32)), .val (.int (3 : Int32)), .val (.int (1 : Int32))]) rfl rfl ?_
        refine own_iload X_63 hx (hb hby at_203) (pc' := 205) rfl rfl ?_
        refine own_iconst X_63 hx (1) (hb hby at_205) (pc' := 206) rfl rfl ?_
        refine own_iload X_63 hx (hb hby at_206) (pc' := 208) rfl rfl ?_
        refine own_iadd X_63 hx (hb hby at_208) (pc' := 209) rfl ?_
        rw [show ((1 : Int32) + (0 : Int32)) = (1 : Int32) from by decide]
        refine own_icmpN X_63 hx (hb hby at_209) (XT.ii_ne_f (by have q := own_l1 ch_1; simp only [c_40, c_58, c_64, if_true, if_false] at q; first | exact q | simpa using q)) (pc' := 212) rfl ?_
        refine own_iload X_63 hx (hb hby at_212) (pc' := 214) rfl rfl ?_
        refine own_iload X_63 hx (hb hby at_214) (pc' := 216) rfl rfl ?_
        refine own_icmpN X_63 hx (hb hby at_216) (XT.ii_ne_f (by have q := own_c1 ch_1; simp only [c_40, c_58, c_64, if_true, if_false] at q; first | exact q | simpa using q)) (pc' := 219) rfl ?_
        refine own_iload X_63 hx (hb hby at_219) (pc' := 221) rfl rfl ?_
        refine own_iconst X_63 hx (1) (hb hby at_221) (pc' := 222) rfl rfl ?_
        refine own_iload X_63 hx (hb hby at_222) (pc' := 224) rfl rfl ?_
        refine own_iadd X_63 hx (hb hby at_224) (pc' := 225) rfl ?_
        refine own_icmpN X_63 hx (hb hby at_225) (XT.ii_ne_f (by have q := own_l2 ch_1 ch_2; simp only [c_40, c_58, c_64, if_true, if_false] at q; first | exact q | simpa using q)) (pc' := 228) rfl ?_
        refine own_iload X_63 hx (hb hby at_228) (pc' := 230) rfl rfl ?_
        refine own_iload X_63 hx (hb hby at_230) (pc' := 232) rfl rfl ?_
        refine own_icmpN X_63 hx (hb hby at_232) (XT.ii_ne_f (by have q := own_c2 ch_1 ch_2; simp only [c_40, c_58, c_64, if_true, if_false] at q; first | exact q | simpa using q)) (pc' := 235) rfl ?_
        refine own_iload X_63 hx (hb hby at_235) (pc' := 237) rfl rfl ?_
        refine own_iconst X_63 hx (1) (hb hby at_237) (pc' := 238) rfl rfl ?_
        refine own_iload X_63 hx (hb hby at_238) (pc' := 240) rfl rfl ?_
        refine own_iadd X_63 hx (hb hby at_240) (pc' := 241) rfl ?_
        refine own_icmpN X_63 hx (hb hby at_241) (XT.ii_ne_f (by have q := own_l3 ch_1 ch_2 ch_3; simp only [c_40, c_58, c_64, if_true, if_false] at q; first | exact q | simpa using q)) (pc' := 244) rfl ?_
        refine own_iload X_63 hx (hb hby at_244) (pc' := 246) rfl rfl ?_
        refine own_iload X_63 hx (hb hby at_246) (pc' := 248) rfl rfl ?_
        refine own_icmpN X_63 hx (hb hby at_248) (XT.ii_ne_f (by have q := own_c3 ch_1 ch_2 ch_3; simp only [c_40, c_58, c_64, if_true, if_false] at q; first | exact q | simpa using q)) (pc' := 251) rfl ?_
        refine own_iconst X_63 hx (1) (hb hby at_251) (pc' := 252) rfl rfl ?_
        refine own_goto X_63 hx (hb hby at_252) (pc' := 256) (by decide) (by decide) ?_
        refine own_retZ X_63 hx hlk Bd.returns (by simp) (hb hby at_256) (by decide) (by decide) ?_
        exact ⟨rfl, N_63⟩
      · skip
        refine own_ifY X_63 hx (hb hby at_170) (own_b0_eq_t c_64) (pc' := 177) (by decide) (by decide) ?_
        refine own_iload X_63 hx (hb hby at_177) (pc' := 179) rfl rfl ?_
        obtain ⟨_, _, ⟨T_65, L_65, k_65, n_65⟩, -, X_65, ⟨Lc_65, hQ_65, l_65, y_65, z_65⟩, st_65⟩ := Jvm.LawKit.callS X_63 hx (y := (⟨"com/example/muster/muster/xml/TextPositionAdvancePinLaw", "ends", "(C)Z"⟩ : MethodName)) hown (mvT hZ (hw _ (List.mem_of_getElem? (i := 34) rfl))) (mvT hZ (hw _ (List.mem_of_getElem? (i := 35) rfl))) (mvT hZ (hw _ (List.mem_of_getElem? (i := 2) rfl))) (mvT hZ (hw _ (List.mem_of_getElem? (i := 36) rfl))) (by decide) (backOf (W := 0) (rm6 l Z a0 hw [] ch_2 T_31.heap n0 Z_35) hZ (hw _ (List.mem_of_getElem? (i := 36) rfl)) (hw _ (List.mem_of_getElem? (i := 2) rfl)) (by decide) (by decide)) (g := (mkF m 179 #[.val (.int x0), .val (.int x1), .val (.int x2), .val (.int ch_1), .val (.int ch_2), .val (.int ch_3), .val (.ref a_4), .val (.int (own_ln ch_1 (0 : Int32) (1 : Int32))), .val (.int (own_co ch_1 (0 : Int32) (1 : Int32))), .val (.int (own_ln ch_2 (own_b (ch_1 = 13)) (own_ln ch_1 (0 : Int32) (1 : Int32)))), .val (.int (own_co ch_2 (own_b (ch_1 = 13)) (own_co ch_1 (0 : Int32) (1 : Int32)))), .val (.int (own_ln ch_3 (own_b (ch_2 = 13)) (own_ln ch_2 (own_b (ch_1 = 13)) (own_ln ch_1 (0 : Int32) (1 : Int32))))), .val (.int (own_co ch_3 (own_b (ch_2 = 13)) (own_co ch_2 (own_b (ch_1 = 13)) (own_co ch_1 (0 : Int32) (1 : Int32))))), .val (.int (0 : Int32)), .val (.int ((0 : Int32) + (own_ea ch_1 ch_2))), .val (.int (((0 : Int32) + (own_ea ch_1 ch_2)) + (own_ea ch_2 ch_3))), .val (.int (2 : Int32)), .val (.int (3 : Int32)), .unset] [(.int ch_2)])) rfl (by rw [hml]; rfl) (argsL := [(.int ch_2)]) (rest := []) (lenOf pd0_4 rfl) rfl (by show 2 * 0 + _ ≤ _; exact Nat.le_of_eq rfl) (hb hby at_179) (fun _ _ => ⟨rfl, eq_63, (by decide : 1 + 0 ≤ _), (by decide : 3 + 0 ≤ _)⟩)
        dsimp only [Pt.U, Pt.locs, Pt.cells, Pt.slots] at X_65 l_65 y_65 z_65 st_65 hQ_65
        subst l_65 y_65 z_65
        refine own_st st_65 ?_
        obtain ⟨rfl, Nq_65, eq_65⟩ := hQ_65
        have N_65 := Fr.app N_63 Nq_65
        show own_Go p e below _ T_65 (mkF m 182 #[.val (.int x0), .val (.int x1), .val (.int x2), .val (.int ch_1), .val (.int ch_2), .val (.int ch_3), .val (.ref a_4), .val (.int (own_ln ch_1 (0 : Int32) (1 : Int32))), .val (.int (own_co ch_1 (0 : Int32) (1 : Int32))), .val (.int (own_ln ch_2 (own_b (ch_1 = 13)) (own_ln ch_1 (0 : Int32) (1 : Int32)))), .val (.int (own_co ch_2 (own_b (ch_1 = 13)) (own_co ch_1 (0 : Int32) (1 : Int32)))), .val (.int (own_ln ch_3 (own_b (ch_2 = 13)) (own_ln ch_2 (own_b (ch_1 = 13)) (own_ln ch_1 (0 : Int32) (1 : Int32))))), .val (.int (own_co ch_3 (own_b (ch_2 = 13)) (own_co ch_2 (own_b (ch_1 = 13)) (own_co ch_1 (0 : Int32) (1 : Int32))))), .val (.int (0 : Int32)), .val (.int ((0 : Int32) + (own_ea ch_1 ch_2))), .val (.int (((0 : Int32) + (own_ea ch_1 ch_2)) + (own_ea ch_2 ch_3))), .val (.int (2 : Int32)), .val (.int (3 : Int32)), .unset] [(.int (own_b (ch_2 = 10 ∨ ch_2 = 13)))])
        refine own_ifY X_65 hx (hb hby at_182) (own_b0_eq_t c_58) (pc' := 189) (by decide) (by decide) ?_
        refine own_iloadN X_65 hx (hb hby at_189) (pc' := 190) rfl rfl ?_
        obtain ⟨_, _, ⟨T_66, L_66, k_66, n_66⟩, -, X_66, ⟨Lc_66, hQ_66, l_66, y_66, z_66⟩, st_66⟩ := Jvm.LawKit.callS X_65 hx (y := (⟨"com/example/muster/muster/xml/TextPositionAdvancePinLaw", "ends", "(C)Z"⟩ : MethodName)) hown (mvT hZ (hw _ (List.mem_of_getElem? (i := 34) rfl))) (mvT hZ (hw _ (List.mem_of_getElem? (i := 35) rfl))) (mvT hZ (hw _ (List.mem_of_getElem? (i := 2) rfl))) (mvT hZ (hw _ (List.mem_of_getElem? (i := 36) rfl))) (by decide) (backOf (W := 0) (rm6 l Z a0 hw [] ch_1 T_31.heap n0 Z_35) hZ (hw _ (List.mem_of_getElem? (i := 36) rfl)) (hw _ (List.mem_of_getElem? (i := 2) rfl)) (by decide) (by decide)) (g := (mkF m 190 #[.val (.int x0), .val (.int x1), .val (.int x2), .val (.int ch_1), .val (.int ch_2), .val (.int ch_3), .val (.ref a_4), .val (.int (own_ln ch_1 (0 : Int32) (1 : Int32))), .val (.int (own_co ch_1 (0 : Int32) (1 : Int32))), .val (.int (own_ln ch_2 (own_b (ch_1 = 13)) (own_ln ch_1 (0 : Int32) (1 : Int32)))), .val (.int (own_co ch_2 (own_b (ch_1 = 13)) (own_co ch_1 (0 : Int32) (1 : Int32)))), .val (.int (own_ln ch_3 (own_b (ch_2 = 13)) (own_ln ch_2 (own_b (ch_1 = 13)) (own_ln ch_1 (0 : Int32) (1 : Int32))))), .val (.int (own_co ch_3 (own_b (ch_2 = 13)) (own_co ch_2 (own_b (ch_1 = 13)) (own_co ch_1 (0 : Int32) (1 : Int32))))), .val (.int (0 : Int32)), .val (.int ((0 : Int32) + (own_ea ch_1 ch_2))), .val (.int (((0 : Int32) + (own_ea ch_1 ch_2)) + (own_ea ch_2 ch_3))), .val (.int (2 : Int32)), .val (.int (3 : Int32)), .unset] [(.int ch_1)])) rfl (by rw [hml]; rfl) (argsL := [(.int ch_1)]) (rest := []) (lenOf pd0_4 rfl) rfl (by show 2 * 0 + _ ≤ _; exact Nat.le_of_eq rfl) (hb hby at_190) (fun _ _ => ⟨rfl, eq_65, (by decide : 1 + 0 ≤ _), (by decide : 3 + 0 ≤ _)⟩)
        dsimp only [Pt.U, Pt.locs, Pt.cells, Pt.slots] at X_66 l_66 y_66 z_66 st_66 hQ_66
        subst l_66 y_66 z_66
        refine own_st st_66 ?_
        obtain ⟨rfl, Nq_66, eq_66⟩ := hQ_66
        have N_66 := Fr.app N_65 Nq_66
        show own_Go p e below _ T_66 (mkF m 193 #[.val (.int x0), .val (.int x1), .val (.int x2), .val (.int ch_1), .val (.int ch_2), .val (.int ch_3), .val (.ref a_4), .val (.int (own_ln ch_1 (0 : Int32) (1 : Int32))), .val (.int (own_co ch_1 (0 : Int32) (1 : Int32))), .val (.int (own_ln ch_2 (own_b (ch_1 = 13)) (own_ln ch_1 (0 : Int32) (1 : Int32)))), .val (.int (own_co ch_2 (own_b (ch_1 = 13)) (own_co ch_1 (0 : Int32) (1 : Int32)))), .val (.int (own_ln ch_3 (own_b (ch_2 = 13)) (own_ln ch_2 (own_b (ch_1 = 13)) (own_ln ch_1 (0 : Int32) (1 : Int32))))), .val (.int (own_co ch_3 (own_b (ch_2 = 13)) (own_co ch_2 (own_b (ch_1 = 13)) (own_co ch_1 (0 : Int32) (1 : Int32))))), .val (.int (0 : Int32)), .val (.int ((0 : Int32) + (own_ea ch_1 ch_2))), .val (.int (((0 : Int32) + (own_ea ch_1 ch_2)) + (own_ea ch_2 ch_3))), .val (.int (2 : Int32)), .val (.int (3 : Int32)), .unset] [(.int (own_b (ch_1 = 10 ∨ ch_1 = 13)))])
        refine own_ifY X_66 hx (hb hby at_193) (own_b0_eq_t c_40) (pc' := 200) (by decide) (by decide) ?_
        refine own_iconst X_66 hx (4) (hb hby at_200) (pc' := 201) rfl rfl ?_
        refine own_istore X_66 hx (hb hby at_201) (pc' := 203) (Ls' := #[.val (.int x0), .val (.int x1), .val (.int x2), .val (.int ch_1), .val (.int ch_2), .val (.int ch_3), .val (.ref a_4), .val (.int (own_ln ch_1 (0 : Int32) (1 : Int32))), .val (.int (own_co ch_1 (0 : Int32) (1 : Int32))), .val (.int (own_ln ch_2 (own_b (ch_1 = 13)) (own_ln ch_1 (0 : Int32) (1 : Int32)))), .val (.int (own_co ch_2 (own_b (ch_1 = 13)) (own_co ch_1 (0 : Int32) (1 : Int32)))), .val (.int (own_ln ch_3 (own_b (ch_2 = 13)) (own_ln ch_2 (own_b (ch_1 = 13)) (own_ln ch_1 (0 : Int32) (1 : Int32))))), .val (.int (own_co ch_3 (own_b (ch_2 = 13)) (own_co ch_2 (own_b (ch_1 = 13)) (own_co ch_1 (0 : Int32) (1 : Int32))))), .val (.int (0 : Int32)), .val (.int ((0 : Int32) + (own_ea ch_1 ch_2))), .val (.int (((0 : Int32) + (own_ea ch_1 ch_2)) + (own_ea ch_2 ch_3))), .val (.int (2 : Int32)), .val (.int (3 : Int32)), .val (.int (4 : Int32))]) rfl rfl ?_
        refine own_iload X_66 hx (hb hby at_203) (pc' := 205) rfl rfl ?_
        refine own_iconst X_66 hx (1) (hb hby at_205) (pc' := 206) rfl rfl ?_
        refine own_iload X_66 hx (hb hby at_206) (pc' := 208) rfl rfl ?_
        refine own_iadd X_66 hx (hb hby at_208) (pc' := 209) rfl ?_
        rw [show ((1 : Int32) + (0 : Int32)) = (1 : Int32) from by decide]
        refine own_icmpN X_66 hx (hb hby at_209) (XT.ii_ne_f (by have q := own_l1 ch_1; simp only [c_40, c_58, c_64, if_true, if_false] at q; first | exact q | simpa using q)) (pc' := 212) rfl ?_
        refine own_iload X_66 hx (hb hby at_212) (pc' := 214) rfl rfl ?_
        refine own_iload X_66 hx (hb hby at_214) (pc' := 216) rfl rfl ?_
        refine own_icmpN X_66 hx (hb hby at_216) (XT.ii_ne_f (by have q := own_c1 ch_1; simp only [c_40, c_58, c_64, if_true, if_false] at q; first | exact q | simpa using q)) (pc' := 219) rfl ?_
        refine own_iload X_66 hx (hb hby at_219) (pc' := 221) rfl rfl ?_
        refine own_iconst X_66 hx (1) (hb hby at_221) (pc' := 222) rfl rfl ?_
        refine own_iload X_66 hx (hb hby at_222) (pc' := 224) rfl rfl ?_
        refine own_iadd X_66 hx (hb hby at_224) (pc' := 225) rfl ?_
        refine own_icmpN X_66 hx (hb hby at_225) (XT.ii_ne_f (by have q := own_l2 ch_1 ch_2; simp only [c_40, c_58, c_64, if_true, if_false] at q; first | exact q | simpa using q)) (pc' := 228) rfl ?_
        refine own_iload X_66 hx (hb hby at_228) (pc' := 230) rfl rfl ?_
        refine own_iload X_66 hx (hb hby at_230) (pc' := 232) rfl rfl ?_
        refine own_icmpN X_66 hx (hb hby at_232) (XT.ii_ne_f (by have q := own_c2 ch_1 ch_2; simp only [c_40, c_58, c_64, if_true, if_false] at q; first | exact q | simpa using q)) (pc' := 235) rfl ?_
        refine own_iload X_66 hx (hb hby at_235) (pc' := 237) rfl rfl ?_
        refine own_iconst X_66 hx (1) (hb hby at_237) (pc' := 238) rfl rfl ?_
        refine own_iload X_66 hx (hb hby at_238) (pc' := 240) rfl rfl ?_
        refine own_iadd X_66 hx (hb hby at_240) (pc' := 241) rfl ?_
        refine own_icmpN X_66 hx (hb hby at_241) (XT.ii_ne_f (by have q := own_l3 ch_1 ch_2 ch_3; simp only [c_40, c_58, c_64, if_true, if_false] at q; first | exact q | simpa using q)) (pc' := 244) rfl ?_
        refine own_iload X_66 hx (hb hby at_244) (pc' := 246) rfl rfl ?_
        refine own_iload X_66 hx (hb hby at_246) (pc' := 248) rfl rfl ?_
        refine own_icmpN X_66 hx (hb hby at_248) (XT.ii_ne_f (by have q := own_c3 ch_1 ch_2 ch_3; simp only [c_40, c_58, c_64, if_true, if_false] at q; first | exact q | simpa using q)) (pc' := 251) rfl ?_
        refine own_iconst X_66 hx (1) (hb hby at_251) (pc' := 252) rfl rfl ?_
        refine own_goto X_66 hx (hb hby at_252) (pc' := 256) (by decide) (by decide) ?_
        refine own_retZ X_66 hx hlk Bd.returns (by simp) (hb hby at_256) (by decide) (by decide) ?_
        exact ⟨rfl, N_66⟩
set_option maxRecDepth 65536 in
set_option maxHeartbeats 40000000 in
theorem comes_1 {Post : Tables → Env → Array Value → State → Outcome → State → Prop} (hpost : ∀ tb e args s v u, (limb_1_1.after args s (.returned v) u = true ∧ limb_1_2.after args s (.returned v) u = true ∧ True) → FrameEnd s (.returned v) u (Jvm.fieldLocs frame_1_writes args s ++ Jvm.arrayLocs frame_1_arrays args s ++ Jvm.staticLocs frame_1_statics s) 16 128 → Post tb e args s (.returned v) u) :
    ArmFor flags0 classFile x code maxLocals ret World_1 tables_1 room_1 Calls_1 rest_1 Pre_1 Post := by
  intro l hfl _ _ p e ha hc hk s m args below hf hA hF happ hP
  obtain ⟨hcalls, hrest, hpre⟩ := hP
  obtain ⟨-, -, -, hnamed, -, -, -, hat⟩ := (Spec.applies_iff hf).mp happ
  obtain ⟨hg, hn⟩ := and_e (Cond.before_iff.mp (show (Jvm.Cond.and given_1 narrow_1).before args s = true from hpre))
  obtain ⟨gc, gr0⟩ := and_e hg
  obtain ⟨ga0, gr1⟩ := and_e gr0
  obtain ⟨ga1, gr2⟩ := and_e gr1
  have ga2 := gr2
  obtain ⟨w0, w1, w2, rfl⟩ : ∃ w0 w1 w2 : Value, args = #[w0, w1, w2] := by
    have hs : args.size = 3 := by simpa [Cond.value, given_1] using gc
    obtain ⟨L⟩ := args
    match L, hs with
    | [w0, w1, w2], _ => exact ⟨w0, w1, w2, rfl⟩
  have hw := fun d (hd : d ∈ tables_1) => atoms_spec (ws := Jvm.Cond.code x code maxLocals ret :: tables_1) hat d (List.mem_cons_of_mem _ hd)
  have hfit : Fit s := fun {y c} hc i hi => by
    obtain ⟨ha, rfl⟩ := Array.getElem?_eq_some_iff.mp hc
    have q := List.all_eq_true.mp ((Array.all_eq_true_iff_forall_mem.mp hF) _ (Array.getElem_mem ha)) i (List.mem_range.mpr hi)
    simpa [Array.getElem?_eq_getElem hi] using q
  obtain ⟨i0, ei0⟩ := is_v ga0
  obtain rfl : w0 = (.int i0) := Option.some.inj ei0
  obtain ⟨i1, ei1⟩ := is_v ga1
  obtain rfl : w1 = (.int i1) := Option.some.inj ei1
  obtain ⟨i2, ei2⟩ := is_v ga2
  obtain rfl : w2 = (.int i2) := Option.some.inj ei2
  obtain ⟨n, o, h1, h2, h3, _, L, rfl, ⟨rfl, N⟩, hq⟩ := rm0 l s _ hw tables_1 i0 i1 i2 s.heap s.heap.size (Nat.le_refl _)  p e ha hc hk s m _ below hf ((Spec.applies_iff_loose hf).mp happ).1 ⟨rfl, State.Warmed39.refl s, rfl⟩ trivial
  refine ⟨n, _, h1, h2, h3, hpost _ _ _ _ _ _ ⟨Cond.after_iff.mpr rfl, Cond.after_iff.mpr (eq_i res_at (Term.int_eval (1)) rfl), trivial⟩ ⟨hq.1, hq.2.1, (hq.2.2.sift fun y hy => Or.inr (N y hy)).mono (by decide) (by decide)⟩⟩
theorem main_1_1 : Claimed_1_1 := comes_1 fun _ _ _ _ _ _ h hF => ⟨h.1, hF⟩
theorem main_1_2 : Claimed_1_2 := comes_1 fun _ _ _ _ _ _ h hF => ⟨h.2.1, hF⟩
end Jvm.Pilot.@@N@@
namespace Jvm.Pilot.@@N@@
open Jvm Jvm.ClassFile Sem Op Lib Jvm.Free Jvm.Stand Jvm.Pilot.@@N@@.Jvm.D
/-! MADE BY PROGRAM (witnessworld.py) out of the Statement's table words and the real class files: 9 classes; the members and pool entries that the words name. The judged class is class 1, her method 4. -/
namespace start1
open Jvm.ClassFile
def u (s : String) : CpInfo := .utf8 (stringToUtf16 s)
/-- a pool by its gaps: so many unusable entries, then the entry; so many at the end -/
def gap : Nat → List CpInfo → List CpInfo
  | 0, r => r
  | n + 1, r => .unusable :: gap n r
def poolList (es : List (Nat × CpInfo)) (last : Nat) : List CpInfo := es.foldr (fun e r => gap e.1 (e.2 :: r)) (gap last [])
def pool (es : List (Nat × CpInfo)) (last : Nat) : Array CpInfo := ⟨poolList es last⟩
def fileOf (pool : Array CpInfo) (this : Nat) (attrs : Array Attribute := #[]) (ms : Array MethodInfo := #[]) (fl : Nat := 33) (sup : Nat := 0) (ifs : Array Nat := #[]) (fds : Array FieldInfo := #[]) : ClassFile where
  minorVersion := 0
  majorVersion := 65
  constantPool := pool
  accessFlags := fl
  thisClass := this
  superClass := sup
  interfaces := ifs
  fields := fds
  methods := ms
  attributes := attrs
def plain (name : String) (sup : Option ClassId) : Class where
  name := name
  kind := .ordinary
  loader := none
  accessFlags := 33
  super := sup
  interfaces := #[]
  cf := none
  fields := #[]
  methods := #[]
  instanceTypes := #[]
  staticTypes := #[]
  resolved := #[]
  callSites := []
  init := .initialized
  statics := none
  mirror := none

def pool0 : Array CpInfo := pool [(5, u "<init>"), (0, u "()V"), (1, .class_ 10), (1, u "java/lang/Object")] 113

def k0c0 : Code := { maxStack := 0, maxLocals := 1, code := object_method_1_code, exceptionTable := #[], attributes := #[] }
def k0m0 : Method := { name := "<init>", desc := "()V", sig := { parameters := [], returnType := none }, accessFlags := 1, code := some k0c0 }
/-- java/lang/Object -/
def k0 : Class := { plain "java/lang/Object" none with
  accessFlags := 33
  interfaces := #[]
  cf := some (fileOf pool0 8 #[] #[{ accessFlags := 1, nameIndex := 5, descriptorIndex := 6, attributes := #[] }] 33 0 #[] #[])
  fields := #[]
  methods := #[k0m0]
  instanceTypes := #[]
  staticTypes := #[]
  resolved := Array.replicate 124 none
  statics := none }

def pool1 : Array CpInfo := pool [(2, .class_ 4), (0, .nameAndType 5 6), (0, u "java/lang/Object"), (0, u "<init>"), (0, u "()V"), (0, .methodref 8 9), (0, .class_ 10), (0, .nameAndType 11 12), (0, u "com/example/muster/muster/xml/TextPositionAdvancePinLaw"), (0, u "ends"), (0, u "(C)Z"), (0, .methodref 8 14), (0, .nameAndType 15 16), (0, u "pick"), (0, u "(I)C"), (0, .class_ 18), (0, u "com/example/muster/muster/xml/TextPosition"), (0, .methodref 17 3), (0, .methodref 17 21), (0, .nameAndType 22 23), (0, u "advance"), (0, u "(C)V"), (0, .methodref 17 25), (0, .nameAndType 26 27), (0, u "getLine"), (0, u "()I"), (0, .methodref 17 29), (0, .nameAndType 30 27), (0, u "getColumn"), (0, .methodref 8 32), (0, .nameAndType 33 34), (0, u "endsAfter"), (0, u "(CC)I"), (3, u "law"), (0, u "(III)Z")] 2

def k1m0 : Method := { name := "<init>", desc := "()V", sig := { parameters := [], returnType := none }, accessFlags := 1, code := none }
def k1c1 : Code := { maxStack := 2, maxLocals := 2, code := method_2_code, exceptionTable := #[], attributes := #[] }
def k1m1 : Method := { name := "pick", desc := "(I)C", sig := { parameters := [.int], returnType := some .char }, accessFlags := 10, code := some k1c1 }
def k1c2 : Code := { maxStack := 2, maxLocals := 1, code := method_3_code, exceptionTable := #[], attributes := #[] }
def k1m2 : Method := { name := "ends", desc := "(C)Z", sig := { parameters := [.char], returnType := some .boolean }, accessFlags := 10, code := some k1c2 }
def k1c3 : Code := { maxStack := 2, maxLocals := 2, code := method_4_code, exceptionTable := #[], attributes := #[] }
def k1m3 : Method := { name := "endsAfter", desc := "(CC)I", sig := { parameters := [.char, .char], returnType := some .int }, accessFlags := 10, code := some k1c3 }
def k1c4 : Code := { maxStack := 3, maxLocals := 19, code := code, exceptionTable := #[], attributes := #[] }
def k1m4 : Method := { name := "law", desc := "(III)Z", sig := { parameters := [.int, .int, .int], returnType := some .boolean }, accessFlags := 9, code := some k1c4 }
/-- com/example/muster/muster/xml/TextPositionAdvancePinLaw -/
def k1 : Class := { plain "com/example/muster/muster/xml/TextPositionAdvancePinLaw" (some 0) with
  accessFlags := 49
  interfaces := #[]
  cf := some (fileOf pool1 8 #[] #[{ accessFlags := 1, nameIndex := 5, descriptorIndex := 6, attributes := #[] }, { accessFlags := 10, nameIndex := 15, descriptorIndex := 16, attributes := #[] }, { accessFlags := 10, nameIndex := 11, descriptorIndex := 12, attributes := #[] }, { accessFlags := 10, nameIndex := 33, descriptorIndex := 34, attributes := #[] }, { accessFlags := 9, nameIndex := 38, descriptorIndex := 39, attributes := #[] }] 49 2 #[] #[])
  fields := #[]
  methods := #[k1m0, k1m1, k1m2, k1m3, k1m4]
  instanceTypes := #[]
  staticTypes := #[]
  resolved := Array.replicate 42 none
  statics := none }

def pool2 : Array CpInfo := pool [(1, .methodref 2 3), (0, .class_ 4), (0, .nameAndType 5 6), (0, u "java/lang/Object"), (0, u "<init>"), (0, u "()V"), (0, .fieldref 8 9), (0, .class_ 10), (0, .nameAndType 11 12), (0, u "com/example/muster/muster/xml/TextPosition"), (0, u "line"), (0, u "I"), (0, .fieldref 8 14), (0, .nameAndType 15 12), (0, u "column"), (0, .fieldref 8 17), (0, .nameAndType 18 19), (0, u "afterCarriageReturn"), (0, u "Z"), (2, u "advance"), (0, u "(C)V"), (1, u "getLine"), (0, u "()I"), (0, u "getColumn")] 2

def k2c0 : Code := { maxStack := 2, maxLocals := 1, code := prog_33_method_1_code, exceptionTable := #[], attributes := #[] }
def k2m0 : Method := { name := "<init>", desc := "()V", sig := { parameters := [], returnType := none }, accessFlags := 0, code := some k2c0 }
def k2c1 : Code := { maxStack := 3, maxLocals := 2, code := prog_33_method_2_code, exceptionTable := #[], attributes := #[] }
def k2m1 : Method := { name := "advance", desc := "(C)V", sig := { parameters := [.char], returnType := none }, accessFlags := 0, code := some k2c1 }
def k2c2 : Code := { maxStack := 1, maxLocals := 1, code := prog_33_method_3_code, exceptionTable := #[], attributes := #[] }
def k2m2 : Method := { name := "getLine", desc := "()I", sig := { parameters := [], returnType := some .int }, accessFlags := 0, code := some k2c2 }
def k2c3 : Code := { maxStack := 1, maxLocals := 1, code := prog_33_method_4_code, exceptionTable := #[], attributes := #[] }
def k2m3 : Method := { name := "getColumn", desc := "()I", sig := { parameters := [], returnType := some .int }, accessFlags := 0, code := some k2c3 }
/-- com/example/muster/muster/xml/TextPosition -/
def k2 : Class := { plain "com/example/muster/muster/xml/TextPosition" (some 0) with
  accessFlags := 32
  interfaces := #[]
  cf := some (fileOf pool2 8 #[] #[{ accessFlags := 0, nameIndex := 5, descriptorIndex := 6, attributes := #[] }, { accessFlags := 0, nameIndex := 22, descriptorIndex := 23, attributes := #[] }, { accessFlags := 0, nameIndex := 25, descriptorIndex := 26, attributes := #[] }, { accessFlags := 0, nameIndex := 27, descriptorIndex := 26, attributes := #[] }] 32 2 #[] #[{ accessFlags := 2, nameIndex := 11, descriptorIndex := 12, attributes := #[] }, { accessFlags := 2, nameIndex := 15, descriptorIndex := 12, attributes := #[] }, { accessFlags := 2, nameIndex := 18, descriptorIndex := 19, attributes := #[] }])
  fields := #[{ name := "line", type := .int, accessFlags := 2, slot := 0, constantValue := 0 }, { name := "column", type := .int, accessFlags := 2, slot := 1, constantValue := 0 }, { name := "afterCarriageReturn", type := .boolean, accessFlags := 2, slot := 2, constantValue := 0 }]
  methods := #[k2m0, k2m1, k2m2, k2m3]
  instanceTypes := #[.int, .int, .boolean]
  staticTypes := #[]
  resolved := Array.replicate 30 none
  statics := none }

def pool3 : Array CpInfo := pool [(1, u "java/lang/Cloneable"), (0, .class_ 1), (0, u "java/lang/Object"), (0, .class_ 3)] 3

/-- java/lang/Cloneable -/
def k3 : Class := { plain "java/lang/Cloneable" (some 0) with
  accessFlags := 1537
  interfaces := #[]
  cf := some (fileOf pool3 2 #[] #[] 1537 4 #[] #[])
  fields := #[]
  methods := #[]
  instanceTypes := #[]
  staticTypes := #[]
  resolved := Array.replicate 8 none
  statics := none }

def pool4 : Array CpInfo := pool [(1, u "java/io/Serializable"), (0, .class_ 1), (0, u "java/lang/Object"), (0, .class_ 3)] 3

/-- java/io/Serializable -/
def k4 : Class := { plain "java/io/Serializable" (some 0) with
  accessFlags := 1537
  interfaces := #[]
  cf := some (fileOf pool4 2 #[] #[] 1537 4 #[] #[])
  fields := #[]
  methods := #[]
  instanceTypes := #[]
  staticTypes := #[]
  resolved := Array.replicate 8 none
  statics := none }

/-- the primitive byte -/
def k5 : Class := { plain "byte" none with kind := .primitive 'B', accessFlags := 0x411 }
/-- [B -/
def k6 : Class := { plain "[B" (some 0) with kind := .array 5 .byte, interfaces := #[3, 4], accessFlags := 1041 }

/-- the primitive int -/
def k7 : Class := { plain "int" none with kind := .primitive 'I', accessFlags := 0x411 }
/-- [I -/
def k8 : Class := { plain "[I" (some 0) with kind := .array 7 .int, interfaces := #[3, 4], accessFlags := 1041 }

def heap : Heap := #[]
def classes : Array Class := #[k0, k1, k2, k3, k4, k5, k6, k7, k8]
def interned : List (Array UInt16 × Addr) := []
def slotsUsed : Nat := 0
def theMethod : MethodId := ⟨1, 4⟩
def args0 : Array Value := #[.int 5, .int 300, .int 7]
def aboutOver (below : List Frame) : State where
  vm := { classes := classes, interned := interned.toArray }
  heap := heap
  slotsUsed := slotsUsed
  threads := #[{ frames := .invoking theMethod args0 :: below }]
def below0 : List Frame := [.native { method := ⟨0, 0⟩, args := #[] }]
def about1 : State := aboutOver below0
def p0 : Program := .bare "" "" ""
def e0 : Env := launch0.env 0 0 0
theorem w_frames : about1.frames = Frame.invoking theMethod args0 :: below0 := rfl
set_option maxRecDepth 65536 in
theorem w_args : argsFit about1.vm theMethod args0 = true := by decide +kernel
set_option maxRecDepth 65536 in
theorem w_heap : heapFits about1 = true := by decide +kernel
set_option maxRecDepth 65536 in
theorem w_runnable : about1.curStatus? = some .runnable := by decide +kernel
set_option maxRecDepth 65536 in
theorem w_alone : about1.alone = true := by decide +kernel
set_option maxRecDepth 65536 in
theorem w_named : about1.methodNamed? x = some theMethod := by decide +kernel
set_option maxRecDepth 65536 in
theorem w_hears : about1.hears theMethod below0 = true := by decide +kernel
set_option maxRecDepth 65536 in
theorem w_ripe : about1.ripe theMethod args0 below0 = true := by decide +kernel
theorem w_running : about1.status = .running := rfl
set_option maxRecDepth 65536 in
theorem w_room : about1.hasRoom e0.platform room_1 = true :=
  launch0.hasRoom_least _ room_1 (by decide +kernel) (by decide +kernel) (by decide +kernel) (by decide +kernel) (by decide +kernel) (by decide +kernel)
theorem allAtoms_all (ts : List Jvm.Cond) (a : Array Jvm.Value) (st : Jvm.State) : (allAtoms ts).before a st = ts.all (fun c => c.before a st) := by
  induction ts with
  | nil => rfl
  | cons c t ih =>
    show (Jvm.Cond.and c (allAtoms t)).before a st = _
    rw [Jvm.Cond.before_and, ih, List.all_cons]
def words1 : List Jvm.Cond := Jvm.Cond.code x code maxLocals ret :: tables_1
/-- a 'code' word, met by the world's own term for the bytes: nothing is compared byte by byte -/
theorem code_word {y : MethodName} {bytes : ByteArray} {mx : Nat} {rt : Option FieldType} {a : Array Value} {s : State} {m : MethodId} {meth : Method} {c : Code} (h1 : s.methodNamed? y = some m) (h2 : s.vm.method? m = some meth) (h3 : meth.code = some c) (h4 : c.code = bytes)
    (h5 : (c.maxLocals == mx && c.exceptionTable.isEmpty && decide (c.maxStack ≤ mostOperands) && decide (meth.sig.returnType = rt) && !meth.locks && decide (parseMethodDescriptor y.desc = some meth.sig)) = true) : (Jvm.Cond.code y bytes mx rt).before a s = true := by
  simp only [Bool.and_eq_true, beq_iff_eq, Bool.not_eq_true', decide_eq_true_eq] at h5
  obtain ⟨⟨⟨⟨⟨g1, g2⟩, g3⟩, g4⟩, g5⟩, g6⟩ := h5
  simp [Cond.before, Cond.holds, Cond.value, h1, h2, h3, h4, g1, g2, g3, g4, g5, g6]
def isCode : Jvm.Cond → Bool
  | .code _ _ _ _ => true
  | _ => false
theorem all_split {L : List Jvm.Cond} {P : Jvm.Cond → Bool} (h1 : L.all (fun c => isCode c || P c) = true) (h2 : ∀ c ∈ L.filter isCode, P c = true) : L.all P = true := by
  refine List.all_eq_true.mpr fun c hc => ?_
  have h := List.all_eq_true.mp h1 c hc
  rcases Bool.eq_false_or_eq_true (isCode c) with hi | hi
  · exact h2 c (List.mem_filter.mpr ⟨hc, hi⟩)
  · simpa [hi] using h
set_option maxRecDepth 65536 in
theorem w_c0 : (Jvm.Cond.code x code maxLocals ret).before args0 about1 = true := code_word (m := ⟨1, 4⟩) (meth := k1m4) (c := k1c4) (by decide +kernel) rfl rfl rfl (by decide +kernel)
set_option maxRecDepth 65536 in
theorem w_c1 : (Jvm.Cond.code ({ cls := "com/example/muster/muster/xml/TextPositionAdvancePinLaw", name := "pick", desc := "(I)C" } : Jvm.MethodName) method_2_code (2 : Nat) (Option.some Jvm.ClassFile.FieldType.char)).before args0 about1 = true := code_word (m := ⟨1, 1⟩) (meth := k1m1) (c := k1c1) (by decide +kernel) rfl rfl rfl (by decide +kernel)
set_option maxRecDepth 65536 in
theorem w_c2 : (Jvm.Cond.code ({ cls := "com/example/muster/muster/xml/TextPosition", name := "<init>", desc := "()V" } : Jvm.MethodName) prog_33_method_1_code (1 : Nat) (Option.none : Option Jvm.ClassFile.FieldType)).before args0 about1 = true := code_word (m := ⟨2, 0⟩) (meth := k2m0) (c := k2c0) (by decide +kernel) rfl rfl rfl (by decide +kernel)
set_option maxRecDepth 65536 in
theorem w_c3 : (Jvm.Cond.code ({ cls := "java/lang/Object", name := "<init>", desc := "()V" } : Jvm.MethodName) object_method_1_code (1 : Nat) (Option.none : Option Jvm.ClassFile.FieldType)).before args0 about1 = true := code_word (m := ⟨0, 0⟩) (meth := k0m0) (c := k0c0) (by decide +kernel) rfl rfl rfl (by decide +kernel)
set_option maxRecDepth 65536 in
theorem w_c4 : (Jvm.Cond.code ({ cls := "com/example/muster/muster/xml/TextPosition", name := "advance", desc := "(C)V" } : Jvm.MethodName) prog_33_method_2_code (2 : Nat) (Option.none : Option Jvm.ClassFile.FieldType)).before args0 about1 = true := code_word (m := ⟨2, 1⟩) (meth := k2m1) (c := k2c1) (by decide +kernel) rfl rfl rfl (by decide +kernel)
set_option maxRecDepth 65536 in
theorem w_c5 : (Jvm.Cond.code ({ cls := "com/example/muster/muster/xml/TextPosition", name := "getLine", desc := "()I" } : Jvm.MethodName) prog_33_method_3_code (1 : Nat) (Option.some Jvm.ClassFile.FieldType.int)).before args0 about1 = true := code_word (m := ⟨2, 2⟩) (meth := k2m2) (c := k2c2) (by decide +kernel) rfl rfl rfl (by decide +kernel)
set_option maxRecDepth 65536 in
theorem w_c6 : (Jvm.Cond.code ({ cls := "com/example/muster/muster/xml/TextPosition", name := "getColumn", desc := "()I" } : Jvm.MethodName) prog_33_method_4_code (1 : Nat) (Option.some Jvm.ClassFile.FieldType.int)).before args0 about1 = true := code_word (m := ⟨2, 3⟩) (meth := k2m3) (c := k2c3) (by decide +kernel) rfl rfl rfl (by decide +kernel)
set_option maxRecDepth 65536 in
theorem w_c7 : (Jvm.Cond.code ({ cls := "com/example/muster/muster/xml/TextPositionAdvancePinLaw", name := "ends", desc := "(C)Z" } : Jvm.MethodName) method_3_code (1 : Nat) (Option.some Jvm.ClassFile.FieldType.boolean)).before args0 about1 = true := code_word (m := ⟨1, 2⟩) (meth := k1m2) (c := k1c2) (by decide +kernel) rfl rfl rfl (by decide +kernel)
set_option maxRecDepth 65536 in
theorem w_c8 : (Jvm.Cond.code ({ cls := "com/example/muster/muster/xml/TextPositionAdvancePinLaw", name := "endsAfter", desc := "(CC)I" } : Jvm.MethodName) method_4_code (2 : Nat) (Option.some Jvm.ClassFile.FieldType.int)).before args0 about1 = true := code_word (m := ⟨1, 3⟩) (meth := k1m3) (c := k1c3) (by decide +kernel) rfl rfl rfl (by decide +kernel)
def codes1 : List Jvm.Cond := [Jvm.Cond.code x code maxLocals ret, Jvm.Cond.code ({ cls := "com/example/muster/muster/xml/TextPositionAdvancePinLaw", name := "pick", desc := "(I)C" } : Jvm.MethodName) method_2_code (2 : Nat) (Option.some Jvm.ClassFile.FieldType.char), Jvm.Cond.code ({ cls := "com/example/muster/muster/xml/TextPosition", name := "<init>", desc := "()V" } : Jvm.MethodName) prog_33_method_1_code (1 : Nat) (Option.none : Option Jvm.ClassFile.FieldType), Jvm.Cond.code ({ cls := "java/lang/Object", name := "<init>", desc := "()V" } : Jvm.MethodName) object_method_1_code (1 : Nat) (Option.none : Option Jvm.ClassFile.FieldType), Jvm.Cond.code ({ cls := "com/example/muster/muster/xml/TextPosition", name := "advance", desc := "(C)V" } : Jvm.MethodName) prog_33_method_2_code (2 : Nat) (Option.none : Option Jvm.ClassFile.FieldType), Jvm.Cond.code ({ cls := "com/example/muster/muster/xml/TextPosition", name := "getLine", desc := "()I" } : Jvm.MethodName) prog_33_method_3_code (1 : Nat) (Option.some Jvm.ClassFile.FieldType.int), Jvm.Cond.code ({ cls := "com/example/muster/muster/xml/TextPosition", name := "getColumn", desc := "()I" } : Jvm.MethodName) prog_33_method_4_code (1 : Nat) (Option.some Jvm.ClassFile.FieldType.int), Jvm.Cond.code ({ cls := "com/example/muster/muster/xml/TextPositionAdvancePinLaw", name := "ends", desc := "(C)Z" } : Jvm.MethodName) method_3_code (1 : Nat) (Option.some Jvm.ClassFile.FieldType.boolean), Jvm.Cond.code ({ cls := "com/example/muster/muster/xml/TextPositionAdvancePinLaw", name := "endsAfter", desc := "(CC)I" } : Jvm.MethodName) method_4_code (2 : Nat) (Option.some Jvm.ClassFile.FieldType.int)]
set_option maxRecDepth 65536 in
theorem codes_eq : words1.filter isCode = codes1 := rfl
theorem w_codes : ∀ c ∈ words1.filter isCode, c.before args0 about1 = true := by
  rw [codes_eq]
  intro c hc
  simp only [codes1, List.mem_cons, List.not_mem_nil, or_false] at hc
  rcases hc with rfl | rfl | rfl | rfl | rfl | rfl | rfl | rfl | rfl
  · exact w_c0
  · exact w_c1
  · exact w_c2
  · exact w_c3
  · exact w_c4
  · exact w_c5
  · exact w_c6
  · exact w_c7
  · exact w_c8
set_option maxRecDepth 65536 in
theorem w_t1 : (words1.take 24).all (fun c => isCode c || c.before args0 about1) = true := by decide +kernel
set_option maxRecDepth 65536 in
theorem w_t2 : (words1.drop 24).all (fun c => isCode c || c.before args0 about1) = true := by decide +kernel
theorem w_tables : (allAtoms (Jvm.Cond.code x code maxLocals ret :: tables_1)).before args0 about1 = true := by
  rw [allAtoms_all]
  show words1.all (fun c => c.before args0 about1) = true
  refine all_split ?_ w_codes
  rw [← List.take_append_drop 24 words1, List.all_append, w_t1, w_t2]
  rfl
set_option maxRecDepth 65536 in
theorem w_case : (Jvm.Cond.and given_1 narrow_1).before args0 about1 = true := by decide +kernel
theorem w_applies : (headSpec (Jvm.Cond.code x code maxLocals ret :: tables_1) room_1).applies x e0.platform about1 = true :=
  (Spec.applies_iff w_frames).mpr ⟨w_running, w_runnable, w_alone, w_named, w_hears, w_ripe, w_room, w_tables⟩
theorem atStart : AtStart classFile x code maxLocals ret World_1 tables_1 room_1 Calls_1 rest_1 Pre_1 launch0 p0 e0 about1 theMethod args0 below0 :=
  ⟨lists_1, trivial, launch0.admits_env _ _ _, launch0.least_env, fairChoices_fair.cas, fairChoices_fair.clock, w_frames, w_args, w_heap, w_applies, trivial, trivial, w_case⟩
end start1
theorem witness_1 : WitnessClaimed_1 := ⟨start1.p0, start1.e0, start1.about1, start1.theMethod, start1.args0, start1.below0, start1.atStart⟩
end Jvm.Pilot.@@N@@
