import JvmDerived
import JvmDerived.Pilot.@@N@@Statement
import JvmDerived.Pilot.@@N@@Code
set_option linter.unusedVariables false
set_option linter.unusedSimpArgs false
@@BLOCK:NumsL.lean.txt@@
namespace Jvm.RoadKit
open Sem ClassFile Op Lib Jvm.Stand Jvm.Free Jvm.LawKit
section Own
variable {p : Program} {l : Launch} {e : Env} {R : Room} {s : State} {m : MethodId} {args : Array Value} {below : List Frame} {meth : Method} {c : Code} {T T' : State} {locs : List Loc} {cells slots : Nat} {K : State → Outcome → Prop} {g g' : JFrame} {A A' : Array Slot} {S : List Value} {q : Nat} {x y : Int32} {v w : Value} {Z : State} {a0 : Array Value} {h : Heap}
theorem o_mask255 (x : Int32) : (x &&& 255).toInt = x.toInt % 256 := Jvm.Kit.i32_mask x 255 (k := 8) (by decide) (by decide)
/-- from T with the frame g the body comes to an end of which K is true -/
def o_G (p : Program) (e : Env) (below : List Frame) (K : State → Outcome → Prop) (T : State) (g : JFrame) : Prop := ∃ s₂ o, Steps p.tables e below (T.setTop g) s₂ ∧ s₂.status = .running ∧ Ended s₂ below o ∧ K s₂ o
def o_E (s : State) (Q : Option Value → Heap → List Loc → Prop) (C N : Nat) (t : State) (o : Outcome) : Prop := ∃ v L, o = .returned v ∧ Q v t.heap L ∧ FrameEnd s o t L C N
theorem o_st (h : ∀ t, Steps p.tables e below (T'.setTop g') t → Steps p.tables e below (T.setTop g) t) (k : o_G p e below K T' g') : o_G p e below K T g := by
  obtain ⟨a, b, c, d⟩ := k; exact ⟨a, b, h _ c, d⟩
theorem o_tr (h : Steps p.tables e below (T.setTop g) (T'.setTop g')) (k : o_G p e below K T' g') : o_G p e below K T g := by
  obtain ⟨a, b, c, d⟩ := k; exact ⟨a, b, h.trans c, d⟩
theorem o_up {C N : Nat} (X : Stand p l e R s m args below meth c T locs cells slots) (h1 : cells ≤ C) (h2 : slots ≤ N) : Stand p l e R s m args below meth c T locs C N := { X with same := X.same.mono h1 h2 }
theorem o_iload (X : Stand p l e R s m args below meth c T locs cells slots) (hx : p.tables.exec = Jvm.exec) {k : Nat} (hd : decode c.code q = .ok (.iload k, 2)) (hl : A[k]? = some (.val (.int x))) (kk : o_G p e below K T (mkF m (q + 2) A (.int x :: S))) : o_G p e below K T (mkF m q A S) := o_st (fun _ z => XS.iload X.here hx rfl hd hl z) kk
theorem o_iloadN (X : Stand p l e R s m args below meth c T locs cells slots) (hx : p.tables.exec = Jvm.exec) {k : Fin 4} (hd : decode c.code q = .ok (.iload_n k, 1)) (hl : A[k.val]? = some (.val (.int x))) (kk : o_G p e below K T (mkF m (q + 1) A (.int x :: S))) : o_G p e below K T (mkF m q A S) := o_st (fun _ z => XS.iloadN X.here hx rfl hd hl z) kk
theorem o_aload (X : Stand p l e R s m args below meth c T locs cells slots) (hx : p.tables.exec = Jvm.exec) {k : Nat} (hd : decode c.code q = .ok (.aload k, 2)) (hl : A[k]? = some (.val v)) (hv : v.isRef = true) (kk : o_G p e below K T (mkF m (q + 2) A (v :: S))) : o_G p e below K T (mkF m q A S) := o_st (fun _ z => XS.aload X.here hx rfl hd hl hv z) kk
theorem o_aloadN (X : Stand p l e R s m args below meth c T locs cells slots) (hx : p.tables.exec = Jvm.exec) {k : Fin 4} (hd : decode c.code q = .ok (.aload_n k, 1)) (hl : A[k.val]? = some (.val v)) (hv : v.isRef = true) (kk : o_G p e below K T (mkF m (q + 1) A (v :: S))) : o_G p e below K T (mkF m q A S) := o_st (fun _ z => XS.aloadN X.here hx rfl hd hl hv z) kk
theorem o_istore (X : Stand p l e R s m args below meth c T locs cells slots) (hx : p.tables.exec = Jvm.exec) {k : Nat} (hd : decode c.code q = .ok (.istore k, 2)) (hl : storeLocals A k (.int x) = some A') (kk : o_G p e below K T (mkF m (q + 2) A' S)) : o_G p e below K T (mkF m q A (.int x :: S)) := o_st (fun _ z => XS.istore X.here hx rfl hd rfl hl z) kk
theorem o_istoreN (X : Stand p l e R s m args below meth c T locs cells slots) (hx : p.tables.exec = Jvm.exec) {k : Fin 4} (hd : decode c.code q = .ok (.istore_n k, 1)) (hl : storeLocals A k.val (.int x) = some A') (kk : o_G p e below K T (mkF m (q + 1) A' S)) : o_G p e below K T (mkF m q A (.int x :: S)) := o_st (fun _ z => XS.istoreN X.here hx rfl hd rfl hl z) kk
theorem o_astore (X : Stand p l e R s m args below meth c T locs cells slots) (hx : p.tables.exec = Jvm.exec) {k : Nat} (hd : decode c.code q = .ok (.astore k, 2)) (hv : v.isRef = true) (hl : storeLocals A k v = some A') (kk : o_G p e below K T (mkF m (q + 2) A' S)) : o_G p e below K T (mkF m q A (v :: S)) := o_st (fun _ z => XS.astore X.here hx rfl hd rfl hv hl z) kk
theorem o_astoreN (X : Stand p l e R s m args below meth c T locs cells slots) (hx : p.tables.exec = Jvm.exec) {k : Fin 4} (hd : decode c.code q = .ok (.astore_n k, 1)) (hv : v.isRef = true) (hl : storeLocals A k.val v = some A') (kk : o_G p e below K T (mkF m (q + 1) A' S)) : o_G p e below K T (mkF m q A (v :: S)) := o_st (fun _ z => XS.astoreN X.here hx rfl hd rfl hv hl z) kk
theorem o_iconst (X : Stand p l e R s m args below meth c T locs cells slots) (hx : p.tables.exec = Jvm.exec) {i : Int} (hd : decode c.code q = .ok (.iconst i, 1)) (hv : Int32.ofInt i = x) (kk : o_G p e below K T (mkF m (q + 1) A (.int x :: S))) : o_G p e below K T (mkF m q A S) := o_st (fun _ z => XS.iconst X.here hx rfl hd z) (hv ▸ kk)
theorem o_bipush (X : Stand p l e R s m args below meth c T locs cells slots) (hx : p.tables.exec = Jvm.exec) {i : Int} (hd : decode c.code q = .ok (.bipush i, 2)) (hv : (Int8.ofInt i).toInt32 = x) (kk : o_G p e below K T (mkF m (q + 2) A (.int x :: S))) : o_G p e below K T (mkF m q A S) := o_st (fun _ z => XS.bipush X.here hx rfl hd z) (hv ▸ kk)
theorem o_sipush (X : Stand p l e R s m args below meth c T locs cells slots) (hx : p.tables.exec = Jvm.exec) {i : Int} (hd : decode c.code q = .ok (.sipush i, 3)) (hv : (Int16.ofInt i).toInt32 = x) (kk : o_G p e below K T (mkF m (q + 3) A (.int x :: S))) : o_G p e below K T (mkF m q A S) := o_st (fun _ z => XS.sipush X.here hx rfl hd z) (hv ▸ kk)
theorem o_anull (X : Stand p l e R s m args below meth c T locs cells slots) (hx : p.tables.exec = Jvm.exec) (hd : decode c.code q = .ok (.aconst_null, 1)) (kk : o_G p e below K T (mkF m (q + 1) A (.null :: S))) : o_G p e below K T (mkF m q A S) := o_st (fun _ z => XS.aconstNull X.here hx rfl hd z) kk
theorem o_iadd (X : Stand p l e R s m args below meth c T locs cells slots) (hx : p.tables.exec = Jvm.exec) (hd : decode c.code q = .ok (.iadd, 1)) (kk : o_G p e below K T (mkF m (q + 1) A (.int (x + y) :: S))) : o_G p e below K T (mkF m q A (.int y :: .int x :: S)) := o_st (fun _ z => XS.iadd X.here hx rfl hd rfl z) kk
theorem o_isub (X : Stand p l e R s m args below meth c T locs cells slots) (hx : p.tables.exec = Jvm.exec) (hd : decode c.code q = .ok (.isub, 1)) (kk : o_G p e below K T (mkF m (q + 1) A (.int (x - y) :: S))) : o_G p e below K T (mkF m q A (.int y :: .int x :: S)) := o_st (fun _ z => XS.isub X.here hx rfl hd rfl z) kk
theorem o_imul (X : Stand p l e R s m args below meth c T locs cells slots) (hx : p.tables.exec = Jvm.exec) (hd : decode c.code q = .ok (.imul, 1)) (kk : o_G p e below K T (mkF m (q + 1) A (.int (x * y) :: S))) : o_G p e below K T (mkF m q A (.int y :: .int x :: S)) := o_st (fun _ z => XS.imul X.here hx rfl hd rfl z) kk
theorem o_iand (X : Stand p l e R s m args below meth c T locs cells slots) (hx : p.tables.exec = Jvm.exec) (hd : decode c.code q = .ok (.iand, 1)) (kk : o_G p e below K T (mkF m (q + 1) A (.int (x &&& y) :: S))) : o_G p e below K T (mkF m q A (.int y :: .int x :: S)) := o_st (fun _ z => XS.iand X.here hx rfl hd rfl z) kk
theorem o_ior (X : Stand p l e R s m args below meth c T locs cells slots) (hx : p.tables.exec = Jvm.exec) (hd : decode c.code q = .ok (.ior, 1)) (kk : o_G p e below K T (mkF m (q + 1) A (.int (x ||| y) :: S))) : o_G p e below K T (mkF m q A (.int y :: .int x :: S)) := o_st (fun _ z => XT.ior X.here hx rfl hd rfl z) kk
theorem o_ixor (X : Stand p l e R s m args below meth c T locs cells slots) (hx : p.tables.exec = Jvm.exec) (hd : decode c.code q = .ok (.ixor, 1)) (kk : o_G p e below K T (mkF m (q + 1) A (.int (x ^^^ y) :: S))) : o_G p e below K T (mkF m q A (.int y :: .int x :: S)) := o_st (fun _ z => XT.ixor X.here hx rfl hd rfl z) kk
theorem o_irem (X : Stand p l e R s m args below meth c T locs cells slots) (hx : p.tables.exec = Jvm.exec) (hd : decode c.code q = .ok (.irem, 1)) (hy : y ≠ 0) (kk : o_G p e below K T (mkF m (q + 1) A (.int (x % y) :: S))) : o_G p e below K T (mkF m q A (.int y :: .int x :: S)) := o_st (fun _ z => iremM (g := mkF m q A (.int y :: .int x :: S)) X hx rfl hd rfl hy z) kk
theorem o_iushr (X : Stand p l e R s m args below meth c T locs cells slots) (hx : p.tables.exec = Jvm.exec) (hd : decode c.code q = .ok (.iushr, 1)) (kk : o_G p e below K T (mkF m (q + 1) A (.int (XT.ushr x y) :: S))) : o_G p e below K T (mkF m q A (.int y :: .int x :: S)) := o_st (fun _ z => XT.iushr X.here hx rfl hd rfl z) kk
theorem o_ishl (X : Stand p l e R s m args below meth c T locs cells slots) (hx : p.tables.exec = Jvm.exec) (hd : decode c.code q = .ok (.ishl, 1)) (kk : o_G p e below K T (mkF m (q + 1) A (.int (x <<< (y &&& 31)) :: S))) : o_G p e below K T (mkF m q A (.int y :: .int x :: S)) := o_st (fun _ z => XT.ishl X.here hx rfl hd rfl z) kk
theorem o_ishr (X : Stand p l e R s m args below meth c T locs cells slots) (hx : p.tables.exec = Jvm.exec) (hd : decode c.code q = .ok (.ishr, 1)) (kk : o_G p e below K T (mkF m (q + 1) A (.int (x >>> (y &&& 31)) :: S))) : o_G p e below K T (mkF m q A (.int y :: .int x :: S)) := o_st (fun _ z => XT.ishr X.here hx rfl hd rfl z) kk
theorem o_i2b (X : Stand p l e R s m args below meth c T locs cells slots) (hx : p.tables.exec = Jvm.exec) (hd : decode c.code q = .ok (.i2b, 1)) (kk : o_G p e below K T (mkF m (q + 1) A (.int x.toInt8.toInt32 :: S))) : o_G p e below K T (mkF m q A (.int x :: S)) := o_st (fun _ z => XT.i2b X.here hx rfl hd rfl z) kk
theorem o_i2c (X : Stand p l e R s m args below meth c T locs cells slots) (hx : p.tables.exec = Jvm.exec) (hd : decode c.code q = .ok (.i2c, 1)) (kk : o_G p e below K T (mkF m (q + 1) A (.int x.toUInt32.toUInt16.toUInt32.toInt32 :: S))) : o_G p e below K T (mkF m q A (.int x :: S)) := o_st (fun _ z => XT.i2c X.here hx rfl hd rfl z) kk
theorem o_iinc (X : Stand p l e R s m args below meth c T locs cells slots) (hx : p.tables.exec = Jvm.exec) {k : Nat} {cst : Int} (hd : decode c.code q = .ok (.iinc k cst, 3)) (hv : Int32.ofInt cst = y) (hl : A[k]? = some (.val (.int x))) (hs : storeLocals A k (.int (x + y)) = some A') (kk : o_G p e below K T (mkF m (q + 3) A' S)) : o_G p e below K T (mkF m q A S) := o_st (fun _ z => XS.iinc X.here hx rfl hd hl (hv ▸ hs) z) kk
theorem o_dup (X : Stand p l e R s m args below meth c T locs cells slots) (hx : p.tables.exec = Jvm.exec) (hd : decode c.code q = .ok (.dup, 1)) (hc : v.category = 1) (kk : o_G p e below K T (mkF m (q + 1) A (v :: v :: S))) : o_G p e below K T (mkF m q A (v :: S)) := o_st (fun _ z => XS.dup X.here hx rfl hd rfl hc z) kk
theorem o_dupX1 (X : Stand p l e R s m args below meth c T locs cells slots) (hx : p.tables.exec = Jvm.exec) (hd : decode c.code q = .ok (.dup_x1, 1)) (hc : v.category = 1) (hc' : w.category = 1) (kk : o_G p e below K T (mkF m (q + 1) A (v :: w :: v :: S))) : o_G p e below K T (mkF m q A (v :: w :: S)) := o_st (fun _ z => XT.dupX1 X.here hx rfl hd rfl hc hc' z) kk
theorem o_dup2 (X : Stand p l e R s m args below meth c T locs cells slots) (hx : p.tables.exec = Jvm.exec) (hd : decode c.code q = .ok (.dup2, 1)) (hc : v.category = 1) (hc' : w.category = 1) (kk : o_G p e below K T (mkF m (q + 1) A (v :: w :: v :: w :: S))) : o_G p e below K T (mkF m q A (v :: w :: S)) := o_st (fun _ z => XT.dup2 X.here hx rfl hd rfl hc hc' z) kk
theorem o_pop (X : Stand p l e R s m args below meth c T locs cells slots) (hx : p.tables.exec = Jvm.exec) (hd : decode c.code q = .ok (.pop, 1)) (hc : v.category = 1) (kk : o_G p e below K T (mkF m (q + 1) A S)) : o_G p e below K T (mkF m q A (v :: S)) := o_st (fun _ z => XT.pop X.here hx rfl hd rfl hc z) kk
theorem o_goto (X : Stand p l e R s m args below meth c T locs cells slots) (hx : p.tables.exec = Jvm.exec) {o : Int} {t : Nat} (hd : decode c.code q = .ok (.goto o, 3)) (ho : 0 ≤ (q : Int) + o) (ht : ((q : Int) + o).toNat = t) (kk : o_G p e below K T (mkF m t A S)) : o_G p e below K T (mkF m q A S) := o_st (fun _ z => XS.goto X.here hx rfl (pc0 := q) rfl hd ho ht z) kk
theorem o_if (X : Stand p l e R s m args below meth c T locs cells slots) (hx : p.tables.exec = Jvm.exec) {cd : ClassFile.Cond} {o : Int} {t : Nat} (hd : decode c.code q = .ok (.ifCond cd o, 3)) (ho : 0 ≤ (q : Int) + o) (ht : ((q : Int) + o).toNat = t) (kT : ifCond.holds cd x = true → o_G p e below K T (mkF m t A S)) (kF : ifCond.holds cd x = false → o_G p e below K T (mkF m (q + 3) A S)) : o_G p e below K T (mkF m q A (.int x :: S)) := by
  cases hc : ifCond.holds cd x with
  | true => exact o_st (fun _ z => XS.ifYes X.here hx rfl (pc0 := q) rfl hd rfl hc ho ht z) (kT hc)
  | false => exact o_st (fun _ z => XS.ifNo X.here hx rfl hd rfl hc z) (kF hc)
theorem o_icmp (X : Stand p l e R s m args below meth c T locs cells slots) (hx : p.tables.exec = Jvm.exec) {cd : ClassFile.Cond} {o : Int} {t : Nat} (hd : decode c.code q = .ok (.if_icmp cd o, 3)) (ho : 0 ≤ (q : Int) + o) (ht : ((q : Int) + o).toNat = t) (kT : if_icmp.holds cd x y = true → o_G p e below K T (mkF m t A S)) (kF : if_icmp.holds cd x y = false → o_G p e below K T (mkF m (q + 3) A S)) : o_G p e below K T (mkF m q A (.int y :: .int x :: S)) := by
  cases hc : if_icmp.holds cd x y with
  | true => exact o_st (fun _ z => XS.icmpYes X.here hx rfl (pc0 := q) rfl hd rfl hc ho ht z) (kT hc)
  | false => exact o_st (fun _ z => XS.icmpNo X.here hx rfl hd rfl hc z) (kF hc)
theorem o_h_eq : (ifCond.holds .eq x = true → x = 0) ∧ (ifCond.holds .eq x = false → ¬ x = 0) := by simp [ifCond.holds]
theorem o_h_ne : (ifCond.holds .ne x = true → ¬ x = 0) ∧ (ifCond.holds .ne x = false → x = 0) := by simp [ifCond.holds]
theorem o_h_lt : (ifCond.holds .lt x = true → x < 0) ∧ (ifCond.holds .lt x = false → ¬ x < 0) := by simp [ifCond.holds]
theorem o_h_ge : (ifCond.holds .ge x = true → ¬ x < 0) ∧ (ifCond.holds .ge x = false → x < 0) := by simp [ifCond.holds, ← Int32.not_lt]
theorem o_h_gt : (ifCond.holds .gt x = true → 0 < x) ∧ (ifCond.holds .gt x = false → ¬ 0 < x) := by simp [ifCond.holds]
theorem o_h_le : (ifCond.holds .le x = true → ¬ 0 < x) ∧ (ifCond.holds .le x = false → 0 < x) := by simp [ifCond.holds, ← Int32.not_lt]
theorem o_c_eq : (if_icmp.holds .eq x y = true → x = y) ∧ (if_icmp.holds .eq x y = false → ¬ x = y) := by simp [if_icmp.holds]
theorem o_c_ne : (if_icmp.holds .ne x y = true → ¬ x = y) ∧ (if_icmp.holds .ne x y = false → x = y) := by simp [if_icmp.holds]
theorem o_c_lt : (if_icmp.holds .lt x y = true → x < y) ∧ (if_icmp.holds .lt x y = false → ¬ x < y) := by simp [if_icmp.holds]
theorem o_c_ge : (if_icmp.holds .ge x y = true → ¬ x < y) ∧ (if_icmp.holds .ge x y = false → x < y) := by simp [if_icmp.holds, ← Int32.not_lt]
theorem o_c_gt : (if_icmp.holds .gt x y = true → y < x) ∧ (if_icmp.holds .gt x y = false → ¬ y < x) := by simp [if_icmp.holds]
theorem o_c_le : (if_icmp.holds .le x y = true → ¬ y < x) ∧ (if_icmp.holds .le x y = false → y < x) := by simp [if_icmp.holds, ← Int32.not_lt]
theorem o_acmp (X : Stand p l e R s m args below meth c T locs cells slots) (hx : p.tables.exec = Jvm.exec) {cd : ACond} {o : Int} {t : Nat} (h1 : v.isRef = true) (h2 : w.isRef = true) (hd : decode c.code q = .ok (.if_acmp cd o, 3)) (ho : 0 ≤ (q : Int) + o) (ht : ((q : Int) + o).toNat = t) (kY : v = w → o_G p e below K T (mkF m (if acV cd true = true then t else q + 3) A S)) (kN : ¬ v = w → o_G p e below K T (mkF m (if acV cd false = true then t else q + 3) A S)) : o_G p e below K T (mkF m q A (w :: v :: S)) := by
  by_cases hq : v = w
  · exact o_st (fun _ z => acmp (g := mkF m q A (w :: v :: S)) X hx rfl h1 h2 (pc0 := q) rfl hd rfl (decide_eq_true hq) ho (by rw [ht]) z) (kY hq)
  · exact o_st (fun _ z => acmp (g := mkF m q A (w :: v :: S)) X hx rfl h1 h2 (pc0 := q) rfl hd rfl (decide_eq_false hq) ho (by rw [ht]) z) (kN hq)
theorem o_nullY (X : Stand p l e R s m args below meth c T locs cells slots) (hx : p.tables.exec = Jvm.exec) {o : Int} {t : Nat} (hd : decode c.code q = .ok (.ifnull o, 3)) (ho : 0 ≤ (q : Int) + o) (ht : ((q : Int) + o).toNat = t) (kk : o_G p e below K T (mkF m t A S)) : o_G p e below K T (mkF m q A (.null :: S)) := o_st (fun _ z => XS.ifnullYes X.here hx rfl (pc0 := q) rfl hd rfl ho ht z) kk
theorem o_nullN {b : Addr} (X : Stand p l e R s m args below meth c T locs cells slots) (hx : p.tables.exec = Jvm.exec) {o : Int} (hd : decode c.code q = .ok (.ifnull o, 3)) (kk : o_G p e below K T (mkF m (q + 3) A S)) : o_G p e below K T (mkF m q A (.ref b :: S)) := o_st (fun _ z => XS.ifnullNo X.here hx rfl hd rfl z) kk
theorem o_nonnullY {b : Addr} (X : Stand p l e R s m args below meth c T locs cells slots) (hx : p.tables.exec = Jvm.exec) {o : Int} {t : Nat} (hd : decode c.code q = .ok (.ifnonnull o, 3)) (ho : 0 ≤ (q : Int) + o) (ht : ((q : Int) + o).toNat = t) (kk : o_G p e below K T (mkF m t A S)) : o_G p e below K T (mkF m q A (.ref b :: S)) := o_st (fun _ z => XT.ifnonnullYes X.here hx rfl (pc0 := q) rfl hd rfl ho ht z) kk
theorem o_nonnullN (X : Stand p l e R s m args below meth c T locs cells slots) (hx : p.tables.exec = Jvm.exec) {o : Int} (hd : decode c.code q = .ok (.ifnonnull o, 3)) (kk : o_G p e below K T (mkF m (q + 3) A S)) : o_G p e below K T (mkF m q A (.null :: S)) := o_st (fun _ z => XT.ifnonnullNo X.here hx rfl hd rfl z) kk
theorem o_fitR {ty : FieldType} (ht : ty.isReference = true) (hv : v.isRef = true) : fits ty v = true := by
  rcases ref_cases hv with rfl | ⟨a, rfl⟩ <;> cases ty <;> simp_all [fits, FieldType.isReference]
theorem o_chr (x : Int32) : ∃ c : Int32, c = x &&& 255 ∧ (x &&& 255).toUInt32.toUInt16.toUInt32.toInt32 = c ∧ nar .char c = c ∧ ¬ c < 0 ∧ ¬ (255 : Int32) < c := by
  have h1 : (x &&& 255).toInt = x.toInt % 256 := by
    have := Jvm.RoadKit.o_mask255 x
    exact this
  refine ⟨x &&& 255, rfl, i2c_mask x, i2c_mask x, ?_, ?_⟩
  · rw [Int32.lt_iff_toInt_lt, h1]; show ¬ _ < (0 : Int); omega
  · rw [Int32.lt_iff_toInt_lt, h1]; show ¬ (255 : Int) < _; omega
theorem o_join {α : Type} {P : α → Prop} {F : α → JFrame} (X : Stand p l e R s m args below meth c T locs cells slots) (eT : T.heap = h) (kJ : ∀ T', Stand p l e R s m args below meth c T' locs cells slots → T'.heap = h → ∀ a, P a → o_G p e below K T' (F a)) (kB : (∀ T', Stand p l e R s m args below meth c T' locs cells slots → T'.heap = h → ∀ a, P a → o_G p e below K T' (F a)) → o_G p e below K T g) : o_G p e below K T g := kB kJ
theorem o_notInst {C Kn : String} {n : Nat} (w : (Cond.superclass C "java/lang/Object").before a0 Z = true) (w0 : (Cond.noSuperclass "java/lang/Object").before a0 Z = true) (wi : (Cond.instantiable Kn n).before a0 Z = true) (h1 : C ≠ Kn) (h2 : "java/lang/Object" ≠ Kn) : ∃ c t, Z.vm.findClass C = some c ∧ Z.vm.findClass Kn = some t ∧ Z.vm.assignable c t = false := by
  obtain ⟨t, kt, g0, g2, g5, g7, -⟩ := Cond.instantiable_spec wi
  obtain ⟨c, h0⟩ := found_sup w
  obtain ⟨p, k, kp, e1, e2, e3, e4, e5, -, e7⟩ := Cond.superclass_spec h0 w
  obtain ⟨o, ko, o1, o2, o3, -, -⟩ := Cond.noSuperclass_spec w0
  cases o1.symm.trans e1
  have ne := ids_ne h0 g0 h1
  have ne2 := ids_ne o1 g0 h2
  have n3 : ∀ fuel, Z.vm.isSubclassAux fuel c t = false := fun fuel => by
    cases fuel with
    | zero => rfl
    | succ f =>
      cases f with
      | zero => simp [Vm.isSubclassAux, ne, e2, e4]
      | succ f => simp [Vm.isSubclassAux, ne, e2, e4, ne2, o2, o3]
  have g8 : kt.isInterface = false := by
    cases hi : kt.isInterface with
    | false => rfl
    | true => rw [hi] at g7; simp at g7
  refine ⟨c, t, h0, g0, ?_⟩
  show Z.vm.assignableAux (255 + 1) c t = false
  simp [Vm.assignableAux, ne, e2, g2, e5, g5, g8, Vm.isSubclass, n3]
/-! the ends of a body -/
section Ends
variable {Q : Option Value → Heap → List Loc → Prop} {C N : Nat}
theorem o_retN {t : FieldType} (X : Stand p l e R s m args below meth c T locs cells slots) (hx : p.tables.exec = Jvm.exec) (hret : meth.sig.returnType = some t) (hlocks : meth.locks = false) (ht : t = .boolean ∨ t = .byte ∨ t = .char ∨ t = .short) (hd : decode c.code q = .ok (.ireturn, 1)) (hn : nar t x = x) (hc : cells ≤ C) (hs : slots ≤ N) (hQ : Q (some (.int x)) T.heap locs) : o_G p e below (o_E s Q C N) T (mkF m q A (.int x :: S)) := by
  obtain ⟨fs, hr, hrun, hended, hW, hsame⟩ := X.leave (v := some (.int (nar t x))) (fun h => by rw [hret] at h; cases h) hlocks
  refine ⟨_, _, retN X hx hret ht hd hr, hrun, hended, _, _, rfl, ?_, ⟨_, rfl⟩, hW, hsame.mono hc hs⟩
  rw [hn]; exact hQ
theorem o_retI (X : Stand p l e R s m args below meth c T locs cells slots) (hx : p.tables.exec = Jvm.exec) (hret : meth.sig.returnType = some .int) (hlocks : meth.locks = false) (hd : decode c.code q = .ok (.ireturn, 1)) (hc : cells ≤ C) (hs : slots ≤ N) (hQ : Q (some (.int x)) T.heap locs) : o_G p e below (o_E s Q C N) T (mkF m q A (.int x :: S)) := by
  obtain ⟨fs, hr, hrun, hended, hW, hsame⟩ := X.leave (v := some (.int x)) (fun h => by rw [hret] at h; cases h) hlocks
  exact ⟨_, _, retOut X hx hret rfl (Or.inl ⟨rfl, Or.inl rfl, _, rfl⟩) hd hr, hrun, hended, _, _, rfl, hQ, ⟨_, rfl⟩, hW, hsame.mono hc hs⟩
theorem o_retA {t : FieldType} (X : Stand p l e R s m args below meth c T locs cells slots) (hx : p.tables.exec = Jvm.exec) (hret : meth.sig.returnType = some t) (hlocks : meth.locks = false) (ht : t.isReference = true) (hv : v.isRef = true) (hn : narrow t v = v) (hd : decode c.code q = .ok (.areturn, 1)) (hc : cells ≤ C) (hs : slots ≤ N) (hQ : Q (some v) T.heap locs) : o_G p e below (o_E s Q C N) T (mkF m q A (v :: S)) := by
  obtain ⟨fs, hr, hrun, hended, hW, hsame⟩ := X.leave (v := some v) (fun h => by rw [hret] at h; cases h) hlocks
  exact ⟨_, _, retOut X hx hret hn (Or.inr (Or.inr (Or.inr (Or.inr ⟨rfl, ht, hv⟩)))) hd hr, hrun, hended, _, _, rfl, hQ, ⟨_, rfl⟩, hW, hsame.mono hc hs⟩
theorem o_retV (X : Stand p l e R s m args below meth c T locs cells slots) (hx : p.tables.exec = Jvm.exec) (hret : meth.sig.returnType = none) (hlocks : meth.locks = false) (hd : decode c.code q = .ok (.return_, 1)) (hc : cells ≤ C) (hs : slots ≤ N) (hQ : Q none T.heap locs) : o_G p e below (o_E s Q C N) T (mkF m q A []) := by
  obtain ⟨fs, hr, hrun, hended, hW, hsame⟩ := X.leave (v := none) (fun _ => rfl) hlocks
  exact ⟨_, _, X.returnOut hx hret hd hr, hrun, hended, _, _, rfl, hQ, ⟨_, rfl⟩, hW, hsame.mono hc hs⟩
end Ends
/-! calls, by what pays them -/
section Calls
variable {Q : Option Value → Heap → List Loc → Prop} {kc ks W : Nat} {own C : String} {index : Nat} {z y : MethodName} {argsL St : List Value} {b : Addr}
theorem o_static {bytes : ByteArray} {maxL : Nat} {ret : Option FieldType} {y : MethodName} (X : Stand p l e R s m args below meth c T locs cells slots) (hx : p.tables.exec = Jvm.exec) (hZ : Z.Warmed39 s.vm) (hown : s.vm.findClass own = some m.cls) (w1 : (Cond.methodLink own index y).before a0 Z = true) (w2 : (Cond.static y).before a0 Z = true) (w3 : (Cond.initialized y.cls).before a0 Z = true) (w4 : (Cond.code y bytes maxL ret).before a0 Z = true) (hy : y.cls ≠ "java/lang/invoke/MethodHandle" ∧ y.cls ≠ "java/lang/invoke/VarHandle")
    (hK : Back l R p e below s args y 3 W (fun P a => a = argsL.toArray ∧ P.U.heap = h ∧ P.cells + kc ≤ R.cells ∧ P.slots + ks ≤ R.slots) (fun P _ v B => ∃ L, Q v B.U.heap L ∧ B.locs = P.locs ++ L ∧ B.cells = P.cells + kc ∧ B.slots = P.slots + ks))
    (eT : T.heap = h) (hsz : A.size = c.maxLocals) (hlen : ∀ sig, parseMethodDescriptor y.desc = some sig → argsL.length = sig.parameters.length) (hst : St = argsL.reverse ++ S) (hW : (S.map fun v => v.category).sum ≤ W) (hd : decode c.code q = .ok (.invokestatic index, 3)) (hc : cells + kc ≤ R.cells) (hs : slots + ks ≤ R.slots)
    (kk : ∀ T' L v, Stand p l e R s m args below meth c T' (locs ++ L) (cells + kc) (slots + ks) → Q v T'.heap L → o_G p e below K T' (mkF m (q + 3) A (v.toList ++ S))) : o_G p e below K T (mkF m q A St) := by
  subst hst
  obtain ⟨v, _, ⟨T', L', k', n'⟩, -, X', ⟨L, hQ, l1, l2, l3⟩, st⟩ := Jvm.LawKit.callS X hx hown (mvT hZ w1) (mvT hZ w2) (mvT hZ w3) (mvT hZ w4) hy hK (g := mkF m q A (argsL.reverse ++ S)) rfl hsz hlen rfl (by show 2 * 0 + _ ≤ _; omega) hd (fun _ _ => ⟨rfl, eT, hc, hs⟩)
  dsimp only [Pt.U, Pt.locs, Pt.cells, Pt.slots] at X' l1 l2 l3 st hQ
  subst l1 l2 l3
  exact o_st st (kk _ _ _ X' hQ)
theorem o_init {bytes : ByteArray} {maxL : Nat} {y : MethodName} (hy1 : y.name = "<init>") (X : Stand p l e R s m args below meth c T locs cells slots) (hx : p.tables.exec = Jvm.exec) (hZ : Z.Warmed39 s.vm) (hown : s.vm.findClass own = some m.cls) (w1 : (Cond.methodLink own index y).before a0 Z = true) (w2 : (Cond.instanceMethod y).before a0 Z = true) (w4 : (Cond.code y bytes maxL none).before a0 Z = true) (hy : y.cls ≠ "java/lang/invoke/MethodHandle" ∧ y.cls ≠ "java/lang/invoke/VarHandle")
    (hK : Back l R p e below s args y 3 W (fun P a => a = (Value.ref b :: argsL).toArray ∧ P.U.heap = h ∧ P.cells + kc ≤ R.cells ∧ P.slots + ks ≤ R.slots) (fun P _ v B => ∃ L, Q v B.U.heap L ∧ B.locs = P.locs ++ L ∧ B.cells = P.cells + kc ∧ B.slots = P.slots + ks))
    (eT : T.heap = h) (hsz : A.size = c.maxLocals) (hlen : ∀ sig, parseMethodDescriptor y.desc = some sig → argsL.length = sig.parameters.length) (hst : St = argsL.reverse ++ .ref b :: S) (hW : (S.map fun v => v.category).sum ≤ W) (hd : decode c.code q = .ok (.invokespecial index, 3)) (hc : cells + kc ≤ R.cells) (hs : slots + ks ≤ R.slots)
    (kk : ∀ T' L v, Stand p l e R s m args below meth c T' (locs ++ L) (cells + kc) (slots + ks) → Q v T'.heap L → o_G p e below K T' (mkF m (q + 3) A (v.toList ++ S))) : o_G p e below K T (mkF m q A St) := by
  subst hst
  obtain ⟨v, _, ⟨T', L', k', n'⟩, -, X', ⟨L, hQ, l1, l2, l3⟩, st⟩ := X.specialBack hx hy1 hown (mvT hZ w1) (mvT hZ w2) (mvT hZ w4) hy hK (g := mkF m q A (argsL.reverse ++ .ref b :: S)) rfl hsz (Steps.refl _) (a := b) (argsL := argsL) (rest := S) hlen rfl (by show 2 * 0 + _ ≤ _; omega) hd (fun _ _ => ⟨rfl, eT, hc, hs⟩)
  dsimp only [Pt.U, Pt.locs, Pt.cells, Pt.slots] at X' l1 l2 l3 st hQ
  subst l1 l2 l3
  exact o_tr st (kk _ _ _ X' hQ)
theorem o_virtual {y z : MethodName} (X : Stand p l e R s m args below meth c T locs cells slots) (hx : p.tables.exec = Jvm.exec) (hZ : Z.Warmed39 s.vm) (hown : s.vm.findClass own = some m.cls) (w1 : (Cond.methodLink own index y).before a0 Z = true) (w2 : (Cond.declares y).before a0 Z = true) (hnf : NotFace s y) (w3 : (Cond.selects C y z).before a0 Z = true) (w4 : (Cond.instanceMethod z).before a0 Z = true) (hy : y.cls ≠ "java/lang/invoke/MethodHandle" ∧ y.cls ≠ "java/lang/invoke/VarHandle")
    (hK : Back l R p e below s args z 3 W (fun P a => a = (Value.ref b :: argsL).toArray ∧ P.U.heap = h ∧ P.cells + kc ≤ R.cells ∧ P.slots + ks ≤ R.slots) (fun P _ v B => ∃ L, Q v B.U.heap L ∧ B.locs = P.locs ++ L ∧ B.cells = P.cells + kc ∧ B.slots = P.slots + ks))
    (eT : T.heap = h) (E : Exa Z h b C) (hsz : A.size = c.maxLocals) (hlen : ∀ sig, parseMethodDescriptor y.desc = some sig → argsL.length = sig.parameters.length) (hst : St = argsL.reverse ++ .ref b :: S) (hW : (S.map fun v => v.category).sum ≤ W) (hd : decode c.code q = .ok (.invokevirtual index, 3)) (hc : cells + kc ≤ R.cells) (hs : slots + ks ≤ R.slots)
    (kk : ∀ T' L v, Stand p l e R s m args below meth c T' (locs ++ L) (cells + kc) (slots + ks) → Q v T'.heap L → o_G p e below K T' (mkF m (q + 3) A (v.toList ++ S))) : o_G p e below K T (mkF m q A St) := by
  subst hst
  obtain ⟨cq, kq, q1, q2, q3⟩ := isOf hZ eT E
  obtain ⟨v, _, ⟨T', L', k', n'⟩, -, X', ⟨L, hQ, l1, l2, l3⟩, st⟩ := X.virtualBack hx hown (mvT hZ w1) (mvT hZ w2) hnf (mvT hZ w3) (mvT hZ w4) hy hK q1 q3 (g := mkF m q A (argsL.reverse ++ .ref b :: S)) rfl hsz (Steps.refl _) (argsL := argsL) (rest := S) hlen rfl (by show 2 * 0 + _ ≤ _; omega) hd (fun _ _ => ⟨rfl, eT, hc, hs⟩)
  dsimp only [Pt.U, Pt.locs, Pt.cells, Pt.slots] at X' l1 l2 l3 st hQ
  subst l1 l2 l3
  exact o_tr st (kk _ _ _ X' hQ)
end Calls
end Own
end Jvm.RoadKit
namespace Jvm.RoadKit
open Sem ClassFile Op Lib Jvm.Stand Jvm.Free Jvm.LawKit
section OwnW
variable {p : Program} {l : Launch} {e : Env} {R : Room} {s : State} {vm0 : Vm} {m : MethodId} {args : Array Value} {below : List Frame} {meth : Method} {c : Code} {T T' : State} {locs : List Loc} {cells slots : Nat} {K : State → Outcome → Prop} {g g' : JFrame} {A A' : Array Slot} {S : List Value} {q k0 : Nat} {x y : Int32} {v w : Value} {Z : State} {a0 : Array Value} {h : Heap}
def o_EW (s : State) (Q : Option Value → Heap → List Loc → Prop) (C N : Nat) (t : State) (o : Outcome) : Prop := ∃ v L, o = .returned v ∧ Q v t.heap L ∧ ReturnedEndW s o t L C N
section EndsW
variable {Q : Option Value → Heap → List Loc → Prop} {C N : Nat}
theorem o_monoW {o : Outcome} {t : State} {L : List Loc} {k n : Nat} (hh : ReturnedEndW s o t L k n) (hc : k ≤ C) (hs : n ≤ N) : ReturnedEndW s o t L C N := ⟨hh.1, hh.2.1, hh.2.2.1, hh.2.2.2.mono hc hs⟩
theorem o_retNW {t : FieldType} (X : Stand p l e R (s.setVm vm0) m args below meth c T locs cells slots) (hx : p.tables.exec = Jvm.exec) (hS : s.Since vm0 k0) (hk : k0 ≤ T.heap.size) (hret : meth.sig.returnType = some t) (hlocks : meth.locks = false) (ht : t = .boolean ∨ t = .byte ∨ t = .char ∨ t = .short) (hd : decode c.code q = .ok (.ireturn, 1)) (hn : nar t x = x) (hc : cells ≤ C) (hs : slots ≤ N) (hQ : Q (some (.int x)) T.heap locs) : o_G p e below (o_EW s Q C N) T (mkF m q A (.int x :: S)) := by
  obtain ⟨fs, hr, hrun, hended, hW⟩ := X.leaveW hS hk (v := some (.int (nar t x))) (fun h => by rw [hret] at h; cases h) hlocks
  refine ⟨_, _, retN X hx hret ht hd hr, hrun, hended, _, _, rfl, ?_, o_monoW hW hc hs⟩
  rw [hn]; exact hQ
theorem o_retIW (X : Stand p l e R (s.setVm vm0) m args below meth c T locs cells slots) (hx : p.tables.exec = Jvm.exec) (hS : s.Since vm0 k0) (hk : k0 ≤ T.heap.size) (hret : meth.sig.returnType = some .int) (hlocks : meth.locks = false) (hd : decode c.code q = .ok (.ireturn, 1)) (hc : cells ≤ C) (hs : slots ≤ N) (hQ : Q (some (.int x)) T.heap locs) : o_G p e below (o_EW s Q C N) T (mkF m q A (.int x :: S)) := by
  obtain ⟨fs, hr, hrun, hended, hW⟩ := X.leaveW hS hk (v := some (.int x)) (fun h => by rw [hret] at h; cases h) hlocks
  exact ⟨_, _, retOut X hx hret rfl (Or.inl ⟨rfl, Or.inl rfl, _, rfl⟩) hd hr, hrun, hended, _, _, rfl, hQ, o_monoW hW hc hs⟩
theorem o_retAW {t : FieldType} (X : Stand p l e R (s.setVm vm0) m args below meth c T locs cells slots) (hx : p.tables.exec = Jvm.exec) (hS : s.Since vm0 k0) (hk : k0 ≤ T.heap.size) (hret : meth.sig.returnType = some t) (hlocks : meth.locks = false) (ht : t.isReference = true) (hv : v.isRef = true) (hn : narrow t v = v) (hd : decode c.code q = .ok (.areturn, 1)) (hc : cells ≤ C) (hs : slots ≤ N) (hQ : Q (some v) T.heap locs) : o_G p e below (o_EW s Q C N) T (mkF m q A (v :: S)) := by
  obtain ⟨fs, hr, hrun, hended, hW⟩ := X.leaveW hS hk (v := some v) (fun h => by rw [hret] at h; cases h) hlocks
  exact ⟨_, _, retOut X hx hret hn (Or.inr (Or.inr (Or.inr (Or.inr ⟨rfl, ht, hv⟩)))) hd hr, hrun, hended, _, _, rfl, hQ, o_monoW hW hc hs⟩
theorem o_retVW (X : Stand p l e R (s.setVm vm0) m args below meth c T locs cells slots) (hx : p.tables.exec = Jvm.exec) (hS : s.Since vm0 k0) (hk : k0 ≤ T.heap.size) (hret : meth.sig.returnType = none) (hlocks : meth.locks = false) (hd : decode c.code q = .ok (.return_, 1)) (hc : cells ≤ C) (hs : slots ≤ N) (hQ : Q none T.heap locs) : o_G p e below (o_EW s Q C N) T (mkF m q A []) := by
  obtain ⟨fs, hr, hrun, hended, hW⟩ := X.leaveW hS hk (v := none) (fun _ => rfl) hlocks
  exact ⟨_, _, X.returnOut hx hret hd hr, hrun, hended, _, _, rfl, hQ, o_monoW hW hc hs⟩
end EndsW
theorem o_ldcS {own text : String} {index n : Nat} (X : Stand p l e R (s.setVm vm0) m args below meth c T locs cells slots) (hx : p.tables.exec = Jvm.exec) (hZ : Z.Warmed39 vm0) (hown : vm0.findClass own = some m.cls) (w : (Cond.stringLink own index text).before a0 Z = true) (wS : ∀ a ∈ Bundle.stringAtoms, a.before a0 Z = true) (eT : T.heap = h) (hS : s.Since vm0 k0) (hk : k0 ≤ h.size) (hd : decode c.code q = .ok (.ldc index, 2)) (hn : 4 * text.toList.length ≤ n) (hbig : n ≤ 536870912) (hc : cells + 2 ≤ R.cells) (hl : slots + (n + 4) ≤ R.slots)
    (kk : ∀ a T' k1, Stand p l e R (s.setVm T'.vm) m args below meth c T' locs (cells + 2) (slots + (n + 4)) → Ext h T'.heap → s.Since T'.vm k1 → k1 ≤ T'.heap.size → Z.Warmed39 T'.vm → T'.vm.findClass own = some m.cls → o_G p e below K T' (mkF m (q + 2) A (.ref a :: S))) : o_G p e below K T (mkF m q A S) := by
  obtain ⟨a, T', h', k1, X', e', E, hS', hk', hZ', ho', st⟩ := ldcS X hx hZ hown w wS eT hS hk (g := mkF m q A S) rfl hd hn hbig hc hl
  subst e'
  exact o_st st (kk a T' k1 X' E hS' hk' hZ' ho')
section CallsW
variable {Q : Option Value → Heap → List Loc → Prop} {kc ks W : Nat} {own C : String} {index : Nat} {argsL St : List Value} {b : Addr}
theorem o_initS {bytes : ByteArray} {maxL : Nat} {y : MethodName} (hy1 : y.name = "<init>") (X : Stand p l e R (s.setVm vm0) m args below meth c T locs cells slots) (hx : p.tables.exec = Jvm.exec) (hZ : Z.Warmed39 vm0) (hS : s.Since vm0 k0) (hown : vm0.findClass own = some m.cls) (w1 : (Cond.methodLink own index y).before a0 Z = true) (w2 : (Cond.instanceMethod y).before a0 Z = true) (w4 : (Cond.code y bytes maxL none).before a0 Z = true) (hy : y.cls ≠ "java/lang/invoke/MethodHandle" ∧ y.cls ≠ "java/lang/invoke/VarHandle")
    (hK : BackS l R p e below (s.setVm vm0) args y 3 W (fun P a => a = (Value.ref b :: argsL).toArray ∧ P.U.heap = h ∧ P.cells + kc ≤ R.cells ∧ P.slots + ks ≤ R.slots) (fun P _ v B => ∃ L, Q v B.U.heap L ∧ B.locs = P.locs ++ L ∧ B.cells = P.cells + kc ∧ B.slots = P.slots + ks))
    (eT : T.heap = h) (hk : k0 ≤ h.size) (hsz : A.size = c.maxLocals) (hlen : ∀ sig, parseMethodDescriptor y.desc = some sig → argsL.length = sig.parameters.length) (hst : St = argsL.reverse ++ .ref b :: S) (hW : (S.map fun v => v.category).sum ≤ W) (hd : decode c.code q = .ok (.invokespecial index, 3)) (hc : cells + kc ≤ R.cells) (hs : slots + ks ≤ R.slots)
    (kk : ∀ T' L v k1, Stand p l e R (s.setVm T'.vm) m args below meth c T' (locs ++ L) (cells + kc) (slots + ks) → s.Since T'.vm k1 → k1 ≤ T'.heap.size → Z.Warmed39 T'.vm → T'.vm.findClass own = some m.cls → Q v T'.heap L → o_G p e below K T' (mkF m (q + 3) A (v.toList ++ S))) : o_G p e below K T (mkF m q A St) := by
  subst hst eT
  have hZ1 : Z.Warmed39 (s.setVm vm0).vm := hZ
  obtain ⟨v, _, ⟨T', L', k', n'⟩, -, X', hS', hg', ⟨L, hQ, l1, l2, l3⟩, st⟩ := X.specialBackS hx hy1 (show (s.setVm vm0).vm.findClass own = some m.cls from hown) (mvT hZ1 w1) (mvT hZ1 w2) (mvT hZ1 w4) hy hK (g := mkF m q A (argsL.reverse ++ .ref b :: S)) rfl hsz (Steps.refl _) (a := b) (argsL := argsL) (rest := S) hlen rfl (by show 2 * 0 + _ ≤ _; omega) hd (fun _ _ => ⟨rfl, rfl, hc, hs⟩)
  dsimp only [Pt.U, Pt.locs, Pt.cells, Pt.slots] at X' l1 l2 l3 st hQ hS' hg'
  subst l1 l2 l3
  obtain ⟨X2, hS2, hZ2, ho2⟩ := rebS hS hk X' hS' hg' hZ1 (show (s.setVm vm0).vm.findClass own = some m.cls from hown)
  exact o_tr st (kk _ _ _ _ X2 hS2 (Nat.le_refl _) hZ2 ho2 hQ)
theorem o_staticS {bytes : ByteArray} {maxL : Nat} {ret : Option FieldType} {y : MethodName} (X : Stand p l e R (s.setVm vm0) m args below meth c T locs cells slots) (hx : p.tables.exec = Jvm.exec) (hZ : Z.Warmed39 vm0) (hS : s.Since vm0 k0) (hown : vm0.findClass own = some m.cls) (w1 : (Cond.methodLink own index y).before a0 Z = true) (w2 : (Cond.static y).before a0 Z = true) (w3 : (Cond.initialized y.cls).before a0 Z = true) (w4 : (Cond.code y bytes maxL ret).before a0 Z = true) (hy : y.cls ≠ "java/lang/invoke/MethodHandle" ∧ y.cls ≠ "java/lang/invoke/VarHandle")
    (hK : BackS l R p e below (s.setVm vm0) args y 3 W (fun P a => a = argsL.toArray ∧ P.U.heap = h ∧ P.cells + kc ≤ R.cells ∧ P.slots + ks ≤ R.slots) (fun P _ v B => ∃ L, Q v B.U.heap L ∧ B.locs = P.locs ++ L ∧ B.cells = P.cells + kc ∧ B.slots = P.slots + ks))
    (eT : T.heap = h) (hk : k0 ≤ h.size) (hsz : A.size = c.maxLocals) (hlen : ∀ sig, parseMethodDescriptor y.desc = some sig → argsL.length = sig.parameters.length) (hst : St = argsL.reverse ++ S) (hW : (S.map fun v => v.category).sum ≤ W) (hd : decode c.code q = .ok (.invokestatic index, 3)) (hc : cells + kc ≤ R.cells) (hs : slots + ks ≤ R.slots)
    (kk : ∀ T' L v k1, Stand p l e R (s.setVm T'.vm) m args below meth c T' (locs ++ L) (cells + kc) (slots + ks) → s.Since T'.vm k1 → k1 ≤ T'.heap.size → Z.Warmed39 T'.vm → T'.vm.findClass own = some m.cls → Q v T'.heap L → o_G p e below K T' (mkF m (q + 3) A (v.toList ++ S))) : o_G p e below K T (mkF m q A St) := by
  subst hst eT
  have hZ1 : Z.Warmed39 (s.setVm vm0).vm := hZ
  obtain ⟨v, _, ⟨T', L', k', n'⟩, -, X', hS', hg', ⟨L, hQ, l1, l2, l3⟩, st⟩ := callSS X hx (show (s.setVm vm0).vm.findClass own = some m.cls from hown) (mvT hZ1 w1) (mvT hZ1 w2) (mvT hZ1 w3) (mvT hZ1 w4) hy hK (g := mkF m q A (argsL.reverse ++ S)) rfl hsz hlen rfl (by show 2 * 0 + _ ≤ _; omega) hd (fun _ _ => ⟨rfl, rfl, hc, hs⟩)
  dsimp only [Pt.U, Pt.locs, Pt.cells, Pt.slots] at X' l1 l2 l3 st hQ hS' hg'
  subst l1 l2 l3
  obtain ⟨X2, hS2, hZ2, ho2⟩ := rebS hS hk X' hS' hg' hZ1 (show (s.setVm vm0).vm.findClass own = some m.cls from hown)
  exact o_tr st (kk _ _ _ _ X2 hS2 (Nat.le_refl _) hZ2 ho2 hQ)
theorem o_virtualS {y z : MethodName} (X : Stand p l e R (s.setVm vm0) m args below meth c T locs cells slots) (hx : p.tables.exec = Jvm.exec) (hZ : Z.Warmed39 vm0) (hS : s.Since vm0 k0) (hown : vm0.findClass own = some m.cls) (w1 : (Cond.methodLink own index y).before a0 Z = true) (w2 : (Cond.declares y).before a0 Z = true) (hnf : NotFace (s.setVm vm0) y) (w3 : (Cond.selects C y z).before a0 Z = true) (w4 : (Cond.instanceMethod z).before a0 Z = true) (hy : y.cls ≠ "java/lang/invoke/MethodHandle" ∧ y.cls ≠ "java/lang/invoke/VarHandle")
    (hK : BackS l R p e below (s.setVm vm0) args z 3 W (fun P a => a = (Value.ref b :: argsL).toArray ∧ P.U.heap = h ∧ P.cells + kc ≤ R.cells ∧ P.slots + ks ≤ R.slots) (fun P _ v B => ∃ L, Q v B.U.heap L ∧ B.locs = P.locs ++ L ∧ B.cells = P.cells + kc ∧ B.slots = P.slots + ks))
    (eT : T.heap = h) (hk : k0 ≤ h.size) (E : Exa Z h b C) (hsz : A.size = c.maxLocals) (hlen : ∀ sig, parseMethodDescriptor y.desc = some sig → argsL.length = sig.parameters.length) (hst : St = argsL.reverse ++ .ref b :: S) (hW : (S.map fun v => v.category).sum ≤ W) (hd : decode c.code q = .ok (.invokevirtual index, 3)) (hc : cells + kc ≤ R.cells) (hs : slots + ks ≤ R.slots)
    (kk : ∀ T' L v k1, Stand p l e R (s.setVm T'.vm) m args below meth c T' (locs ++ L) (cells + kc) (slots + ks) → s.Since T'.vm k1 → k1 ≤ T'.heap.size → Z.Warmed39 T'.vm → T'.vm.findClass own = some m.cls → Q v T'.heap L → o_G p e below K T' (mkF m (q + 3) A (v.toList ++ S))) : o_G p e below K T (mkF m q A St) := by
  subst hst eT
  have hZ1 : Z.Warmed39 (s.setVm vm0).vm := hZ
  obtain ⟨cq, kq, q1, q2, q3⟩ := isOf (s := s.setVm vm0) hZ1 rfl E
  obtain ⟨v, _, ⟨T', L', k', n'⟩, -, X', hS', hg', ⟨L, hQ, l1, l2, l3⟩, st⟩ := X.virtualBackS hx (show (s.setVm vm0).vm.findClass own = some m.cls from hown) (mvT hZ1 w1) (mvT hZ1 w2) hnf (mvT hZ1 w3) (mvT hZ1 w4) hy hK q1 q3 (g := mkF m q A (argsL.reverse ++ .ref b :: S)) rfl hsz (Steps.refl _) (argsL := argsL) (rest := S) hlen rfl (by show 2 * 0 + _ ≤ _; omega) hd (fun _ _ => ⟨rfl, rfl, hc, hs⟩)
  dsimp only [Pt.U, Pt.locs, Pt.cells, Pt.slots] at X' l1 l2 l3 st hQ hS' hg'
  subst l1 l2 l3
  obtain ⟨X2, hS2, hZ2, ho2⟩ := rebS hS hk X' hS' hg' hZ1 (show (s.setVm vm0).vm.findClass own = some m.cls from hown)
  exact o_tr st (kk _ _ _ _ X2 hS2 (Nat.le_refl _) hZ2 ho2 hQ)
end CallsW
end OwnW
end Jvm.RoadKit
namespace Jvm.RoadKit
open Sem ClassFile Op Lib Jvm.Stand Jvm.Free Jvm.LawKit
section OwnM
variable {p : Program} {l : Launch} {e : Env} {R : Room} {s : State} {m : MethodId} {args : Array Value} {below : List Frame} {meth : Method} {c : Code} {T T' : State} {locs : List Loc} {cells slots : Nat} {K K' : State → Outcome → Prop} {g g' : JFrame} {A A' : Array Slot} {S : List Value} {q : Nat} {x y z : Int32} {v w : Value} {Z : State} {a0 : Array Value} {h : Heap} {a : Addr} {ka : ClassId} {vs : List Value} {dv : Value} {n : Int32}
theorem o_mono (hK : ∀ t o, K t o → K' t o) (k : o_G p e below K T g) : o_G p e below K' T g := by
  obtain ⟨a, b, h1, h2, h3, h4⟩ := k; exact ⟨a, b, h1, h2, h3, hK _ _ h4⟩
theorem o_valE (hz : x = z) (k : o_G p e below K T (mkF m q A (.int z :: S))) : o_G p e below K T (mkF m q A (.int x :: S)) := hz ▸ k
theorem o_ifT (X : Stand p l e R s m args below meth c T locs cells slots) (hx : p.tables.exec = Jvm.exec) {cd : ClassFile.Cond} {o : Int} {t : Nat} (hd : decode c.code q = .ok (.ifCond cd o, 3)) (ho : 0 ≤ (q : Int) + o) (ht : ((q : Int) + o).toNat = t) (hc : ifCond.holds cd x = true) (k : o_G p e below K T (mkF m t A S)) : o_G p e below K T (mkF m q A (.int x :: S)) := o_st (fun _ z => XS.ifYes X.here hx rfl (pc0 := q) rfl hd rfl hc ho ht z) k
theorem o_ifF (X : Stand p l e R s m args below meth c T locs cells slots) (hx : p.tables.exec = Jvm.exec) {cd : ClassFile.Cond} {o : Int} (hd : decode c.code q = .ok (.ifCond cd o, 3)) (hc : ifCond.holds cd x = false) (k : o_G p e below K T (mkF m (q + 3) A S)) : o_G p e below K T (mkF m q A (.int x :: S)) := o_st (fun _ z => XS.ifNo X.here hx rfl hd rfl hc z) k
theorem o_icmpT (X : Stand p l e R s m args below meth c T locs cells slots) (hx : p.tables.exec = Jvm.exec) {cd : ClassFile.Cond} {o : Int} {t : Nat} (hd : decode c.code q = .ok (.if_icmp cd o, 3)) (ho : 0 ≤ (q : Int) + o) (ht : ((q : Int) + o).toNat = t) (hc : if_icmp.holds cd x y = true) (k : o_G p e below K T (mkF m t A S)) : o_G p e below K T (mkF m q A (.int y :: .int x :: S)) := o_st (fun _ z => XS.icmpYes X.here hx rfl (pc0 := q) rfl hd rfl hc ho ht z) k
theorem o_icmpF (X : Stand p l e R s m args below meth c T locs cells slots) (hx : p.tables.exec = Jvm.exec) {cd : ClassFile.Cond} {o : Int} (hd : decode c.code q = .ok (.if_icmp cd o, 3)) (hc : if_icmp.holds cd x y = false) (k : o_G p e below K T (mkF m (q + 3) A S)) : o_G p e below K T (mkF m q A (.int y :: .int x :: S)) := o_st (fun _ z => XS.icmpNo X.here hx rfl hd rfl hc z) k
theorem o_iincK (X : Stand p l e R s m args below meth c T locs cells slots) (hx : p.tables.exec = Jvm.exec) {k : Nat} {cst : Int} (hd : decode c.code q = .ok (.iinc k cst, 3)) (hv : Int32.ofInt cst = y) (hl : A[k]? = some (.val (.int x))) (hz : x + y = z) (hs : storeLocals A k (.int z) = some A') (kk : o_G p e below K T (mkF m (q + 3) A' S)) : o_G p e below K T (mkF m q A S) := o_iinc X hx hd hv hl (hz ▸ hs) kk
theorem o_bload (X : Stand p l e R s m args below meth c T locs cells slots) (hx : p.tables.exec = Jvm.exec) (hZ : Z.Warmed39 s.vm) (eT : T.heap = h) (F : Arv Z h a ka .byte n vs dv) (hd : decode c.code q = .ok (.baload, 1)) (hj : ¬ y < 0 ∧ y < n) (hv : vs.getD y.toNatClampNeg dv = v) (k : o_G p e below K T (mkF m (q + 1) A (v :: S))) : o_G p e below K T (mkF m q A (.int y :: .ref a :: S)) := by
  obtain ⟨cl, F1, F2, F3, F4, F5, F6⟩ := F
  have hin := inb_of F3 hj
  exact o_st (fun t z => X.baloadBytes hx (by rw [eT]; exact F1.1) (State.isArrayOf_alike hZ.alike F1.2.1) F1.2.2 hin (F5.at hin hv) (g := mkF m q A (.int y :: .ref a :: S)) rfl rfl hd t z) k
theorem o_cload (X : Stand p l e R s m args below meth c T locs cells slots) (hx : p.tables.exec = Jvm.exec) (hZ : Z.Warmed39 s.vm) (eT : T.heap = h) (F : Arv Z h a ka .char n vs dv) (hd : decode c.code q = .ok (.caload, 1)) (hj : ¬ y < 0 ∧ y < n) (hv : vs.getD y.toNatClampNeg dv = v) (k : o_G p e below K T (mkF m (q + 1) A (v :: S))) : o_G p e below K T (mkF m q A (.int y :: .ref a :: S)) := by
  obtain ⟨cl, F1, F2, F3, F4, F5, F6⟩ := F
  have hin := inb_of F3 hj
  exact o_st (fun t z => X.caload hx (by rw [eT]; exact F1.1) (State.isArrayOf_alike hZ.alike F1.2.1) F1.2.2 hin (F5.at hin hv) (g := mkF m q A (.int y :: .ref a :: S)) rfl rfl hd t z) k
theorem o_iaload (X : Stand p l e R s m args below meth c T locs cells slots) (hx : p.tables.exec = Jvm.exec) (hZ : Z.Warmed39 s.vm) (eT : T.heap = h) (F : Arv Z h a ka .int n vs dv) (hd : decode c.code q = .ok (.iaload, 1)) (hj : ¬ y < 0 ∧ y < n) (hv : vs.getD y.toNatClampNeg dv = v) (k : o_G p e below K T (mkF m (q + 1) A (v :: S))) : o_G p e below K T (mkF m q A (.int y :: .ref a :: S)) := by
  obtain ⟨cl, F1, F2, F3, F4, F5, F6⟩ := F
  have hin := inb_of F3 hj
  exact o_st (fun t z => X.iaload hx (by rw [eT]; exact F1.1) (State.isArrayOf_alike hZ.alike F1.2.1) F1.2.2 hin (F5.at hin hv) (g := mkF m q A (.int y :: .ref a :: S)) rfl rfl hd t z) k
theorem o_alen {ty : FieldType} (X : Stand p l e R s m args below meth c T locs cells slots) (hx : p.tables.exec = Jvm.exec) (hZ : Z.Warmed39 s.vm) (eT : T.heap = h) (F : Arv Z h a ka ty n vs dv) (hd : decode c.code q = .ok (.arraylength, 1)) (k : o_G p e below K T (mkF m (q + 1) A (.int n :: S))) : o_G p e below K T (mkF m q A (.ref a :: S)) := by
  obtain ⟨cl, F1, F2, F3, F4, F5, F6⟩ := F
  refine o_st (g' := mkF m (q + 1) A (.int cl.slots.size.toInt32 :: S)) (fun t z => X.arraylength hx (by rw [eT]; exact F1.1) (State.isArrayOf_alike hZ.alike F1.2.1) (g := mkF m q A (.ref a :: S)) rfl rfl hd t z) ?_
  rw [len_of F3 F4]; exact k
section CallsM
variable {Q : Option Value → Heap → List Loc → Prop} {kc ks W : Nat} {own C : String} {index cnt : Nat} {argsL St : List Value} {b : Addr}
theorem o_iface {xi y : MethodName} (X : Stand p l e R s m args below meth c T locs cells slots) (hx : p.tables.exec = Jvm.exec) (hZ : Z.Warmed39 s.vm) (hown : s.vm.findClass own = some m.cls) (w1 : (Cond.methodLink own index xi).before a0 Z = true) (w2 : (Cond.declares xi).before a0 Z = true) (w3 : (Cond.interfaceMethod xi.cls xi.cls xi.name xi.desc).before args s = true) (w4 : (Cond.selects C xi y).before a0 Z = true) (w5 : (Cond.instanceMethod y).before a0 Z = true) (w6 : (Cond.publicMethod y).before a0 Z = true) (w7 : (Cond.unhidden C xi.name xi.desc).before a0 Z = true) (w8 : (Cond.castable C xi.cls).before a0 Z = true) (hy : xi.cls ≠ "java/lang/invoke/MethodHandle" ∧ xi.cls ≠ "java/lang/invoke/VarHandle")
    (hK : Back l R p e below s args y 5 W (fun P a => a = (Value.ref b :: argsL).toArray ∧ P.U.heap = h ∧ P.cells + kc ≤ R.cells ∧ P.slots + ks ≤ R.slots) (fun P _ v B => ∃ L, Q v B.U.heap L ∧ B.locs = P.locs ++ L ∧ B.cells = P.cells + kc ∧ B.slots = P.slots + ks))
    (eT : T.heap = h) (E : Exa Z h b C) (hsz : A.size = c.maxLocals) (hlen : ∀ sig, parseMethodDescriptor xi.desc = some sig → argsL.length = sig.parameters.length) (hst : St = argsL.reverse ++ .ref b :: S) (hW : (S.map fun v => v.category).sum ≤ W) (hd : decode c.code q = .ok (.invokeinterface index cnt, 5)) (hc : cells + kc ≤ R.cells) (hs : slots + ks ≤ R.slots)
    (kk : ∀ T' L v, Stand p l e R s m args below meth c T' (locs ++ L) (cells + kc) (slots + ks) → Q v T'.heap L → o_G p e below K T' (mkF m (q + 5) A (v.toList ++ S))) : o_G p e below K T (mkF m q A St) := by
  subst hst
  obtain ⟨cq, kq, q1, q2, q3⟩ := isOf hZ eT E
  obtain ⟨v, _, ⟨T', L', k', n'⟩, -, X', ⟨L, hQ, l1, l2, l3⟩, st⟩ := X.interfaceBack hx hown (mvT hZ w1) (mvT hZ w2) w3 (mvT hZ w4) (mvT hZ w5) (mvT hZ w6) (mvT hZ w7) (mvT hZ w8) hy hK q1 q2 q3 (g := mkF m q A (argsL.reverse ++ .ref b :: S)) rfl hsz (Steps.refl _) (argsL := argsL) (rest := S) hlen rfl (by show 2 * 0 + _ ≤ _; omega) hd (fun _ _ => ⟨rfl, eT, hc, hs⟩)
  dsimp only [Pt.U, Pt.locs, Pt.cells, Pt.slots] at X' l1 l2 l3 st hQ
  subst l1 l2 l3
  exact o_tr st (kk _ _ _ X' hQ)
end CallsM
end OwnM
end Jvm.RoadKit
namespace Jvm.RoadKit
open Sem ClassFile Op Lib Bundle Jvm.Stand Jvm.Free Jvm.LawKit Jvm.Free.SB Jvm.Free.SBG
section OwnH
variable {p : Program} {l : Launch} {e : Env} {R : Room} {s : State} {vm0 : Vm} {m : MethodId} {args : Array Value} {below : List Frame} {meth : Method} {c : Code} {T T' : State} {locs : List Loc} {cells slots : Nat} {K : State → Outcome → Prop} {g g' : JFrame} {A A' : Array Slot} {S : List Value} {q k0 : Nat} {x y : Int32} {v w : Value} {Z : State} {a0 : Array Value} {h h0 : Heap} {EL : List (String × Nat)}
def o_EH (Z : State) (EL : List (String × Nat)) (s : State) (h0 : Heap) (Q : Option Value → Heap → List Loc → Prop) (C N : Nat) (t : State) (o : Outcome) : Prop := ∃ v L, o = .returned v ∧ Q v t.heap L ∧ CHr Z EL s.vm h0 t.vm t.heap ∧ ReturnedEndW s o t L C N
section EndsH
variable {Q : Option Value → Heap → List Loc → Prop} {C N : Nat}
theorem o_retVH (X : Stand p l e R (s.setVm vm0) m args below meth c T locs cells slots) (hx : p.tables.exec = Jvm.exec) (hS : s.Since vm0 k0) (hk : k0 ≤ T.heap.size) (hZ : Z.Warmed39 vm0) (hEL : EW Z a0 EL) (hC : CHr Z EL s.vm h0 vm0 T.heap) (hret : meth.sig.returnType = none) (hlocks : meth.locks = false) (hd : decode c.code q = .ok (.return_, 1)) (hc : cells ≤ C) (hs : slots ≤ N) (hQ : Q none T.heap locs) : o_G p e below (o_EH Z EL s h0 Q C N) T (mkF m q A []) := by
  have hA : CHr Z EL s.vm h0 T.vm T.heap := hC.trans (CHv.at X hZ hEL hC.1)
  obtain ⟨fs, hr, hrun, hended, hW⟩ := X.leaveW hS hk (v := none) (fun _ => rfl) hlocks
  exact ⟨_, _, X.returnOut hx hret hd hr, hrun, hended, _, _, rfl, hQ, hA, o_monoW hW hc hs⟩
theorem o_retNH {t : FieldType} (X : Stand p l e R (s.setVm vm0) m args below meth c T locs cells slots) (hx : p.tables.exec = Jvm.exec) (hS : s.Since vm0 k0) (hk : k0 ≤ T.heap.size) (hZ : Z.Warmed39 vm0) (hEL : EW Z a0 EL) (hC : CHr Z EL s.vm h0 vm0 T.heap) (hret : meth.sig.returnType = some t) (hlocks : meth.locks = false) (ht : t = .boolean ∨ t = .byte ∨ t = .char ∨ t = .short) (hd : decode c.code q = .ok (.ireturn, 1)) (hn : nar t x = x) (hc : cells ≤ C) (hs : slots ≤ N) (hQ : Q (some (.int x)) T.heap locs) : o_G p e below (o_EH Z EL s h0 Q C N) T (mkF m q A (.int x :: S)) := by
  have hA : CHr Z EL s.vm h0 T.vm T.heap := hC.trans (CHv.at X hZ hEL hC.1)
  obtain ⟨fs, hr, hrun, hended, hW⟩ := X.leaveW hS hk (v := some (.int (nar t x))) (fun h => by rw [hret] at h; cases h) hlocks
  refine ⟨_, _, retN X hx hret ht hd hr, hrun, hended, _, _, rfl, ?_, hA, o_monoW hW hc hs⟩
  rw [hn]; exact hQ
theorem o_retAH {t : FieldType} (X : Stand p l e R (s.setVm vm0) m args below meth c T locs cells slots) (hx : p.tables.exec = Jvm.exec) (hS : s.Since vm0 k0) (hk : k0 ≤ T.heap.size) (hZ : Z.Warmed39 vm0) (hEL : EW Z a0 EL) (hC : CHr Z EL s.vm h0 vm0 T.heap) (hret : meth.sig.returnType = some t) (hlocks : meth.locks = false) (ht : t.isReference = true) (hv : v.isRef = true) (hn : narrow t v = v) (hd : decode c.code q = .ok (.areturn, 1)) (hc : cells ≤ C) (hs : slots ≤ N) (hQ : Q (some v) T.heap locs) : o_G p e below (o_EH Z EL s h0 Q C N) T (mkF m q A (v :: S)) := by
  have hA : CHr Z EL s.vm h0 T.vm T.heap := hC.trans (CHv.at X hZ hEL hC.1)
  obtain ⟨fs, hr, hrun, hended, hW⟩ := X.leaveW hS hk (v := some v) (fun h => by rw [hret] at h; cases h) hlocks
  exact ⟨_, _, retOut X hx hret hn (Or.inr (Or.inr (Or.inr (Or.inr ⟨rfl, ht, hv⟩)))) hd hr, hrun, hended, _, _, rfl, hQ, hA, o_monoW hW hc hs⟩
end EndsH
theorem o_ldcH {own text : String} {index n : Nat} {vs : List Value} {z : Int32} (X : Stand p l e R (s.setVm vm0) m args below meth c T locs cells slots) (hx : p.tables.exec = Jvm.exec) (hZ : Z.Warmed39 vm0) (hown : vm0.findClass own = some m.cls) (w : (Cond.stringLink own index text).before a0 Z = true) (wS : ∀ a ∈ Bundle.stringAtoms, a.before a0 Z = true) (eT : T.heap = h) (hS : s.Since vm0 k0) (hk : k0 ≤ h.size) (hEL : EW Z a0 EL) (hmem : (own, index) ∈ EL) (H : CHv Z EL vm0 h)
    (ht : (∀ c ∈ text.toList, c.toNat < 256) ∧ text.toList.map (fun c => Value.int (Jvm.Lit.byteI c.toNat.toUInt16)) = vs) (hz : ¬ z < 0) (hzl : z.toNatClampNeg = vs.length) (hd : decode c.code q = .ok (.ldc index, 2)) (hn : 4 * text.toList.length ≤ n) (hbig : n ≤ 536870912) (hc : cells + 2 ≤ R.cells) (hl : slots + (n + 4) ≤ R.slots)
    (kk : ∀ a b kb T' k1, Stand p l e R (s.setVm T'.vm) m args below meth c T' locs (cells + 2) (slots + (n + 4)) → Ext h T'.heap → s.Since T'.vm k1 → k1 ≤ T'.heap.size → Z.Warmed39 T'.vm → T'.vm.findClass own = some m.cls → Exa Z T'.heap a "java/lang/String" → Fld Z T'.heap a "java/lang/String" "coder" "B" (.int 0) → Fld Z T'.heap a "java/lang/String" "value" "[B" (.ref b) → Arv Z T'.heap b kb .byte z vs (.int 0) → CHr Z EL vm0 h T'.vm T'.heap → Lit (s.setVm T'.vm) own index a → (∀ x, Safe Z EL T'.vm T'.heap x → x ≠ a ∧ x ≠ b) → o_G p e below K T' (mkF m (q + 2) A (.ref a :: S))) : o_G p e below K T (mkF m q A S) := by
  obtain ⟨a, T', h', k1, b, kb, X', e', E, hS', hk', hZ', ho', r1, r2, r3, r4, -, -, r5, r6, r7, st⟩ := ldcCH X hx hZ hown w wS eT hS hk hEL hmem H ht hz hzl (g := mkF m q A S) rfl hd hn hbig hc hl
  subst e'
  exact o_st st (kk a b kb T' k1 X' E hS' hk' hZ' ho' r1 r2 r3 r4 r5 r6 r7)
theorem o_ldcA {own text : String} {index : Nat} {a : Addr} (X : Stand p l e R (s.setVm vm0) m args below meth c T locs cells slots) (hx : p.tables.exec = Jvm.exec) (hZ : Z.Warmed39 vm0) (hown : vm0.findClass own = some m.cls) (w : (Cond.stringLink own index text).before a0 Z = true) (L : Lit (s.setVm vm0) own index a) (hd : decode c.code q = .ok (.ldc index, 2)) (kk : o_G p e below K T (mkF m (q + 2) A (.ref a :: S))) : o_G p e below K T (mkF m q A S) :=
  o_st (fun t z => ldcAgain X hx hZ hown w L (g := mkF m q A S) rfl hd t z) kk
section CallsH
variable {Q : Option Value → Heap → List Loc → Prop} {kc ks W : Nat} {own C : String} {index : Nat} {argsL St : List Value} {b : Addr}
theorem o_initH {bytes : ByteArray} {maxL : Nat} {y : MethodName} (hy1 : y.name = "<init>") (X : Stand p l e R (s.setVm vm0) m args below meth c T locs cells slots) (hx : p.tables.exec = Jvm.exec) (hZ : Z.Warmed39 vm0) (hS : s.Since vm0 k0) (hown : vm0.findClass own = some m.cls) (w1 : (Cond.methodLink own index y).before a0 Z = true) (w2 : (Cond.instanceMethod y).before a0 Z = true) (w4 : (Cond.code y bytes maxL none).before a0 Z = true) (hy : y.cls ≠ "java/lang/invoke/MethodHandle" ∧ y.cls ≠ "java/lang/invoke/VarHandle")
    (hK : BackS l R p e below (s.setVm vm0) args y 3 W (fun P a => a = (Value.ref b :: argsL).toArray ∧ P.U.heap = h ∧ P.cells + kc ≤ R.cells ∧ P.slots + ks ≤ R.slots) (fun P _ v B => ∃ L, Q v B.U.heap L ∧ B.locs = P.locs ++ L ∧ B.cells = P.cells + kc ∧ B.slots = P.slots + ks ∧ CHr Z EL vm0 h B.U.vm B.U.heap))
    (eT : T.heap = h) (hk : k0 ≤ h.size) (hsz : A.size = c.maxLocals) (hlen : ∀ sig, parseMethodDescriptor y.desc = some sig → argsL.length = sig.parameters.length) (hst : St = argsL.reverse ++ .ref b :: S) (hW : (S.map fun v => v.category).sum ≤ W) (hd : decode c.code q = .ok (.invokespecial index, 3)) (hc : cells + kc ≤ R.cells) (hs : slots + ks ≤ R.slots)
    (kk : ∀ T' L v k1, Stand p l e R (s.setVm T'.vm) m args below meth c T' (locs ++ L) (cells + kc) (slots + ks) → s.Since T'.vm k1 → k1 ≤ T'.heap.size → Z.Warmed39 T'.vm → T'.vm.findClass own = some m.cls → Q v T'.heap L → CHr Z EL vm0 h T'.vm T'.heap → o_G p e below K T' (mkF m (q + 3) A (v.toList ++ S))) : o_G p e below K T (mkF m q A St) := by
  subst hst eT
  have hZ1 : Z.Warmed39 (s.setVm vm0).vm := hZ
  obtain ⟨v, _, ⟨T', L', k', n'⟩, -, X', hS', hg', ⟨L, hQ, l1, l2, l3, hC⟩, st⟩ := X.specialBackS hx hy1 (show (s.setVm vm0).vm.findClass own = some m.cls from hown) (mvT hZ1 w1) (mvT hZ1 w2) (mvT hZ1 w4) hy hK (g := mkF m q A (argsL.reverse ++ .ref b :: S)) rfl hsz (Steps.refl _) (a := b) (argsL := argsL) (rest := S) hlen rfl (by show 2 * 0 + _ ≤ _; omega) hd (fun _ _ => ⟨rfl, rfl, hc, hs⟩)
  dsimp only [Pt.U, Pt.locs, Pt.cells, Pt.slots] at X' l1 l2 l3 st hQ hS' hg' hC
  subst l1 l2 l3
  obtain ⟨X2, hS2, hZ2, ho2⟩ := rebS hS hk X' hS' hg' hZ1 (show (s.setVm vm0).vm.findClass own = some m.cls from hown)
  exact o_tr st (kk _ _ _ _ X2 hS2 (Nat.le_refl _) hZ2 ho2 hQ hC)
theorem o_staticH {bytes : ByteArray} {maxL : Nat} {ret : Option FieldType} {y : MethodName} (X : Stand p l e R (s.setVm vm0) m args below meth c T locs cells slots) (hx : p.tables.exec = Jvm.exec) (hZ : Z.Warmed39 vm0) (hS : s.Since vm0 k0) (hown : vm0.findClass own = some m.cls) (w1 : (Cond.methodLink own index y).before a0 Z = true) (w2 : (Cond.static y).before a0 Z = true) (w3 : (Cond.initialized y.cls).before a0 Z = true) (w4 : (Cond.code y bytes maxL ret).before a0 Z = true) (hy : y.cls ≠ "java/lang/invoke/MethodHandle" ∧ y.cls ≠ "java/lang/invoke/VarHandle")
    (hK : BackS l R p e below (s.setVm vm0) args y 3 W (fun P a => a = argsL.toArray ∧ P.U.heap = h ∧ P.cells + kc ≤ R.cells ∧ P.slots + ks ≤ R.slots) (fun P _ v B => ∃ L, Q v B.U.heap L ∧ B.locs = P.locs ++ L ∧ B.cells = P.cells + kc ∧ B.slots = P.slots + ks ∧ CHr Z EL vm0 h B.U.vm B.U.heap))
    (eT : T.heap = h) (hk : k0 ≤ h.size) (hsz : A.size = c.maxLocals) (hlen : ∀ sig, parseMethodDescriptor y.desc = some sig → argsL.length = sig.parameters.length) (hst : St = argsL.reverse ++ S) (hW : (S.map fun v => v.category).sum ≤ W) (hd : decode c.code q = .ok (.invokestatic index, 3)) (hc : cells + kc ≤ R.cells) (hs : slots + ks ≤ R.slots)
    (kk : ∀ T' L v k1, Stand p l e R (s.setVm T'.vm) m args below meth c T' (locs ++ L) (cells + kc) (slots + ks) → s.Since T'.vm k1 → k1 ≤ T'.heap.size → Z.Warmed39 T'.vm → T'.vm.findClass own = some m.cls → Q v T'.heap L → CHr Z EL vm0 h T'.vm T'.heap → o_G p e below K T' (mkF m (q + 3) A (v.toList ++ S))) : o_G p e below K T (mkF m q A St) := by
  subst hst eT
  have hZ1 : Z.Warmed39 (s.setVm vm0).vm := hZ
  obtain ⟨v, _, ⟨T', L', k', n'⟩, -, X', hS', hg', ⟨L, hQ, l1, l2, l3, hC⟩, st⟩ := callSS X hx (show (s.setVm vm0).vm.findClass own = some m.cls from hown) (mvT hZ1 w1) (mvT hZ1 w2) (mvT hZ1 w3) (mvT hZ1 w4) hy hK (g := mkF m q A (argsL.reverse ++ S)) rfl hsz hlen rfl (by show 2 * 0 + _ ≤ _; omega) hd (fun _ _ => ⟨rfl, rfl, hc, hs⟩)
  dsimp only [Pt.U, Pt.locs, Pt.cells, Pt.slots] at X' l1 l2 l3 st hQ hS' hg' hC
  subst l1 l2 l3
  obtain ⟨X2, hS2, hZ2, ho2⟩ := rebS hS hk X' hS' hg' hZ1 (show (s.setVm vm0).vm.findClass own = some m.cls from hown)
  exact o_tr st (kk _ _ _ _ X2 hS2 (Nat.le_refl _) hZ2 ho2 hQ hC)
theorem o_virtualH {y z : MethodName} (X : Stand p l e R (s.setVm vm0) m args below meth c T locs cells slots) (hx : p.tables.exec = Jvm.exec) (hZ : Z.Warmed39 vm0) (hS : s.Since vm0 k0) (hown : vm0.findClass own = some m.cls) (w1 : (Cond.methodLink own index y).before a0 Z = true) (w2 : (Cond.declares y).before a0 Z = true) (hnf : NotFace (s.setVm vm0) y) (w3 : (Cond.selects C y z).before a0 Z = true) (w4 : (Cond.instanceMethod z).before a0 Z = true) (hy : y.cls ≠ "java/lang/invoke/MethodHandle" ∧ y.cls ≠ "java/lang/invoke/VarHandle")
    (hK : BackS l R p e below (s.setVm vm0) args z 3 W (fun P a => a = (Value.ref b :: argsL).toArray ∧ P.U.heap = h ∧ P.cells + kc ≤ R.cells ∧ P.slots + ks ≤ R.slots) (fun P _ v B => ∃ L, Q v B.U.heap L ∧ B.locs = P.locs ++ L ∧ B.cells = P.cells + kc ∧ B.slots = P.slots + ks ∧ CHr Z EL vm0 h B.U.vm B.U.heap))
    (eT : T.heap = h) (hk : k0 ≤ h.size) (E : Exa Z h b C) (hsz : A.size = c.maxLocals) (hlen : ∀ sig, parseMethodDescriptor y.desc = some sig → argsL.length = sig.parameters.length) (hst : St = argsL.reverse ++ .ref b :: S) (hW : (S.map fun v => v.category).sum ≤ W) (hd : decode c.code q = .ok (.invokevirtual index, 3)) (hc : cells + kc ≤ R.cells) (hs : slots + ks ≤ R.slots)
    (kk : ∀ T' L v k1, Stand p l e R (s.setVm T'.vm) m args below meth c T' (locs ++ L) (cells + kc) (slots + ks) → s.Since T'.vm k1 → k1 ≤ T'.heap.size → Z.Warmed39 T'.vm → T'.vm.findClass own = some m.cls → Q v T'.heap L → CHr Z EL vm0 h T'.vm T'.heap → o_G p e below K T' (mkF m (q + 3) A (v.toList ++ S))) : o_G p e below K T (mkF m q A St) := by
  subst hst eT
  have hZ1 : Z.Warmed39 (s.setVm vm0).vm := hZ
  obtain ⟨cq, kq, q1, q2, q3⟩ := isOf (s := s.setVm vm0) hZ1 rfl E
  obtain ⟨v, _, ⟨T', L', k', n'⟩, -, X', hS', hg', ⟨L, hQ, l1, l2, l3, hC⟩, st⟩ := X.virtualBackS hx (show (s.setVm vm0).vm.findClass own = some m.cls from hown) (mvT hZ1 w1) (mvT hZ1 w2) hnf (mvT hZ1 w3) (mvT hZ1 w4) hy hK q1 q3 (g := mkF m q A (argsL.reverse ++ .ref b :: S)) rfl hsz (Steps.refl _) (argsL := argsL) (rest := S) hlen rfl (by show 2 * 0 + _ ≤ _; omega) hd (fun _ _ => ⟨rfl, rfl, hc, hs⟩)
  dsimp only [Pt.U, Pt.locs, Pt.cells, Pt.slots] at X' l1 l2 l3 st hQ hS' hg' hC
  subst l1 l2 l3
  obtain ⟨X2, hS2, hZ2, ho2⟩ := rebS hS hk X' hS' hg' hZ1 (show (s.setVm vm0).vm.findClass own = some m.cls from hown)
  exact o_tr st (kk _ _ _ _ X2 hS2 (Nat.le_refl _) hZ2 ho2 hQ hC)
end CallsH
end OwnH
end Jvm.RoadKit
namespace Jvm.RoadKit
open Sem ClassFile Op Lib Bundle Jvm.Stand Jvm.Free Jvm.LawKit Jvm.Free.SB Jvm.Free.SBG
section OwnH2
variable {p : Program} {l : Launch} {e : Env} {R : Room} {s : State} {vm0 vm : Vm} {m : MethodId} {args : Array Value} {below : List Frame} {meth : Method} {c : Code} {T : State} {locs : List Loc} {cells slots : Nat} {K : State → Outcome → Prop} {g : JFrame} {Z : State} {h : Heap} {EL : List (String × Nat)} {x : Addr} {own : String} {n0 : Nat}
/-- a String whose value is not yet laid is no booked one -/
theorem o_safeN (hal : Z.vm.Alike vm) (E : Exa Z h x "java/lang/String") (F : Fld Z h x "java/lang/String" "value" "[B" .null) : Safe Z EL vm h x := fun B => by
  obtain ⟨p, -, u, a, -, q, -, G, rfl | rfl⟩ := B
  · obtain ⟨cell, cf, k, i, f, h1, h2, h3, h4, h5, h6, h7⟩ := F
    cases (show h[q.sa]? = some q.sC from G.ha).symm.trans h1
    obtain ⟨cS, ⟨⟨-, -, -, ⟨c1, k1, i1, f1, -⟩, -, -, -, v1, -⟩, -⟩, -⟩ := G
    obtain ⟨k3, e3, -⟩ := State.fieldFound?_setVm (s := Z) hal h2
    have e4 := (show (Wst Z vm h).fieldFound? _ _ _ = _ from e3).symm.trans f1
    simp only [Option.some.injEq, Prod.mk.injEq] at e4
    rw [← e4.2.2.2, h7] at v1
    cases v1
  · obtain ⟨cell, k, e1, e2, e3, -, -⟩ := E
    cases (show h[q.sd]? = some q.SA from G.hd).symm.trans e1
    obtain ⟨cS, -, -, f, -⟩ := G
    rw [show (Wst Z vm h).vm = vm from rfl, hal.findClass] at f
    obtain ⟨k1, q1, q2⟩ := Vm.findClass_spec f
    obtain ⟨k2, q3, q4⟩ := Vm.findClass_spec e2
    cases q1.symm.trans q3
    exact absurd (q4.symm.trans q2) (by decide)
theorem o_joinH {α : Type} {P : Heap → α → Prop} {F : α → JFrame} {C N : Nat} (X : Stand p l e R (s.setVm vm0) m args below meth c T locs cells slots) (hZ : Z.Warmed39 vm0) (hown : vm0.findClass own = some m.cls) (hN : Fr n0 locs)
    (kJ : ∀ T' locs' vm' k', Stand p l e R (s.setVm vm') m args below meth c T' locs' C N → s.Since vm' k' → k' ≤ T'.heap.size → Z.Warmed39 vm' → vm'.findClass own = some m.cls → Fr n0 locs' → Old Z n0 T'.heap → ∀ a, P T'.heap a → o_G p e below K T' (F a))
    (kB : (∀ T' locs' vm' k', Stand p l e R (s.setVm vm') m args below meth c T' locs' C N → s.Since vm' k' → k' ≤ T'.heap.size → Z.Warmed39 vm' → vm'.findClass own = some m.cls → Fr n0 locs' → Old Z n0 T'.heap → ∀ a, P T'.heap a → o_G p e below K T' (F a)) → o_G p e below K T g) : o_G p e below K T g := kB kJ
end OwnH2
end Jvm.RoadKit
namespace Jvm.RoadKit
open Sem ClassFile Op Lib Bundle Jvm.Stand Jvm.Free Jvm.LawKit Jvm.Free.SB Jvm.Free.SBG
section OwnC
variable {p : Program} {l : Launch} {e : Env} {R : Room} {s : State} {m : MethodId} {args : Array Value} {below : List Frame} {meth : Method} {c : Code} {T T' : State} {locs : List Loc} {cells slots : Nat} {K : State → Outcome → Prop} {A : Array Slot} {S : List Value} {q : Nat} {x y z : Int32} {v w : Value} {Z : State} {a0 : Array Value} {h : Heap} {a : Addr} {own : String} {index : Nat}
theorem o_getS {R0 O n d host : String} (X : Stand p l e R s m args below meth c T locs cells slots) (hx : p.tables.exec = Jvm.exec) (hZ : Z.Warmed39 s.vm) (hown : s.vm.findClass own = some m.cls) (w : (Cond.fieldLink own index R0 n d).before a0 Z = true ∨ (Cond.fieldLinkNest own index R0 n d host).before a0 Z = true) (via : Via Z R0 O n d) (eT : T.heap = h) (F : Sta Z h O n d v) (hd : decode c.code q = .ok (.getstatic index, 3)) (kk : ∀ T', Stand p l e R s m args below meth c T' locs cells slots → T'.heap = h → o_G p e below K T' (mkF m (q + 3) A (v :: S))) : o_G p e below K T (mkF m q A S) := by
  obtain ⟨T', X', e', st⟩ := getS2 X hx hZ hown w via eT F (g := mkF m q A S) rfl hd
  exact o_st st (kk T' X' e')
theorem o_getF {R0 O n d host : String} (X : Stand p l e R s m args below meth c T locs cells slots) (hx : p.tables.exec = Jvm.exec) (hZ : Z.Warmed39 s.vm) (hown : s.vm.findClass own = some m.cls) (w : (Cond.fieldLink own index R0 n d).before a0 Z = true ∨ (Cond.fieldLinkNest own index R0 n d host).before a0 Z = true) (via : Via Z R0 O n d) (eT : T.heap = h) (F : Fld Z h a O n d v) (hd : decode c.code q = .ok (.getfield index, 3)) (kk : ∀ T', Stand p l e R s m args below meth c T' locs cells slots → T'.heap = h → o_G p e below K T' (mkF m (q + 3) A (v :: S))) : o_G p e below K T (mkF m q A (.ref a :: S)) := by
  obtain ⟨T', X', e', st⟩ := getF X hx hZ hown w via eT F (g := mkF m q A (.ref a :: S)) rfl rfl hd
  exact o_st st (kk T' X' e')
theorem o_putF {R0 O n d host C : String} {kk : Nat} {ty : FieldType} {old : Value} (X : Stand p l e R s m args below meth c T locs cells slots) (hx : p.tables.exec = Jvm.exec) (hZ : Z.Warmed39 s.vm) (hown : s.vm.findClass own = some m.cls) (w : (Cond.fieldLink own index R0 n d).before a0 Z = true ∨ (Cond.fieldLinkNest own index R0 n d host).before a0 Z = true) (via : Via Z R0 O n d) (eT : T.heap = h) (F : Fld Z h a O n d old) (E : Exa Z h a C) (L : (Cond.lays C O n d).before a0 Z = true ∨ ((Cond.laysFinal C O n d).before a0 Z = true ∧ own = O ∧ meth.name = "<init>")) (wi : (Cond.instantiable C kk).before a0 Z = true) (hty : parseFieldDescriptor d = some ty) (hn : narrow ty v = v) (hf : fits ty v = true) (hd : decode c.code q = .ok (.putfield index, 3))
    (k : ∀ T' h', Stand p l e R s m args below meth c T' (locs ++ [⟨a, slotOf Z O n d⟩]) cells slots → T'.heap = h' → Wr h h' a (slotOf Z O n d) v → o_G p e below K T' (mkF m (q + 3) A S)) : o_G p e below K T (mkF m q A (v :: .ref a :: S)) := by
  obtain ⟨T', h', X', e', W, st⟩ := putF X hx hZ hown w via eT F E L wi hty hn hf (g := mkF m q A (v :: .ref a :: S)) rfl rfl hd
  exact o_st st (k T' h' X' e' W)
theorem o_putFN {R0 O n d C : String} {kk : Nat} {ty : FieldType} {old v' : Value} (X : Stand p l e R s m args below meth c T locs cells slots) (hx : p.tables.exec = Jvm.exec) (hZ : Z.Warmed39 s.vm) (hown : s.vm.findClass own = some m.cls) (w : (Cond.fieldLink own index R0 n d).before a0 Z = true) (via : Via Z R0 O n d) (eT : T.heap = h) (F : Fld Z h a O n d old) (E : Exa Z h a C) (L : (Cond.lays C O n d).before a0 Z = true ∨ ((Cond.laysFinal C O n d).before a0 Z = true ∧ own = O ∧ meth.name = "<init>")) (wi : (Cond.instantiable C kk).before a0 Z = true) (hty : parseFieldDescriptor d = some ty) (hn : narrow ty v = v') (hf : fits ty v' = true) (hd : decode c.code q = .ok (.putfield index, 3))
    (k : ∀ T' h', Stand p l e R s m args below meth c T' (locs ++ [⟨a, slotOf Z O n d⟩]) cells slots → T'.heap = h' → Wr h h' a (slotOf Z O n d) v' → o_G p e below K T' (mkF m (q + 3) A S)) : o_G p e below K T (mkF m q A (v :: .ref a :: S)) := by
  obtain ⟨T', h', X', e', W, st⟩ := putFN X hx hZ hown w via eT F E L wi hty hn hf (g := mkF m q A (v :: .ref a :: S)) rfl rfl hd
  exact o_st st (k T' h' X' e' W)
theorem o_new {C : String} {n : Nat} (X : Stand p l e R s m args below meth c T locs cells slots) (hx : p.tables.exec = Jvm.exec) (hZ : Z.Warmed39 s.vm) (hown : s.vm.findClass own = some m.cls) (w : (Cond.classLink own index C).before a0 Z = true) (wi : (Cond.instantiable C n).before a0 Z = true) (wz : (Cond.initialized C).before a0 Z = true) (eT : T.heap = h) (hd : decode c.code q = .ok (.new index, 3)) (hc : cells + 1 ≤ R.cells) (hl : slots + n ≤ R.slots)
    (k : ∀ T' h' b, Stand p l e R s m args below meth c T' locs (cells + 1) (slots + n) → T'.heap = h' → b = h.size → Ext h h' → Exa Z h' b C → (∀ {O nm d : String} {ty : FieldType}, Laid Z a0 C O nm d → parseFieldDescriptor d = some ty → Fld Z h' b O nm d (defaultValue ty)) → o_G p e below K T' (mkF m (q + 3) A (.ref b :: S))) : o_G p e below K T (mkF m q A S) := by
  obtain ⟨T', h', X', e', E, E2, D, -, st⟩ := newO X hx hZ hown w wi wz eT (g := mkF m q A S) rfl hd hc hl
  exact o_st st (k T' h' _ X' e' rfl E E2 D)
theorem o_newA {aty : ArrayType} {cap : Nat} (X : Stand p l e R s m args below meth c T locs cells slots) (hx : p.tables.exec = Jvm.exec) (hZ : Z.Warmed39 s.vm) (w : (Cond.arrayClass (newarray.typeOf aty)).before a0 Z = true) (eT : T.heap = h) (hd : decode c.code q = .ok (.newarray aty, 2)) (hn : ¬ x < 0) (hcap : x.toNatClampNeg ≤ cap) (hb : cap * 8 ≤ 536870912) (hc : cells + 1 ≤ R.cells) (hl : slots + cap ≤ R.slots)
    (k : ∀ T' h' ka b, Stand p l e R s m args below meth c T' locs (cells + 1) (slots + cap) → T'.heap = h' → b = h.size → Ext h h' → Arv Z h' b ka (newarray.typeOf aty) x [] (defaultValue (newarray.typeOf aty)) → o_G p e below K T' (mkF m (q + 2) A (.ref b :: S))) : o_G p e below K T (mkF m q A (.int x :: S)) := by
  obtain ⟨T', h', ka, X', e', E, A', st⟩ := newP X hx hZ w eT (g := mkF m q A (.int x :: S)) rfl hd rfl hn hcap hb hc hl
  exact o_st st (k T' h' ka _ X' e' rfl E (Arv.new A' hn))
section Sto
variable {ka : ClassId} {n : Int32} {vs : List Value} {dv : Value} {i : Nat}
theorem o_stC (X : Stand p l e R s m args below meth c T locs cells slots) (hx : p.tables.exec = Jvm.exec) (hZ : Z.Warmed39 s.vm) (eT : T.heap = h) (F : Arv Z h a ka .char n vs dv) (hd : decode c.code q = .ok (.castore, 1)) (hj : ¬ y < 0 ∧ y < n) (hi : y.toNatClampNeg = i) (hl : i < vs.length) (hn : nar .char x = z)
    (k : ∀ T' h', Stand p l e R s m args below meth c T' (locs ++ [⟨a, y.toNatClampNeg⟩]) cells slots → T'.heap = h' → Wr h h' a y.toNatClampNeg (.int z) → Arv Z h' a ka .char n (vs.set i (.int z)) dv → o_G p e below K T' (mkF m (q + 1) A S)) : o_G p e below K T (mkF m q A (.int x :: .int y :: .ref a :: S)) := by
  obtain ⟨cl, F1, F2, F3, F4, F5, F6⟩ := F
  obtain ⟨T', h', X', e', W, st⟩ := stC X hx hZ eT F1 (inb_of F3 hj) (g := mkF m q A (.int x :: .int y :: .ref a :: S)) rfl rfl hd
  have W' := W
  rw [hn] at W'
  have hf := fits_nar_char x
  rw [hn] at hf
  exact o_st st (k T' h' X' e' W' (Arv.set F1 F2 F3 F4 F5 F6 hf W' i hi hl))
theorem o_stB (X : Stand p l e R s m args below meth c T locs cells slots) (hx : p.tables.exec = Jvm.exec) (hZ : Z.Warmed39 s.vm) (eT : T.heap = h) (F : Arv Z h a ka .byte n vs dv) (hd : decode c.code q = .ok (.bastore, 1)) (hj : ¬ y < 0 ∧ y < n) (hi : y.toNatClampNeg = i) (hl : i < vs.length) (hn : nar .byte x = z)
    (k : ∀ T' h', Stand p l e R s m args below meth c T' (locs ++ [⟨a, y.toNatClampNeg⟩]) cells slots → T'.heap = h' → Wr h h' a y.toNatClampNeg (.int z) → Arv Z h' a ka .byte n (vs.set i (.int z)) dv → o_G p e below K T' (mkF m (q + 1) A S)) : o_G p e below K T (mkF m q A (.int x :: .int y :: .ref a :: S)) := by
  obtain ⟨cl, F1, F2, F3, F4, F5, F6⟩ := F
  obtain ⟨T', h', X', e', W, st⟩ := stB X hx hZ eT F1 (inb_of F3 hj) (g := mkF m q A (.int x :: .int y :: .ref a :: S)) rfl rfl hd
  have W' := W
  rw [hn] at W'
  have hf := fits_nar_byte x
  rw [show x.toInt8.toInt32 = z from hn] at hf
  exact o_st st (k T' h' X' e' W' (Arv.set F1 F2 F3 F4 F5 F6 hf W' i hi hl))
theorem o_stI (X : Stand p l e R s m args below meth c T locs cells slots) (hx : p.tables.exec = Jvm.exec) (hZ : Z.Warmed39 s.vm) (eT : T.heap = h) (F : Arv Z h a ka .int n vs dv) (hd : decode c.code q = .ok (.iastore, 1)) (hj : ¬ y < 0 ∧ y < n) (hi : y.toNatClampNeg = i) (hl : i < vs.length)
    (k : ∀ T' h', Stand p l e R s m args below meth c T' (locs ++ [⟨a, y.toNatClampNeg⟩]) cells slots → T'.heap = h' → Wr h h' a y.toNatClampNeg (.int x) → Arv Z h' a ka .int n (vs.set i (.int x)) dv → o_G p e below K T' (mkF m (q + 1) A S)) : o_G p e below K T (mkF m q A (.int x :: .int y :: .ref a :: S)) := by
  obtain ⟨cl, F1, F2, F3, F4, F5, F6⟩ := F
  obtain ⟨T', h', X', e', W, st⟩ := stI X hx hZ eT F1 (inb_of F3 hj) (g := mkF m q A (.int x :: .int y :: .ref a :: S)) rfl rfl hd
  exact o_st st (k T' h' X' e' W (Arv.set F1 F2 F3 F4 F5 F6 rfl W i hi hl))
end Sto
theorem o_initO {W : Nat} (X : Stand p l e R s m args below meth c T locs cells slots) (hx : p.tables.exec = Jvm.exec) (hZ : Z.Warmed39 s.vm) (hown : s.vm.findClass own = some m.cls) (w1 : (Cond.methodLink own index Lib.objectInit).before a0 Z = true) (w2 : (Cond.instanceMethod Lib.objectInit).before a0 Z = true) (w3 : (Cond.code Lib.objectInit ⟨#[0xb1]⟩ 1 none).before a0 Z = true) (eT : T.heap = h) (hsz : A.size = c.maxLocals) (hd : decode c.code q = .ok (.invokespecial index, 3)) (hf : 1 ≤ R.frames) (hW : (S.map fun v => v.category).sum ≤ W) (hl : W + 12 ≤ R.locals)
    (kk : ∀ T', Stand p l e R s m args below meth c T' locs cells slots → T'.heap = h → o_G p e below K T' (mkF m (q + 3) A S)) : o_G p e below K T (mkF m q A (.ref a :: S)) := by
  obtain ⟨T', X', e', st⟩ := initO X hx hZ hown w1 w2 w3 eT (g := mkF m q A (.ref a :: S)) rfl hsz rfl hd hf (W := W) (by show 2 * 0 + _ ≤ _; omega) hl
  exact o_st st (kk T' X' e')
theorem o_instY {Kn : String} (X : Stand p l e R s m args below meth c T locs cells slots) (hx : p.tables.exec = Jvm.exec) (hZ : Z.Warmed39 s.vm) (hown : s.vm.findClass own = some m.cls) (w : (Cond.classLink own index Kn).before a0 Z = true) (eT : T.heap = h) (F : Ins Z h a Kn true) (hd : decode c.code q = .ok (.instanceof index, 3)) (kk : ∀ T', Stand p l e R s m args below meth c T' locs cells slots → T'.heap = h → o_G p e below K T' (mkF m (q + 3) A (.int 1 :: S))) : o_G p e below K T (mkF m q A (.ref a :: S)) := by
  obtain ⟨T', X', e', st⟩ := instY X hx hZ hown w eT F (g := mkF m q A (.ref a :: S)) rfl rfl hd
  exact o_st st (kk T' X' e')
theorem o_castY {Kn : String} (X : Stand p l e R s m args below meth c T locs cells slots) (hx : p.tables.exec = Jvm.exec) (hZ : Z.Warmed39 s.vm) (hown : s.vm.findClass own = some m.cls) (w : (Cond.classLink own index Kn).before a0 Z = true) (eT : T.heap = h) (F : Ins Z h a Kn true) (hd : decode c.code q = .ok (.checkcast index, 3)) (kk : ∀ T', Stand p l e R s m args below meth c T' locs cells slots → T'.heap = h → o_G p e below K T' (mkF m (q + 3) A (.ref a :: S))) : o_G p e below K T (mkF m q A (.ref a :: S)) := by
  obtain ⟨T', X', e', st⟩ := castY X hx hZ hown w eT F (g := mkF m q A (.ref a :: S)) rfl rfl hd
  exact o_st st (kk T' X' e')
theorem o_fresh {n0 : Nat} {b : Addr} (O : Old Z n0 h) (g : b = h.size) : n0 ≤ b := by rw [g, ← O.1]; exact O.2.1
theorem o_size {n0 : Nat} (O : Old Z n0 h) : n0 ≤ h.size := by rw [← O.1]; exact O.2.1
theorem o_hQ {Q : Option Value → Heap → List Loc → Prop} {v : Option Value} {T : State} {h : Heap} {L : List Loc} (e : T.heap = h) (hq : Q v h L) : Q v T.heap L := e ▸ hq
theorem o_b {a b : Nat} (h : Nat.ble a b = true) : a ≤ b := Nat.le_of_ble_eq_true h
abbrev vI (x : Int32) : Slot := .val (.int x)
abbrev vR (x : Addr) : Slot := .val (.ref x)
section Autos
variable {Q : Option Value → Heap → List Loc → Prop} {kc ks W : Nat} {C : String} {argsL St : List Value} {b : Addr}
theorem o_vir {ml : Nat} {y : MethodName} (X : Stand p l e R s m args below meth c T locs cells slots) (hx : p.tables.exec = Jvm.exec) (hZ : Z.Warmed39 s.vm) (hown : s.vm.findClass own = some m.cls) (w1 : (Cond.methodLink own index y).before a0 Z = true) (w2 : (Cond.declares y).before a0 Z = true) (w3 : (Cond.selects C y y).before a0 Z = true) (w4 : (Cond.instanceMethod y).before a0 Z = true) (hK : Back l R p e below s args y 3 W (fun P a => a = (Value.ref b :: argsL).toArray ∧ P.U.heap = h ∧ P.cells + kc ≤ R.cells ∧ P.slots + ks ≤ R.slots) (fun P _ v B => ∃ L, Q v B.U.heap L ∧ B.locs = P.locs ++ L ∧ B.cells = P.cells + kc ∧ B.slots = P.slots + ks)) (eT : T.heap = h) (E : Exa Z h b C) (hml : c.maxLocals = ml) (hlen : ∀ sig, parseMethodDescriptor y.desc = some sig → argsL.length = sig.parameters.length) (hd : decode c.code q = .ok (.invokevirtual index, 3))
    (kk : ∀ T' L v, Stand p l e R s m args below meth c T' (locs ++ L) (cells + kc) (slots + ks) → Q v T'.heap L → o_G p e below K T' (mkF m (q + 3) A (v.toList ++ S)))
    (hy : y.cls ≠ "java/lang/invoke/MethodHandle" ∧ y.cls ≠ "java/lang/invoke/VarHandle" := by decide) (hsz : A.size = ml := by rfl) (hst : St = argsL.reverse ++ .ref b :: S := by rfl) (hW : (S.map fun v => v.category).sum ≤ W := by exact Nat.le_of_eq rfl) (hc : cells + kc ≤ R.cells := by decide) (hs : slots + ks ≤ R.slots := by decide) : o_G p e below K T (mkF m q A St) :=
  o_virtual X hx hZ hown w1 w2 (notFace_of_selects (args := #[]) (mvT hZ w3)) w3 w4 hy hK eT E (hsz.trans hml.symm) hlen hst hW hd hc hs kk
theorem o_sta {bytes : ByteArray} {maxL ml : Nat} {ret : Option FieldType} {y : MethodName} (X : Stand p l e R s m args below meth c T locs cells slots) (hx : p.tables.exec = Jvm.exec) (hZ : Z.Warmed39 s.vm) (hown : s.vm.findClass own = some m.cls) (w1 : (Cond.methodLink own index y).before a0 Z = true) (w2 : (Cond.static y).before a0 Z = true) (w3 : (Cond.initialized y.cls).before a0 Z = true) (w4 : (Cond.code y bytes maxL ret).before a0 Z = true) (hK : Back l R p e below s args y 3 W (fun P a => a = argsL.toArray ∧ P.U.heap = h ∧ P.cells + kc ≤ R.cells ∧ P.slots + ks ≤ R.slots) (fun P _ v B => ∃ L, Q v B.U.heap L ∧ B.locs = P.locs ++ L ∧ B.cells = P.cells + kc ∧ B.slots = P.slots + ks)) (eT : T.heap = h) (hml : c.maxLocals = ml) (hlen : ∀ sig, parseMethodDescriptor y.desc = some sig → argsL.length = sig.parameters.length) (hd : decode c.code q = .ok (.invokestatic index, 3))
    (kk : ∀ T' L v, Stand p l e R s m args below meth c T' (locs ++ L) (cells + kc) (slots + ks) → Q v T'.heap L → o_G p e below K T' (mkF m (q + 3) A (v.toList ++ S)))
    (hy : y.cls ≠ "java/lang/invoke/MethodHandle" ∧ y.cls ≠ "java/lang/invoke/VarHandle" := by decide) (hsz : A.size = ml := by rfl) (hst : St = argsL.reverse ++ S := by rfl) (hW : (S.map fun v => v.category).sum ≤ W := by exact Nat.le_of_eq rfl) (hc : cells + kc ≤ R.cells := by decide) (hs : slots + ks ≤ R.slots := by decide) : o_G p e below K T (mkF m q A St) :=
  o_static X hx hZ hown w1 w2 w3 w4 hy hK eT (hsz.trans hml.symm) hlen hst hW hd hc hs kk
theorem o_ini {bytes : ByteArray} {maxL ml : Nat} {y : MethodName} (hy1 : y.name = "<init>") (X : Stand p l e R s m args below meth c T locs cells slots) (hx : p.tables.exec = Jvm.exec) (hZ : Z.Warmed39 s.vm) (hown : s.vm.findClass own = some m.cls) (w1 : (Cond.methodLink own index y).before a0 Z = true) (w2 : (Cond.instanceMethod y).before a0 Z = true) (w4 : (Cond.code y bytes maxL none).before a0 Z = true) (hK : Back l R p e below s args y 3 W (fun P a => a = (Value.ref b :: argsL).toArray ∧ P.U.heap = h ∧ P.cells + kc ≤ R.cells ∧ P.slots + ks ≤ R.slots) (fun P _ v B => ∃ L, Q v B.U.heap L ∧ B.locs = P.locs ++ L ∧ B.cells = P.cells + kc ∧ B.slots = P.slots + ks)) (eT : T.heap = h) (hml : c.maxLocals = ml) (hlen : ∀ sig, parseMethodDescriptor y.desc = some sig → argsL.length = sig.parameters.length) (hd : decode c.code q = .ok (.invokespecial index, 3))
    (kk : ∀ T' L v, Stand p l e R s m args below meth c T' (locs ++ L) (cells + kc) (slots + ks) → Q v T'.heap L → o_G p e below K T' (mkF m (q + 3) A (v.toList ++ S)))
    (hy : y.cls ≠ "java/lang/invoke/MethodHandle" ∧ y.cls ≠ "java/lang/invoke/VarHandle" := by decide) (hsz : A.size = ml := by rfl) (hst : St = argsL.reverse ++ .ref b :: S := by rfl) (hW : (S.map fun v => v.category).sum ≤ W := by exact Nat.le_of_eq rfl) (hc : cells + kc ≤ R.cells := by decide) (hs : slots + ks ≤ R.slots := by decide) : o_G p e below K T (mkF m q A St) :=
  o_init hy1 X hx hZ hown w1 w2 w4 hy hK eT (hsz.trans hml.symm) hlen hst hW hd hc hs kk
theorem o_iF (X : Stand p l e R s m args below meth c T locs cells slots) (hx : p.tables.exec = Jvm.exec) {cd : ClassFile.Cond} {o : Int} {t : Nat} (hd : decode c.code q = .ok (.ifCond cd o, 3)) (kT : ifCond.holds cd x = true → o_G p e below K T (mkF m t A S)) (kF : ifCond.holds cd x = false → o_G p e below K T (mkF m (q + 3) A S)) (ho : 0 ≤ (q : Int) + o := by decide) (ht : ((q : Int) + o).toNat = t := by decide) : o_G p e below K T (mkF m q A (.int x :: S)) := o_if X hx hd ho ht kT kF
theorem o_iFT (X : Stand p l e R s m args below meth c T locs cells slots) (hx : p.tables.exec = Jvm.exec) {cd : ClassFile.Cond} {o : Int} {t : Nat} (hd : decode c.code q = .ok (.ifCond cd o, 3)) (k : o_G p e below K T (mkF m t A S)) (ho : 0 ≤ (q : Int) + o := by decide) (ht : ((q : Int) + o).toNat = t := by decide) (hc : ifCond.holds cd x = true := by decide) : o_G p e below K T (mkF m q A (.int x :: S)) := o_ifT X hx hd ho ht hc k
theorem o_iFF (X : Stand p l e R s m args below meth c T locs cells slots) (hx : p.tables.exec = Jvm.exec) {cd : ClassFile.Cond} {o : Int} (hd : decode c.code q = .ok (.ifCond cd o, 3)) (k : o_G p e below K T (mkF m (q + 3) A S)) (hc : ifCond.holds cd x = false := by decide) : o_G p e below K T (mkF m q A (.int x :: S)) := o_ifF X hx hd hc k
theorem o_iC (X : Stand p l e R s m args below meth c T locs cells slots) (hx : p.tables.exec = Jvm.exec) {cd : ClassFile.Cond} {o : Int} {t : Nat} (hd : decode c.code q = .ok (.if_icmp cd o, 3)) (kT : if_icmp.holds cd x y = true → o_G p e below K T (mkF m t A S)) (kF : if_icmp.holds cd x y = false → o_G p e below K T (mkF m (q + 3) A S)) (ho : 0 ≤ (q : Int) + o := by decide) (ht : ((q : Int) + o).toNat = t := by decide) : o_G p e below K T (mkF m q A (.int y :: .int x :: S)) := o_icmp X hx hd ho ht kT kF
theorem o_iCT (X : Stand p l e R s m args below meth c T locs cells slots) (hx : p.tables.exec = Jvm.exec) {cd : ClassFile.Cond} {o : Int} {t : Nat} (hd : decode c.code q = .ok (.if_icmp cd o, 3)) (k : o_G p e below K T (mkF m t A S)) (ho : 0 ≤ (q : Int) + o := by decide) (ht : ((q : Int) + o).toNat = t := by decide) (hc : if_icmp.holds cd x y = true := by decide) : o_G p e below K T (mkF m q A (.int y :: .int x :: S)) := o_icmpT X hx hd ho ht hc k
theorem o_iCF (X : Stand p l e R s m args below meth c T locs cells slots) (hx : p.tables.exec = Jvm.exec) {cd : ClassFile.Cond} {o : Int} (hd : decode c.code q = .ok (.if_icmp cd o, 3)) (k : o_G p e below K T (mkF m (q + 3) A S)) (hc : if_icmp.holds cd x y = false := by decide) : o_G p e below K T (mkF m q A (.int y :: .int x :: S)) := o_icmpF X hx hd hc k
theorem o_gO (X : Stand p l e R s m args below meth c T locs cells slots) (hx : p.tables.exec = Jvm.exec) {o : Int} {t : Nat} (hd : decode c.code q = .ok (.goto o, 3)) (kk : o_G p e below K T (mkF m t A S)) (ho : 0 ≤ (q : Int) + o := by decide) (ht : ((q : Int) + o).toNat = t := by decide) : o_G p e below K T (mkF m q A S) := o_goto X hx hd ho ht kk
theorem o_ng {a b n : Nat} (h : a < n) (g : b = n) : a ≠ b := by omega
end Autos
end OwnC
section Enter
variable {l : Launch} {Z : State} {h0 : Heap} {y : MethodName} {bytes : ByteArray} {ml : Nat} {ret : Option FieldType} {ws : List Cond} {rm : Room} {as' : Array Value} {Q : Option Value → Heap → List Loc → Prop} {Ls : Array Slot} {EL : List (String × Nat)}
abbrev o_Met (l : Launch) (Z : State) (y : MethodName) (bytes : ByteArray) (ml : Nat) (ret : Option FieldType) (ws : List Cond) (rm : Room) (as' : Array Value) (h0 : Heap) (Q : Option Value → Heap → List Loc → Prop) : Prop := MetFree l y (head1 (Cond.code y bytes ml ret :: ws) rm) (fun a U => a = as' ∧ Z.Warmed39 U.vm ∧ U.heap = h0) (fun _ _ _ _ _ => True) (fun _ U o U' => ∃ v L, o = .returned v ∧ Q v U'.heap L ∧ FrameEnd U o U' L rm.cells rm.slots)
abbrev o_MetW (l : Launch) (Z : State) (y : MethodName) (bytes : ByteArray) (ml : Nat) (ret : Option FieldType) (ws : List Cond) (rm : Room) (as' : Array Value) (h0 : Heap) (Q : Option Value → Heap → List Loc → Prop) : Prop := MetFree l y (head1 (Cond.code y bytes ml ret :: ws) rm) (fun a U => a = as' ∧ Z.Warmed39 U.vm ∧ U.heap = h0) (fun _ _ _ _ _ => True) (fun _ U o U' => ∃ v L, o = .returned v ∧ Q v U'.heap L ∧ ReturnedEndW U o U' L rm.cells rm.slots)
abbrev o_MetH (EL : List (String × Nat)) (l : Launch) (Z : State) (y : MethodName) (bytes : ByteArray) (ml : Nat) (ret : Option FieldType) (ws : List Cond) (rm : Room) (as' : Array Value) (h0 : Heap) (Q : Option Value → Heap → List Loc → Prop) : Prop := MetFree l y (head1 (Cond.code y bytes ml ret :: ws) rm) (fun a U => a = as' ∧ Z.Warmed39 U.vm ∧ U.heap = h0 ∧ CHv Z EL U.vm h0) (fun _ _ _ _ _ => True) (fun _ U o U' => ∃ v L, o = .returned v ∧ Q v U'.heap L ∧ CHr Z EL U.vm U.heap U'.vm U'.heap ∧ ReturnedEndW U o U' L rm.cells rm.slots)
/-- a law's own: the constants are held at its start; of its end only the wide frame is said -/
abbrev o_MetL (EL : List (String × Nat)) (l : Launch) (Z : State) (y : MethodName) (bytes : ByteArray) (ml : Nat) (ret : Option FieldType) (ws : List Cond) (rm : Room) (as' : Array Value) (h0 : Heap) (Q : Option Value → Heap → List Loc → Prop) : Prop := MetFree l y (head1 (Cond.code y bytes ml ret :: ws) rm) (fun a U => a = as' ∧ Z.Warmed39 U.vm ∧ U.heap = h0 ∧ CHv Z EL U.vm h0) (fun _ _ _ _ _ => True) (fun _ U o U' => ∃ v L, o = .returned v ∧ Q v U'.heap L ∧ ReturnedEndW U o U' L rm.cells rm.slots)
theorem o_enterM (hpl : plainFor y = true) (hef : ∀ m, entryFrame m as' ml = mkF m 0 Ls []) (body : ∀ (p : Program) (e : Env) (s : State) (m : MethodId) (below : List Frame) (meth : Method) (c : Code) (s₁ : State), p.tables.exec = Jvm.exec → c.code = bytes → c.maxLocals = ml → Z.Warmed39 s.vm → s.vm.findClass y.cls = some m.cls → meth.name = y.name → meth.locks = false → meth.sig.returnType = ret → Stand p l e rm s m as' below meth c s₁ [] 0 0 → s₁.heap = h0 → o_G p e below (o_E s Q rm.cells rm.slots) s₁ (mkF m 0 Ls [])) : o_Met l Z y bytes ml ret ws rm as' h0 Q := by
  refine MetFree.of_bodySF hpl hisR ?_
  intro p e s m args below meth c s₁ Bd hml hP hK
  obtain ⟨rfl, hZ, hh⟩ := hP
  have hG := body p e s m below meth c s₁ Bd.exec Bd.bytes hml hZ (findClass_of_methodNamed Bd.named) (name_of_methodNamed Bd.named Bd.method).1 (BodyLoose.notSynchronized Bd) Bd.returns (Stand.of_body Bd) (by rw [← hh, Bd.state]; rfl)
  rw [← hef] at hG; exact hG
theorem o_enter (hpl : plainName y.cls = true) (hef : ∀ m, entryFrame m as' ml = mkF m 0 Ls []) (body : ∀ (p : Program) (e : Env) (s : State) (m : MethodId) (below : List Frame) (meth : Method) (c : Code) (s₁ : State), p.tables.exec = Jvm.exec → c.code = bytes → c.maxLocals = ml → Z.Warmed39 s.vm → s.vm.findClass y.cls = some m.cls → meth.name = y.name → meth.locks = false → meth.sig.returnType = ret → Stand p l e rm s m as' below meth c s₁ [] 0 0 → s₁.heap = h0 → o_G p e below (o_E s Q rm.cells rm.slots) s₁ (mkF m 0 Ls [])) : o_Met l Z y bytes ml ret ws rm as' h0 Q := o_enterM (plainFor_of_name hpl) hef body
theorem o_enterW (hpl : plainName y.cls = true) (hef : ∀ m, entryFrame m as' ml = mkF m 0 Ls []) (body : ∀ (p : Program) (e : Env) (s : State) (m : MethodId) (below : List Frame) (meth : Method) (c : Code) (s₁ : State), p.tables.exec = Jvm.exec → c.code = bytes → c.maxLocals = ml → Z.Warmed39 s.vm → s.vm.findClass y.cls = some m.cls → meth.name = y.name → meth.locks = false → meth.sig.returnType = ret → Stand p l e rm (s.setVm s.vm) m as' below meth c s₁ [] 0 0 → s₁.heap = h0 → s.Since s.vm 0 → 0 ≤ h0.size → o_G p e below (o_EW s Q rm.cells rm.slots) s₁ (mkF m 0 Ls [])) : o_MetW l Z y bytes ml ret ws rm as' h0 Q := by
  refine MetFree.of_bodySF (plainFor_of_name hpl) hisR ?_
  intro p e s m args below meth c s₁ Bd hml hP hK
  obtain ⟨rfl, hZ, hh⟩ := hP
  have hG := body p e s m below meth c s₁ Bd.exec Bd.bytes hml hZ (findClass_of_methodNamed Bd.named) (name_of_methodNamed Bd.named Bd.method).1 (BodyLoose.notSynchronized Bd) Bd.returns (Stand.of_body Bd) (by rw [← hh, Bd.state]; rfl) ((State.WarmedH.refl s).since 0) (Nat.zero_le _)
  rw [← hef] at hG; exact hG
theorem o_enterH (hpl : plainName y.cls = true) (hef : ∀ m, entryFrame m as' ml = mkF m 0 Ls []) (body : ∀ (p : Program) (e : Env) (s : State) (m : MethodId) (below : List Frame) (meth : Method) (c : Code) (s₁ : State), p.tables.exec = Jvm.exec → c.code = bytes → c.maxLocals = ml → Z.Warmed39 s.vm → s.vm.findClass y.cls = some m.cls → meth.name = y.name → meth.locks = false → meth.sig.returnType = ret → Stand p l e rm (s.setVm s.vm) m as' below meth c s₁ [] 0 0 → s₁.heap = h0 → s.Since s.vm 0 → 0 ≤ h0.size → CHr Z EL s.vm h0 s.vm h0 → o_G p e below (o_EH Z EL s h0 Q rm.cells rm.slots) s₁ (mkF m 0 Ls [])) : o_MetH EL l Z y bytes ml ret ws rm as' h0 Q := by
  refine MetFree.of_bodySF (plainFor_of_name hpl) hisR ?_
  intro p e s m args below meth c s₁ Bd hml hP hK
  obtain ⟨rfl, hZ, hh, hC⟩ := hP
  have hG := body p e s m below meth c s₁ Bd.exec Bd.bytes hml hZ (findClass_of_methodNamed Bd.named) (name_of_methodNamed Bd.named Bd.method).1 (BodyLoose.notSynchronized Bd) Bd.returns (Stand.of_body Bd) (by rw [← hh, Bd.state]; rfl) ((State.WarmedH.refl s).since 0) (Nat.zero_le _) (CHr.refl hC)
  rw [← hef] at hG
  exact o_mono (K := o_EH Z EL s h0 Q rm.cells rm.slots) (fun t o hq => by rw [hh]; exact hq) hG
theorem o_enterL (hpl : plainName y.cls = true) (hef : ∀ m, entryFrame m as' ml = mkF m 0 Ls []) (body : ∀ (p : Program) (e : Env) (s : State) (m : MethodId) (below : List Frame) (meth : Method) (c : Code) (s₁ : State), p.tables.exec = Jvm.exec → c.code = bytes → c.maxLocals = ml → Z.Warmed39 s.vm → s.vm.findClass y.cls = some m.cls → meth.name = y.name → meth.locks = false → meth.sig.returnType = ret → Stand p l e rm (s.setVm s.vm) m as' below meth c s₁ [] 0 0 → s₁.heap = h0 → s.Since s.vm 0 → 0 ≤ h0.size → CHr Z EL s.vm h0 s.vm h0 → o_G p e below (o_EW s Q rm.cells rm.slots) s₁ (mkF m 0 Ls [])) : o_MetL EL l Z y bytes ml ret ws rm as' h0 Q := by
  refine MetFree.of_bodySF (plainFor_of_name hpl) hisR ?_
  intro p e s m args below meth c s₁ Bd hml hP hK
  obtain ⟨rfl, hZ, hh, hC⟩ := hP
  have hG := body p e s m below meth c s₁ Bd.exec Bd.bytes hml hZ (findClass_of_methodNamed Bd.named) (name_of_methodNamed Bd.named Bd.method).1 (BodyLoose.notSynchronized Bd) Bd.returns (Stand.of_body Bd) (by rw [← hh, Bd.state]; rfl) ((State.WarmedH.refl s).since 0) (Nat.zero_le _) (CHr.refl hC)
  rw [← hef] at hG; exact hG
end Enter
end Jvm.RoadKit
namespace Jvm.RoadKit
open Sem ClassFile Op Lib Bundle Jvm.Stand Jvm.Free Jvm.LawKit Jvm.Free.SB Jvm.Free.SBG
section OwnSafe
variable {Z : State} {a0 : Array Value} {EL : List (String × Nat)} {vm : Vm} {h : Heap} {own text : String} {index zz : Nat}
/-- of each entry of EL: it names a text below 256, of another length than zz -/
def o_EN (Z : State) (a0 : Array Value) (EL : List (String × Nat)) (zz : Nat) : Prop := ∀ p ∈ EL, ∃ text : String, (Cond.stringLink p.1 p.2 text).before a0 Z = true ∧ (∀ c ∈ text.toList, c.toNat < 256) ∧ text.toList.length ≠ zz
theorem o_EN.nil : o_EN Z a0 [] zz := fun _ hp => by cases hp
theorem o_EN.cons (w : (Cond.stringLink own index text).before a0 Z = true) (ht : ∀ c ∈ text.toList, c.toNat < 256) (hn : text.toList.length ≠ zz) (E : o_EN Z a0 EL zz) : o_EN Z a0 ((own, index) :: EL) zz := fun p hp => by
  rcases List.mem_cons.mp hp with rfl | hp
  · exact ⟨text, w, ht, hn⟩
  · exact E p hp
/-- a byte array of another length than each constant's is none of theirs -/
theorem o_safeL {x : Addr} {k : ClassId} {z : Int32} {vs : List Value} {dv : Value} (hZ : Z.Warmed39 vm) (E : o_EN Z a0 EL z.toNatClampNeg) (F : Arv Z h x k .byte z vs dv) : Safe Z EL vm h x := fun B => by
  obtain ⟨cl, ⟨A1, ⟨-, kA, hkA, compA, hkindA⟩, -⟩, -, hsize, -⟩ := F
  have hal := hZ.alike
  obtain ⟨kA', hkA', ekA⟩ := hal.2.2 _ _ hkA
  obtain ⟨p, hp, u, a, hb, q, -, F, rfl | rfl⟩ := B
  · cases (show h[q.sa]? = some q.sC from F.ha).symm.trans A1
    obtain ⟨cS, ⟨-, -, e⟩, ⟨kS, g1, g2, -⟩, -⟩ := F
    subst e
    cases (show vm.classes[q.sC.cls]? = some kS from g1).symm.trans hkA'
    rw [ekA] at g2
    have := hkindA.symm.trans g2
    cases this
  · cases (show h[q.sd]? = some q.SA from F.hd).symm.trans A1
    obtain ⟨cS, -, -, -, hbyt⟩ := F
    obtain ⟨text, wl, ht, hn⟩ := E p hp
    obtain ⟨c, k', cf, i, hc, hk', hcf', hpool, hu, -⟩ := hb
    have wl' : (Cond.stringLink p.1 p.2 text).before a0 (Wst Z vm h) = true := mvS (s := { Z with heap := h }) hZ wl
    obtain ⟨k, cf0, i0, units0, hk, hcf, hp0, hu0, hnm, htext, -⟩ := Cond.stringLink_spec (s := Wst Z vm h) hc wl'
    cases (show vm.classes[c]? = some k from hk).symm.trans hk'
    cases hcf'.symm.trans hcf
    cases hpool.symm.trans hp0
    cases hu.symm.trans hu0
    have hlat := Jvm.ClassFile.lat_of_text htext ht
    have el := Jvm.ClassFile.units_of_text htext ht
    have e1 : q.SA.slots.size = u.size := by rw [hbyt, SBG.stringBytes_lat hlat, Array.size_map]
    have e2 : u.size = text.toList.length := by
      have := congrArg List.length el
      simpa using this
    exact hn (by rw [← e2, ← e1, hsize])
end OwnSafe
section OwnCp
variable {p : Program} {l : Launch} {e : Env} {R : Room} {s : State} {m : MethodId} {args : Array Value} {below : List Frame} {meth : Method} {c : Code} {T T' : State} {locs : List Loc} {cells slots : Nat} {K : State → Outcome → Prop} {A : Array Slot} {S : List Value} {q W n0 : Nat} {Z : State} {a0 : Array Value} {h : Heap} {a b : Addr} {own : String} {index : Nat}
/-- System.arraycopy of bytes: cs from sp on, behind the first vd.length places of b -/
theorem o_cpB {k k' : ClassId} {z z' sp dp nn : Int32} {vs vd us : List Value} (X : Stand p l e R s m args below meth c T locs cells slots) (hx : p.tables.exec = Jvm.exec) (hZ : Z.Warmed39 s.vm) (hown : s.vm.findClass own = some m.cls)
    (w1 : (Cond.methodLink own index Jvm.Stand.acN).before a0 Z = true) (w2 : (Cond.native Jvm.Stand.acN).before a0 Z = true) (w3 : (Cond.static Jvm.Stand.acN).before a0 Z = true) (w4 : (Cond.initialized "java/lang/System").before a0 Z = true) (eT : T.heap = h)
    (F : Arv Z h a k .byte z vs (.int 0)) (G : Arv Z h b k' .byte z' vd (.int 0)) (h1 : ¬ sp < 0) (h2 : ¬ dp < 0) (h3 : ¬ nn < 0) (h4 : sp.toNatClampNeg + nn.toNatClampNeg ≤ z.toNatClampNeg) (h5 : dp.toNatClampNeg + nn.toNatClampNeg ≤ z'.toNatClampNeg)
    (hus : us = (List.range nn.toNatClampNeg).map fun i => vs.getD (sp.toNatClampNeg + i) (.int 0)) (hl : dp.toNatClampNeg = vd.length) (N : Fr n0 locs) (ge : n0 ≤ b) (hsz : A.size = c.maxLocals) (hd : decode c.code q = .ok (.invokestatic index, 3)) (hf : 1 ≤ R.frames) (hW : (S.map fun v => v.category).sum ≤ W) (hlo : W + (nativeFrameWords "java/lang/System" "arraycopy" 5 + 11) ≤ R.locals)
    (kk : ∀ T' h' L, Stand p l e R s m args below meth c T' L cells slots → T'.heap = h' → Fr n0 L → Keep h h' [b] → Arv Z h' b k' .byte z' (vd ++ us) (.int 0) → o_G p e below K T' (mkF m (q + 3) A S)) : o_G p e below K T (mkF m q A (.int nn :: .int dp :: .ref b :: .int sp :: .ref a :: S)) := by
  have Gp : Arv Z h b k' .byte z' (vd ++ List.replicate nn.toNatClampNeg (.int 0)) (.int 0) := G.pad (pad_rep vd (.int 0) nn.toNatClampNeg)
  obtain ⟨T', h', L, X', eh, hN, hK, hA, st⟩ := cpA X hx hZ hown w1 w2 w3 w4 eT (us := us) F Gp (Or.inl ⟨rfl, rfl⟩) h1 h2 h3 h4 h5 hus (by rw [List.length_append, List.length_replicate, hl]; exact Nat.le_refl _) N ge (g := mkF m q A (.int nn :: .int dp :: .ref b :: .int sp :: .ref a :: S)) rfl hsz (rest := S) rfl hd hf (W := W) (by show 2 * 0 + _ ≤ _; omega) hlo
  have e1 : (vd ++ List.replicate nn.toNatClampNeg (Value.int 0)).take dp.toNatClampNeg ++ us ++ (vd ++ List.replicate nn.toNatClampNeg (Value.int 0)).drop (dp.toNatClampNeg + nn.toNatClampNeg) = vd ++ us := by
    rw [hl, List.take_left', List.drop_eq_nil_of_le, List.append_nil]
    · rw [List.length_append, List.length_replicate]; exact Nat.le_refl _
    · rfl
  rw [e1] at hA
  exact o_st st (kk T' h' L X' eh hN hK hA)
/-- a store just behind the first places -/
theorem o_stBp {ka : ClassId} {n x y zz : Int32} {vs : List Value} (X : Stand p l e R s m args below meth c T locs cells slots) (hx : p.tables.exec = Jvm.exec) (hZ : Z.Warmed39 s.vm) (eT : T.heap = h) (F : Arv Z h a ka .byte n vs (.int 0)) (hd : decode c.code q = .ok (.bastore, 1)) (hj : ¬ y < 0 ∧ y < n) (hi : y.toNatClampNeg = vs.length) (hn : nar .byte x = zz)
    (k : ∀ T' h', Stand p l e R s m args below meth c T' (locs ++ [⟨a, y.toNatClampNeg⟩]) cells slots → T'.heap = h' → Wr h h' a y.toNatClampNeg (.int zz) → Arv Z h' a ka .byte n (vs ++ [.int zz]) (.int 0) → o_G p e below K T' (mkF m (q + 1) A S)) : o_G p e below K T (mkF m q A (.int x :: .int y :: .ref a :: S)) := by
  have Fp : Arv Z h a ka .byte n (vs ++ List.replicate 1 (.int 0)) (.int 0) := F.pad (pad_rep vs (.int 0) 1)
  refine o_stB (i := vs.length) X hx hZ eT Fp hd hj hi (by simp) hn (fun T' h' X' e' W V => k T' h' X' e' W ?_)
  have e1 : (vs ++ List.replicate 1 (Value.int 0)).set vs.length (.int zz) = vs ++ [.int zz] := by simp
  rw [e1] at V; exact V
theorem o_decl {y : MethodName} {bytes : ByteArray} {ml : Nat} {ret : Option FieldType} (wi : (Cond.instanceMethod y).before a0 Z = true) (wc : (Cond.code y bytes ml ret).before a0 Z = true) : (Cond.declares y).before a0 Z = true := by
  obtain ⟨mk, methM, hnamed, hmethM, hstM, habM⟩ := Cond.instanceMethod_spec wi
  obtain ⟨m2, cM, q1, -, -, -, -, -, -, hsig⟩ := Cond.code_spec hnamed wc
  cases hmethM.symm.trans q1
  simp [Cond.before, Cond.holds, Cond.value, hnamed, hmethM, hstM, hsig]
theorem o_same {y y2 : MethodName} {C : String} (wi : (Cond.instanceMethod y).before a0 Z = true) (ws : (Cond.selects C y2 y2).before a0 Z = true) (hc : y2.cls = y.cls) (hmh : y.cls ≠ "java/lang/invoke/MethodHandle" ∧ y.cls ≠ "java/lang/invoke/VarHandle") : (Cond.sameMethod y.cls y.cls y.name y.desc).before a0 Z = true := by
  obtain ⟨mk, methM, hnamed, hmethM, hstM, habM⟩ := Cond.instanceMethod_spec wi
  have hcn := findClass_of_methodNamed hnamed
  obtain ⟨c1, r1, m1, -, -, q3, -, k1, hk1, hi1⟩ := Cond.selects_spec ws
  have hc1 := findClass_of_methodNamed q3
  rw [hc, hcn] at hc1
  have hcls : mk.cls = m1.cls := Option.some.inj hc1
  have hf := State.methodFound?_of_named hnamed hmh
  have hk : Z.vm.classes[mk.cls]? = some k1 := by rw [hcls]; exact hk1
  have hn' : Z.methodNamed? ⟨y.cls, y.name, y.desc⟩ = some mk := hnamed
  simp [Cond.before, Cond.holds, Cond.value, hcn, hf, hn', hk, hi1]
/-- super.y() -/
theorem o_sup {bytes : ByteArray} {maxL ml kc ks : Nat} {ret : Option FieldType} {y : MethodName} {C : String} {argsL St : List Value} {Q : Option Value → Heap → List Loc → Prop} (X : Stand p l e R s m args below meth c T locs cells slots) (hx : p.tables.exec = Jvm.exec) (hZ : Z.Warmed39 s.vm) (hown : s.vm.findClass own = some m.cls) (w1 : (Cond.methodLink own index y).before a0 Z = true) (w2 : (Cond.sameMethod y.cls y.cls y.name y.desc).before a0 Z = true) (w3 : (Cond.instanceMethod y).before a0 Z = true) (w4 : (Cond.superclass own y.cls).before a0 Z = true) (wc : (Cond.code y bytes maxL ret).before a0 Z = true)
    (hK : Back l R p e below s args y 3 W (fun P a => a = (Value.ref b :: argsL).toArray ∧ P.U.heap = h ∧ P.cells + kc ≤ R.cells ∧ P.slots + ks ≤ R.slots) (fun P _ v B => ∃ L, Q v B.U.heap L ∧ B.locs = P.locs ++ L ∧ B.cells = P.cells + kc ∧ B.slots = P.slots + ks)) (eT : T.heap = h) (E : Exa Z h b C) (hml : c.maxLocals = ml) (hlen : ∀ sig, parseMethodDescriptor y.desc = some sig → argsL.length = sig.parameters.length) (hd : decode c.code q = .ok (.invokespecial index, 3))
    (kk : ∀ T' L v, Stand p l e R s m args below meth c T' (locs ++ L) (cells + kc) (slots + ks) → Q v T'.heap L → o_G p e below K T' (mkF m (q + 3) A (v.toList ++ S)))
    (hn : y.name ≠ "<init>" := by decide) (hsz : A.size = ml := by rfl) (hst : St = argsL.reverse ++ .ref b :: S := by rfl) (hW : (S.map fun v => v.category).sum ≤ W := by exact Nat.le_of_eq rfl) (hc : cells + kc ≤ R.cells := by decide) (hs : slots + ks ≤ R.slots := by decide) : o_G p e below K T (mkF m q A St) := by
  subst hst
  obtain ⟨v, _, ⟨T', L', k', n'⟩, -, X', ⟨L, hQ, l1, l2, l3⟩, st⟩ := superBack X hx hZ hown w1 w2 w3 w4 hn hK eT (Ins.self E) (g := mkF m q A (argsL.reverse ++ .ref b :: S)) rfl (hsz.trans hml.symm) wc (argsL := argsL) (rest := S) hlen rfl (by show 2 * 0 + _ ≤ _; omega) hd (fun _ _ => ⟨rfl, eT, hc, hs⟩)
  dsimp only [Pt.U, Pt.locs, Pt.cells, Pt.slots] at X' l1 l2 l3 st hQ
  subst l1 l2 l3
  exact o_tr st (kk _ _ _ X' hQ)
/-- clone() of a byte array -/
theorem o_cloneB {k : ClassId} {z : Int32} {vs : List Value} {dv : Value} {cap ml : Nat} (X : Stand p l e R s m args below meth c T locs cells slots) (hx : p.tables.exec = Jvm.exec) (hZ : Z.Warmed39 s.vm) (hown : s.vm.findClass own = some m.cls)
    (w1 : (Cond.methodLink own index ⟨"[B", "clone", "()Ljava/lang/Object;"⟩).before a0 Z = true) (w2 : (Cond.sameMethod "[B" "java/lang/Object" "clone" "()Ljava/lang/Object;").before a0 Z = true) (w3 : (Cond.native ⟨"java/lang/Object", "clone", "()Ljava/lang/Object;"⟩).before a0 Z = true)
    (w4 : (Cond.instanceMethod ⟨"java/lang/Object", "clone", "()Ljava/lang/Object;"⟩).before a0 Z = true) (w5 : (Cond.selects "[B" ⟨"[B", "clone", "()Ljava/lang/Object;"⟩ ⟨"java/lang/Object", "clone", "()Ljava/lang/Object;"⟩).before a0 Z = true) (w6 : (Cond.castable "[B" "java/lang/Cloneable").before a0 Z = true)
    (eT : T.heap = h) (F : Arv Z h a k .byte z vs dv) (E : Exa Z h a "[B") (hml : c.maxLocals = ml) (hd : decode c.code q = .ok (.invokevirtual index, 3)) (hcap : z.toNatClampNeg ≤ cap)
    (kk : ∀ T' h' a', Stand p l e R s m args below meth c T' locs (cells + 1) (slots + cap) → T'.heap = h' → a' = h.size → Ext h h' → Arv Z h' a' k .byte z vs dv → Exa Z h' a' "[B" → o_G p e below K T' (mkF m (q + 3) A (.ref a' :: S)))
    (hf : 1 ≤ R.frames := by decide) (hsz : A.size = ml := by rfl) (hW : (S.map fun v => v.category).sum ≤ W := by exact Nat.le_of_eq rfl) (hl : W + 14 ≤ R.locals := by decide) (hc : cells + 1 ≤ R.cells := by decide) (hs : slots + cap ≤ R.slots := by decide) : o_G p e below K T (mkF m q A (.ref a :: S)) := by
  obtain ⟨T', h', X', e', E', F', A', st⟩ := cloneH X hx hZ hown w1 w2 w3 w4 w5 w6 eT F.arh E (g := mkF m q A (.ref a :: S)) rfl (hsz.trans hml.symm) (rest := S) rfl hd hf (W := W) (by show 2 * 0 + _ ≤ _; omega) hl hcap hc hs
  exact o_st st (kk T' h' _ X' e' rfl E' F' A')
/-- new byte[x], with its class -/
theorem o_newE {cap : Nat} {x : Int32} (X : Stand p l e R s m args below meth c T locs cells slots) (hx : p.tables.exec = Jvm.exec) (hZ : Z.Warmed39 s.vm) (w : (Cond.arrayClass .byte).before a0 Z = true) (eT : T.heap = h) (hd : decode c.code q = .ok (.newarray .byte, 2)) (hn : ¬ x < 0) (hcap : x.toNatClampNeg ≤ cap)
    (k : ∀ T' h' ka b, Stand p l e R s m args below meth c T' locs (cells + 1) (slots + cap) → T'.heap = h' → b = h.size → Ext h h' → Arv Z h' b ka .byte x [] (.int 0) → Exa Z h' b "[B" → o_G p e below K T' (mkF m (q + 2) A (.ref b :: S))) (hb : cap * 8 ≤ 536870912 := by decide) (hc : cells + 1 ≤ R.cells := by decide) (hl : slots + cap ≤ R.slots := by decide) : o_G p e below K T (mkF m q A (.int x :: S)) := by
  obtain ⟨T', h', ka, X', e', E, A', Ex, st⟩ := newPE X hx hZ (aty := .byte) w eT (g := mkF m q A (.int x :: S)) rfl hd rfl hn hcap hb hc hl (ad := "[B") (by decide)
  exact o_st st (k T' h' ka _ X' e' rfl E (Arv.new A' hn) Ex)
end OwnCp
end Jvm.RoadKit

/- laws to paste: Road.backV, Road.codOf, Road.chN, Road.empW (cut by pick.py; bodies as the Statement names them) -/
namespace Jvm.Pilot.@@N@@
namespace StrChars
open Jvm Sem ClassFile Op Lib Jvm.Stand Jvm.Free.XT Jvm.Free.ALB Jvm.Free.JM Jvm.Free
open Jvm.Lib.Cold (StaticIs)
/-- a char array whose places are chars -/
def Ch (a : Addr) (A : Cell) (U : State) : Prop := Arr .char a A U ∧ Typed .char A
theorem Ch.mv {a : Addr} {A : Cell} {U U' : State} (h : Ch a A U) (hal : U.vm.Alike U'.vm) (hh : U'.heap = U.heap) : Ch a A U' := ⟨h.1.mv hal hh, h.2⟩
theorem Ch.keep {a : Addr} {A : Cell} {U U' : State} (h : Ch a A U) (hal : U.vm.Alike U'.vm) (hk : U'.heap[a]? = some A) : Ch a A U' := ⟨h.1.keep hal hk, h.2⟩
/-- what place i of a char[]'s cell holds -/
def cv (A : Cell) (i : Nat) : Int32 := match A.slots[i]? with | some (.int x) => x | _ => 0
theorem Ch.get {a : Addr} {A : Cell} {U : State} (h : Ch a A U) {i : Nat} (hi : i < A.slots.size) : A.slots[i]? = some (.int (cv A i)) := by
  have e := Array.getElem?_eq_getElem hi
  have f := h.2 i _ e
  unfold cv; rw [e]
  generalize A.slots[i] = v at f
  cases v <;> simp [fits] at f ⊢
/-- the byte that i2b leaves of a char -/
def lo8 (x : Int32) : Int32 := x.toInt8.toInt32
theorem fits_lo8 (y : Int32) : fits .byte (.int (lo8 y)) = true := by
  have h1 := y.toInt8.le_toInt
  have h2 := y.toInt8.toInt_lt
  simp only [lo8, fits, Bool.and_eq_true, decide_eq_true_eq, Int32.le_iff_toInt_le, Int8.toInt_toInt32, show (-128 : Int32).toInt = -128 from by decide, show (127 : Int32).toInt = 127 from by decide]
  omega
/-- A' is A but that each place j of lo .. hi - 1 holds f j -/
def Laid (A A' : Cell) (lo hi : Nat) (f : Nat → Value) : Prop := A'.cls = A.cls ∧ A'.vm = A.vm ∧ A'.slots.size = A.slots.size ∧ ∀ i, A'.slots[i]? = if lo ≤ i ∧ i < hi then some (f i) else A.slots[i]?
theorem Laid.zero (A : Cell) (lo : Nat) (f : Nat → Value) : Laid A A lo (lo + 0) f := ⟨rfl, rfl, rfl, fun i => by rw [if_neg (by omega)]⟩
theorem Laid.step {A Ak : Cell} {lo k : Nat} {f : Nat → Value} {v : Value} (h : Laid A Ak lo k f) (hlo : lo ≤ k) (hk : k < Ak.slots.size) (hv : v = f k) : Laid A (Ak.setSlot k v) lo (k + 1) f := by
  refine ⟨h.1, h.2.1, by simpa [Cell.setSlot] using h.2.2.1, fun i => ?_⟩
  by_cases e : k = i
  · subst e; rw [Cell.slots_setSlot_self v hk, if_pos (by omega), hv]
  · rw [Cell.slots_setSlot_ne v e, h.2.2.2 i]
    by_cases q : lo ≤ i ∧ i < k
    · rw [if_pos q, if_pos (by omega)]
    · rw [if_neg q, if_neg (by omega)]
def U16 : String := "java/lang/StringUTF16"
namespace Cmp5
def yN : MethodName := ⟨"java/lang/StringUTF16", "compress", "([CI[BII)I"⟩
abbrev yB : ByteArray := jdk_52_method_21_code
theorem d0 : decode yB 0 = .ok (.iconst 0, 1) := by decide +kernel
theorem d1 : decode yB 1 = .ok (.istore 5, 2) := by decide +kernel
theorem d3 : decode yB 3 = .ok (.iload 5, 2) := by decide +kernel
theorem d5 : decode yB 5 = .ok (.iload 4, 2) := by decide +kernel
theorem d7 : decode yB 7 = .ok (.if_icmp (.ge) 37, 3) := by decide +kernel
theorem d10 : decode yB 10 = .ok (.aload_n 0, 1) := by decide +kernel
theorem d11 : decode yB 11 = .ok (.iload_n 1, 1) := by decide +kernel
theorem d12 : decode yB 12 = .ok (.caload, 1) := by decide +kernel
theorem d13 : decode yB 13 = .ok (.istore 6, 2) := by decide +kernel
theorem d15 : decode yB 15 = .ok (.iload 6, 2) := by decide +kernel
theorem d17 : decode yB 17 = .ok (.sipush 255, 3) := by decide +kernel
theorem d20 : decode yB 20 = .ok (.if_icmp (.le) 6, 3) := by decide +kernel
theorem d26 : decode yB 26 = .ok (.aload_n 2, 1) := by decide +kernel
theorem d27 : decode yB 27 = .ok (.iload_n 3, 1) := by decide +kernel
theorem d28 : decode yB 28 = .ok (.iload 6, 2) := by decide +kernel
theorem d30 : decode yB 30 = .ok (.i2b, 1) := by decide +kernel
theorem d31 : decode yB 31 = .ok (.bastore, 1) := by decide +kernel
theorem d32 : decode yB 32 = .ok (.iinc 1 1, 3) := by decide +kernel
theorem d35 : decode yB 35 = .ok (.iinc 3 1, 3) := by decide +kernel
theorem d38 : decode yB 38 = .ok (.iinc 5 1, 3) := by decide +kernel
theorem d41 : decode yB 41 = .ok (.goto (-38), 3) := by decide +kernel
theorem d44 : decode yB 44 = .ok (.iload 4, 2) := by decide +kernel
theorem d46 : decode yB 46 = .ok (.ireturn, 1) := by decide +kernel
def site : List Cond := []
def tab : Cond := tabOf yN yB 7 (some .int) site
def P (b : Addr) (A : Cell) (d : Addr) (B : Cell) (o q len : Nat) (args : Array Value) (s : State) : Prop := args = #[.ref b, .int (Int32.ofNat o), .ref d, .int (Int32.ofNat q), .int (Int32.ofNat len)] ∧ Ch b A s ∧ Arr .byte d B s ∧ b ≠ d ∧ o + len ≤ A.slots.size ∧ q + len ≤ B.slots.size ∧ ∀ i, i < len → ¬ 255 < cv A (o + i)
def E (b : Addr) (A : Cell) (d : Addr) (B : Cell) (o q len : Nat) (r : Option Value) (s u : State) : Prop := r = some (.int (Int32.ofNat len)) ∧ ∃ B', Put d B' s u ∧ Laid B B' q (q + len) (fun j => Value.int (lo8 (cv A (o + (j - q)))))
/-- no char of the range above 255: len; the places written hold each char's low byte -/
theorem law (l : Launch) (b : Addr) (A : Cell) (d : Addr) (B : Cell) (o q len : Nat) : Law l yN 5 5 0 0 yB 7 (some .int) site (P b A d B o q len) (E b A d B o q len) (copyLocs d q len) 0 0 := by
  refine Law.of_walk (plainFor_of_name (by decide +kernel)) (by decide +kernel) (by decide +kernel) (by decide) (fun _ _ h => by rw [h.1]; rfl) (fun _ U U' hal hh h => ⟨h.1, h.2.1.mv hal hh, h.2.2.1.mv hal hh, h.2.2.2⟩) (fun r U U' V V' h1 hal h2 h => ⟨h.1, h.2.elim fun B' q => ⟨B', q.1.mv h1 h2, q.2⟩⟩) ?_
  intro p e s m args below meth c s₁ X0 hexec hbytes hml hret hlk hnm hown hh0 W hP
  obtain ⟨rfl, hA, hB, hne, l1, l2, hp⟩ := hP
  have c1 : Steps p.tables e below (s₁.setTop (entryFrame m #[.ref b, .int (Int32.ofNat o), .ref d, .int (Int32.ofNat q), .int (Int32.ofNat len)] 7)) (s₁.setTop (mkF m 0 #[.val (.ref b), .val (.int (Int32.ofNat o)), .val (.ref d), .val (.int (Int32.ofNat q)), .val (.int (Int32.ofNat len)), .unset, .unset] [])) := entry rfl
  have hA0 := hA.1.mv X0.warmed.alike hh0
  have hB0 := hB.mv X0.warmed.alike hh0
  have a31 := hA.1.2.2.2
  have c2 : Steps p.tables e below (s₁.setTop (entryFrame m #[.ref b, .int (Int32.ofNat o), .ref d, .int (Int32.ofNat q), .int (Int32.ofNat len)] 7)) (s₁.setTop (mkF m 3 #[.val (.ref b), .val (.int (Int32.ofNat o)), .val (.ref d), .val (.int (Int32.ofNat q)), .val (.int (Int32.ofNat len)), .val (.int 0), .unset] [])) := c1.trans (by
    refine iconstV X0.here hexec rfl 0 (hb hbytes d0) (by decide) ?_
    refine XS.istore X0.here hexec rfl (hb hbytes d1) rfl rfl ?_
    exact Steps.refl _)
  have loop : ∀ (r i : Nat), i + r = len → ∀ (z : Slot), (z = .unset ∨ ∃ w, z = .val w ∧ w.category = 1) → ∀ (Tl : State) (Bk : Cell), Stand p l e { frames := 0, locals := 0, cells := 0, slots := 0 } s m #[.ref b, .int (Int32.ofNat o), .ref d, .int (Int32.ofNat q), .int (Int32.ofNat len)] below meth c Tl ([] ++ copyLocs d q i) 0 0 → Put d Bk s₁ Tl → Laid B Bk q (q + i) (fun j => Value.int (lo8 (cv A (o + (j - q))))) →
      Steps p.tables e below (s₁.setTop (entryFrame m #[.ref b, .int (Int32.ofNat o), .ref d, .int (Int32.ofNat q), .int (Int32.ofNat len)] 7)) (Tl.setTop (mkF m 3 #[.val (.ref b), .val (.int (Int32.ofNat (o + i))), .val (.ref d), .val (.int (Int32.ofNat (q + i))), .val (.int (Int32.ofNat len)), .val (.int (Int32.ofNat i)), z] [])) → ∃ (T' : State) (B' : Cell) (z' : Slot), Stand p l e { frames := 0, locals := 0, cells := 0, slots := 0 } s m #[.ref b, .int (Int32.ofNat o), .ref d, .int (Int32.ofNat q), .int (Int32.ofNat len)] below meth c T' ([] ++ copyLocs d q len) 0 0 ∧ Put d B' s₁ T' ∧ Laid B B' q (q + len) (fun j => Value.int (lo8 (cv A (o + (j - q))))) ∧
      Steps p.tables e below (s₁.setTop (entryFrame m #[.ref b, .int (Int32.ofNat o), .ref d, .int (Int32.ofNat q), .int (Int32.ofNat len)] 7)) (T'.setTop (mkF m 3 #[.val (.ref b), .val (.int (Int32.ofNat (o + len))), .val (.ref d), .val (.int (Int32.ofNat (q + len))), .val (.int (Int32.ofNat len)), .val (.int (Int32.ofNat len)), z'] [])) := by
    intro r
    induction r with
    | zero =>
      intro i hi z hz Tl Bk Xl pl fl cl
      have hil : i = len := by omega
      rw [hil] at Xl fl cl
      exact ⟨Tl, Bk, z, Xl, pl, fl, cl⟩
    | succ r ih =>
      intro i hi z hz Tl Bk Xl pl fl cl
      have all := X0.warmed.alike.symm.trans Xl.warmed.alike
      have hAl := hA0.keep all (pl.other hne hA0.1)
      have hBk := hB0.like all pl.1 fl.1 fl.2.1 fl.2.2.1
      have hlt : q + i < Bk.slots.size := by rw [fl.2.2.1]; omega
      have c3 : Steps p.tables e below (s₁.setTop (entryFrame m #[.ref b, .int (Int32.ofNat o), .ref d, .int (Int32.ofNat q), .int (Int32.ofNat len)] 7)) (Tl.setTop (mkF m 12 #[.val (.ref b), .val (.int (Int32.ofNat (o + i))), .val (.ref d), .val (.int (Int32.ofNat (q + i))), .val (.int (Int32.ofNat len)), .val (.int (Int32.ofNat i)), z] [.int (Int32.ofNat (o + i)), .ref b])) := cl.trans (by
        refine XS.iload Xl.here hexec rfl (hb hbytes d3) rfl ?_
        refine XS.iload Xl.here hexec rfl (hb hbytes d5) rfl ?_
        refine XS.icmpNo Xl.here hexec rfl (hb hbytes d7) rfl (ii_ge_f (lt32 (by omega) (by omega))) ?_
        refine XS.aloadN Xl.here hexec rfl (hb hbytes d10) rfl rfl ?_
        refine XS.iloadN Xl.here hexec rfl (hb hbytes d11) rfl ?_
        exact Steps.refl _)
      have c4 : Steps p.tables e below (s₁.setTop (entryFrame m #[.ref b, .int (Int32.ofNat o), .ref d, .int (Int32.ofNat q), .int (Int32.ofNat len)] 7)) (Tl.setTop (mkF m 13 #[.val (.ref b), .val (.int (Int32.ofNat (o + i))), .val (.ref d), .val (.int (Int32.ofNat (q + i))), .val (.int (Int32.ofNat len)), .val (.int (Int32.ofNat i)), z] [.int (cv A (o + i))])) := c3.trans (by
        refine Xl.aget hexec hAl rfl (hA.get (i := o + i) (by omega)) rfl rfl (hb hbytes d12) ?_
        exact Steps.refl _)
      have c5 : Steps p.tables e below (s₁.setTop (entryFrame m #[.ref b, .int (Int32.ofNat o), .ref d, .int (Int32.ofNat q), .int (Int32.ofNat len)] 7)) (Tl.setTop (mkF m 15 #[.val (.ref b), .val (.int (Int32.ofNat (o + i))), .val (.ref d), .val (.int (Int32.ofNat (q + i))), .val (.int (Int32.ofNat len)), .val (.int (Int32.ofNat i)), .val (.int (cv A (o + i)))] [])) := c4.trans (by
        refine XS.istoreS Xl.here hexec rfl (hb hbytes d13) rfl rfl hz ?_
        exact Steps.refl _)
      have c6 : Steps p.tables e below (s₁.setTop (entryFrame m #[.ref b, .int (Int32.ofNat o), .ref d, .int (Int32.ofNat q), .int (Int32.ofNat len)] 7)) (Tl.setTop (mkF m 31 #[.val (.ref b), .val (.int (Int32.ofNat (o + i))), .val (.ref d), .val (.int (Int32.ofNat (q + i))), .val (.int (Int32.ofNat len)), .val (.int (Int32.ofNat i)), .val (.int (cv A (o + i)))] [.int (lo8 (cv A (o + i))), .int (Int32.ofNat (q + i)), .ref d])) := c5.trans (by
        refine XS.iload Xl.here hexec rfl (hb hbytes d15) rfl ?_
        refine sipushV Xl.here hexec rfl 255 (hb hbytes d17) (by decide) ?_
        refine XS.icmpYes Xl.here hexec rfl (pc0 := 20) rfl (hb hbytes d20) rfl (ii_le_t (hp i (by omega))) (by decide) rfl ?_
        refine XS.aloadN Xl.here hexec rfl (hb hbytes d26) rfl rfl ?_
        refine XS.iloadN Xl.here hexec rfl (hb hbytes d27) rfl ?_
        refine XS.iload Xl.here hexec rfl (hb hbytes d28) rfl ?_
        refine i2b Xl.here hexec rfl (hb hbytes d30) rfl ?_
        exact Steps.refl _)
      obtain ⟨T7, X7, p7, st7⟩ := Xl.aput hexec hBk rfl hlt rfl (fits_lo8 (cv A (o + i))) (g := (mkF m 31 #[.val (.ref b), .val (.int (Int32.ofNat (o + i))), .val (.ref d), .val (.int (Int32.ofNat (q + i))), .val (.int (Int32.ofNat len)), .val (.int (Int32.ofNat i)), .val (.int (cv A (o + i)))] [.int (lo8 (cv A (o + i))), .int (Int32.ofNat (q + i)), .ref d])) rfl (rest := []) rfl (hb hbytes d31)
      have c8 : Steps p.tables e below (s₁.setTop (entryFrame m #[.ref b, .int (Int32.ofNat o), .ref d, .int (Int32.ofNat q), .int (Int32.ofNat len)] 7)) (T7.setTop (mkF m 32 #[.val (.ref b), .val (.int (Int32.ofNat (o + i))), .val (.ref d), .val (.int (Int32.ofNat (q + i))), .val (.int (Int32.ofNat len)), .val (.int (Int32.ofNat i)), .val (.int (cv A (o + i)))] [])) := c6.trans (st7 _ (Steps.refl _))
      have c9 : Steps p.tables e below (s₁.setTop (entryFrame m #[.ref b, .int (Int32.ofNat o), .ref d, .int (Int32.ofNat q), .int (Int32.ofNat len)] 7)) (T7.setTop (mkF m 3 #[.val (.ref b), .val (.int (Int32.ofNat (o + i) + 1)), .val (.ref d), .val (.int (Int32.ofNat (q + i) + 1)), .val (.int (Int32.ofNat len)), .val (.int (Int32.ofNat i + 1)), .val (.int (cv A (o + i)))] [])) := c8.trans (by
        refine iincV X7.here hexec rfl 1 (hb hbytes d32) (by decide) rfl rfl ?_
        refine iincV X7.here hexec rfl 1 (hb hbytes d35) (by decide) rfl rfl ?_
        refine iincV X7.here hexec rfl 1 (hb hbytes d38) (by decide) rfl rfl ?_
        refine XS.goto X7.here hexec rfl (pc0 := 41) rfl (hb hbytes d41) (by decide) rfl ?_
        exact Steps.refl _)
      have c10 : Steps p.tables e below (s₁.setTop (entryFrame m #[.ref b, .int (Int32.ofNat o), .ref d, .int (Int32.ofNat q), .int (Int32.ofNat len)] 7)) (T7.setTop (mkF m 3 #[.val (.ref b), .val (.int (Int32.ofNat (o + (i + 1)))), .val (.ref d), .val (.int (Int32.ofNat (q + (i + 1)))), .val (.int (Int32.ofNat len)), .val (.int (Int32.ofNat (i + 1))), .val (.int (cv A (o + i)))] [])) := by
        have := c9
        rw [succ32, succ32, succ32] at this
        exact this
      exact ih (i + 1) (by omega) _ (Or.inr ⟨_, rfl, rfl⟩) T7 _ (by rw [copyLocs_step, ← List.append_assoc]; exact X7) (pl.trans p7) (fl.step (by omega) hlt (by simp)) c10
  obtain ⟨T9, B9, z9, X9, p9, f9, g9⟩ := loop len 0 (by omega) .unset (Or.inl rfl) s₁ B (by simpa [copyLocs] using X0) ⟨hB0.1, fun _ _ => rfl, rfl⟩ (Laid.zero _ _ _) c2
  have c11 : Steps p.tables e below (s₁.setTop (entryFrame m #[.ref b, .int (Int32.ofNat o), .ref d, .int (Int32.ofNat q), .int (Int32.ofNat len)] 7)) (T9.setTop (mkF m 46 #[.val (.ref b), .val (.int (Int32.ofNat (o + len))), .val (.ref d), .val (.int (Int32.ofNat (q + len))), .val (.int (Int32.ofNat len)), .val (.int (Int32.ofNat len)), z9] [.int (Int32.ofNat len)])) := g9.trans (by
    refine XS.iload X9.here hexec rfl (hb hbytes d3) rfl ?_
    refine XS.iload X9.here hexec rfl (hb hbytes d5) rfl ?_
    refine XS.icmpYes X9.here hexec rfl (pc0 := 7) rfl (hb hbytes d7) rfl (ii_ge_t (nlt32 (by omega) (Nat.le_refl _))) (by decide) rfl ?_
    refine XS.iload X9.here hexec rfl (hb hbytes d44) rfl ?_
    exact Steps.refl _)
  exact ⟨T9, some (.int (Int32.ofNat len)), _, _, _, X9, by simp, rfl, rfl, (fun h => by cases h), ⟨rfl, B9, p9.from hh0, f9⟩, fun fs hl => c11.trans (X9.ireturnOut hexec hret rfl (Or.inl rfl) (hb hbytes d46) hl)⟩
end Cmp5
namespace Cmp3
def yN : MethodName := ⟨"java/lang/StringUTF16", "compress", "([CII)[B"⟩
abbrev yB : ByteArray := jdk_52_method_16_code
theorem d0 : decode yB 0 = .ok (.iload_n 2, 1) := by decide +kernel
theorem d1 : decode yB 1 = .ok (.newarray .byte, 2) := by decide +kernel
theorem d3 : decode yB 3 = .ok (.astore_n 3, 1) := by decide +kernel
theorem d4 : decode yB 4 = .ok (.aload_n 0, 1) := by decide +kernel
theorem d5 : decode yB 5 = .ok (.iload_n 1, 1) := by decide +kernel
theorem d6 : decode yB 6 = .ok (.aload_n 3, 1) := by decide +kernel
theorem d7 : decode yB 7 = .ok (.iconst 0, 1) := by decide +kernel
theorem d8 : decode yB 8 = .ok (.iload_n 2, 1) := by decide +kernel
theorem d9 : decode yB 9 = .ok (.invokestatic 115, 3) := by decide +kernel
theorem d12 : decode yB 12 = .ok (.istore 4, 2) := by decide +kernel
theorem d14 : decode yB 14 = .ok (.iload 4, 2) := by decide +kernel
theorem d16 : decode yB 16 = .ok (.iload_n 2, 1) := by decide +kernel
theorem d17 : decode yB 17 = .ok (.if_icmp (.eq) 40, 3) := by decide +kernel
theorem d57 : decode yB 57 = .ok (.aload_n 3, 1) := by decide +kernel
theorem d58 : decode yB 58 = .ok (.areturn, 1) := by decide +kernel
def site : List Cond := [.arrayClass .byte, Cmp5.tab] ++ staticW U16 115 Cmp5.yN
def tab : Cond := tabOf yN yB 6 (some (.array .byte)) site
def P (b : Addr) (A : Cell) (o len : Nat) (args : Array Value) (s : State) : Prop := args = #[.ref b, .int (Int32.ofNat o), .int (Int32.ofNat len)] ∧ Ch b A s ∧ o + len ≤ A.slots.size ∧ len ≤ 536870912 ∧ ∀ i, i < len → ¬ 255 < cv A (o + i)
def E (b : Addr) (A : Cell) (o len : Nat) (r : Option Value) (s u : State) : Prop := NewArr .byte "[B" len (fun j => .int (lo8 (cv A (o + j)))) r s u ∧ u.heap.size = s.heap.size + 1
/-- no char of the range above 255: a new byte[] of their low bytes -/
theorem law (l : Launch) (b : Addr) (A : Cell) (o len : Nat) : Law l yN 3 3 1 18 yB 6 (some (.array .byte)) site (P b A o len) (E b A o len) [] 1 len := by
  refine Law.of_walk (plainFor_of_name (by decide +kernel)) (by decide +kernel) (by decide +kernel) (by decide) (fun _ _ h => by rw [h.1]; rfl) (fun _ U U' hal hh h => ⟨h.1, h.2.1.mv hal hh, h.2.2⟩) (fun r U U' V V' h1 hal h2 h => ⟨NewArr.mv r U U' V V' h1 hal h2 h.1, by rw [h1, h2]; exact h.2⟩) ?_
  intro p e s m args below meth c s₁ X0 hexec hbytes hml hret hlk hnm hown hh0 W hP
  obtain ⟨rfl, hA, l1, l2, hp⟩ := hP
  have a31 := hA.1.2.2.2
  have c1 : Steps p.tables e below (s₁.setTop (entryFrame m #[.ref b, .int (Int32.ofNat o), .int (Int32.ofNat len)] 6)) (s₁.setTop (mkF m 0 #[.val (.ref b), .val (.int (Int32.ofNat o)), .val (.int (Int32.ofNat len)), .unset, .unset, .unset] [])) := entry rfl
  have c2 : Steps p.tables e below (s₁.setTop (entryFrame m #[.ref b, .int (Int32.ofNat o), .int (Int32.ofNat len)] 6)) (s₁.setTop (mkF m 1 #[.val (.ref b), .val (.int (Int32.ofNat o)), .val (.int (Int32.ofNat len)), .unset, .unset, .unset] [.int (Int32.ofNat len)])) := c1.trans (by
    refine XS.iloadN X0.here hexec rfl (hb hbytes d0) rfl ?_
    exact Steps.refl _)
  obtain ⟨T3, B3, X3, ba3, bs3, bv3, bh3, bf3, st3⟩ := X0.anew hexec (atype := .byte) (wk W (.arrayClass .byte)) rfl (by show len * 1 ≤ _; omega) (by omega) (g := (mkF m 1 #[.val (.ref b), .val (.int (Int32.ofNat o)), .val (.int (Int32.ofNat len)), .unset, .unset, .unset] [.int (Int32.ofNat len)])) rfl (hb hbytes d1) (rest := []) rfl (Nat.le_refl _) (by show 0 + len ≤ len; omega)
  rw [hh0] at ba3 st3
  have kp3 : XT.Kept s T3 := (XT.Kept.of_eq hh0).push bh3
  have hA3 := hA.keep X3.warmed.alike (kp3 _ _ hA.1.1)
  have hne : b ≠ s.heap.size := hA.1.ne
  have c4 : Steps p.tables e below (s₁.setTop (entryFrame m #[.ref b, .int (Int32.ofNat o), .int (Int32.ofNat len)] 6)) (T3.setTop (mkF m 3 #[.val (.ref b), .val (.int (Int32.ofNat o)), .val (.int (Int32.ofNat len)), .unset, .unset, .unset] [.ref s.heap.size])) := c2.trans (st3 _ (Steps.refl _))
  have c5 : Steps p.tables e below (s₁.setTop (entryFrame m #[.ref b, .int (Int32.ofNat o), .int (Int32.ofNat len)] 6)) (T3.setTop (mkF m 9 #[.val (.ref b), .val (.int (Int32.ofNat o)), .val (.int (Int32.ofNat len)), .val (.ref s.heap.size), .unset, .unset] [.int (Int32.ofNat len), .int 0, .ref s.heap.size, .int (Int32.ofNat o), .ref b])) := c4.trans (by
    refine XS.astoreN X3.here hexec rfl (hb hbytes d3) rfl rfl rfl ?_
    refine XS.aloadN X3.here hexec rfl (hb hbytes d4) rfl rfl ?_
    refine XS.iloadN X3.here hexec rfl (hb hbytes d5) rfl ?_
    refine XS.aloadN X3.here hexec rfl (hb hbytes d6) rfl rfl ?_
    refine iconstV X3.here hexec rfl 0 (hb hbytes d7) (by decide) ?_
    refine XS.iloadN X3.here hexec rfl (hb hbytes d8) rfl ?_
    exact Steps.refl _)
  obtain ⟨v6, T6, X6, E6, g6⟩ := X3.callS hexec (Cmp5.law l b A s.heap.size B3 o 0 len) hown (wks W (staticW U16 115 Cmp5.yN)) (wk W Cmp5.tab) (W := 0) (Nat.le_of_ble_eq_true rfl) (Nat.le_of_ble_eq_true rfl) (Nat.le_refl _) (by show 0 + len + 0 ≤ len; omega) (g := (mkF m 9 #[.val (.ref b), .val (.int (Int32.ofNat o)), .val (.int (Int32.ofNat len)), .val (.ref s.heap.size), .unset, .unset] [.int (Int32.ofNat len), .int (Int32.ofNat 0), .ref s.heap.size, .int (Int32.ofNat o), .ref b])) rfl (by rw [hml]; rfl) c5 (argsL := [.ref b, .int (Int32.ofNat o), .ref s.heap.size, .int (Int32.ofNat 0), .int (Int32.ofNat len)]) (rest := []) rfl rfl (by show 2 * 0 + 0 ≤ _; decide) (hb hbytes d9) (⟨rfl, hA3, ba3, hne, l1, by rw [bs3]; simp, hp⟩)
  obtain ⟨rfl, B6, p6, f6⟩ := E6
  have c7 : Steps p.tables e below (s₁.setTop (entryFrame m #[.ref b, .int (Int32.ofNat o), .int (Int32.ofNat len)] 6)) (T6.setTop (mkF m 12 #[.val (.ref b), .val (.int (Int32.ofNat o)), .val (.int (Int32.ofNat len)), .val (.ref s.heap.size), .unset, .unset] [.int (Int32.ofNat len)])) := g6
  have c8 : Steps p.tables e below (s₁.setTop (entryFrame m #[.ref b, .int (Int32.ofNat o), .int (Int32.ofNat len)] 6)) (T6.setTop (mkF m 58 #[.val (.ref b), .val (.int (Int32.ofNat o)), .val (.int (Int32.ofNat len)), .val (.ref s.heap.size), .val (.int (Int32.ofNat len)), .unset] [.ref s.heap.size])) := c7.trans (by
    refine XS.istore X6.here hexec rfl (hb hbytes d12) rfl rfl ?_
    refine XS.iload X6.here hexec rfl (hb hbytes d14) rfl ?_
    refine XS.iloadN X6.here hexec rfl (hb hbytes d16) rfl ?_
    refine XS.icmpYes X6.here hexec rfl (pc0 := 17) rfl (hb hbytes d17) rfl (ii_eq_t rfl) (by decide) rfl ?_
    refine XS.aloadN X6.here hexec rfl (hb hbytes d57) rfl rfl ?_
    exact Steps.refl _)
  have X8 := X6.wide (L' := []) (cells' := 1) (slots' := len) (fun x hx hlt => by
    simp only [List.nil_append, copyLocs, List.mem_map, List.mem_range] at hx
    obtain ⟨i, -, rfl⟩ := hx
    exact absurd hlt (Nat.lt_irrefl _)) (Nat.le_refl _) (by omega)
  exact ⟨T6, some (.ref s.heap.size), _, _, _, X8, rfl, rfl, rfl, (fun h => by cases h), ⟨⟨rfl, B6, ba3.like (X3.warmed.alike.symm.trans X6.warmed.alike) p6.1 f6.1 f6.2.1 f6.2.2.1, f6.2.1.trans bv3, by rw [X6.warmed.alike.findClass, f6.1]; exact bf3, by rw [f6.2.2.1, bs3]; simp, fun j hj => by rw [f6.2.2.2 j, if_pos (by omega)]; rfl, kp3.put p6 (Nat.le_refl _)⟩, by rw [p6.2.2, bh3, hh0]; simp⟩, fun fs hl => c8.trans (X8.areturnOut hexec rfl hret rfl (hb hbytes d58) hl)⟩
end Cmp3
namespace CodL
def yN : MethodName := ⟨"java/lang/StringUTF16", "coderFromArrayLen", "([BI)B"⟩
abbrev yB : ByteArray := jdk_52_method_15_code
theorem d0 : decode yB 0 = .ok (.iload_n 1, 1) := by decide +kernel
theorem d1 : decode yB 1 = .ok (.aload_n 0, 1) := by decide +kernel
theorem d2 : decode yB 2 = .ok (.arraylength, 1) := by decide +kernel
theorem d3 : decode yB 3 = .ok (.isub, 1) := by decide +kernel
theorem d4 : decode yB 4 = .ok (.bipush 31, 2) := by decide +kernel
theorem d6 : decode yB 6 = .ok (.iushr, 1) := by decide +kernel
theorem d7 : decode yB 7 = .ok (.i2b, 1) := by decide +kernel
theorem d8 : decode yB 8 = .ok (.ireturn, 1) := by decide +kernel
def site : List Cond := []
def tab : Cond := tabOf yN yB 2 (some .byte) site
def P (d : Addr) (B : Cell) (args : Array Value) (s : State) : Prop := args = #[.ref d, .int (Int32.ofNat B.slots.size)] ∧ Arr .byte d B s
def E (r : Option Value) (s u : State) : Prop := XT.PureE (some (.int 0)) r s u
/-- an array as long as the number of chars: LATIN1 -/
theorem law (l : Launch) (d : Addr) (B : Cell) : Law l yN 2 2 0 0 yB 2 (some .byte) site (P d B) E [] 0 0 := by
  refine Law.of_walk (plainFor_of_name (by decide +kernel)) (by decide +kernel) (by decide +kernel) (by decide) (fun _ _ h => by rw [h.1]; rfl) (fun _ U U' hal hh h => ⟨h.1, h.2.mv hal hh⟩) (fun r U U' V V' h1 hal h2 h => XT.PureE.mv r U U' V V' h1 hal h2 h) ?_
  intro p e s m args below meth c s₁ X0 hexec hbytes hml hret hlk hnm hown hh0 W hP
  obtain ⟨rfl, hB⟩ := hP
  have hB0 := hB.mv X0.warmed.alike hh0
  have c1 : Steps p.tables e below (s₁.setTop (entryFrame m #[.ref d, .int (Int32.ofNat B.slots.size)] 2)) (s₁.setTop (mkF m 0 #[.val (.ref d), .val (.int (Int32.ofNat B.slots.size))] [])) := entry rfl
  have c2 : Steps p.tables e below (s₁.setTop (entryFrame m #[.ref d, .int (Int32.ofNat B.slots.size)] 2)) (s₁.setTop (mkF m 2 #[.val (.ref d), .val (.int (Int32.ofNat B.slots.size))] [.ref d, .int (Int32.ofNat B.slots.size)])) := c1.trans (by
    refine XS.iloadN X0.here hexec rfl (hb hbytes d0) rfl ?_
    refine XS.aloadN X0.here hexec rfl (hb hbytes d1) rfl rfl ?_
    exact Steps.refl _)
  have c3 : Steps p.tables e below (s₁.setTop (entryFrame m #[.ref d, .int (Int32.ofNat B.slots.size)] 2)) (s₁.setTop (mkF m 8 #[.val (.ref d), .val (.int (Int32.ofNat B.slots.size))] [.int (lo8 (ushr (Int32.ofNat B.slots.size - Int32.ofNat B.slots.size) 31))])) := c2.trans (by
    refine X0.alen hexec hB0 rfl rfl (hb hbytes d2) ?_
    refine XS.isub X0.here hexec rfl (hb hbytes d3) rfl ?_
    refine bipushV X0.here hexec rfl 31 (hb hbytes d4) (by decide) ?_
    refine iushr X0.here hexec rfl (hb hbytes d6) rfl ?_
    refine i2b X0.here hexec rfl (hb hbytes d7) rfl ?_
    exact Steps.refl _)
  have e0 : lo8 (ushr (Int32.ofNat B.slots.size - Int32.ofNat B.slots.size) 31) = 0 := by rw [Int32.sub_self]; decide
  rw [e0] at c3
  exact ⟨s₁, some (.int 0), _, _, _, X0, rfl, rfl, rfl, (fun h => by cases h), ⟨rfl, hh0⟩, fun fs hl => c3.trans (X0.ireturnOut hexec hret rfl (Or.inr (Or.inr (Or.inl rfl))) (hb hbytes d8) hl)⟩
end CodL
/-- the String at a is Latin-1 over a new byte[] (the heap's one new cell): the low bytes of the len chars of A from o on; every cell but a is kept -/
def Got (a : Addr) (D : Cell) (fV fC : Field) (A : Cell) (o len : Nat) (r : Option Value) (s u : State) : Prop := r = none ∧ ∃ D' V : Cell, Blank "java/lang/String" a D' u ∧ Same D D' [fV.slot, fC.slot] ∧ D'.slots[fV.slot]? = some (.ref s.heap.size) ∧ D'.slots[fC.slot]? = some (.int 0) ∧ Arr .byte s.heap.size V u ∧ V.vm = .none ∧ u.vm.findClass "[B" = some V.cls ∧ V.slots.size = len ∧ (∀ j, j < len → V.slots[j]? = some (.int (lo8 (cv A (o + j))))) ∧ (∀ (y : Addr) (c : Cell), y ≠ a → s.heap[y]? = some c → u.heap[y]? = some c) ∧ u.heap.size = s.heap.size + 1
theorem Got.mv {a : Addr} {D A : Cell} {fV fC : Field} {o len : Nat} : ∀ r (U U' V V' : State), U'.heap = U.heap → V.vm.Alike V'.vm → V'.heap = V.heap → Got a D fV fC A o len r U V → Got a D fV fC A o len r U' V' :=
  fun r U U' V V' h1 hal h2 ⟨e0, D', X, a1, a2, a3, a4, a5, a6, a7, a8, a9, a10, a11⟩ => ⟨e0, D', X, a1.mv hal h2, a2, by rw [h1]; exact a3, a4, by rw [h1]; exact a5.mv hal h2, a6, by rw [hal.findClass]; exact a7, a8, a9, by rw [h1, h2]; exact a10, by rw [h1, h2]; exact a11⟩
namespace New4
def yN : MethodName := ⟨"java/lang/String", "<init>", "([CIILjava/lang/Void;)V"⟩
abbrev yB : ByteArray := jdk_42_method_149_code
theorem d0 : decode yB 0 = .ok (.aload_n 0, 1) := by decide +kernel
theorem d1 : decode yB 1 = .ok (.invokespecial 1, 3) := by decide +kernel
theorem d4 : decode yB 4 = .ok (.iload_n 3, 1) := by decide +kernel
theorem d5 : decode yB 5 = .ok (.ifCond (.ne) 22, 3) := by decide +kernel
theorem d27 : decode yB 27 = .ok (.getstatic 38, 3) := by decide +kernel
theorem d30 : decode yB 30 = .ok (.ifCond (.eq) 28, 3) := by decide +kernel
theorem d33 : decode yB 33 = .ok (.aload_n 1, 1) := by decide +kernel
theorem d34 : decode yB 34 = .ok (.iload_n 2, 1) := by decide +kernel
theorem d35 : decode yB 35 = .ok (.iload_n 3, 1) := by decide +kernel
theorem d36 : decode yB 36 = .ok (.invokestatic 177, 3) := by decide +kernel
theorem d39 : decode yB 39 = .ok (.astore 5, 2) := by decide +kernel
theorem d41 : decode yB 41 = .ok (.aload_n 0, 1) := by decide +kernel
theorem d42 : decode yB 42 = .ok (.aload 5, 2) := by decide +kernel
theorem d44 : decode yB 44 = .ok (.iload_n 3, 1) := by decide +kernel
theorem d45 : decode yB 45 = .ok (.invokestatic 47, 3) := by decide +kernel
theorem d48 : decode yB 48 = .ok (.putfield 15, 3) := by decide +kernel
theorem d51 : decode yB 51 = .ok (.aload_n 0, 1) := by decide +kernel
theorem d52 : decode yB 52 = .ok (.aload 5, 2) := by decide +kernel
theorem d54 : decode yB 54 = .ok (.putfield 9, 3) := by decide +kernel
theorem d57 : decode yB 57 = .ok (.return_, 1) := by decide +kernel
def site : List Cond := [.fieldLink "java/lang/String" 38 "java/lang/String" "COMPACT_STRINGS" "Z", Cmp3.tab, CodL.tab, .laysFinal "java/lang/String" "java/lang/String" "value" "[B", .fieldLink "java/lang/String" 9 "java/lang/String" "value" "[B", .laysFinal "java/lang/String" "java/lang/String" "coder" "B", .fieldLink "java/lang/String" 15 "java/lang/String" "coder" "B"] ++ objW "java/lang/String" 1 ++ staticW "java/lang/String" 177 Cmp3.yN ++ staticW "java/lang/String" 47 CodL.yN
def tab : Cond := tabOf yN yB 6 none site
def P (a : Addr) (D : Cell) (fV fC : Field) (b : Addr) (A : Cell) (z : Int32) (o len : Nat) (args : Array Value) (s : State) : Prop := args = #[.ref a, .ref b, .int (Int32.ofNat o), .int (Int32.ofNat len), .null] ∧ Blank "java/lang/String" a D s ∧ Found "java/lang/String" "value" "[B" fV s ∧ Found "java/lang/String" "coder" "B" fC s ∧ Ch b A s ∧ StaticIs s "java/lang/String" "COMPACT_STRINGS" "Z" (.int z) ∧ ¬ z = 0 ∧ 0 < len ∧ o + len ≤ A.slots.size ∧ len ≤ 536870912 ∧ ∀ i, i < len → ¬ 255 < cv A (o + i)
def E (a : Addr) (D : Cell) (fV fC : Field) (A : Cell) (o len : Nat) (r : Option Value) (s u : State) : Prop := Got a D fV fC A o len r s u
/-- len > 0, no char of the range above 255: a Latin-1 String of their low bytes -/
theorem law (l : Launch) (a : Addr) (D : Cell) (fV fC : Field) (b : Addr) (A : Cell) (z : Int32) (o len : Nat) : Law l yN 5 4 2 35 yB 6 none site (P a D fV fC b A z o len) (E a D fV fC A o len) [⟨a, fC.slot⟩, ⟨a, fV.slot⟩] 1 len := by
  refine Law.of_walk (plainFor_of_name (by decide +kernel)) (by decide +kernel) (by decide +kernel) (by decide) (fun _ _ h => by rw [h.1]; rfl) (fun _ U U' hal hh h => ⟨h.1, h.2.1.mv hal hh, h.2.2.1.al hal, h.2.2.2.1.al hal, h.2.2.2.2.1.mv hal hh, h.2.2.2.2.2.1.there hal hh, h.2.2.2.2.2.2⟩) (fun r U U' V V' h1 hal h2 h => Got.mv r U U' V V' h1 hal h2 h) ?_
  intro p e s m args below meth c s₁ X0 hexec hbytes hml hret hlk hnm hown hh0 W hP
  obtain ⟨rfl, hB, f1, f2, hA, s1, hz, l0, l1, l2, hp⟩ := hP
  have a31 := hA.1.2.2.2
  have c1 : Steps p.tables e below (s₁.setTop (entryFrame m #[.ref a, .ref b, .int (Int32.ofNat o), .int (Int32.ofNat len), .null] 6)) (s₁.setTop (mkF m 0 #[.val (.ref a), .val (.ref b), .val (.int (Int32.ofNat o)), .val (.int (Int32.ofNat len)), .val .null, .unset] [])) := entry rfl
  have c2 : Steps p.tables e below (s₁.setTop (entryFrame m #[.ref a, .ref b, .int (Int32.ofNat o), .int (Int32.ofNat len), .null] 6)) (s₁.setTop (mkF m 1 #[.val (.ref a), .val (.ref b), .val (.int (Int32.ofNat o)), .val (.int (Int32.ofNat len)), .val .null, .unset] [.ref a])) := c1.trans (by
    refine XS.aloadN X0.here hexec rfl (hb hbytes d0) rfl rfl ?_
    exact Steps.refl _)
  obtain ⟨T3, X3, q3, st3⟩ := X0.oinit hexec hown (wks W (objW "java/lang/String" 1)) (g := (mkF m 1 #[.val (.ref a), .val (.ref b), .val (.int (Int32.ofNat o)), .val (.int (Int32.ofNat len)), .val .null, .unset] [.ref a])) rfl (by rw [hml]; rfl) (rest := []) rfl (hb hbytes d1) (W := 0) (by show 2 * 0 + 0 ≤ _; decide) (Nat.le_of_ble_eq_true rfl) (Nat.le_of_ble_eq_true rfl)
  have hh3 := q3.trans hh0
  have c4 : Steps p.tables e below (s₁.setTop (entryFrame m #[.ref a, .ref b, .int (Int32.ofNat o), .int (Int32.ofNat len), .null] 6)) (T3.setTop (mkF m 27 #[.val (.ref a), .val (.ref b), .val (.int (Int32.ofNat o)), .val (.int (Int32.ofNat len)), .val .null, .unset] [])) := (c2.trans (st3 _ (Steps.refl _))).trans (by
    refine XS.iloadN X3.here hexec rfl (hb hbytes d4) rfl ?_
    refine XS.ifYes X3.here hexec rfl (pc0 := 5) rfl (hb hbytes d5) rfl (i0_ne_t (nz32 (by omega) l0)) (by decide) rfl ?_
    exact Steps.refl _)
  obtain ⟨T5, X5, q5, st5⟩ := X3.sget hexec hown (wk W (.fieldLink "java/lang/String" 38 "java/lang/String" "COMPACT_STRINGS" "Z")) s1 (fun _ _ h => by rw [hh3]; exact h) (g := (mkF m 27 #[.val (.ref a), .val (.ref b), .val (.int (Int32.ofNat o)), .val (.int (Int32.ofNat len)), .val .null, .unset] [])) rfl (hb hbytes d27)
  have hh5 := q5.trans hh3
  have c6 : Steps p.tables e below (s₁.setTop (entryFrame m #[.ref a, .ref b, .int (Int32.ofNat o), .int (Int32.ofNat len), .null] 6)) (T5.setTop (mkF m 30 #[.val (.ref a), .val (.ref b), .val (.int (Int32.ofNat o)), .val (.int (Int32.ofNat len)), .val .null, .unset] [.int z])) := c4.trans (st5 _ (Steps.refl _))
  have c7 : Steps p.tables e below (s₁.setTop (entryFrame m #[.ref a, .ref b, .int (Int32.ofNat o), .int (Int32.ofNat len), .null] 6)) (T5.setTop (mkF m 36 #[.val (.ref a), .val (.ref b), .val (.int (Int32.ofNat o)), .val (.int (Int32.ofNat len)), .val .null, .unset] [.int (Int32.ofNat len), .int (Int32.ofNat o), .ref b])) := c6.trans (by
    refine XS.ifNo X5.here hexec rfl (hb hbytes d30) rfl (i0_eq_f hz) ?_
    refine XS.aloadN X5.here hexec rfl (hb hbytes d33) rfl rfl ?_
    refine XS.iloadN X5.here hexec rfl (hb hbytes d34) rfl ?_
    refine XS.iloadN X5.here hexec rfl (hb hbytes d35) rfl ?_
    exact Steps.refl _)
  obtain ⟨v8, T8, X8, E8, g8⟩ := X5.callS hexec (Cmp3.law l b A o len) hown (wks W (staticW "java/lang/String" 177 Cmp3.yN)) (wk W Cmp3.tab) (W := 0) (Nat.le_of_ble_eq_true rfl) (Nat.le_of_ble_eq_true rfl) (Nat.le_refl _) (by show 0 + len ≤ len; omega) (g := (mkF m 36 #[.val (.ref a), .val (.ref b), .val (.int (Int32.ofNat o)), .val (.int (Int32.ofNat len)), .val .null, .unset] [.int (Int32.ofNat len), .int (Int32.ofNat o), .ref b])) rfl (by rw [hml]; rfl) c7 (argsL := [.ref b, .int (Int32.ofNat o), .int (Int32.ofNat len)]) (rest := []) rfl rfl (by show 2 * 0 + 0 ≤ _; decide) (hb hbytes d36) (⟨rfl, hA.mv X5.warmed.alike hh5, l1, l2, hp⟩)
  obtain ⟨e8, z8⟩ := E8
  obtain ⟨rfl, N, n1, n2, n3, n4, n5, n6⟩ := NewArr.mv _ T5 s _ _ hh5.symm (Vm.Alike.refl _) rfl e8
  rw [hh5] at z8
  have hB1 := hB.keep X8.warmed.alike (n6 _ _ hB.1)
  have hne : s.heap.size ≠ a := (Nat.ne_of_lt (Array.getElem?_eq_some_iff.mp hB.1).1).symm
  have c9 : Steps p.tables e below (s₁.setTop (entryFrame m #[.ref a, .ref b, .int (Int32.ofNat o), .int (Int32.ofNat len), .null] 6)) (T8.setTop (mkF m 39 #[.val (.ref a), .val (.ref b), .val (.int (Int32.ofNat o)), .val (.int (Int32.ofNat len)), .val .null, .unset] [.ref s.heap.size])) := g8
  have c10 : Steps p.tables e below (s₁.setTop (entryFrame m #[.ref a, .ref b, .int (Int32.ofNat o), .int (Int32.ofNat len), .null] 6)) (T8.setTop (mkF m 45 #[.val (.ref a), .val (.ref b), .val (.int (Int32.ofNat o)), .val (.int (Int32.ofNat len)), .val .null, .val (.ref s.heap.size)] [.int (Int32.ofNat N.slots.size), .ref s.heap.size, .ref a])) := by
    have hc : Steps p.tables e below (s₁.setTop (entryFrame m #[.ref a, .ref b, .int (Int32.ofNat o), .int (Int32.ofNat len), .null] 6)) (T8.setTop (mkF m 45 #[.val (.ref a), .val (.ref b), .val (.int (Int32.ofNat o)), .val (.int (Int32.ofNat len)), .val .null, .val (.ref s.heap.size)] [.int (Int32.ofNat len), .ref s.heap.size, .ref a])) := c9.trans (by
      refine XS.astore X8.here hexec rfl (hb hbytes d39) rfl rfl rfl ?_
      refine XS.aloadN X8.here hexec rfl (hb hbytes d41) rfl rfl ?_
      refine XS.aload X8.here hexec rfl (hb hbytes d42) rfl rfl ?_
      refine XS.iloadN X8.here hexec rfl (hb hbytes d44) rfl ?_
      exact Steps.refl _)
    rw [n4]; exact hc
  obtain ⟨v11, T11, X11, E11, g11⟩ := X8.callS hexec (CodL.law l s.heap.size N) hown (wks W (staticW "java/lang/String" 47 CodL.yN)) (wk W CodL.tab) (W := 1) (Nat.le_of_ble_eq_true rfl) (Nat.le_of_ble_eq_true rfl) (Nat.le_refl _) (by show 0 + len + 0 ≤ len; omega) (g := (mkF m 45 #[.val (.ref a), .val (.ref b), .val (.int (Int32.ofNat o)), .val (.int (Int32.ofNat len)), .val .null, .val (.ref s.heap.size)] [.int (Int32.ofNat N.slots.size), .ref s.heap.size, .ref a])) rfl (by rw [hml]; rfl) c10 (argsL := [.ref s.heap.size, .int (Int32.ofNat N.slots.size)]) (rest := [.ref a]) rfl rfl (by show 2 * 0 + (1 + 0) ≤ _; decide) (hb hbytes d45) (⟨rfl, n1⟩)
  obtain ⟨rfl, q11⟩ := E11
  have hB11 := hB1.mv (X8.warmed.alike.symm.trans X11.warmed.alike) q11
  have c12 : Steps p.tables e below (s₁.setTop (entryFrame m #[.ref a, .ref b, .int (Int32.ofNat o), .int (Int32.ofNat len), .null] 6)) (T11.setTop (mkF m 48 #[.val (.ref a), .val (.ref b), .val (.int (Int32.ofNat o)), .val (.int (Int32.ofNat len)), .val .null, .val (.ref s.heap.size)] [.int 0, .ref a])) := g11
  obtain ⟨T13, X13, p13, bl13, sl13, st13⟩ := X11.finit hexec hown (wk W (.fieldLink "java/lang/String" 15 "java/lang/String" "coder" "B")) (Or.inr ⟨_, (wk W (.laysFinal "java/lang/String" "java/lang/String" "coder" "B"))⟩) (Or.inl ⟨rfl, hnm⟩) f2 (Or.inl rfl) hB11 (t := .byte) (by decide +kernel) rfl (g := (mkF m 48 #[.val (.ref a), .val (.ref b), .val (.int (Int32.ofNat o)), .val (.int (Int32.ofNat len)), .val .null, .val (.ref s.heap.size)] [.int 0, .ref a])) rfl (rest := []) rfl (hb hbytes d48)
  have c14 : Steps p.tables e below (s₁.setTop (entryFrame m #[.ref a, .ref b, .int (Int32.ofNat o), .int (Int32.ofNat len), .null] 6)) (T13.setTop (mkF m 54 #[.val (.ref a), .val (.ref b), .val (.int (Int32.ofNat o)), .val (.int (Int32.ofNat len)), .val .null, .val (.ref s.heap.size)] [.ref s.heap.size, .ref a])) := (c12.trans (st13 _ (Steps.refl _))).trans (by
    refine XS.aloadN X13.here hexec rfl (hb hbytes d51) rfl rfl ?_
    refine XS.aload X13.here hexec rfl (hb hbytes d52) rfl rfl ?_
    exact Steps.refl _)
  obtain ⟨T15, X15, p15, bl15, sl15, st15⟩ := X13.finit hexec hown (wk W (.fieldLink "java/lang/String" 9 "java/lang/String" "value" "[B")) (Or.inr ⟨_, (wk W (.laysFinal "java/lang/String" "java/lang/String" "value" "[B"))⟩) (Or.inl ⟨rfl, hnm⟩) f1 (Or.inl rfl) bl13 (t := (.array .byte)) (by decide +kernel) rfl (g := (mkF m 54 #[.val (.ref a), .val (.ref b), .val (.int (Int32.ofNat o)), .val (.int (Int32.ofNat len)), .val .null, .val (.ref s.heap.size)] [.ref s.heap.size, .ref a])) rfl (rest := []) rfl (hb hbytes d54)
  have c16 : Steps p.tables e below (s₁.setTop (entryFrame m #[.ref a, .ref b, .int (Int32.ofNat o), .int (Int32.ofNat len), .null] 6)) (T15.setTop (mkF m 57 #[.val (.ref a), .val (.ref b), .val (.int (Int32.ofNat o)), .val (.int (Int32.ofNat len)), .val .null, .val (.ref s.heap.size)] [])) := c14.trans (st15 _ (Steps.refl _))
  have ap := apart (Or.inr ⟨_, (wk W (.laysFinal "java/lang/String" "java/lang/String" "value" "[B"))⟩) (Or.inr ⟨_, (wk W (.laysFinal "java/lang/String" "java/lang/String" "coder" "B"))⟩) f1 f2 (t₁ := .array .byte) (t₂ := .byte) (by decide +kernel) (by decide +kernel) (by decide)
  have al := X8.warmed.alike.symm.trans X15.warmed.alike
  have n7 : T11.heap[s.heap.size]? = some N := by rw [q11]; exact n1.1
  exact ⟨T15, none, _, _, _, X15, by simp, rfl, by omega, (fun _ => rfl), ⟨rfl, _, N, bl15, ((Same.refl D _).set _ (by simp)).set _ (by simp), sl15, (Cell.slots_setSlot_ne _ ap).trans sl13, n1.keep al (p15.other hne (p13.other hne n7)), n2, by rw [al.findClass]; exact n3, n4, n5, fun y c h1 h2 => p15.other h1 (p13.other h1 (by rw [q11]; exact n6 y c h2)), by rw [p15.2.2, p13.2.2, q11]; exact z8⟩, fun fs hl => c16.trans (X15.returnOut hexec hret (hb hbytes d57) hl)⟩
end New4
namespace New1
def yN : MethodName := ⟨"java/lang/String", "<init>", "([C)V"⟩
abbrev yB : ByteArray := jdk_42_method_3_code
theorem d0 : decode yB 0 = .ok (.aload_n 0, 1) := by decide +kernel
theorem d1 : decode yB 1 = .ok (.aload_n 1, 1) := by decide +kernel
theorem d2 : decode yB 2 = .ok (.iconst 0, 1) := by decide +kernel
theorem d3 : decode yB 3 = .ok (.aload_n 1, 1) := by decide +kernel
theorem d4 : decode yB 4 = .ok (.arraylength, 1) := by decide +kernel
theorem d5 : decode yB 5 = .ok (.aconst_null, 1) := by decide +kernel
theorem d6 : decode yB 6 = .ok (.invokespecial 27, 3) := by decide +kernel
theorem d9 : decode yB 9 = .ok (.return_, 1) := by decide +kernel
def site : List Cond := [New4.tab] ++ initW "java/lang/String" 27 New4.yN
def tab : Cond := tabOf yN yB 2 none site
def P (a : Addr) (D : Cell) (fV fC : Field) (b : Addr) (A : Cell) (z : Int32) (args : Array Value) (s : State) : Prop := args = #[.ref a, .ref b] ∧ Blank "java/lang/String" a D s ∧ Found "java/lang/String" "value" "[B" fV s ∧ Found "java/lang/String" "coder" "B" fC s ∧ Ch b A s ∧ StaticIs s "java/lang/String" "COMPACT_STRINGS" "Z" (.int z) ∧ ¬ z = 0 ∧ 0 < A.slots.size ∧ A.slots.size ≤ 536870912 ∧ ∀ i, i < A.slots.size → ¬ 255 < cv A i
def E (a : Addr) (D : Cell) (fV fC : Field) (A : Cell) (r : Option Value) (s u : State) : Prop := Got a D fV fC A 0 A.slots.size r s u
/-- new String(chars), not empty, no char above 255: a Latin-1 String of their low bytes -/
theorem law (l : Launch) (a : Addr) (D : Cell) (fV fC : Field) (b : Addr) (A : Cell) (z : Int32) : Law l yN 2 1 3 52 yB 2 none site (P a D fV fC b A z) (E a D fV fC A) [⟨a, fC.slot⟩, ⟨a, fV.slot⟩] 1 A.slots.size := by
  refine Law.of_walk (plainFor_of_name (by decide +kernel)) (by decide +kernel) (by decide +kernel) (by decide) (fun _ _ h => by rw [h.1]; rfl) (fun _ U U' hal hh h => ⟨h.1, h.2.1.mv hal hh, h.2.2.1.al hal, h.2.2.2.1.al hal, h.2.2.2.2.1.mv hal hh, h.2.2.2.2.2.1.there hal hh, h.2.2.2.2.2.2⟩) (fun r U U' V V' h1 hal h2 h => Got.mv r U U' V V' h1 hal h2 h) ?_
  intro p e s m args below meth c s₁ X0 hexec hbytes hml hret hlk hnm hown hh0 W hP
  obtain ⟨rfl, hB, f1, f2, hA, s1, hz, l0, l2, hp⟩ := hP
  have c1 : Steps p.tables e below (s₁.setTop (entryFrame m #[.ref a, .ref b] 2)) (s₁.setTop (mkF m 0 #[.val (.ref a), .val (.ref b)] [])) := entry rfl
  have c2 : Steps p.tables e below (s₁.setTop (entryFrame m #[.ref a, .ref b] 2)) (s₁.setTop (mkF m 6 #[.val (.ref a), .val (.ref b)] [.null, .int (Int32.ofNat A.slots.size), .int 0, .ref b, .ref a])) := c1.trans (by
    refine XS.aloadN X0.here hexec rfl (hb hbytes d0) rfl rfl ?_
    refine XS.aloadN X0.here hexec rfl (hb hbytes d1) rfl rfl ?_
    refine iconstV X0.here hexec rfl 0 (hb hbytes d2) (by decide) ?_
    refine XS.aloadN X0.here hexec rfl (hb hbytes d3) rfl rfl ?_
    refine X0.alen hexec (hA.1.mv X0.warmed.alike hh0) rfl rfl (hb hbytes d4) ?_
    refine XS.aconstNull X0.here hexec rfl (hb hbytes d5) ?_
    exact Steps.refl _)
  obtain ⟨v3, T3, X3, E3, g3⟩ := X0.callN hexec (New4.law l a D fV fC b A z 0 A.slots.size) rfl hown (wks W (initW "java/lang/String" 27 New4.yN)) (W New4.tab (by simp only [site, List.mem_cons, List.mem_append, true_or, or_true])) (W := 0) (Nat.le_of_ble_eq_true rfl) (Nat.le_of_ble_eq_true rfl) (Nat.le_refl _) (by show 0 + A.slots.size ≤ A.slots.size; omega) (g := (mkF m 6 #[.val (.ref a), .val (.ref b)] [.null, .int (Int32.ofNat A.slots.size), .int (Int32.ofNat 0), .ref b, .ref a])) rfl (by rw [hml]; rfl) c2 (argsL := [.ref b, .int (Int32.ofNat 0), .int (Int32.ofNat A.slots.size), .null]) (rest := []) rfl rfl (by show 2 * 0 + 0 ≤ _; decide) (hb hbytes d6) (⟨rfl, hB.mv X0.warmed.alike hh0, f1.al X0.warmed.alike, f2.al X0.warmed.alike, hA.mv X0.warmed.alike hh0, s1.there X0.warmed.alike hh0, hz, l0, by omega, l2, fun i hi => by rw [Nat.zero_add]; exact hp i hi⟩)
  have e0 := Got.mv _ s₁ s _ _ hh0.symm (Vm.Alike.refl _) rfl E3
  obtain rfl := e0.1
  have c4 : Steps p.tables e below (s₁.setTop (entryFrame m #[.ref a, .ref b] 2)) (T3.setTop (mkF m 9 #[.val (.ref a), .val (.ref b)] [])) := g3
  exact ⟨T3, none, _, _, _, X3, by simp, rfl, by omega, (fun _ => rfl), e0, fun fs hl => c4.trans (X3.returnOut hexec hret (hb hbytes d9) hl)⟩
theorem pays {l : Launch} {R : Room} {p : Program} {e : Env} {below : List Frame} {s : State} {sargs : Array Value} {len W : Nat} (a : Addr) (D : Cell) (fV fC : Field) (b : Addr) (A : Cell) (z : Int32) (htab : tab.before sargs s = true) (hfr : 4 ≤ R.frames) (hlo : W + 65 ≤ R.locals) :
    Back l R p e below s sargs yN len W (fun A₁ a₁ => A₁.cells + 1 ≤ R.cells ∧ A₁.slots + A.slots.size ≤ R.slots ∧ P a D fV fC b A z a₁ A₁.U) (fun A₁ _ v₁ B₁ => E a D fV fC A v₁ A₁.U B₁.U ∧ B₁.locs = A₁.locs ++ [⟨a, fC.slot⟩, ⟨a, fV.slot⟩] ∧ B₁.cells = A₁.cells + 1 ∧ B₁.slots = A₁.slots + A.slots.size) :=
  (law l a D fV fC b A z).pays htab hfr (by omega)
end New1
/-- the byte, read back as charAt reads it, is the char -/
theorem lo8_mask {x : Int32} (h0 : ¬ x < 0) (h1 : ¬ 255 < x) : lo8 x &&& 255 = x := by
  have t : ∀ k : Fin 256, lo8 (Int32.ofNat k.val) &&& 255 = Int32.ofNat k.val := by decide +kernel
  rw [Int32.lt_iff_toInt_lt] at h0 h1
  have e0 : (0 : Int32).toInt = 0 := rfl
  have e1 : (255 : Int32).toInt = 255 := rfl
  obtain ⟨k, hk⟩ : ∃ k : Nat, x.toInt = k := ⟨x.toInt.toNat, by omega⟩
  have hx : x = Int32.ofNat k := Int32.toInt_inj.mp (by rw [hk, Int32.toInt_ofNat_small (by omega)])
  rw [hx]
  exact t ⟨k, by omega⟩
end StrChars
namespace StrChars.Road
open Jvm Sem ClassFile Op Lib Jvm.Stand Jvm.Free Jvm.Free.XT
open Jvm.Lib.Cold (StaticIs)
abbrev ST : String := "java/lang/String"
/-- every table word that New1's law asks, flat -/
abbrev words : List Jvm.Cond := [.code New1.yN New1.yB 2 none, .initialized ST, .methodLink ST 27 New4.yN, .instanceMethod New4.yN,
  .code New4.yN New4.yB 6 none, .fieldLink ST 38 ST "COMPACT_STRINGS" "Z", .laysFinal ST ST "value" "[B", .fieldLink ST 9 ST "value" "[B", .laysFinal ST ST "coder" "B", .fieldLink ST 15 ST "coder" "B",
  .methodLink ST 1 Lib.objectInit, .instanceMethod Lib.objectInit, .code Lib.objectInit ⟨#[0xb1]⟩ 1 none, .methodLink ST 177 Cmp3.yN, .static Cmp3.yN, .methodLink ST 47 CodL.yN, .static CodL.yN,
  .code Cmp3.yN Cmp3.yB 6 (some (.array .byte)), .initialized U16, .arrayClass .byte, .methodLink U16 115 Cmp5.yN, .static Cmp5.yN, .code Cmp5.yN Cmp5.yB 7 (some .int), .code CodL.yN CodL.yB 2 (some .byte)]
theorem tab_of {a : Array Value} {s : State} (h : ∀ w ∈ words, w.before a s = true) : New1.tab.before a s = true := by
  have h5 : Cmp5.tab.before a s = true := unparts (wk h (.code Cmp5.yN Cmp5.yB 7 (some .int))) (wks h (.initialized Cmp5.yN.cls :: Cmp5.site))
  have hc : CodL.tab.before a s = true := unparts (wk h (.code CodL.yN CodL.yB 2 (some .byte))) (wks h (.initialized CodL.yN.cls :: CodL.site))
  have q5 : ∀ w ∈ Cmp5.tab :: words, w.before a s = true := fun w hw => (List.mem_cons.mp hw).elim (fun e => e ▸ h5) (h w)
  have h3 : Cmp3.tab.before a s = true := unparts (wk q5 (.code Cmp3.yN Cmp3.yB 6 (some (.array .byte)))) (wks q5 (.initialized Cmp3.yN.cls :: Cmp3.site))
  have q3 : ∀ w ∈ Cmp3.tab :: CodL.tab :: words, w.before a s = true := fun w hw => (List.mem_cons.mp hw).elim (fun e => e ▸ h3) fun hw => (List.mem_cons.mp hw).elim (fun e => e ▸ hc) (h w)
  have h4 : New4.tab.before a s = true := unparts (wk q3 (.code New4.yN New4.yB 6 none)) (wks q3 (.initialized New4.yN.cls :: New4.site))
  have q4 : ∀ w ∈ New4.tab :: words, w.before a s = true := fun w hw => (List.mem_cons.mp hw).elim (fun e => e ▸ h4) (h w)
  exact unparts (wk q4 (.code New1.yN New1.yB 2 none)) (wks q4 (.initialized New1.yN.cls :: New1.site))
/-- the words ride from the start Z to the walk's own state -/
theorem moved {Z s : State} {a0 args : Array Value} (hZ : Z.Warmed39 s.vm) (hw : ∀ d ∈ words, d.before a0 Z = true) : ∀ d ∈ words, d.before args s = true := fun d hd => by
  have q := hw d hd
  have t : ∀ d ∈ words, d = .arrayClass .byte ∨ (d.onTables && d.keepsFace) = true := by decide +kernel
  rcases t d hd with rfl | t
  · exact RoadKit.mvA hZ q
  · exact RoadKit.mv hZ q t
/-- WHAT COMES BACK, over the tables of the start Z: h the heap at the call, h' behind it -/
def Q (Z : State) (x : Addr) (A : Cell) (h : Heap) (v : Option Value) (h' : Heap) (L : List Loc) : Prop := v = none ∧ (∀ y ∈ L, y.base = x) ∧ RoadKit.Keep h h' [x] ∧ h'.size = h.size + 1 ∧ RoadKit.Exa Z h' x ST ∧ RoadKit.Fld Z h' x ST "value" "[B" (.ref h.size) ∧ RoadKit.Fld Z h' x ST "coder" "B" (.int 0) ∧
  (∃ V : Cell, RoadKit.Arr Z h' h.size V .byte ∧ V.vm = .none ∧ Z.vm.findClass "[B" = some V.cls ∧ V.slots.size = A.slots.size ∧ ∀ j, j < A.slots.size → V.slots[j]? = some (.int (lo8 (cv A j)))) ∧
  ∀ (O n d : String) (w : Value), RoadKit.Fld Z h x O n d w → RoadKit.slotOf Z O n d ≠ RoadKit.slotOf Z ST "value" "[B" → RoadKit.slotOf Z O n d ≠ RoadKit.slotOf Z ST "coder" "B" → RoadKit.Fld Z h' x O n d w
/-- **new String(chars) AT A CALL, IN THE ROAD'S FORM**: for specialBack behind newO: x the fresh String, b the char[] with the cell A -/
theorem back {p : Program} {l : Launch} {e : Env} {R : Room} {s : State} {args : Array Value} {below : List Frame} {len W : Nat} {Z : State} {a0 : Array Value} {h : Heap} (hZ : Z.Warmed39 s.vm) (hw : ∀ d ∈ words, d.before a0 Z = true) {kI : Nat} (wi : (Jvm.Cond.instantiable ST kI).before a0 Z = true)
    {x b : Addr} {A : Cell} {z : Int32} {v0 c0 : Value} (E : RoadKit.Exa Z h x ST) (V : RoadKit.Fld Z h x ST "value" "[B" v0) (C : RoadKit.Fld Z h x ST "coder" "B" c0) (K : RoadKit.Arr Z h b A .char) (hty : Typed .char A) (S : RoadKit.Sta Z h ST "COMPACT_STRINGS" "Z" (.int z)) (hz : ¬ z = 0)
    (l0 : 0 < A.slots.size) (l2 : A.slots.size ≤ 536870912) (hp : ∀ i, i < A.slots.size → ¬ 255 < cv A i) (hfr : 4 ≤ R.frames) (hlo : W + 65 ≤ R.locals) :
    Back l R p e below s args New1.yN len W (fun P a => a = #[.ref x, .ref b] ∧ P.U.heap = h ∧ P.cells + 1 ≤ R.cells ∧ P.slots + A.slots.size ≤ R.slots)
      (fun P _ v B => ∃ L, Q Z x A h v B.U.heap L ∧ B.locs = P.locs ++ L ∧ B.cells = P.cells + 1 ∧ B.slots = P.slots + A.slots.size) := by
  intro m meth c P g ig mk a X hg hsize hdg hW hn hp'
  obtain ⟨rfl, rfl, r1, r2⟩ := hp'
  have al : Z.vm.Alike P.U.vm := hZ.alike.trans X.warmed.alike
  obtain ⟨D, cfV, kV, iV, fV, hD, gV, stV, knV, obV, asV, slV⟩ := id V
  obtain ⟨D', cfC, kC, iC, fC, hD', gC, stC, -, -, asC, slC⟩ := id C
  cases hD.symm.trans hD'
  obtain ⟨D2, kD, e1, e2, e3, e4, e5⟩ := id E
  cases hD.symm.trans e1
  obtain ⟨c2, k2, i1, i2, i3, -⟩ := Cond.instantiable_spec wi
  cases e2.symm.trans i1
  cases e3.symm.trans i2
  obtain ⟨kU, u1, u2⟩ := al.2.2 _ _ e3
  have hB : Blank ST x D P.U := ⟨hD, ⟨knV, fun q hq => by rw [hq] at obV; cases obV⟩, by rw [al.findClass]; exact e2, kU, u1, by rw [u2]; exact i3, by rw [u2]; exact e5 i3⟩
  have F1 : Found ST "value" "[B" fV P.U := ⟨SBG.found_only al ⟨cfV, kV, iV, gV⟩, stV⟩
  have F2 : Found ST "coder" "B" fC P.U := ⟨SBG.found_only al ⟨cfC, kC, iC, gC⟩, stC⟩
  have hA : Ch b A P.U := ⟨⟨K.1, State.isArrayOf_alike al K.2.1, K.2.2, by omega⟩, hty⟩
  have hS : StaticIs P.U ST "COMPACT_STRINGS" "Z" (.int z) := by
    obtain ⟨cfS, iS, kS, fS, st, cS, t1, t2, t3, t4, t5, t6, t7⟩ := S
    exact StaticIs.there (s := { Z with heap := P.U.heap }) ⟨cfS, iS, kS, fS, st, cS, t1, t2, t3, t4, t5, (fun q => by rw [q] at t6; cases t6), t7⟩ al rfl
  obtain ⟨v, B, X', ⟨⟨hv, E', V', q1, q2, q3, q4, q5, q6, q7, q8, q9, q10, q11⟩, hl, hc, hs⟩, st⟩ := New1.pays x D fV fC b A z (tab_of (moved hZ hw)) hfr hlo m meth c P g ig mk _ X hg hsize hdg hW hn ⟨r1, r2, rfl, hB, F1, F2, hA, hS, hz, l0, l2, hp⟩
  have al' : Z.vm.Alike B.U.vm := hZ.alike.trans X'.warmed.alike
  have hsz : E'.slots.size = D.slots.size := by
    obtain ⟨-, -, -, kB, w1, w2, w3⟩ := q1
    obtain ⟨kB', y1, y2⟩ := al'.2.2 _ _ e3
    rw [q2.2.1] at w1
    cases w1.symm.trans y1
    rw [w3, e5 i3, y2]
  refine ⟨v, B, X', ⟨_, ⟨hv, ?_, ⟨by omega, fun y cy hy hn' => q10 y cy (by simpa using hn') hy, fun y cy hy => ?_⟩, q11, ⟨E', _, q1.1, by rw [q2.2.1]; exact e2, by rw [q2.2.1]; exact e3, by rw [q2.1]; exact obV, fun _ => by rw [hsz]; exact e5 i3⟩,
    ⟨E', cfV, kV, iV, fV, q1.1, gV, stV, by rw [q2.1]; exact knV, by rw [q2.1]; exact obV, by rw [q2.2.1]; exact asV, q3⟩, ⟨E', cfC, kC, iC, fC, q1.1, gC, stC, by rw [q2.1]; exact knV, by rw [q2.1]; exact obV, by rw [q2.2.1]; exact asC, q4⟩,
    ⟨V', ⟨q5.1, State.isArrayOf_alike al'.symm q5.2.1, q5.2.2.1⟩, q6, by rw [← al'.findClass]; exact q7, q8, fun j hj => by have := q9 j hj; rwa [Nat.zero_add] at this⟩, fun O n d w F n1 n2 => ?_⟩, hl, hc, hs⟩, st⟩
  · intro y hy
    simp only [List.mem_cons, List.not_mem_nil, or_false] at hy
    rcases hy with rfl | rfl <;> rfl
  · by_cases q : y = x
    · subst q
      cases hD.symm.trans hy
      exact ⟨E', q1.1, q2.2.1, q2.1, hsz⟩
    · exact ⟨cy, q10 y cy q hy, rfl, rfl, rfl⟩
  · obtain ⟨D3, cf, k, i, f, g1, g2, g3, g4, g5, g6, g7⟩ := F
    cases hD.symm.trans g1
    simp only [RoadKit.slotOf, g2, gV, gC, Option.map_some, Option.getD_some] at n1 n2
    exact ⟨E', cf, k, i, f, q1.1, g2, g3, by rw [q2.1]; exact g4, by rw [q2.1]; exact g5, by rw [q2.2.1]; exact g6, by rw [q2.2.2 f.slot (by simp [n1, n2])]; exact g7⟩
end StrChars.Road
namespace StrChars.Road
open Jvm Sem ClassFile Op Lib Jvm.Stand Jvm.Free Jvm.Free.XT
/-- WHAT COMES BACK, the byte[] as a list of values -/
def QA (Z : State) (x : Addr) (zn : Int32) (cs : List Int32) (h : Heap) (v : Option Value) (h' : Heap) (L : List Loc) : Prop := v = none ∧ (∀ y ∈ L, y.base = x) ∧ RoadKit.Keep h h' [x] ∧ h'.size = h.size + 1 ∧ RoadKit.Exa Z h' x ST ∧ RoadKit.Fld Z h' x ST "value" "[B" (.ref h.size) ∧ RoadKit.Fld Z h' x ST "coder" "B" (.int 0) ∧
  (∃ kb, Z.vm.findClass "[B" = some kb ∧ RoadKit.Arv Z h' h.size kb .byte zn (cs.map fun c => .int (lo8 c)) (.int 0)) ∧
  ∀ (O n d : String) (w : Value), RoadKit.Fld Z h x O n d w → RoadKit.slotOf Z O n d ≠ RoadKit.slotOf Z ST "value" "[B" → RoadKit.slotOf Z O n d ≠ RoadKit.slotOf Z ST "coder" "B" → RoadKit.Fld Z h' x O n d w
/-- **new String(chars) AT A CALL, THE ARRAYS AS LISTS**: the char[] at b holds cs, not empty, no char above 255 -/
theorem backArv {p : Program} {l : Launch} {e : Env} {R : Room} {s : State} {args : Array Value} {below : List Frame} {len W : Nat} {Z : State} {a0 : Array Value} {h : Heap} (hZ : Z.Warmed39 s.vm) (hw : ∀ d ∈ words, d.before a0 Z = true) {kI : Nat} (wi : (Jvm.Cond.instantiable ST kI).before a0 Z = true)
    {x b : Addr} {k : ClassId} {zn z : Int32} {cs : List Int32} {dv v0 c0 : Value} (E : RoadKit.Exa Z h x ST) (V : RoadKit.Fld Z h x ST "value" "[B" v0) (C : RoadKit.Fld Z h x ST "coder" "B" c0) (K : RoadKit.Arv Z h b k .char zn (cs.map Value.int) dv) (S : RoadKit.Sta Z h ST "COMPACT_STRINGS" "Z" (.int z)) (hz : ¬ z = 0)
    (hlen : zn.toNatClampNeg = cs.length) (h0 : 0 < cs.length) (hbig : cs.length ≤ 536870912) (hall : ∀ c ∈ cs, ¬ 255 < c) (hfr : 4 ≤ R.frames) (hlo : W + 65 ≤ R.locals) :
    Back l R p e below s args New1.yN len W (fun P a => a = #[.ref x, .ref b] ∧ P.U.heap = h ∧ P.cells + 1 ≤ R.cells ∧ P.slots + cs.length ≤ R.slots)
      (fun P _ v B => ∃ L, QA Z x zn cs h v B.U.heap L ∧ B.locs = P.locs ++ L ∧ B.cells = P.cells + 1 ∧ B.slots = P.slots + cs.length) := by
  obtain ⟨A, K1, K2, K3, K4, K5, K6⟩ := K
  have e : A.slots.size = cs.length := K3.trans hlen
  have hat : ∀ (i : Nat) (hi : i < cs.length), A.slots[i]? = some (.int cs[i]) := fun i hi => by rw [K5 i (by omega)]; simp [List.getD_eq_getElem?_getD, hi]
  have hcv : ∀ (i : Nat) (hi : i < cs.length), cv A i = cs[i] := fun i hi => by unfold cv; rw [hat i hi]
  have hty : Typed .char A := fun i v hv => by
    have hi : i < A.slots.size := (Array.getElem?_eq_some_iff.mp hv).1
    have q := K5 i hi
    rw [hv] at q
    rw [Option.some.inj q]
    exact K6 i hi
  refine Back.mono (back hZ hw wi E V C K1 hty S hz (by omega) (by omega) (fun i hi => by rw [hcv i (by omega)]; exact hall _ (List.getElem_mem _)) hfr hlo) (fun P a hp => ⟨hp.1, hp.2.1, hp.2.2.1, by rw [e]; exact hp.2.2.2⟩) (fun P a v B hp hq => ?_)
  obtain ⟨L, ⟨q1, q2, q3, q4, q5, q6, q7, ⟨V', v1, v2, v3, v4, v5⟩, q9⟩, hl, hc, hs⟩ := hq
  refine ⟨L, ⟨q1, q2, q3, q4, q5, q6, q7, ⟨V'.cls, v3, V', v1, rfl, by rw [v4, e, hlen], K4, fun i hi => ?_, fun i hi => ?_⟩, q9⟩, hl, hc, by rw [hs, e]⟩
  · have hi' : i < cs.length := by omega
    rw [v5 i (by omega), hcv i hi']; simp [List.getD_eq_getElem?_getD, hi']
  · have hi' : i < cs.length := by omega
    simp only [List.getD_eq_getElem?_getD, List.getElem?_map, List.getElem?_eq_getElem hi', Option.map_some, Option.getD_some]
    exact fits_lo8 _
end StrChars.Road
namespace StrChars.Road
open Jvm Sem ClassFile Op Lib Jvm.Stand Jvm.Free Jvm.Free.XT
/-- WHAT COMES BACK, in the writer's own shape -/
def QV (Z : State) (x : Addr) (N : Int32) (bs : List Int32) (h : Heap) (n0 : Nat) (v : Option Value) (h' : Heap) (L : List Loc) : Prop := v = none ∧ RoadKit.Fr n0 L ∧ RoadKit.Keep h h' [x] ∧ RoadKit.Exa Z h' x ST ∧ RoadKit.Fld Z h' x ST "coder" "B" (.int 0) ∧
  ∃ (t : Addr) (kb : ClassId), n0 ≤ t ∧ h.size ≤ t ∧ ¬ t = x ∧ RoadKit.Fld Z h' x ST "value" "[B" (.ref t) ∧ RoadKit.Arv Z h' t kb .byte N (bs.map Value.int) (.int 0)
/-- **new String(chars) AT A CALL, FOR THE WRITER**: a char[] of n known ints, each 0 to 255 -/
theorem backV {p : Program} {l : Launch} {e : Env} {R : Room} {s : State} {args : Array Value} {below : List Frame} {len W : Nat} {Z : State} {a0 : Array Value} {h : Heap} (hZ : Z.Warmed39 s.vm) (hw : ∀ d ∈ words, d.before a0 Z = true) {kI : Nat} (wi : (Jvm.Cond.instantiable ST kI).before a0 Z = true)
    {x b : Addr} {kC : ClassId} {cs bs : List Int32} {d v0 c0 : Value} {z N : Int32} {n n0 : Nat} (hx0 : n0 ≤ x) (hh0 : n0 ≤ h.size) (E : RoadKit.Exa Z h x ST) (V : RoadKit.Fld Z h x ST "value" "[B" v0) (C : RoadKit.Fld Z h x ST "coder" "B" c0) (K : RoadKit.Arv Z h b kC .char N (cs.map Value.int) d) (S : RoadKit.Sta Z h ST "COMPACT_STRINGS" "Z" (.int z)) (hz : ¬ z = 0)
    (hn : cs.length = n) (hN : N = Int32.ofNat n) (l0 : 0 < n) (l2 : n ≤ 4000) (hp : ∀ c ∈ cs, ¬ c < 0 ∧ ¬ (255 : Int32) < c) (hb : bs = cs.map (fun c => c.toInt8.toInt32)) (hfr : 4 ≤ R.frames) (hlo : W + 65 ≤ R.locals) :
    Back l R p e below s args (⟨"java/lang/String", "<init>", "([C)V"⟩ : MethodName) len W (fun P a => a = #[.ref x, .ref b] ∧ P.U.heap = h ∧ P.cells + 1 ≤ R.cells ∧ P.slots + n ≤ R.slots)
      (fun P _ v B => ∃ L, QV Z x N bs h n0 v B.U.heap L ∧ B.locs = P.locs ++ L ∧ B.cells = P.cells + 1 ∧ B.slots = P.slots + n) := by
  subst hn hN hb
  refine Back.mono (backArv hZ hw wi E V C K S hz (n32 (by omega)) l0 (by omega) (fun c hc => (hp c hc).2) hfr hlo) (fun P a hp => hp) (fun P a v B hp hq => ?_)
  obtain ⟨L, ⟨q1, q2, q3, q4, q5, q6, q7, ⟨kb, v1, v2⟩, q9⟩, hl, hc, hs⟩ := hq
  exact ⟨L, ⟨q1, fun y hy => by rw [q2 y hy]; exact hx0, q3, q5, q7, h.size, kb, hh0, Nat.le_refl _, Nat.ne_of_gt E.lt, q6, by rw [List.map_map]; exact v2⟩, hl, hc, hs⟩
end StrChars.Road
namespace StrChars
open Jvm Sem ClassFile Op Lib Jvm.Stand Jvm.Free.XT Jvm.Free.ALB Jvm.Free.JM Jvm.Free
open Jvm.Lib.Cold (StaticIs)
def hi8 (x : Int32) : Int32 := lo8 (x >>> ((8 : Int32) &&& 31))
/-- what StringUTF16.getChar makes of two bytes -/
def pairCh (u v : Int32) : Int32 := (((u &&& 255) <<< ((0 : Int32) &&& 31)) ||| ((v &&& 255) <<< ((8 : Int32) &&& 31))).toUInt32.toUInt16.toUInt32.toInt32
theorem lo8_and (x : Int32) : (lo8 x &&& 255).toBitVec.toNat = x.toBitVec.toNat % 256 := by
  have h : (lo8 x).toBitVec = (x.toBitVec.signExtend 8).signExtend 32 := by rw [lo8, Int8.toBitVec_toInt32, Int32.toBitVec_toInt8]
  rw [Int32.toBitVec_and, BitVec.toNat_and, h]
  have e : ((x.toBitVec.signExtend 8).signExtend 32).toNat % 256 = x.toBitVec.toNat % 256 := by
    rw [BitVec.toNat_signExtend]
    have hlt := x.toBitVec.isLt
    simp only [BitVec.toNat_setWidth, BitVec.toNat_signExtend]
    split <;> split <;> omega
  rw [← e]
  exact Nat.and_two_pow_sub_one_eq_mod _ 8
theorem pair_says {c : Int32} (h0 : ¬ c < 0) (h1 : ¬ 65535 < c) : pairCh (lo8 c) (hi8 c) = c := by
  rw [Int32.lt_iff_toInt_lt] at h0 h1
  have e0 : (0 : Int32).toInt = 0 := rfl
  have e1 : (65535 : Int32).toInt = 65535 := rfl
  have hc : c.toInt = c.toBitVec.toNat := by
    have := c.toBitVec.isLt
    have e : c.toInt = c.toBitVec.toInt := rfl
    rw [e] at h0 h1
    rw [e]
    rw [BitVec.toInt_eq_toNat_cond] at h0 h1 ⊢
    split at h0 <;> split <;> omega
  have hn : c.toBitVec.toNat < 65536 := by omega
  have a1 := lo8_and c
  have a2 : (hi8 c &&& 255).toBitVec.toNat = c.toBitVec.toNat / 256 := by
    rw [hi8, lo8_and]
    have e : ((8 : Int32) &&& 31) = 8 := by decide
    rw [e, Int32.toBitVec_shiftRight]
    have e2 : ((8 : Int32).toBitVec.smod 32) = 8#32 := by decide
    rw [e2, BitVec.sshiftRight_eq', BitVec.toNat_sshiftRight_of_msb_false (by rw [BitVec.msb_eq_false_iff_two_mul_lt]; omega)]
    show c.toBitVec.toNat >>> 8 % 256 = _
    rw [Nat.shiftRight_eq_div_pow]
    omega
  unfold pairCh
  apply Int32.toBitVec_inj.mp
  apply BitVec.eq_of_toNat_eq
  have f0 : ((0 : Int32) &&& 31) = 0 := by decide
  have f8 : ((8 : Int32) &&& 31) = 8 := by decide
  rw [f0, f8]
  have g : (((lo8 c &&& 255) <<< (0 : Int32)) ||| ((hi8 c &&& 255) <<< (8 : Int32))).toBitVec.toNat = c.toBitVec.toNat := by
    rw [Int32.toBitVec_or, Int32.toBitVec_shiftLeft, Int32.toBitVec_shiftLeft]
    have s0 : ((0 : Int32).toBitVec.smod 32) = 0#32 := by decide
    have s8 : ((8 : Int32).toBitVec.smod 32) = 8#32 := by decide
    rw [s0, s8, BitVec.toNat_or]
    simp only [BitVec.shiftLeft_eq', BitVec.toNat_shiftLeft, a1, a2]
    show (c.toBitVec.toNat % 256) <<< 0 % 2 ^ 32 ||| (c.toBitVec.toNat / 256) <<< 8 % 2 ^ 32 = _
    rw [Nat.shiftLeft_zero, Nat.mod_eq_of_lt (show c.toBitVec.toNat % 256 < 2 ^ 32 by omega), Nat.mod_eq_of_lt (show (c.toBitVec.toNat / 256) <<< 8 < 2 ^ 32 by rw [Nat.shiftLeft_eq]; omega), Nat.or_comm, ← Nat.shiftLeft_add_eq_or_of_lt (by omega), Nat.shiftLeft_eq]
    omega
  show BitVec.toNat (((((lo8 c &&& 255) <<< (0 : Int32)) ||| ((hi8 c &&& 255) <<< (8 : Int32))).toBitVec.setWidth 16).setWidth 32) = _
  rw [BitVec.toNat_setWidth, BitVec.toNat_setWidth, g]
  omega
end StrChars
namespace StrChars
open Jvm Sem ClassFile Op Lib Jvm.Stand Jvm.Free.XT Jvm.Free.ALB Jvm.Free.JM Jvm.Free
open Jvm.Lib.Cold (StaticIs)
/-- charAt's cast of a byte read back -/
def chr8 (u : Int32) : Int32 := (u &&& 255).toUInt32.toUInt16.toUInt32.toInt32
theorem chr8_lo8 {c : Int32} (h0 : ¬ c < 0) (h1 : ¬ 255 < c) : chr8 (lo8 c) = c := by
  have t : ∀ k : Fin 256, (Int32.ofNat k.val).toUInt32.toUInt16.toUInt32.toInt32 = Int32.ofNat k.val := by decide +kernel
  unfold chr8
  rw [lo8_mask h0 h1]
  rw [Int32.lt_iff_toInt_lt] at h0 h1
  have e0 : (0 : Int32).toInt = 0 := rfl
  have e1 : (255 : Int32).toInt = 255 := rfl
  obtain ⟨k, hk⟩ : ∃ k : Nat, c.toInt = k := ⟨c.toInt.toNat, by omega⟩
  have hx : c = Int32.ofNat k := Int32.toInt_inj.mp (by rw [hk, Int32.toInt_ofNat_small (by omega)])
  rw [hx]
  exact t ⟨k, by omega⟩
theorem narrow_ch {c : Int32} (h0 : ¬ c < 0) (h1 : ¬ 65535 < c) : narrow .char (.int c) = .int c := by
  have q : narrow .char (.int (pairCh (lo8 c) (hi8 c))) = .int (pairCh (lo8 c) (hi8 c)) := narrow_c _
  rwa [pair_says h0 h1] at q
/-- the array's cell V codes the n chars f 0 .. f (n - 1) by the coder cd, as the JDK does: coder 1 just where some char is above 255 -/
def Cod (cd : Int32) (n : Nat) (f : Nat → Int32) (V : Cell) : Prop := (cd = 0 ∧ V.slots.size = n ∧ ∀ j, j < n → V.slots[j]? = some (.int (lo8 (f j))) ∧ ¬ 255 < f j) ∨ (cd = 1 ∧ V.slots.size = 2 * n ∧ (∀ j, j < n → V.slots[2 * j]? = some (.int (lo8 (f j))) ∧ V.slots[2 * j + 1]? = some (.int (hi8 (f j)))) ∧ ∃ j, j < n ∧ 255 < f j)
theorem Cod.cd {cd : Int32} {n : Nat} {f : Nat → Int32} {V : Cell} (h : Cod cd n f V) : cd = 0 ∨ cd = 1 := h.imp (fun q => q.1) fun q => q.1
/-- **x is a String of the n chars f 0 .. f (n - 1)**, Latin-1 or UTF-16; its array at t has the cell V -/
def Txt (x t : Addr) (V : Cell) (cd : Int32) (n : Nat) (f : Nat → Int32) (U : State) : Prop := Exact "java/lang/String" x U ∧ Has x "java/lang/String" "value" "[B" (.ref t) U ∧ Has x "java/lang/String" "coder" "B" (.int cd) U ∧ XT.Arr .byte t V U ∧ Cod cd n f V ∧ ∀ j, j < n → ¬ f j < 0 ∧ ¬ 65535 < f j
theorem Txt.mv {x t : Addr} {V : Cell} {cd : Int32} {n : Nat} {f : Nat → Int32} {U U' : State} (h : Txt x t V cd n f U) (hal : U.vm.Alike U'.vm) (hh : U'.heap = U.heap) : Txt x t V cd n f U' := ⟨h.1.mv hal hh, h.2.1.mv hal hh, h.2.2.1.mv hal hh, h.2.2.2.1.mv hal hh, h.2.2.2.2⟩
namespace IsL
def yN : MethodName := ⟨"java/lang/String", "isLatin1", "()Z"⟩
abbrev yB : ByteArray := jdk_42_method_154_code
theorem d0 : decode yB 0 = .ok (.getstatic 38, 3) := by decide +kernel
theorem d3 : decode yB 3 = .ok (.ifCond (.eq) 14, 3) := by decide +kernel
theorem d6 : decode yB 6 = .ok (.aload_n 0, 1) := by decide +kernel
theorem d7 : decode yB 7 = .ok (.getfield 15, 3) := by decide +kernel
theorem d10 : decode yB 10 = .ok (.ifCond (.ne) 7, 3) := by decide +kernel
theorem d13 : decode yB 13 = .ok (.iconst 1, 1) := by decide +kernel
theorem d14 : decode yB 14 = .ok (.goto 4, 3) := by decide +kernel
theorem d17 : decode yB 17 = .ok (.iconst 0, 1) := by decide +kernel
theorem d18 : decode yB 18 = .ok (.ireturn, 1) := by decide +kernel
def site : List Cond := [.fieldLink "java/lang/String" 38 "java/lang/String" "COMPACT_STRINGS" "Z", .fieldLink "java/lang/String" 15 "java/lang/String" "coder" "B"]
def tab : Cond := tabOf yN yB 1 (some .boolean) site
def P (x : Addr) (cd z : Int32) (args : Array Value) (s : State) : Prop := args = #[.ref x] ∧ Has x "java/lang/String" "coder" "B" (.int cd) s ∧ (cd = 0 ∨ cd = 1) ∧ StaticIs s "java/lang/String" "COMPACT_STRINGS" "Z" (.int z) ∧ ¬ z = 0
def E (cd : Int32) (r : Option Value) (s u : State) : Prop := XT.PureE (some (.int (1 - cd))) r s u
theorem law (l : Launch) (x : Addr) (cd z : Int32) : Law l yN 1 0 0 0 yB 1 (some .boolean) site (P x cd z) (E cd) [] 0 0 := by
  refine Law.of_walk (plainFor_of_name (by decide +kernel)) (by decide +kernel) (by decide +kernel) (by decide) (fun _ _ h => by rw [h.1]; rfl) (fun _ U U' hal hh h => ⟨h.1, h.2.1.mv hal hh, h.2.2.1, h.2.2.2.1.there hal hh, h.2.2.2.2⟩) (fun r U U' V V' h1 hal h2 h => XT.PureE.mv r U U' V V' h1 hal h2 h) ?_
  intro p e s m args below meth c s₁ X0 hexec hbytes hml hret hlk hnm hown hh0 W hP
  obtain ⟨rfl, hx, hc, s1, hz⟩ := hP
  have c1 : Steps p.tables e below (s₁.setTop (entryFrame m #[.ref x] 1)) (s₁.setTop (mkF m 0 #[.val (.ref x)] [])) := entry rfl
  obtain ⟨T2, X2, q2, st2⟩ := X0.sget hexec hown (wk W (.fieldLink "java/lang/String" 38 "java/lang/String" "COMPACT_STRINGS" "Z")) s1 (fun _ _ h => by rw [hh0]; exact h) (g := (mkF m 0 #[.val (.ref x)] [])) rfl (hb hbytes d0)
  have hh2 := q2.trans hh0
  have c3 : Steps p.tables e below (s₁.setTop (entryFrame m #[.ref x] 1)) (T2.setTop (mkF m 7 #[.val (.ref x)] [.ref x])) := (c1.trans (st2 _ (Steps.refl _))).trans (by
    refine XS.ifNo X2.here hexec rfl (hb hbytes d3) rfl (i0_eq_f hz) ?_
    refine XS.aloadN X2.here hexec rfl (hb hbytes d6) rfl rfl ?_
    exact Steps.refl _)
  obtain ⟨T4, X4, q4, st4⟩ := X2.hget hexec hown (wk W (.fieldLink "java/lang/String" 15 "java/lang/String" "coder" "B")) (hx.mv X2.warmed.alike hh2) (g := (mkF m 7 #[.val (.ref x)] [.ref x])) rfl (rest := []) rfl (hb hbytes d7)
  have c5 : Steps p.tables e below (s₁.setTop (entryFrame m #[.ref x] 1)) (T4.setTop (mkF m 10 #[.val (.ref x)] [.int cd])) := c3.trans (st4 _ (Steps.refl _))
  have c6 : Steps p.tables e below (s₁.setTop (entryFrame m #[.ref x] 1)) (T4.setTop (mkF m 18 #[.val (.ref x)] [.int (1 - cd)])) := by
    rcases hc with rfl | rfl
    · exact c5.trans (by
        refine XS.ifNo X4.here hexec rfl (hb hbytes d10) rfl (i0_ne_f rfl) ?_
        refine iconstV X4.here hexec rfl 1 (hb hbytes d13) (by decide) ?_
        refine XS.goto X4.here hexec rfl (pc0 := 14) rfl (hb hbytes d14) (by decide) rfl ?_
        exact Steps.refl _)
    · exact c5.trans (by
        refine XS.ifYes X4.here hexec rfl (pc0 := 10) rfl (hb hbytes d10) rfl (i0_ne_t (by decide)) (by decide) rfl ?_
        refine iconstV X4.here hexec rfl 0 (hb hbytes d17) (by decide) ?_
        exact Steps.refl _)
  exact ⟨T4, some (.int (1 - cd)), _, _, _, X4, rfl, rfl, rfl, (fun h => by cases h), ⟨rfl, q4.trans hh2⟩, fun fs hl => c6.trans (X4.ireturnOut hexec hret (by rcases hc with rfl | rfl <;> rfl) (Or.inr (Or.inl rfl)) (hb hbytes d18) hl)⟩
end IsL
namespace LChA
def yN : MethodName := ⟨"java/lang/StringLatin1", "charAt", "([BI)C"⟩
abbrev yB : ByteArray := jdk_43_method_2_code
theorem d0 : decode yB 0 = .ok (.iload_n 1, 1) := by decide +kernel
theorem d1 : decode yB 1 = .ok (.aload_n 0, 1) := by decide +kernel
theorem d2 : decode yB 2 = .ok (.arraylength, 1) := by decide +kernel
theorem d3 : decode yB 3 = .ok (.invokestatic 9, 3) := by decide +kernel
theorem d6 : decode yB 6 = .ok (.aload_n 0, 1) := by decide +kernel
theorem d7 : decode yB 7 = .ok (.iload_n 1, 1) := by decide +kernel
theorem d8 : decode yB 8 = .ok (.baload, 1) := by decide +kernel
theorem d9 : decode yB 9 = .ok (.sipush 255, 3) := by decide +kernel
theorem d12 : decode yB 12 = .ok (.iand, 1) := by decide +kernel
theorem d13 : decode yB 13 = .ok (.i2c, 1) := by decide +kernel
theorem d14 : decode yB 14 = .ok (.ireturn, 1) := by decide +kernel
def site : List Cond := [JO.Str_checkIndex.tab] ++ staticW "java/lang/StringLatin1" 9 JO.Str_checkIndex.yN
def tab : Cond := tabOf yN yB 2 (some .char) site
def P (t : Addr) (V : Cell) (i : Nat) (u : Int32) (fm : Value) (args : Array Value) (s : State) : Prop := args = #[.ref t, .int (Int32.ofNat i)] ∧ XT.Arr .byte t V s ∧ V.slots[i]? = some (.int u) ∧ (StaticIs s "jdk/internal/util/Preconditions" "SIOOBE_FORMATTER" "Ljava/util/function/BiFunction;" fm ∧ fm.isRef = true)
def E (u : Int32) (r : Option Value) (s w : State) : Prop := XT.PureE (some (.int (chr8 u))) r s w
theorem law (l : Launch) (t : Addr) (V : Cell) (i : Nat) (u : Int32) (fm : Value) : Law l yN 2 2 2 27 yB 2 (some .char) site (P t V i u fm) (E u) [] 0 0 := by
  refine Law.of_walk (plainFor_of_name (by decide +kernel)) (by decide +kernel) (by decide +kernel) (by decide) (fun _ _ h => by rw [h.1]; rfl) (fun _ U U' hal hh h => ⟨h.1, h.2.1.mv hal hh, h.2.2.1, h.2.2.2.1.there hal hh, h.2.2.2.2⟩) (fun r U U' V V' h1 hal h2 h => XT.PureE.mv r U U' V V' h1 hal h2 h) ?_
  intro p e s m args below meth c s₁ X0 hexec hbytes hml hret hlk hnm hown hh0 W hP
  obtain ⟨rfl, hV, hu, s1, rf⟩ := hP
  have v31 := hV.2.2.2
  have hi : i < V.slots.size := (Array.getElem?_eq_some_iff.mp hu).1
  have c1 : Steps p.tables e below (s₁.setTop (entryFrame m #[.ref t, .int (Int32.ofNat i)] 2)) (s₁.setTop (mkF m 0 #[.val (.ref t), .val (.int (Int32.ofNat i))] [])) := entry rfl
  have c2 : Steps p.tables e below (s₁.setTop (entryFrame m #[.ref t, .int (Int32.ofNat i)] 2)) (s₁.setTop (mkF m 3 #[.val (.ref t), .val (.int (Int32.ofNat i))] [.int (Int32.ofNat V.slots.size), .int (Int32.ofNat i)])) := c1.trans (by
    refine XS.iloadN X0.here hexec rfl (hb hbytes d0) rfl ?_
    refine XS.aloadN X0.here hexec rfl (hb hbytes d1) rfl rfl ?_
    refine X0.alen hexec (hV.mv X0.warmed.alike hh0) rfl rfl (hb hbytes d2) ?_
    exact Steps.refl _)
  obtain ⟨v3, T3, X3, E3, g3⟩ := X0.callS hexec (JO.Str_checkIndex.law l (Int32.ofNat i) (Int32.ofNat V.slots.size) fm) hown (wks W (staticW "java/lang/StringLatin1" 9 JO.Str_checkIndex.yN)) (wk W JO.Str_checkIndex.tab) (W := 0) (Nat.le_of_ble_eq_true rfl) (Nat.le_of_ble_eq_true rfl) (Nat.le_refl _) (Nat.le_refl _) (g := (mkF m 3 #[.val (.ref t), .val (.int (Int32.ofNat i))] [.int (Int32.ofNat V.slots.size), .int (Int32.ofNat i)])) rfl (by rw [hml]; rfl) c2 (argsL := [.int (Int32.ofNat i), .int (Int32.ofNat V.slots.size)]) (rest := []) rfl rfl (by show 2 * 0 + 0 ≤ _; decide) (hb hbytes d3) (⟨rfl, rf, s1.there X0.warmed.alike hh0, Int32.ofNat_not_neg (by omega), lt32 v31 hi⟩)
  obtain ⟨rfl, q3⟩ := E3
  have hh3 := q3.trans hh0
  have c4 : Steps p.tables e below (s₁.setTop (entryFrame m #[.ref t, .int (Int32.ofNat i)] 2)) (T3.setTop (mkF m 14 #[.val (.ref t), .val (.int (Int32.ofNat i))] [.int (chr8 u)])) := Steps.trans g3 (by
    refine XS.aloadN X3.here hexec rfl (hb hbytes d6) rfl rfl ?_
    refine XS.iloadN X3.here hexec rfl (hb hbytes d7) rfl ?_
    refine X3.aget hexec (hV.mv X3.warmed.alike hh3) rfl hu rfl rfl (hb hbytes d8) ?_
    refine sipushV X3.here hexec rfl 255 (hb hbytes d9) (by decide) ?_
    refine XS.iand X3.here hexec rfl (hb hbytes d12) rfl ?_
    refine i2c X3.here hexec rfl (hb hbytes d13) rfl ?_
    exact Steps.refl _)
  exact ⟨T3, some (.int (chr8 u)), _, _, _, X3, rfl, rfl, rfl, (fun h => by cases h), ⟨rfl, hh3⟩, fun fs hl => c4.trans (X3.ireturnOut hexec hret (narrow_c _) (Or.inr (Or.inr (Or.inr (Or.inl rfl)))) (hb hbytes d14) hl)⟩
end LChA
end StrChars
namespace StrChars.Road
open Jvm Sem ClassFile Op Lib Jvm.Stand Jvm.Free Jvm.Free.XT
open Jvm.Lib.Cold (StaticIs)
theorem consq {a : Array Value} {s : State} {c : Jvm.Cond} {L : List Jvm.Cond} (h0 : c.before a s = true) (h : ∀ w ∈ L, w.before a s = true) : ∀ w ∈ c :: L, w.before a s = true := fun w hw => (List.mem_cons.mp hw).elim (fun e => e ▸ h0) (h w)
/-- the bytes of the chars cs, low before high -/
def wideBytes : List Int32 → List Value
  | [] => []
  | c :: cs => .int (lo8 c) :: .int (hi8 c) :: wideBytes cs
theorem wide_lo (d : Value) : ∀ (cs : List Int32) (j : Nat), j < cs.length → (wideBytes cs).getD (2 * j) d = .int (lo8 (cs.getD j 0))
  | [], j, h => absurd h (Nat.not_lt_zero j)
  | c :: cs, 0, _ => rfl
  | c :: cs, j + 1, h => by
    have q := wide_lo d cs j (by simpa using h)
    rw [show 2 * (j + 1) = 2 * j + 1 + 1 from by omega]
    simpa [wideBytes] using q
theorem wide_hi (d : Value) : ∀ (cs : List Int32) (j : Nat), j < cs.length → (wideBytes cs).getD (2 * j + 1) d = .int (hi8 (cs.getD j 0))
  | [], j, h => absurd h (Nat.not_lt_zero j)
  | c :: cs, 0, _ => rfl
  | c :: cs, j + 1, h => by
    have q := wide_hi d cs j (by simpa using h)
    rw [show 2 * (j + 1) + 1 = 2 * j + 1 + 1 + 1 from by omega]
    simpa [wideBytes] using q
theorem low_at (d : Value) (cs : List Int32) (j : Nat) (h : j < cs.length) : (cs.map fun c => Value.int (lo8 c)).getD j d = .int (lo8 (cs.getD j 0)) := by
  simp [List.getD_eq_getElem?_getD, h]
/-- an array of N2 bytes vs codes the chars cs by the coder cd -/
def CodA (cs : List Int32) (cd N2 : Int32) (vs : List Value) : Prop := (cd = 0 ∧ N2 = Int32.ofNat cs.length ∧ vs = (cs.map fun c => Value.int (lo8 c)) ∧ ∀ c ∈ cs, ¬ 255 < c) ∨ (cd = 1 ∧ N2 = Int32.ofNat (2 * cs.length) ∧ vs = wideBytes cs ∧ ∃ c ∈ cs, 255 < c)
theorem CodA.cod {cs : List Int32} {cd N2 : Int32} {vs : List Value} {V : Cell} (h : CodA cs cd N2 vs) (hn : 2 * cs.length < 2 ^ 31) (hs : V.slots.size = N2.toNatClampNeg) (hv : RoadKit.Has V vs (.int 0)) : Cod cd cs.length (fun j => cs.getD j 0) V := by
  rcases h with ⟨rfl, rfl, rfl, h⟩ | ⟨rfl, rfl, rfl, c, hc, hw⟩
  · rw [n32 (by omega)] at hs
    exact Or.inl ⟨rfl, hs, fun j hj => ⟨by rw [hv j (by omega), low_at _ _ _ hj], by
      have e : cs.getD j 0 = cs[j] := by simp [List.getD_eq_getElem?_getD, hj]
      show ¬ 255 < cs.getD j 0
      rw [e]; exact h _ (List.getElem_mem _)⟩⟩
  · rw [n32 (by omega)] at hs
    obtain ⟨j, hj, rfl⟩ := List.getElem_of_mem hc
    exact Or.inr ⟨rfl, hs, fun j hj => ⟨by rw [hv _ (by omega), wide_lo _ _ _ hj], by rw [hv _ (by omega), wide_hi _ _ _ hj]⟩, j, hj, by
      have e : cs.getD j 0 = cs[j] := by simp [List.getD_eq_getElem?_getD, hj]
      show 255 < cs.getD j 0
      rw [e]; exact hw⟩
/-- an object of exactly java/lang/String, its two fields found: as the laws ask it -/
theorem strObj {Z U : State} {a0 : Array Value} {kI : Nat} (wi : (Jvm.Cond.instantiable ST kI).before a0 Z = true) (al : Z.vm.Alike U.vm) {x : Addr} {v0 c0 : Value} (E : RoadKit.Exa Z U.heap x ST) (V : RoadKit.Fld Z U.heap x ST "value" "[B" v0) (C : RoadKit.Fld Z U.heap x ST "coder" "B" c0) :
    ∃ (D : Cell) (fV fC : Field), Blank ST x D U ∧ Found ST "value" "[B" fV U ∧ Found ST "coder" "B" fC U ∧ D.slots[fV.slot]? = some v0 ∧ D.slots[fC.slot]? = some c0 ∧ RoadKit.slotOf Z ST "value" "[B" = fV.slot ∧ RoadKit.slotOf Z ST "coder" "B" = fC.slot := by
  obtain ⟨D, cfV, kV, iV, fV, hD, gV, stV, knV, obV, asV, slV⟩ := V
  obtain ⟨D', cfC, kC, iC, fC, hD', gC, stC, -, -, asC, slC⟩ := C
  cases hD.symm.trans hD'
  obtain ⟨D2, kD, e1, e2, e3, e4, e5⟩ := E
  cases hD.symm.trans e1
  obtain ⟨c2, k2, i1, i2, i3, -⟩ := Cond.instantiable_spec wi
  cases e2.symm.trans i1
  cases e3.symm.trans i2
  obtain ⟨kU, u1, u2⟩ := al.2.2 _ _ e3
  exact ⟨D, fV, fC, ⟨hD, ⟨knV, fun q hq => by rw [hq] at obV; cases obV⟩, by rw [al.findClass]; exact e2, kU, u1, by rw [u2]; exact i3, by rw [u2]; exact e5 i3⟩, ⟨SBG.found_only al ⟨cfV, kV, iV, gV⟩, stV⟩, ⟨SBG.found_only al ⟨cfC, kC, iC, gC⟩, stC⟩, slV, slC, by simp [RoadKit.slotOf, gV], by simp [RoadKit.slotOf, gC]⟩
theorem sta_is {Z U : State} (al : Z.vm.Alike U.vm) {C n d : String} {v : Value} (S : RoadKit.Sta Z U.heap C n d v) : StaticIs U C n d v := by
  obtain ⟨cfS, iS, kS, fS, st, cS, t1, t2, t3, t4, t5, t6, t7⟩ := S
  exact StaticIs.there (s := { Z with heap := U.heap }) ⟨cfS, iS, kS, fS, st, cS, t1, t2, t3, t4, t5, (fun q => by rw [q] at t6; cases t6), t7⟩ al rfl
end StrChars.Road
namespace StrChars
open Jvm Sem ClassFile Op Lib Jvm.Stand Jvm.Free.XT Jvm.Free.ALB Jvm.Free.JM Jvm.Free
open Jvm.Lib.Cold (StaticIs)
namespace Emp
def yN : MethodName := ⟨"java/lang/String", "isEmpty", "()Z"⟩
abbrev yB : ByteArray := jdk_42_method_55_code
theorem d0 : decode yB 0 = .ok (.aload_n 0, 1) := by decide +kernel
theorem d1 : decode yB 1 = .ok (.getfield 9, 3) := by decide +kernel
theorem d4 : decode yB 4 = .ok (.arraylength, 1) := by decide +kernel
theorem d5 : decode yB 5 = .ok (.ifCond (.ne) 7, 3) := by decide +kernel
theorem d8 : decode yB 8 = .ok (.iconst 1, 1) := by decide +kernel
theorem d9 : decode yB 9 = .ok (.goto 4, 3) := by decide +kernel
theorem d12 : decode yB 12 = .ok (.iconst 0, 1) := by decide +kernel
theorem d13 : decode yB 13 = .ok (.ireturn, 1) := by decide +kernel
def site : List Cond := [.fieldLink "java/lang/String" 9 "java/lang/String" "value" "[B"]
def tab : Cond := tabOf yN yB 1 (some .boolean) site
def P (x t : Addr) (V : Cell) (cd : Int32) (n : Nat) (f : Nat → Int32) (args : Array Value) (s : State) : Prop := args = #[.ref x] ∧ Txt x t V cd n f s
def E (n : Nat) (r : Option Value) (s u : State) : Prop := XT.PureE (some (.int (if n = 0 then 1 else 0))) r s u
/-- isEmpty() of a String of n chars -/
theorem law (l : Launch) (x t : Addr) (V : Cell) (cd : Int32) (n : Nat) (f : Nat → Int32) : Law l yN 1 0 0 0 yB 1 (some .boolean) site (P x t V cd n f) (E n) [] 0 0 := by
  refine Law.of_walk (plainFor_of_name (by decide +kernel)) (by decide +kernel) (by decide +kernel) (by decide) (fun _ _ h => by rw [h.1]; rfl) (fun _ U U' hal hh h => ⟨h.1, h.2.mv hal hh⟩) (fun r U U' V V' h1 hal h2 h => XT.PureE.mv r U U' V V' h1 hal h2 h) ?_
  intro p e s m args below meth c s₁ X0 hexec hbytes hml hret hlk hnm hown hh0 W hP
  obtain ⟨rfl, hx⟩ := hP
  have v31 := hx.2.2.2.1.2.2.2
  have c1 : Steps p.tables e below (s₁.setTop (entryFrame m #[.ref x] 1)) (s₁.setTop (mkF m 1 #[.val (.ref x)] [.ref x])) := Steps.trans (entry rfl) (by
    show Steps p.tables e below (s₁.setTop (mkF m 0 #[.val (.ref x)] [])) _
    refine XS.aloadN X0.here hexec rfl (hb hbytes d0) rfl rfl ?_
    exact Steps.refl _)
  obtain ⟨T2, X2, q2, st2⟩ := X0.hget hexec hown (wk W (.fieldLink "java/lang/String" 9 "java/lang/String" "value" "[B")) (hx.mv X0.warmed.alike hh0).2.1 (g := (mkF m 1 #[.val (.ref x)] [.ref x])) rfl (rest := []) rfl (hb hbytes d1)
  have hh2 := q2.trans hh0
  have hx2 := hx.mv X2.warmed.alike hh2
  have c3 : Steps p.tables e below (s₁.setTop (entryFrame m #[.ref x] 1)) (T2.setTop (mkF m 5 #[.val (.ref x)] [.int (Int32.ofNat V.slots.size)])) := (c1.trans (st2 _ (Steps.refl _))).trans (by
    refine X2.alen hexec hx2.2.2.2.1 rfl rfl (hb hbytes d4) ?_
    exact Steps.refl _)
  have hz : V.slots.size = 0 ↔ n = 0 := by
    rcases hx.2.2.2.2.1 with ⟨-, q, -⟩ | ⟨-, q, -⟩ <;> omega
  by_cases h0 : n = 0
  · have c4 : Steps p.tables e below (s₁.setTop (entryFrame m #[.ref x] 1)) (T2.setTop (mkF m 13 #[.val (.ref x)] [.int 1])) := c3.trans (by
      refine XS.ifNo X2.here hexec rfl (hb hbytes d5) rfl (i0_ne_f (by rw [hz.mpr h0]; rfl)) ?_
      refine iconstV X2.here hexec rfl 1 (hb hbytes d8) (by decide) ?_
      refine XS.goto X2.here hexec rfl (pc0 := 9) rfl (hb hbytes d9) (by decide) rfl ?_
      exact Steps.refl _)
    exact ⟨T2, some (.int 1), _, _, _, X2, rfl, rfl, rfl, (fun h => by cases h), ⟨by rw [if_pos h0], hh2⟩, fun fs hl => c4.trans (X2.ireturnOut hexec hret rfl (Or.inr (Or.inl rfl)) (hb hbytes d13) hl)⟩
  · have c4 : Steps p.tables e below (s₁.setTop (entryFrame m #[.ref x] 1)) (T2.setTop (mkF m 13 #[.val (.ref x)] [.int 0])) := c3.trans (by
      refine XS.ifYes X2.here hexec rfl (pc0 := 5) rfl (hb hbytes d5) rfl (i0_ne_t (nz32 v31 (by omega))) (by decide) rfl ?_
      refine iconstV X2.here hexec rfl 0 (hb hbytes d12) (by decide) ?_
      exact Steps.refl _)
    exact ⟨T2, some (.int 0), _, _, _, X2, rfl, rfl, rfl, (fun h => by cases h), ⟨by rw [if_neg h0], hh2⟩, fun fs hl => c4.trans (X2.ireturnOut hexec hret rfl (Or.inr (Or.inl rfl)) (hb hbytes d13) hl)⟩
theorem pays {l : Launch} {R : Room} {p : Program} {e : Env} {below : List Frame} {s : State} {sargs : Array Value} {len W : Nat} (x t : Addr) (V : Cell) (cd : Int32) (n : Nat) (f : Nat → Int32) (htab : tab.before sargs s = true) (hfr : 1 ≤ R.frames) (hlo : W + 12 ≤ R.locals) :
    Back l R p e below s sargs yN len W (fun A₁ a₁ => A₁.cells + 0 ≤ R.cells ∧ A₁.slots + 0 ≤ R.slots ∧ P x t V cd n f a₁ A₁.U) (fun A₁ _ v₁ B₁ => E n v₁ A₁.U B₁.U ∧ B₁.locs = A₁.locs ++ [] ∧ B₁.cells = A₁.cells + 0 ∧ B₁.slots = A₁.slots + 0) :=
  (law l x t V cd n f).pays htab hfr (by omega)
end Emp
end StrChars
namespace StrChars.Road
open Jvm Sem ClassFile Op Lib Jvm.Stand Jvm.Free Jvm.Free.XT
open Jvm.Lib.Cold (StaticIs)
/-- the words of String.isEmpty() -/
abbrev wordsEmp : List Jvm.Cond := [.code Emp.yN Emp.yB 1 (some .boolean), .initialized ST, .fieldLink ST 9 ST "value" "[B"]
theorem tabEmp_of {a : Array Value} {s : State} (h : ∀ w ∈ wordsEmp, w.before a s = true) : Emp.tab.before a s = true := unparts (wk h (.code Emp.yN Emp.yB 1 (some .boolean))) (wks h (.initialized Emp.yN.cls :: Emp.site))
theorem movedEmp {Z s : State} {a0 args : Array Value} (hZ : Z.Warmed39 s.vm) (hw : ∀ d ∈ wordsEmp, d.before a0 Z = true) : ∀ d ∈ wordsEmp, d.before args s = true := fun d hd => by
  have t : ∀ d ∈ wordsEmp, (d.onTables && d.keepsFace) = true := by decide +kernel
  exact RoadKit.mv hZ (hw d hd) (t d hd)
/-- the road's facts of a String, as the laws ask it -/
theorem txt_of {Z U : State} {a0 : Array Value} {kI : Nat} (wi : (Jvm.Cond.instantiable ST kI).before a0 Z = true) (al : Z.vm.Alike U.vm) {x t : Addr} {kb : ClassId} {cs : List Int32} {cd N2 : Int32} {vs : List Value} (E : RoadKit.Exa Z U.heap x ST) (V : RoadKit.Fld Z U.heap x ST "value" "[B" (.ref t)) (C : RoadKit.Fld Z U.heap x ST "coder" "B" (.int cd)) (K : RoadKit.Arv Z U.heap t kb .byte N2 vs (.int 0)) (hc : CodA cs cd N2 vs) (hb : ∀ c ∈ cs, ¬ c < 0 ∧ ¬ (65535 : Int32) < c) (l2 : cs.length ≤ 4000) :
    ∃ A, Txt x t A cd cs.length (fun j => cs.getD j 0) U := by
  obtain ⟨A, K1, K2, K3, K4, K5, K6⟩ := K
  have hcod := hc.cod (by omega) K3 K5
  obtain ⟨D, fV, fC, hB, F1, F2, g1, g2, -, -⟩ := strObj wi al E V C
  exact ⟨A, ⟨_, hB.2.2.1, D, hB.1, rfl, by cases q : D.vm <;> first | rfl | exact absurd q (hB.2.1.2 _)⟩, Has.of hB F1 g1, Has.of hB F2 g2, ⟨K1.1, State.isArrayOf_alike al K1.2.1, K1.2.2, by rcases hcod with ⟨-, q, -⟩ | ⟨-, q, -⟩ <;> omega⟩, hcod, fun j hj => by
    have e : cs.getD j 0 = cs[j] := by simp [List.getD_eq_getElem?_getD, hj]
    show ¬ cs.getD j 0 < 0 ∧ ¬ 65535 < cs.getD j 0
    rw [e]; exact hb _ (List.getElem_mem _)⟩
/-- **isEmpty() OF SUCH A STRING** -/
theorem empW {p : Program} {l : Launch} {e : Env} {R : Room} {s : State} {args : Array Value} {below : List Frame} {len W : Nat} {Z : State} {a0 : Array Value} {h : Heap} (hZ : Z.Warmed39 s.vm) (hw : ∀ d ∈ wordsEmp, d.before a0 Z = true) {kI : Nat} (wi : (Jvm.Cond.instantiable ST kI).before a0 Z = true)
    {x t : Addr} {kb : ClassId} {cs : List Int32} {cd N2 : Int32} {vs : List Value} (E : RoadKit.Exa Z h x ST) (V : RoadKit.Fld Z h x ST "value" "[B" (.ref t)) (C : RoadKit.Fld Z h x ST "coder" "B" (.int cd)) (K : RoadKit.Arv Z h t kb .byte N2 vs (.int 0)) (hc : CodA cs cd N2 vs) (hb : ∀ c ∈ cs, ¬ c < 0 ∧ ¬ (65535 : Int32) < c) (l2 : cs.length ≤ 4000) (hfr : 1 ≤ R.frames) (hlo : W + 12 ≤ R.locals) :
    Back l R p e below s args (⟨"java/lang/String", "isEmpty", "()Z"⟩ : MethodName) len W (fun P a => a = #[.ref x] ∧ P.U.heap = h ∧ P.cells + 0 ≤ R.cells ∧ P.slots + 0 ≤ R.slots)
      (fun P _ v B => ∃ L, (v = some (.int (if cs.length = 0 then 1 else 0)) ∧ L = [] ∧ B.U.heap = h) ∧ B.locs = P.locs ++ L ∧ B.cells = P.cells + 0 ∧ B.slots = P.slots + 0) := by
  intro m meth c P g ig mk a X hg hsize hdg hW hn hp'
  obtain ⟨rfl, rfl, r1, r2⟩ := hp'
  have al : Z.vm.Alike P.U.vm := hZ.alike.trans X.warmed.alike
  obtain ⟨A, hx⟩ := txt_of wi al E V C K hc hb l2
  obtain ⟨v, B, X', ⟨⟨hv, hh⟩, hl, hk, hs⟩, st⟩ := Emp.pays x t A cd cs.length (fun j => cs.getD j 0) (tabEmp_of (movedEmp hZ hw)) hfr hlo m meth c P g ig mk _ X hg hsize hdg hW hn ⟨r1, r2, rfl, hx⟩
  exact ⟨v, B, X', ⟨[], ⟨hv, rfl, hh⟩, hl, hk, hs⟩, st⟩
end StrChars.Road
namespace StrChars
open Jvm Sem ClassFile Op Lib Jvm.Stand Jvm.Free.XT Jvm.Free.ALB Jvm.Free.JM Jvm.Free
open Jvm.Lib.Cold (StaticIs)
namespace ChN
def yN : MethodName := ⟨"java/lang/String", "charAt", "(I)C"⟩
abbrev yB : ByteArray := jdk_42_method_56_code
theorem d0 : decode yB 0 = .ok (.aload_n 0, 1) := by decide +kernel
theorem d1 : decode yB 1 = .ok (.invokevirtual 492, 3) := by decide +kernel
theorem d4 : decode yB 4 = .ok (.ifCond (.eq) 12, 3) := by decide +kernel
theorem d7 : decode yB 7 = .ok (.aload_n 0, 1) := by decide +kernel
theorem d8 : decode yB 8 = .ok (.getfield 9, 3) := by decide +kernel
theorem d11 : decode yB 11 = .ok (.iload_n 1, 1) := by decide +kernel
theorem d12 : decode yB 12 = .ok (.invokestatic 495, 3) := by decide +kernel
theorem d15 : decode yB 15 = .ok (.ireturn, 1) := by decide +kernel
def site : List Cond := [.fieldLink "java/lang/String" 9 "java/lang/String" "value" "[B", IsL.tab, LChA.tab] ++ virtW "java/lang/String" 492 "java/lang/String" IsL.yN IsL.yN ++ staticW "java/lang/String" 495 LChA.yN
def tab : Cond := tabOf yN yB 2 (some .char) site
def P (x t : Addr) (V : Cell) (n : Nat) (f : Nat → Int32) (z : Int32) (fm : Value) (i : Nat) (args : Array Value) (s : State) : Prop := args = #[.ref x, .int (Int32.ofNat i)] ∧ Txt x t V 0 n f s ∧ i < n ∧ StaticIs s "java/lang/String" "COMPACT_STRINGS" "Z" (.int z) ∧ ¬ z = 0 ∧ StaticIs s "jdk/internal/util/Preconditions" "SIOOBE_FORMATTER" "Ljava/util/function/BiFunction;" fm ∧ fm.isRef = true
def E (f : Nat → Int32) (i : Nat) (r : Option Value) (s u : State) : Prop := XT.PureE (some (.int (f i))) r s u
/-- charAt(i) of a Latin-1 String of n chars, i < n: f i -/
theorem law (l : Launch) (x t : Addr) (V : Cell) (n : Nat) (f : Nat → Int32) (z : Int32) (fm : Value) (i : Nat) : Law l yN 2 1 3 40 yB 2 (some .char) site (P x t V n f z fm i) (E f i) [] 0 0 := by
  refine Law.of_walk (plainFor_of_name (by decide +kernel)) (by decide +kernel) (by decide +kernel) (by decide) (fun _ _ h => by rw [h.1]; rfl) (fun _ U U' hal hh h => ⟨h.1, h.2.1.mv hal hh, h.2.2.1, h.2.2.2.1.there hal hh, h.2.2.2.2.1, h.2.2.2.2.2.1.there hal hh, h.2.2.2.2.2.2⟩) (fun r U U' V V' h1 hal h2 h => XT.PureE.mv r U U' V V' h1 hal h2 h) ?_
  intro p e s m args below meth c s₁ X0 hexec hbytes hml hret hlk hnm hown hh0 W hP
  obtain ⟨rfl, hx, hi, s1, hz, s3, rf⟩ := hP
  have v31 := hx.2.2.2.1.2.2.2
  have hr := hx.2.2.2.2.2 i hi
  have hx0 := hx.mv X0.warmed.alike hh0
  have c1 : Steps p.tables e below (s₁.setTop (entryFrame m #[.ref x, .int (Int32.ofNat i)] 2)) (s₁.setTop (mkF m 1 #[.val (.ref x), .val (.int (Int32.ofNat i))] [.ref x])) := Steps.trans (entry rfl) (by
    show Steps p.tables e below (s₁.setTop (mkF m 0 #[.val (.ref x), .val (.int (Int32.ofNat i))] [])) _
    refine XS.aloadN X0.here hexec rfl (hb hbytes d0) rfl rfl ?_
    exact Steps.refl _)
  obtain ⟨v2, T2, X2, E2, g2⟩ := X0.callV hexec (IsL.law l x 0 z) hown (wks W (virtW "java/lang/String" 492 "java/lang/String" IsL.yN IsL.yN)) rfl (by decide) (wk W IsL.tab) (W := 0) (Nat.le_of_ble_eq_true rfl) (Nat.le_of_ble_eq_true rfl) (Nat.le_refl _) (Nat.le_refl _) (hx0.1.fc X0.warmed.alike) hx0.1.is (g := (mkF m 1 #[.val (.ref x), .val (.int (Int32.ofNat i))] [.ref x])) rfl (by rw [hml]; rfl) c1 (argsL := []) (rest := []) rfl rfl (by show 2 * 0 + 0 ≤ _; decide) (hb hbytes d1) (⟨rfl, hx0.2.2.1, hx.2.2.2.2.1.cd, s1.there X0.warmed.alike hh0, hz⟩)
  obtain ⟨rfl, q2⟩ := E2
  have hh2 := q2.trans hh0
  have hx2 := hx.mv X2.warmed.alike hh2
  obtain ⟨-, k1, k2⟩ | ⟨k0, -⟩ := hx.2.2.2.2.1
  · have c3 : Steps p.tables e below (s₁.setTop (entryFrame m #[.ref x, .int (Int32.ofNat i)] 2)) (T2.setTop (mkF m 8 #[.val (.ref x), .val (.int (Int32.ofNat i))] [.ref x])) := Steps.trans g2 (by
      refine XS.ifNo X2.here hexec rfl (hb hbytes d4) rfl (i0_eq_f (by decide)) ?_
      refine XS.aloadN X2.here hexec rfl (hb hbytes d7) rfl rfl ?_
      exact Steps.refl _)
    obtain ⟨T4, X4, q4, st4⟩ := X2.hget hexec hown (wk W (.fieldLink "java/lang/String" 9 "java/lang/String" "value" "[B")) hx2.2.1 (g := (mkF m 8 #[.val (.ref x), .val (.int (Int32.ofNat i))] [.ref x])) rfl (rest := []) rfl (hb hbytes d8)
    have hh4 := q4.trans hh2
    have c5 : Steps p.tables e below (s₁.setTop (entryFrame m #[.ref x, .int (Int32.ofNat i)] 2)) (T4.setTop (mkF m 12 #[.val (.ref x), .val (.int (Int32.ofNat i))] [.int (Int32.ofNat i), .ref t])) := (c3.trans (st4 _ (Steps.refl _))).trans (by
      refine XS.iloadN X4.here hexec rfl (hb hbytes d11) rfl ?_
      exact Steps.refl _)
    obtain ⟨v6, T6, X6, E6, g6⟩ := X4.callS hexec (LChA.law l t V i (lo8 (f i)) fm) hown (wks W (staticW "java/lang/String" 495 LChA.yN)) (wk W LChA.tab) (W := 0) (Nat.le_of_ble_eq_true rfl) (Nat.le_of_ble_eq_true rfl) (Nat.le_refl _) (Nat.le_refl _) (g := (mkF m 12 #[.val (.ref x), .val (.int (Int32.ofNat i))] [.int (Int32.ofNat i), .ref t])) rfl (by rw [hml]; rfl) c5 (argsL := [.ref t, .int (Int32.ofNat i)]) (rest := []) rfl rfl (by show 2 * 0 + 0 ≤ _; decide) (hb hbytes d12) (⟨rfl, hx.2.2.2.1.mv X4.warmed.alike hh4, (k2 i hi).1, s3.there X4.warmed.alike hh4, rf⟩)
    obtain ⟨rfl, q6⟩ := E6
    rw [chr8_lo8 hr.1 (k2 i hi).2] at g6
    exact ⟨T6, some (.int (f i)), _, _, _, X6, rfl, rfl, rfl, (fun h => by cases h), ⟨rfl, q6.trans hh4⟩, fun fs hl => Steps.trans g6 (X6.ireturnOut hexec hret (narrow_ch hr.1 hr.2) (Or.inr (Or.inr (Or.inr (Or.inl rfl)))) (hb hbytes d15) hl)⟩
  · exact absurd k0 (by decide)
theorem pays {l : Launch} {R : Room} {p : Program} {e : Env} {below : List Frame} {s : State} {sargs : Array Value} {len W : Nat} (x t : Addr) (V : Cell) (n : Nat) (f : Nat → Int32) (z : Int32) (fm : Value) (i : Nat) (htab : tab.before sargs s = true) (hfr : 4 ≤ R.frames) (hlo : W + 53 ≤ R.locals) :
    Back l R p e below s sargs yN len W (fun A₁ a₁ => A₁.cells + 0 ≤ R.cells ∧ A₁.slots + 0 ≤ R.slots ∧ P x t V n f z fm i a₁ A₁.U) (fun A₁ _ v₁ B₁ => E f i v₁ A₁.U B₁.U ∧ B₁.locs = A₁.locs ++ [] ∧ B₁.cells = A₁.cells + 0 ∧ B₁.slots = A₁.slots + 0) :=
  (law l x t V n f z fm i).pays htab hfr (by omega)
end ChN
end StrChars
namespace StrChars.Road
open Jvm Sem ClassFile Op Lib Jvm.Stand Jvm.Free Jvm.Free.XT
open Jvm.Lib.Cold (StaticIs)
/-- the words of String.charAt(int), the Latin-1 road alone -/
abbrev wordsChN : List Jvm.Cond := [.code ChN.yN ChN.yB 2 (some .char), .initialized ST, .fieldLink ST 9 ST "value" "[B", .fieldLink ST 38 ST "COMPACT_STRINGS" "Z", .fieldLink ST 15 ST "coder" "B", .code IsL.yN IsL.yB 1 (some .boolean), .methodLink ST 492 IsL.yN, .declares IsL.yN, .selects ST IsL.yN IsL.yN, .instanceMethod IsL.yN,
  .methodLink ST 495 LChA.yN, .static LChA.yN, .code LChA.yN LChA.yB 2 (some .char), .initialized "java/lang/StringLatin1", .methodLink "java/lang/StringLatin1" 9 JO.Str_checkIndex.yN, .static JO.Str_checkIndex.yN, .code JO.Str_checkIndex.yN JO.Str_checkIndex.yB 2 none,
  .fieldLink ST 1053 "jdk/internal/util/Preconditions" "SIOOBE_FORMATTER" "Ljava/util/function/BiFunction;", .methodLink ST 1059 JC.PreCheck.yN, .static JC.PreCheck.yN, .code JC.PreCheck.yN JC.PreCheck.yB 3 (some .int), .initialized "jdk/internal/util/Preconditions"]
theorem tabChN_of {a : Array Value} {s : State} (h : ∀ w ∈ wordsChN, w.before a s = true) : ChN.tab.before a s = true := by
  have hp : JC.PreCheck.tab.before a s = true := unparts (wk h (.code JC.PreCheck.yN JC.PreCheck.yB 3 (some .int))) (wks h (.initialized JC.PreCheck.yN.cls :: JC.PreCheck.site))
  have qk := consq hp h
  have hk : JO.Str_checkIndex.tab.before a s = true := unparts (wk qk (.code JO.Str_checkIndex.yN JO.Str_checkIndex.yB 2 none)) (wks qk (.initialized JO.Str_checkIndex.yN.cls :: JO.Str_checkIndex.site))
  have ql := consq hk h
  have hl : LChA.tab.before a s = true := unparts (wk ql (.code LChA.yN LChA.yB 2 (some .char))) (wks ql (.initialized LChA.yN.cls :: LChA.site))
  have hi : IsL.tab.before a s = true := unparts (wk h (.code IsL.yN IsL.yB 1 (some .boolean))) (wks h (.initialized IsL.yN.cls :: IsL.site))
  have q := consq hi (consq hl h)
  exact unparts (wk q (.code ChN.yN ChN.yB 2 (some .char))) (wks q (.initialized ChN.yN.cls :: ChN.site))
theorem movedChN {Z s : State} {a0 args : Array Value} (hZ : Z.Warmed39 s.vm) (hw : ∀ d ∈ wordsChN, d.before a0 Z = true) : ∀ d ∈ wordsChN, d.before args s = true := fun d hd => by
  have t : ∀ d ∈ wordsChN, (d.onTables && d.keepsFace) = true := by decide +kernel
  exact RoadKit.mv hZ (hw d hd) (t d hd)
/-- **charAt(i) OF A LATIN-1 STRING**, i < n: the char -/
theorem chN {p : Program} {l : Launch} {e : Env} {R : Room} {s : State} {args : Array Value} {below : List Frame} {len W : Nat} {Z : State} {a0 : Array Value} {h : Heap} (hZ : Z.Warmed39 s.vm) (hw : ∀ d ∈ wordsChN, d.before a0 Z = true) {kI : Nat} (wi : (Jvm.Cond.instantiable ST kI).before a0 Z = true)
    {x t : Addr} {kb : ClassId} {cs : List Int32} {N2 z : Int32} {vs : List Value} {fm : Value} {i : Nat} {j : Int32} (E : RoadKit.Exa Z h x ST) (V : RoadKit.Fld Z h x ST "value" "[B" (.ref t)) (C : RoadKit.Fld Z h x ST "coder" "B" (.int 0)) (K : RoadKit.Arv Z h t kb .byte N2 vs (.int 0)) (hc : CodA cs 0 N2 vs) (hb : ∀ c ∈ cs, ¬ c < 0 ∧ ¬ (65535 : Int32) < c)
    (S : RoadKit.Sta Z h ST "COMPACT_STRINGS" "Z" (.int z)) (hz : ¬ z = 0) (F : RoadKit.Sta Z h "jdk/internal/util/Preconditions" "SIOOBE_FORMATTER" "Ljava/util/function/BiFunction;" fm) (rf : fm.isRef = true) (l2 : cs.length ≤ 4000) (hi : i < cs.length) (hj : j = Int32.ofNat i) (hfr : 4 ≤ R.frames) (hlo : W + 53 ≤ R.locals) :
    Back l R p e below s args (⟨"java/lang/String", "charAt", "(I)C"⟩ : MethodName) len W (fun P a => a = #[.ref x, .int j] ∧ P.U.heap = h ∧ P.cells + 0 ≤ R.cells ∧ P.slots + 0 ≤ R.slots)
      (fun P _ v B => ∃ L, (v = some (.int (cs.getD i 0)) ∧ L = [] ∧ B.U.heap = h) ∧ B.locs = P.locs ++ L ∧ B.cells = P.cells + 0 ∧ B.slots = P.slots + 0) := by
  subst hj
  intro m meth c P g ig mk a X hg hsize hdg hW hn hp'
  obtain ⟨rfl, rfl, r1, r2⟩ := hp'
  have al : Z.vm.Alike P.U.vm := hZ.alike.trans X.warmed.alike
  obtain ⟨A, hx⟩ := txt_of wi al E V C K hc hb l2
  obtain ⟨v, B, X', ⟨⟨hv, hh⟩, hl, hk, hs⟩, st⟩ := ChN.pays x t A cs.length (fun j => cs.getD j 0) z fm i (tabChN_of (movedChN hZ hw)) hfr hlo m meth c P g ig mk _ X hg hsize hdg hW hn ⟨r1, r2, rfl, hx, hi, sta_is al S, hz, sta_is al F, rf⟩
  exact ⟨v, B, X', ⟨[], ⟨hv, rfl, hh⟩, hl, hk, hs⟩, st⟩
/-- what backV says of its String, as the contracts of this text ask it: cs's low bytes, coder 0 -/
theorem codOf {cs : List Int32} {n : Nat} (hn : cs.length = n) (hb : ∀ c ∈ cs, ¬ 255 < c) : CodA cs 0 (Int32.ofNat n) ((cs.map lo8).map Value.int) := Or.inl ⟨rfl, by rw [hn], by simp [List.map_map, Function.comp_def], hb⟩
end StrChars.Road
end Jvm.Pilot.@@N@@

namespace Jvm.Pilot.@@N@@
open Jvm Jvm.ClassFile Sem Op Lib Jvm.Free Jvm.Stand Jvm.LawKit Jvm.RoadKit Bundle Jvm.Pilot.@@N@@.Jvm.D

/-! a String that spells the chars cs (each 0 to 255), its bytes at t -/
def o_Str (Z : State) (h : Heap) (x t : Addr) (cs : List Int32) : Prop := Exa Z h x "java/lang/String" ∧ Fld Z h x "java/lang/String" "coder" "B" (.int 0) ∧ Fld Z h x "java/lang/String" "value" "[B" (.ref t) ∧ (∃ kb, Arv Z h t kb .byte (Int32.ofNat cs.length) ((cs.map fun c => c.toInt8.toInt32).map Value.int) (.int 0)) ∧ (∀ c ∈ cs, ¬ c < 0 ∧ ¬ (255 : Int32) < c) ∧ cs.length ≤ 4000
def o_QP (r : Option Value) (h : Heap) (v : Option Value) (h' : Heap) (L : List Loc) : Prop := v = r ∧ L = [] ∧ h' = h
def o_QN (Z : State) (x : Addr) (cs : List Int32) (h : Heap) (n0 : Nat) (v : Option Value) (h' : Heap) (L : List Loc) : Prop := v = none ∧ Fr n0 L ∧ Keep h h' [x] ∧ ∃ t, n0 ≤ t ∧ h.size ≤ t ∧ ¬ t = x ∧ o_Str Z h' x t cs
section OwnStr
variable {p : Program} {l : Launch} {e : Env} {R : Room} {s : State} {args : Array Value} {below : List Frame} {W n0 : Nat} {Z : State} {a0 : Array Value} {h h' : Heap} {x t y u a : Addr} {cs ds : List Int32} {ws : List Addr} {sl : Nat} {v : Value}
theorem o_Str.ext (E : Ext h h') (F : o_Str Z h x t cs) : o_Str Z h' x t cs := by
  obtain ⟨f1, f2, f3, ⟨kb, f4⟩, f5⟩ := F; exact ⟨f1.ext E, f2.ext E, f3.ext E, ⟨kb, f4.ext E⟩, f5⟩
theorem o_Str.other (F : o_Str Z h x t cs) (Wq : Wr h h' a sl v) (q1 : x ≠ a) (q2 : t ≠ a) : o_Str Z h' x t cs := by
  obtain ⟨f1, f2, f3, ⟨kb, f4⟩, f5⟩ := F; exact ⟨f1.wr Wq, f2.other Wq (Or.inl q1), f3.other Wq (Or.inl q1), ⟨kb, f4.other Wq q2⟩, f5⟩
theorem o_Str.keep (F : o_Str Z h x t cs) (K : Keep h h' ws) (q1 : x ∉ ws) (q2 : t ∉ ws) : o_Str Z h' x t cs := by
  obtain ⟨f1, f2, f3, ⟨kb, f4⟩, f5⟩ := F; exact ⟨f1.keep K, f2.keep K q1, f3.keep K q1, ⟨kb, f4.keep K q2⟩, f5⟩
theorem o_Str.neT {C : String} {n : Nat} (F : o_Str Z h x t cs) (E : Exa Z h y C) (wi : (Jvm.Cond.instantiable C n).before a0 Z = true) : y ≠ t := by
  obtain ⟨_, _, _, ⟨_, f4⟩, _⟩ := F; exact Exa.neArv E f4 wi
theorem o_Str.lt (F : o_Str Z h x t cs) : x < h.size := F.1.lt
theorem o_Str.lt2 (F : o_Str Z h x t cs) : t < h.size := by obtain ⟨_, _, _, ⟨_, f4⟩, _⟩ := F; exact f4.lt
theorem o_up16 (h : ∀ c ∈ cs, ¬ c < 0 ∧ ¬ (255 : Int32) < c) : ∀ c ∈ cs, ¬ c < 0 ∧ ¬ (65535 : Int32) < c := fun c hc => ⟨(h c hc).1, fun q => (h c hc).2 (by
  rw [Int32.lt_iff_toInt_lt] at q ⊢
  have e1 : (65535 : Int32).toInt = 65535 := rfl
  have e2 : (255 : Int32).toInt = 255 := rfl
  omega)⟩
theorem o_cs0 : ∀ c ∈ ([] : List Int32), ¬ c < 0 ∧ ¬ (255 : Int32) < c := fun _ h => nomatch h
theorem o_csS {a : Int32} {L : List Int32} (h1 : ¬ a < 0 ∧ ¬ (255 : Int32) < a) (h2 : ∀ c ∈ L, ¬ c < 0 ∧ ¬ (255 : Int32) < c) : ∀ c ∈ a :: L, ¬ c < 0 ∧ ¬ (255 : Int32) < c := fun c hc => (List.mem_cons.mp hc).elim (fun e => e ▸ h1) (h2 c)
theorem o_strw : ∀ d ∈ StrChars.Road.words, d ∈ tables_1 := by decide +kernel
theorem o_newB {b : Addr} {kC : ClassId} {d v0 c0 : Value} {z N : Int32} {n : Nat} (hZ : Z.Warmed39 s.vm) (hw : ∀ d ∈ tables_1, d.before a0 Z = true) (wi : (Jvm.Cond.instantiable "java/lang/String" 4).before a0 Z = true) (O : Old Z n0 h) (hx0 : n0 ≤ x) (E : Exa Z h x "java/lang/String") (V : Fld Z h x "java/lang/String" "value" "[B" v0) (C : Fld Z h x "java/lang/String" "coder" "B" c0) (K : Arv Z h b kC .char N (cs.map Value.int) d) (S : Sta Z Z.heap "java/lang/String" "COMPACT_STRINGS" "Z" (.int z)) (hz : ¬ z = 0)
    (hn : cs.length = n) (hN : N = Int32.ofNat n) (l0 : 0 < n) (l2 : n ≤ 4000) (hp : ∀ c ∈ cs, ¬ c < 0 ∧ ¬ (255 : Int32) < c) (hfr : 4 ≤ R.frames) (hlo : W + 65 ≤ R.locals) :
    Back l R p e below s args (⟨"java/lang/String", "<init>", "([C)V"⟩ : MethodName) 3 W (fun P a => a = #[.ref x, .ref b] ∧ P.U.heap = h ∧ P.cells + 1 ≤ R.cells ∧ P.slots + n ≤ R.slots)
      (fun P _ v B => ∃ L, o_QN Z x cs h n0 v B.U.heap L ∧ B.locs = P.locs ++ L ∧ B.cells = P.cells + 1 ∧ B.slots = P.slots + n) := by
  have hh0 : n0 ≤ h.size := by rw [← O.1]; exact O.2.1
  refine Back.mono (StrChars.Road.backV hZ (fun d hd => hw d (o_strw d hd)) wi hx0 hh0 E V C K (Sta.ext O.2 S) hz hn hN l0 l2 hp rfl hfr hlo) (fun P a hz => hz) (fun P a v B _ hq => ?_)
  obtain ⟨L, ⟨q1, q2, q3, q4, q5, t, kb, q6, q7, q8, q9, q10⟩, r⟩ := hq
  subst hn hN
  exact ⟨L, ⟨q1, q2, q3, t, q6, q7, q8, q4, q5, q9, ⟨kb, q10⟩, hp, l2⟩, r⟩
theorem o_chw : ∀ d ∈ StrChars.Road.wordsChN, d ∈ tables_1 := by decide +kernel
theorem o_chB {z : Int32} {i : Nat} {j : Int32} {fm : Value} (hZ : Z.Warmed39 s.vm) (hw : ∀ d ∈ tables_1, d.before a0 Z = true) (wi : (Jvm.Cond.instantiable "java/lang/String" 4).before a0 Z = true) (O : Old Z n0 h) (F : o_Str Z h x t cs) (S : Sta Z Z.heap "java/lang/String" "COMPACT_STRINGS" "Z" (.int z)) (hz : ¬ z = 0) (G : Sta Z Z.heap "jdk/internal/util/Preconditions" "SIOOBE_FORMATTER" "Ljava/util/function/BiFunction;" fm) (rf : fm.isRef = true) (hi : i < cs.length) (hj : j = Int32.ofNat i) (hfr : 4 ≤ R.frames) (hlo : W + 53 ≤ R.locals) :
    Back l R p e below s args (⟨"java/lang/String", "charAt", "(I)C"⟩ : MethodName) 3 W (fun P a => a = #[.ref x, .int j] ∧ P.U.heap = h ∧ P.cells + 0 ≤ R.cells ∧ P.slots + 0 ≤ R.slots)
      (fun P _ v B => ∃ L, o_QP (some (.int (cs.getD i 0))) h v B.U.heap L ∧ B.locs = P.locs ++ L ∧ B.cells = P.cells + 0 ∧ B.slots = P.slots + 0) := by
  obtain ⟨f1, f2, f3, ⟨kb, f4⟩, f5, f6⟩ := F
  exact StrChars.Road.chN hZ (fun d hd => hw d (o_chw d hd)) wi f1 f3 f2 f4 (StrChars.Road.codOf rfl fun c hc => (f5 c hc).2) (o_up16 f5) (Sta.ext O.2 S) hz (Sta.ext O.2 G) rf f6 hi hj hfr hlo
theorem o_empw : ∀ d ∈ StrChars.Road.wordsEmp, d ∈ tables_1 := by decide +kernel
theorem o_empB (hZ : Z.Warmed39 s.vm) (hw : ∀ d ∈ tables_1, d.before a0 Z = true) (wi : (Jvm.Cond.instantiable "java/lang/String" 4).before a0 Z = true) (F : o_Str Z h x t cs) (hfr : 1 ≤ R.frames) (hlo : W + 12 ≤ R.locals) :
    Back l R p e below s args (⟨"java/lang/String", "isEmpty", "()Z"⟩ : MethodName) 3 W (fun P a => a = #[.ref x] ∧ P.U.heap = h ∧ P.cells + 0 ≤ R.cells ∧ P.slots + 0 ≤ R.slots)
      (fun P _ v B => ∃ L, o_QP (some (.int (if cs.length = 0 then 1 else 0))) h v B.U.heap L ∧ B.locs = P.locs ++ L ∧ B.cells = P.cells + 0 ∧ B.slots = P.slots + 0) := by
  obtain ⟨f1, f2, f3, ⟨kb, f4⟩, f5, f6⟩ := F
  exact StrChars.Road.empW hZ (fun d hd => hw d (o_empw d hd)) wi f1 f3 f2 f4 (StrChars.Road.codOf rfl fun c hc => (f5 c hc).2) (o_up16 f5) f6 hfr hlo
end OwnStr
theorem o_shr0 {x : Int32} : x >>> ((0 : Int32) &&& 31) = x := by
  have e : ((0 : Int32) &&& 31) = 0 := by decide
  rw [e]; exact Int32.shiftRight_zero
theorem o_shl0 {x : Int32} : x <<< ((0 : Int32) &&& 31) = x := by
  have e : ((0 : Int32) &&& 31) = 0 := by decide
  rw [e]; exact Int32.shiftLeft_zero
theorem o_cl31 (z : Int32) : z.toNatClampNeg < 2 ^ 31 := by
  have := Int32.toInt_lt z
  simp only [Int32.toNatClampNeg]; omega
theorem o_o32 {n : Nat} (h : n < 2 ^ 31) : (Int32.ofNat n).toInt = n := Int32.toInt_ofNat_of_lt h
theorem o_oc {n : Nat} (h : n < 2 ^ 31) : (Int32.ofNat n).toNatClampNeg = n := by
  simp only [Int32.toNatClampNeg, o_o32 h]; rfl
theorem o_on {n : Nat} (h : n < 2 ^ 31) : ¬ Int32.ofNat n < 0 := by
  rw [Int32.lt_iff_toInt_lt, o_o32 h]; show ¬ (n : Int) < 0; omega
theorem o_oadd (a b : Nat) : Int32.ofNat a + Int32.ofNat b = Int32.ofNat (a + b) := (Int32.ofNat_add a b).symm
theorem o_zi {z : Int32} (h : ¬ z < 0) : z.toInt = (z.toNatClampNeg : Int) := nat_of h
theorem o_cap {a b : Nat} {z : Int32} (hz : ¬ z < 0) (h : a + b ≤ z.toNatClampNeg) : ¬ (0 : Int32) < (Int32.ofNat a + Int32.ofNat b) - z := by
  have hl := o_cl31 z
  rw [o_oadd, Int32.lt_iff_toInt_lt]
  have e0 : (0 : Int32).toInt = 0 := rfl
  have e1 : (Int32.ofNat (a + b) - z).toInt = (Int32.ofNat (a + b)).toInt - z.toInt := by
    rw [Int32.toInt_sub]
    have := o_zi hz
    have := o_o32 (n := a + b) (by omega)
    have h1 : (2 : Int) ^ 31 = 2147483648 := rfl
    rw [Int.bmod_eq_of_le] <;> omega
  rw [e1, o_o32 (by omega), o_zi hz, e0]; omega
abbrev o_V8 (cs : List Int32) : List Value := (cs.map fun c => c.toInt8.toInt32).map Value.int
theorem o_V8len (cs : List Int32) : (o_V8 cs).length = cs.length := by simp [o_V8]
theorem o_V8app (cs ds : List Int32) : o_V8 (cs ++ ds) = o_V8 cs ++ o_V8 ds := by simp [o_V8]
theorem o_V8range (cs : List Int32) : o_V8 cs = (List.range cs.length).map fun i => (o_V8 cs).getD (0 + i) (.int 0) := by
  apply List.ext_getElem
  · simp [o_V8]
  · intro i h1 h2
    simp [o_V8] at h1 ⊢
    simp [h1]
abbrev o_chs (cs : List Int32) : Prop := ∀ c ∈ cs, ¬ c < 0 ∧ ¬ (255 : Int32) < c
theorem o_chsA {cs ds : List Int32} (h1 : o_chs cs) (h2 : o_chs ds) : o_chs (cs ++ ds) := fun c hc => (List.mem_append.mp hc).elim (h1 c) (h2 c)
/-- a StringBuilder b whose bytes at t (z of them) begin with the chars cs -/
def o_Bl (Z : State) (h : Heap) (b t : Addr) (z : Int32) (cs : List Int32) : Prop := Exa Z h b "java/lang/StringBuilder" ∧ Fld Z h b "java/lang/AbstractStringBuilder" "coder" "B" (.int 0) ∧ Fld Z h b "java/lang/AbstractStringBuilder" "value" "[B" (.ref t) ∧ Fld Z h b "java/lang/AbstractStringBuilder" "count" "I" (.int (Int32.ofNat cs.length)) ∧ (∃ k, Arv Z h t k .byte z (o_V8 cs) (.int 0)) ∧ o_chs cs ∧ cs.length ≤ z.toNatClampNeg
section OwnBl
variable {Z : State} {a0 : Array Value} {h h' : Heap} {b t y a : Addr} {z : Int32} {cs ds : List Int32} {ws : List Addr} {sl : Nat} {v : Value}
theorem o_Bl.ext (E : Ext h h') (F : o_Bl Z h b t z cs) : o_Bl Z h' b t z cs := by
  obtain ⟨f1, f2, f3, f6, ⟨kb, f4⟩, f5⟩ := F; exact ⟨f1.ext E, f2.ext E, f3.ext E, f6.ext E, ⟨kb, f4.ext E⟩, f5⟩
theorem o_Bl.other (F : o_Bl Z h b t z cs) (Wq : Wr h h' a sl v) (q1 : b ≠ a) (q2 : t ≠ a) : o_Bl Z h' b t z cs := by
  obtain ⟨f1, f2, f3, f6, ⟨kb, f4⟩, f5⟩ := F; exact ⟨f1.wr Wq, f2.other Wq (Or.inl q1), f3.other Wq (Or.inl q1), f6.other Wq (Or.inl q1), ⟨kb, f4.other Wq q2⟩, f5⟩
theorem o_Bl.keep (F : o_Bl Z h b t z cs) (K : Keep h h' ws) (q1 : b ∉ ws) (q2 : t ∉ ws) : o_Bl Z h' b t z cs := by
  obtain ⟨f1, f2, f3, f6, ⟨kb, f4⟩, f5⟩ := F; exact ⟨f1.keep K, f2.keep K q1, f3.keep K q1, f6.keep K q1, ⟨kb, f4.keep K q2⟩, f5⟩
theorem o_Bl.neT {C : String} {n : Nat} (F : o_Bl Z h b t z cs) (E : Exa Z h y C) (wi : (Jvm.Cond.instantiable C n).before a0 Z = true) : y ≠ t := by
  obtain ⟨_, _, _, _, ⟨_, f4⟩, _⟩ := F; exact Exa.neArv E f4 wi
theorem o_Bl.lt (F : o_Bl Z h b t z cs) : b < h.size := F.1.lt
theorem o_Bl.lt2 (F : o_Bl Z h b t z cs) : t < h.size := by obtain ⟨_, _, _, _, ⟨_, f4⟩, _⟩ := F; exact f4.lt
theorem o_Bl.nn (F : o_Bl Z h b t z cs) : ¬ z < 0 := by obtain ⟨_, _, _, _, ⟨_, c, _, _, _, f, _⟩, _⟩ := F; exact f
theorem o_Bl.l31 (F : o_Bl Z h b t z cs) : cs.length < 2 ^ 31 := Nat.lt_of_le_of_lt F.2.2.2.2.2.2 (o_cl31 z)
theorem o_Bl.safe {EL : List (String × Nat)} {vm : Vm} (F : o_Bl Z h b t z cs) (hZ : Z.Warmed39 vm) (E : o_EN Z a0 EL z.toNatClampNeg) : Safe Z EL vm h t := by
  obtain ⟨_, _, _, _, ⟨_, f4⟩, _⟩ := F; exact o_safeL hZ E f4
theorem o_blMk {k : ClassId} (E : Exa Z h b "java/lang/StringBuilder") (Fc : Fld Z h b "java/lang/AbstractStringBuilder" "coder" "B" (.int 0)) (Fv : Fld Z h b "java/lang/AbstractStringBuilder" "value" "[B" (.ref t)) (Fn : Fld Z h b "java/lang/AbstractStringBuilder" "count" "I" (.int (Int32.ofNat cs.length + Int32.ofNat ds.length))) (A : Arv Z h t k .byte z (o_V8 cs ++ o_V8 ds) (.int 0)) (h1 : o_chs cs) (h2 : o_chs ds) (hs : cs.length + ds.length ≤ z.toNatClampNeg) : o_Bl Z h b t z (cs ++ ds) :=
  ⟨E, Fc, Fv, by rw [List.length_append, ← o_oadd]; exact Fn, ⟨k, by rw [o_V8app]; exact A⟩, o_chsA h1 h2, by rw [List.length_append]; exact hs⟩
theorem o_Str.l31 {x u : Addr} (F : o_Str Z h x u cs) : cs.length < 2 ^ 31 := by
  obtain ⟨_, _, _, ⟨_, c, _, _, f4, _⟩, _, f6⟩ := F; omega
theorem o_nf {s : State} {y y2 : MethodName} {C : String} (hZ : Z.Warmed39 s.vm) (ws : (Cond.selects C y2 y2).before a0 Z = true) (hc : y2.cls = y.cls) : NotFace s y := fun r0 h0 => by
  obtain ⟨c1, r1, m1, -, -, q3, -, k1, hk1, hi1⟩ := Cond.selects_spec (mvT (args := #[]) hZ ws)
  have h1 := findClass_of_methodNamed q3
  rw [hc, findClass_of_methodNamed h0] at h1
  have e : r0.cls = m1.cls := Option.some.inj h1
  exact ⟨k1, by rw [e]; exact hk1, hi1⟩
theorem o_inb {n : Nat} (hz : ¬ z < 0) (hs : n + 1 ≤ z.toNatClampNeg) : ¬ Int32.ofNat n < 0 ∧ Int32.ofNat n < z := by
  have hl := o_cl31 z
  refine ⟨o_on (by omega), ?_⟩
  rw [Int32.lt_iff_toInt_lt, o_o32 (by omega), o_zi hz]; omega
theorem o_nb8 (c : Int32) : nar .byte c.toInt8.toInt32 = c.toInt8.toInt32 := by
  have : c.toInt8.toInt32.toInt8 = c.toInt8 := Int8.toInt8_toInt32 _
  show c.toInt8.toInt32.toInt8.toInt32 = _
  rw [this]
theorem o_olt {n : Nat} (hz : ¬ z < 0) (hs : n < z.toNatClampNeg) : Int32.ofNat n < z := (o_inb hz hs).2
theorem o_one {n : Nat} (hz : ¬ z < 0) (hs : n < z.toNatClampNeg) : ¬ Int32.ofNat n = z := fun e => by
  have := o_olt hz hs; rw [e] at this; exact Int32.lt_irrefl this
end OwnBl
theorem o_b127 {c : Int32} (h1 : ¬ c < 0) (h2 : ¬ (127 : Int32) < c) : c.toInt8.toInt32 = c := by
  rw [Int32.lt_iff_toInt_lt] at h1 h2
  have e0 : (0 : Int32).toInt = 0 := rfl
  have e1 : (127 : Int32).toInt = 127 := rfl
  rw [← Int32.toInt_inj, Int8.toInt_toInt32, Int32.toInt_toInt8, Int.bmod_eq_of_le] <;> omega
abbrev o_asc (cs : List Int32) : Prop := ∀ c ∈ cs, ¬ c < 0 ∧ ¬ (127 : Int32) < c
theorem o_asc0 : o_asc [] := fun _ h => nomatch h
theorem o_ascS {a : Int32} {L : List Int32} (h1 : ¬ a < 0 ∧ ¬ (127 : Int32) < a) (h2 : o_asc L) : o_asc (a :: L) := fun c hc => (List.mem_cons.mp hc).elim (fun e => e ▸ h1) (h2 c)
theorem o_ascA {cs ds : List Int32} (h1 : o_asc cs) (h2 : o_asc ds) : o_asc (cs ++ ds) := fun c hc => (List.mem_append.mp hc).elim (h1 c) (h2 c)
theorem o_getnn {cs : List Int32} {i : Nat} (h : o_asc cs) (hi : i < cs.length) : ¬ (cs.getD i 0).toInt8.toInt32 < 0 := by
  have e : cs.getD i 0 = cs[i] := by simp [hi]
  have q := h cs[i] (List.getElem_mem hi)
  rw [e, o_b127 q.1 q.2]; exact q.1
theorem o_V8get {cs : List Int32} {i : Nat} (hi : i < cs.length) : (o_V8 cs).getD i (.int 0) = .int (cs.getD i 0).toInt8.toInt32 := by simp [o_V8, hi]
theorem o_ltO {i n : Nat} (h : i < n) (hn : n < 2 ^ 31) : Int32.ofNat i < Int32.ofNat n := by
  rw [Int32.lt_iff_toInt_lt, o_o32 (by omega), o_o32 hn]; omega
theorem o_nltO {i n : Nat} (h : i = n) : ¬ Int32.ofNat i < Int32.ofNat n := by subst h; exact fun q => Int32.lt_irrefl q

theorem o_not_zero {t : Term} {z : Int32} {args : Array Value} {Z : State} (h : (Jvm.Cond.not (.eq t (.int 0))).value args Z none Z [] = some true) (e : t.eval args Z none [] Z = some (.int z)) : ¬ z = 0 := fun q => by
  have h1 := not_v h
  subst q
  simp [Jvm.Cond.value, e, Term.eval] at h1
theorem o_k {Z : State} {a0 : Array Value} (hw : ∀ d ∈ tables_1, d.before a0 Z = true) (i : Nat) {d : Jvm.Cond} (h : tables_1[i]? = some d) : d.before a0 Z = true := hw d (List.mem_of_getElem? h)
abbrev o_SC (Z : State) (z : Int32) : Prop := Sta Z Z.heap "java/lang/String" "COMPACT_STRINGS" "Z" (.int z)
abbrev o_m0 : MethodName := ⟨"java/lang/String", "coder", "()B"⟩
abbrev o_R0 : Room := ({ frames := 0, cells := 0, slots := 0, locals := 0 } : Room)
abbrev o_m1 : MethodName := ⟨"java/lang/String", "isLatin1", "()Z"⟩
abbrev o_m2 : MethodName := ⟨"java/lang/String", "length", "()I"⟩
abbrev o_R1 : Room := ({ frames := 1, cells := 0, slots := 0, locals := 13 } : Room)
abbrev o_m3 : MethodName := ⟨"java/lang/AbstractStringBuilder", "ensureCapacityInternal", "(I)V"⟩
abbrev o_m4 : MethodName := ⟨"java/lang/AbstractStringBuilder", "inflateIfNeededFor", "(Ljava/lang/String;)V"⟩
abbrev o_m5 : MethodName := ⟨"java/lang/String", "getBytes", "([BIB)V"⟩
abbrev o_R2 : Room := ({ frames := 1, cells := 0, slots := 0, locals := 18 } : Room)
abbrev o_m6 : MethodName := ⟨"java/lang/AbstractStringBuilder", "putStringAt", "(ILjava/lang/String;)V"⟩
abbrev o_R3 : Room := ({ frames := 2, cells := 0, slots := 0, locals := 40 } : Room)
abbrev o_m7 : MethodName := ⟨"java/lang/AbstractStringBuilder", "append", "(Ljava/lang/String;)Ljava/lang/AbstractStringBuilder;"⟩
abbrev o_R4 : Room := ({ frames := 3, cells := 0, slots := 0, locals := 60 } : Room)
abbrev o_m8 : MethodName := ⟨"java/lang/StringBuilder", "append", "(Ljava/lang/String;)Ljava/lang/StringBuilder;"⟩
abbrev o_R5 : Room := ({ frames := 4, cells := 0, slots := 0, locals := 75 } : Room)
abbrev o_m9 : MethodName := ⟨"java/lang/Record", "<init>", "()V"⟩
abbrev o_R6 : Room := ({ frames := 1, cells := 0, slots := 0, locals := 12 } : Room)
abbrev o_m10 : MethodName := ⟨"java/util/Objects", "requireNonNull", "(Ljava/lang/Object;Ljava/lang/String;)Ljava/lang/Object;"⟩
abbrev o_m11 : MethodName := ⟨"org/adviceweft/pointcut/NamePatternToStringPinLaw", "ch", "(I)C"⟩
abbrev o_m12 : MethodName := ⟨"java/lang/StringLatin1", "canEncode", "(C)Z"⟩
abbrev o_m13 : MethodName := ⟨"java/lang/StringLatin1", "toBytes", "(C)[B"⟩
abbrev o_R7 : Room := ({ frames := 0, cells := 1, slots := 1, locals := 0 } : Room)
abbrev o_m14 : MethodName := ⟨"java/lang/String", "<init>", "([BB)V"⟩
abbrev o_R8 : Room := ({ frames := 1, cells := 0, slots := 0, locals := 14 } : Room)
abbrev o_m15 : MethodName := ⟨"java/lang/String", "valueOf", "(C)Ljava/lang/String;"⟩
abbrev o_R9 : Room := ({ frames := 2, cells := 2, slots := 5, locals := 30 } : Room)
abbrev o_m16 : MethodName := ⟨"java/lang/AbstractStringBuilder", "<init>", "(I)V"⟩
abbrev o_R10 : Room := ({ frames := 1, cells := 1, slots := 16, locals := 14 } : Room)
abbrev o_m17 : MethodName := ⟨"java/lang/StringBuilder", "<init>", "()V"⟩
abbrev o_R11 : Room := ({ frames := 2, cells := 1, slots := 16, locals := 30 } : Room)
abbrev o_m18 : MethodName := ⟨"java/lang/AbstractStringBuilder", "isLatin1", "()Z"⟩
abbrev o_m19 : MethodName := ⟨"java/lang/AbstractStringBuilder", "getValue", "()[B"⟩
abbrev o_m20 : MethodName := ⟨"java/lang/AbstractStringBuilder", "length", "()I"⟩
abbrev o_m21 : MethodName := ⟨"java/lang/StringBuilder", "length", "()I"⟩
abbrev o_m22 : MethodName := ⟨"java/lang/Math", "min", "(II)I"⟩
abbrev o_m23 : MethodName := ⟨"java/util/Arrays", "checkLength", "(II)V"⟩
abbrev o_m24 : MethodName := ⟨"java/util/Arrays", "copyOfRangeByte", "([BII)[B"⟩
abbrev o_R12 : Room := ({ frames := 1, cells := 1, slots := 8, locals := 24 } : Room)
abbrev o_m25 : MethodName := ⟨"java/util/Arrays", "copyOfRange", "([BII)[B"⟩
abbrev o_R13 : Room := ({ frames := 2, cells := 1, slots := 8, locals := 44 } : Room)
abbrev o_m26 : MethodName := ⟨"java/lang/String", "<init>", "(Ljava/lang/AbstractStringBuilder;Ljava/lang/Void;)V"⟩
abbrev o_R14 : Room := ({ frames := 3, cells := 1, slots := 8, locals := 64 } : Room)
abbrev o_m27 : MethodName := ⟨"java/lang/String", "<init>", "(Ljava/lang/StringBuilder;)V"⟩
abbrev o_R15 : Room := ({ frames := 4, cells := 1, slots := 8, locals := 84 } : Room)
abbrev o_m28 : MethodName := ⟨"java/lang/StringBuilder", "toString", "()Ljava/lang/String;"⟩
abbrev o_R16 : Room := ({ frames := 5, cells := 2, slots := 12, locals := 104 } : Room)
abbrev o_m29 : MethodName := ⟨"org/adviceweft/pointcut/NamePattern", "written", "(Ljava/lang/String;ZZ)Ljava/lang/String;"⟩
abbrev o_R17 : Room := ({ frames := 6, cells := 8, slots := 60, locals := 130 } : Room)
abbrev o_m30 : MethodName := ⟨"org/adviceweft/pointcut/NamePattern", "toString", "()Ljava/lang/String;"⟩
abbrev o_R18 : Room := ({ frames := 7, cells := 8, slots := 60, locals := 150 } : Room)
abbrev o_m31 : MethodName := ⟨"java/lang/StringLatin1", "indexOf", "([B[B)I"⟩
abbrev o_R19 : Room := ({ frames := 1, cells := 0, slots := 0, locals := 22 } : Room)
abbrev o_m32 : MethodName := ⟨"java/lang/String", "indexOf", "(Ljava/lang/String;)I"⟩
abbrev o_m33 : MethodName := ⟨"java/lang/String", "contains", "(Ljava/lang/CharSequence;)Z"⟩
abbrev o_m34 : MethodName := ⟨"java/lang/String", "toString", "()Ljava/lang/String;"⟩
abbrev o_m35 : MethodName := ⟨"java/lang/CharSequence", "toString", "()Ljava/lang/String;"⟩
abbrev o_m36 : MethodName := ⟨"java/lang/StringLatin1", "indexOf", "([BI[BII)I"⟩
abbrev o_m37 : MethodName := ⟨"org/adviceweft/pointcut/NamePattern", "<init>", "(Ljava/lang/String;ZZ)V"⟩
abbrev o_R20 : Room := ({ frames := 4, cells := 4, slots := 28, locals := 80 } : Room)
abbrev o_m38 : MethodName := ⟨"java/lang/String", "isEmpty", "()Z"⟩
abbrev o_m39 : MethodName := ⟨"java/lang/String", "<init>", "([C)V"⟩
abbrev o_m40 : MethodName := ⟨"java/lang/String", "charAt", "(I)C"⟩
def o_pref : List Int32 → List Int32 → Bool
  | _, [] => true
  | [], _ :: _ => false
  | c :: cs, d :: ds => (c == d) && o_pref cs ds
def o_occ : List Int32 → List Int32 → Bool
  | [], ds => o_pref [] ds
  | c :: cs, ds => o_pref (c :: cs) ds || o_occ cs ds
theorem o_b_inj {c d : Int32} (hc : ¬ c < 0 ∧ ¬ (255 : Int32) < c) (hd : ¬ d < 0 ∧ ¬ (255 : Int32) < d) : (c.toInt8.toInt32 = d.toInt8.toInt32) ↔ c = d := by
  refine ⟨fun e => ?_, fun e => by rw [e]⟩
  have e1 := StrChars.lo8_mask hc.1 hc.2
  have e2 := StrChars.lo8_mask hd.1 hd.2
  rw [← e1, ← e2]
  show c.toInt8.toInt32 &&& 255 = d.toInt8.toInt32 &&& 255
  rw [e]
theorem o_pref_b : ∀ (cs ds : List Int32), (∀ c ∈ cs, ¬ c < 0 ∧ ¬ (255 : Int32) < c) → (∀ c ∈ ds, ¬ c < 0 ∧ ¬ (255 : Int32) < c) → o_pref (cs.map fun c => c.toInt8.toInt32) (ds.map fun c => c.toInt8.toInt32) = o_pref cs ds
  | [], [], _, _ => rfl
  | _ :: _, [], _, _ => rfl
  | [], _ :: _, _, _ => rfl
  | c :: cs, d :: ds, h1, h2 => by
    have ih := o_pref_b cs ds (fun x hx => h1 x (List.mem_cons_of_mem _ hx)) (fun x hx => h2 x (List.mem_cons_of_mem _ hx))
    have e := o_b_inj (h1 c (List.mem_cons_self ..)) (h2 d (List.mem_cons_self ..))
    simp only [List.map_cons, o_pref]
    rw [ih]
    congr 1
    rw [Bool.eq_iff_iff, beq_iff_eq, beq_iff_eq, e]
theorem o_occ_b : ∀ (cs ds : List Int32), (∀ c ∈ cs, ¬ c < 0 ∧ ¬ (255 : Int32) < c) → (∀ c ∈ ds, ¬ c < 0 ∧ ¬ (255 : Int32) < c) → o_occ (cs.map fun c => c.toInt8.toInt32) (ds.map fun c => c.toInt8.toInt32) = o_occ cs ds
  | [], ds, h1, h2 => o_pref_b [] ds h1 h2
  | c :: cs, ds, h1, h2 => by
    have ih := o_occ_b cs ds (fun x hx => h1 x (List.mem_cons_of_mem _ hx)) h2
    have e := o_pref_b (c :: cs) ds h1 h2
    simp only [List.map_cons, o_occ] at e ⊢
    rw [ih, e]
theorem o_ite1 {P : Prop} [Decidable P] (h : ¬ (if P then 1 else 0 : Int32) = 0) : P := by
  by_cases q : P
  · exact q
  · rw [if_neg q] at h; exact absurd rfl h
theorem o_ite0 {P : Prop} [Decidable P] (h : (if P then 1 else 0 : Int32) = 0) : ¬ P := fun q => by
  rw [if_pos q] at h; exact absurd h (by decide)
theorem o_one_ne {a : Int32} (h1 : a = 1) (h2 : a = 0) : False := by rw [h1] at h2; exact absurd h2 (by decide)
theorem o_narB {P : Prop} [Decidable P] : nar .boolean (if P then 1 else 0) = (if P then 1 else 0) := by by_cases q : P <;> simp [q] <;> decide
def o_EL : List (String × Nat) := [("org/adviceweft/pointcut/NamePattern", 7), ("org/adviceweft/pointcut/NamePattern", 17), ("org/adviceweft/pointcut/NamePattern", 69), ("org/adviceweft/pointcut/NamePatternToStringPinLaw", 13)]
theorem o_EWs {Z : State} {a0 : Array Value} (hw : ∀ d ∈ tables_1, d.before a0 Z = true) : EW Z a0 o_EL := (EW.cons (o_k hw 46 rfl) (by decide) (EW.cons (o_k hw 53 rfl) (by decide) (EW.cons (o_k hw 127 rfl) (by decide) (EW.cons (o_k hw 232 rfl) (by decide) EW.nil))))
theorem o_ENs {Z : State} {a0 : Array Value} (hw : ∀ d ∈ tables_1, d.before a0 Z = true) : o_EN Z a0 o_EL (16 : Int32).toNatClampNeg := (o_EN.cons (o_k hw 46 rfl) (by decide) (by decide) (o_EN.cons (o_k hw 53 rfl) (by decide) (by decide) (o_EN.cons (o_k hw 127 rfl) (by decide) (by decide) (o_EN.cons (o_k hw 232 rfl) (by decide) (by decide) o_EN.nil))))
theorem o_ELsub : ∀ p ∈ o_EL, p ∈ consts_1 := by decide
theorem o_strat : ∀ d ∈ Bundle.stringAtoms, d ∈ tables_1 := by decide +kernel
abbrev o_star : List Int32 := [42]
theorem o_narZ {B : Int32} (h : B = 0 ∨ B = 1) : narrow .boolean (.int B) = .int B := by rcases h with rfl | rfl <;> decide
theorem o_fitZ {B : Int32} (h : B = 0 ∨ B = 1) : fits .boolean (.int B) = true := by rcases h with rfl | rfl <;> decide
def o_core (x : Int32) : Int32 := if x &&& 255 = 42 then 43 else x &&& 255
theorem o_coreP (x : Int32) : ∃ c : Int32, o_core x = c ∧ nar .char c = c ∧ ¬ c < 0 ∧ ¬ (255 : Int32) < c ∧ ¬ c = 42 := by
  obtain ⟨c, e1, -, h2, h3, h4⟩ := o_chr x
  by_cases q : x &&& 255 = 42
  · exact ⟨43, by rw [o_core, if_pos q], by decide, by decide, by decide, by decide⟩
  · exact ⟨c, by rw [o_core, if_neg q, e1], h2, h3, h4, by rw [e1]; exact q⟩
theorem o_and3 (x : Int32) : x &&& 3 = 0 ∨ x &&& 3 = 1 ∨ x &&& 3 = 2 ∨ x &&& 3 = 3 := by
  have h : (x &&& 3).toInt = x.toInt % 4 := Jvm.Kit.i32_mask x 3 (k := 2) (by decide) (by decide)
  have e0 : (0 : Int32).toInt = 0 := rfl
  have e1 : (1 : Int32).toInt = 1 := rfl
  have e2 : (2 : Int32).toInt = 2 := rfl
  have e3 : (3 : Int32).toInt = 3 := rfl
  simp only [← Int32.toInt_inj]
  omega
theorem o_nostar1 {a : Int32} (h : ¬ a = 42) : ¬ o_occ [a] [42] = true := by simp [o_occ, o_pref, h]
theorem o_nostar2 {a b : Int32} (h : ¬ a = 42) (h2 : ¬ b = 42) : ¬ o_occ [a, b] [42] = true := by simp [o_occ, o_pref, h, h2]
theorem o_nostar3 {a b c : Int32} (h : ¬ a = 42) (h2 : ¬ b = 42) (h3 : ¬ c = 42) : ¬ o_occ [a, b, c] [42] = true := by simp [o_occ, o_pref, h, h2, h3]
def o_wr (B A : Int32) (ds : List Int32) : List Int32 := (if B = 0 then [] else [42]) ++ ds ++ (if A = 0 then [] else [42])

theorem o_ef0 (m : MethodId) (x0 : Addr) : entryFrame m #[(.ref x0)] 1 = mkF m 0 #[.val (.ref x0)] [] := by first | (simp [entryFrame, mkF, argsToLocals, Value.category]; done) | rfl
theorem o_pn_0 : plainName "java/lang/String" = true := by first | (simp [plainName, overriddenIn]; done) | decide +kernel
theorem oD0_0 : decode jdk_42_method_152_code 0 = .ok (.getstatic 38, 3) := by decide +kernel
theorem oD0_3 : decode jdk_42_method_152_code 3 = .ok (.ifCond .eq 10, 3) := by decide +kernel
theorem oD0_6 : decode jdk_42_method_152_code 6 = .ok (.aload_n 0, 1) := by decide +kernel
theorem oD0_7 : decode jdk_42_method_152_code 7 = .ok (.getfield 15, 3) := by decide +kernel
theorem oD0_10 : decode jdk_42_method_152_code 10 = .ok (.goto 4, 3) := by decide +kernel
theorem oD0_14 : decode jdk_42_method_152_code 14 = .ok (.ireturn, 1) := by decide +kernel
theorem oD1_0 : decode jdk_42_method_154_code 0 = .ok (.getstatic 38, 3) := by decide +kernel
theorem oD1_3 : decode jdk_42_method_154_code 3 = .ok (.ifCond .eq 14, 3) := by decide +kernel
theorem oD1_6 : decode jdk_42_method_154_code 6 = .ok (.aload_n 0, 1) := by decide +kernel
theorem oD1_7 : decode jdk_42_method_154_code 7 = .ok (.getfield 15, 3) := by decide +kernel
theorem oD1_10 : decode jdk_42_method_154_code 10 = .ok (.ifCond .ne 7, 3) := by decide +kernel
theorem oD1_13 : decode jdk_42_method_154_code 13 = .ok (.iconst 1, 1) := by decide +kernel
theorem oD1_14 : decode jdk_42_method_154_code 14 = .ok (.goto 4, 3) := by decide +kernel
theorem oD1_18 : decode jdk_42_method_154_code 18 = .ok (.ireturn, 1) := by decide +kernel
theorem oD2_0 : decode jdk_42_method_54_code 0 = .ok (.aload_n 0, 1) := by decide +kernel
theorem oD2_1 : decode jdk_42_method_54_code 1 = .ok (.getfield 9, 3) := by decide +kernel
theorem oD2_4 : decode jdk_42_method_54_code 4 = .ok (.arraylength, 1) := by decide +kernel
theorem oD2_5 : decode jdk_42_method_54_code 5 = .ok (.aload_n 0, 1) := by decide +kernel
theorem oD2_6 : decode jdk_42_method_54_code 6 = .ok (.invokevirtual 335, 3) := by decide +kernel
theorem o_pd__28_29B : parseMethodDescriptor "()B" = some ⟨[], some .byte⟩ := by decide +kernel
theorem oD2_9 : decode jdk_42_method_54_code 9 = .ok (.ishr, 1) := by decide +kernel
theorem oD2_10 : decode jdk_42_method_54_code 10 = .ok (.ireturn, 1) := by decide +kernel
theorem o_ef1 (m : MethodId) (x0 : Addr) (x1 : Int32) : entryFrame m #[(.ref x0), (.int x1)] 3 = mkF m 0 #[.val (.ref x0), .val (.int x1), .unset] [] := by first | (simp [entryFrame, mkF, argsToLocals, Value.category]; done) | rfl
theorem o_pn_1 : plainName "java/lang/AbstractStringBuilder" = true := by first | (simp [plainName, overriddenIn]; done) | decide +kernel
theorem oD3_0 : decode jdk_68_method_9_code 0 = .ok (.aload_n 0, 1) := by decide +kernel
theorem oD3_1 : decode jdk_68_method_9_code 1 = .ok (.getfield 15, 3) := by decide +kernel
theorem oD3_4 : decode jdk_68_method_9_code 4 = .ok (.arraylength, 1) := by decide +kernel
theorem oD3_5 : decode jdk_68_method_9_code 5 = .ok (.aload_n 0, 1) := by decide +kernel
theorem oD3_6 : decode jdk_68_method_9_code 6 = .ok (.getfield 22, 3) := by decide +kernel
theorem oD3_9 : decode jdk_68_method_9_code 9 = .ok (.ishr, 1) := by decide +kernel
theorem oD3_10 : decode jdk_68_method_9_code 10 = .ok (.istore_n 2, 1) := by decide +kernel
theorem oD3_11 : decode jdk_68_method_9_code 11 = .ok (.iload_n 1, 1) := by decide +kernel
theorem oD3_12 : decode jdk_68_method_9_code 12 = .ok (.iload_n 2, 1) := by decide +kernel
theorem oD3_13 : decode jdk_68_method_9_code 13 = .ok (.isub, 1) := by decide +kernel
theorem oD3_14 : decode jdk_68_method_9_code 14 = .ok (.ifCond .le 24, 3) := by decide +kernel
theorem oD3_38 : decode jdk_68_method_9_code 38 = .ok (.return_, 1) := by decide +kernel
theorem o_ef2 (m : MethodId) (x0 : Addr) (x1 : Addr) : entryFrame m #[(.ref x0), (.ref x1)] 2 = mkF m 0 #[.val (.ref x0), .val (.ref x1)] [] := by first | (simp [entryFrame, mkF, argsToLocals, Value.category]; done) | rfl
theorem oD4_0 : decode jdk_68_method_71_code 0 = .ok (.getstatic 18, 3) := by decide +kernel
theorem oD4_3 : decode jdk_68_method_71_code 3 = .ok (.ifCond .eq 18, 3) := by decide +kernel
theorem oD4_6 : decode jdk_68_method_71_code 6 = .ok (.aload_n 0, 1) := by decide +kernel
theorem oD4_7 : decode jdk_68_method_71_code 7 = .ok (.getfield 22, 3) := by decide +kernel
theorem oD4_10 : decode jdk_68_method_71_code 10 = .ok (.aload_n 1, 1) := by decide +kernel
theorem oD4_11 : decode jdk_68_method_71_code 11 = .ok (.invokevirtual 40, 3) := by decide +kernel
theorem oD4_14 : decode jdk_68_method_71_code 14 = .ok (.if_icmp .eq 7, 3) := by decide +kernel
theorem oD4_21 : decode jdk_68_method_71_code 21 = .ok (.return_, 1) := by decide +kernel
theorem o_ef3 (m : MethodId) (x0 : Addr) (x1 : Addr) (x2 : Int32) : entryFrame m #[(.ref x0), (.ref x1), (.int x2), (.int 0)] 4 = mkF m 0 #[.val (.ref x0), .val (.ref x1), .val (.int x2), .val (.int 0)] [] := by first | (simp [entryFrame, mkF, argsToLocals, Value.category]; done) | rfl
theorem oD5_0 : decode jdk_42_method_147_code 0 = .ok (.aload_n 0, 1) := by decide +kernel
theorem oD5_1 : decode jdk_42_method_147_code 1 = .ok (.invokevirtual 335, 3) := by decide +kernel
theorem oD5_4 : decode jdk_42_method_147_code 4 = .ok (.iload_n 3, 1) := by decide +kernel
theorem oD5_5 : decode jdk_42_method_147_code 5 = .ok (.if_icmp .ne 23, 3) := by decide +kernel
theorem oD5_8 : decode jdk_42_method_147_code 8 = .ok (.aload_n 0, 1) := by decide +kernel
theorem oD5_9 : decode jdk_42_method_147_code 9 = .ok (.getfield 9, 3) := by decide +kernel
theorem oD5_12 : decode jdk_42_method_147_code 12 = .ok (.iconst 0, 1) := by decide +kernel
theorem oD5_13 : decode jdk_42_method_147_code 13 = .ok (.aload_n 1, 1) := by decide +kernel
theorem oD5_14 : decode jdk_42_method_147_code 14 = .ok (.iload_n 2, 1) := by decide +kernel
theorem oD5_15 : decode jdk_42_method_147_code 15 = .ok (.iload_n 3, 1) := by decide +kernel
theorem oD5_16 : decode jdk_42_method_147_code 16 = .ok (.ishl, 1) := by decide +kernel
theorem oD5_17 : decode jdk_42_method_147_code 17 = .ok (.aload_n 0, 1) := by decide +kernel
theorem oD5_18 : decode jdk_42_method_147_code 18 = .ok (.getfield 9, 3) := by decide +kernel
theorem oD5_21 : decode jdk_42_method_147_code 21 = .ok (.arraylength, 1) := by decide +kernel
theorem oD5_22 : decode jdk_42_method_147_code 22 = .ok (.invokestatic 212, 3) := by decide +kernel
theorem oD5_25 : decode jdk_42_method_147_code 25 = .ok (.goto 18, 3) := by decide +kernel
theorem oD5_43 : decode jdk_42_method_147_code 43 = .ok (.return_, 1) := by decide +kernel
theorem o_ef4 (m : MethodId) (x0 : Addr) (x1 : Int32) (x2 : Addr) : entryFrame m #[(.ref x0), (.int x1), (.ref x2)] 3 = mkF m 0 #[.val (.ref x0), .val (.int x1), .val (.ref x2)] [] := by first | (simp [entryFrame, mkF, argsToLocals, Value.category]; done) | rfl
theorem oD6_0 : decode jdk_68_method_73_code 0 = .ok (.aload_n 0, 1) := by decide +kernel
theorem oD6_1 : decode jdk_68_method_73_code 1 = .ok (.aload_n 2, 1) := by decide +kernel
theorem oD6_2 : decode jdk_68_method_73_code 2 = .ok (.invokevirtual 397, 3) := by decide +kernel
theorem o_pd__28Ljava_2flang_2fString_3b_29V : parseMethodDescriptor "(Ljava/lang/String;)V" = some ⟨[(.object "java/lang/String")], none⟩ := by decide +kernel
theorem oD6_5 : decode jdk_68_method_73_code 5 = .ok (.aload_n 2, 1) := by decide +kernel
theorem oD6_6 : decode jdk_68_method_73_code 6 = .ok (.aload_n 0, 1) := by decide +kernel
theorem oD6_7 : decode jdk_68_method_73_code 7 = .ok (.getfield 15, 3) := by decide +kernel
theorem oD6_10 : decode jdk_68_method_73_code 10 = .ok (.iload_n 1, 1) := by decide +kernel
theorem oD6_11 : decode jdk_68_method_73_code 11 = .ok (.aload_n 0, 1) := by decide +kernel
theorem oD6_12 : decode jdk_68_method_73_code 12 = .ok (.getfield 22, 3) := by decide +kernel
theorem oD6_15 : decode jdk_68_method_73_code 15 = .ok (.invokevirtual 399, 3) := by decide +kernel
theorem o_pd__28_5bBIB_29V : parseMethodDescriptor "([BIB)V" = some ⟨[(.array .byte), .int, .byte], none⟩ := by decide +kernel
theorem oD6_18 : decode jdk_68_method_73_code 18 = .ok (.return_, 1) := by decide +kernel
theorem o_ef5 (m : MethodId) (x0 : Addr) (x1 : Addr) : entryFrame m #[(.ref x0), (.ref x1)] 3 = mkF m 0 #[.val (.ref x0), .val (.ref x1), .unset] [] := by first | (simp [entryFrame, mkF, argsToLocals, Value.category]; done) | rfl
theorem oD7_0 : decode jdk_68_method_22_code 0 = .ok (.aload_n 1, 1) := by decide +kernel
theorem oD7_1 : decode jdk_68_method_22_code 1 = .ok (.ifnonnull 8, 3) := by decide +kernel
theorem oD7_9 : decode jdk_68_method_22_code 9 = .ok (.aload_n 1, 1) := by decide +kernel
theorem oD7_10 : decode jdk_68_method_22_code 10 = .ok (.invokevirtual 32, 3) := by decide +kernel
theorem o_pd__28_29I : parseMethodDescriptor "()I" = some ⟨[], some .int⟩ := by decide +kernel
theorem oD7_13 : decode jdk_68_method_22_code 13 = .ok (.istore_n 2, 1) := by decide +kernel
theorem oD7_14 : decode jdk_68_method_22_code 14 = .ok (.aload_n 0, 1) := by decide +kernel
theorem oD7_15 : decode jdk_68_method_22_code 15 = .ok (.aload_n 0, 1) := by decide +kernel
theorem oD7_16 : decode jdk_68_method_22_code 16 = .ok (.getfield 79, 3) := by decide +kernel
theorem oD7_19 : decode jdk_68_method_22_code 19 = .ok (.iload_n 2, 1) := by decide +kernel
theorem oD7_20 : decode jdk_68_method_22_code 20 = .ok (.iadd, 1) := by decide +kernel
theorem oD7_21 : decode jdk_68_method_22_code 21 = .ok (.invokevirtual 100, 3) := by decide +kernel
theorem o_pd__28I_29V : parseMethodDescriptor "(I)V" = some ⟨[.int], none⟩ := by decide +kernel
theorem oD7_24 : decode jdk_68_method_22_code 24 = .ok (.aload_n 0, 1) := by decide +kernel
theorem oD7_25 : decode jdk_68_method_22_code 25 = .ok (.aload_n 0, 1) := by decide +kernel
theorem oD7_26 : decode jdk_68_method_22_code 26 = .ok (.getfield 79, 3) := by decide +kernel
theorem oD7_29 : decode jdk_68_method_22_code 29 = .ok (.aload_n 1, 1) := by decide +kernel
theorem oD7_30 : decode jdk_68_method_22_code 30 = .ok (.invokevirtual 208, 3) := by decide +kernel
theorem o_pd__28ILjava_2flang_2fString_3b_29V : parseMethodDescriptor "(ILjava/lang/String;)V" = some ⟨[.int, (.object "java/lang/String")], none⟩ := by decide +kernel
theorem oD7_33 : decode jdk_68_method_22_code 33 = .ok (.aload_n 0, 1) := by decide +kernel
theorem oD7_34 : decode jdk_68_method_22_code 34 = .ok (.dup, 1) := by decide +kernel
theorem oD7_35 : decode jdk_68_method_22_code 35 = .ok (.getfield 79, 3) := by decide +kernel
theorem oD7_38 : decode jdk_68_method_22_code 38 = .ok (.iload_n 2, 1) := by decide +kernel
theorem oD7_39 : decode jdk_68_method_22_code 39 = .ok (.iadd, 1) := by decide +kernel
theorem oD7_40 : decode jdk_68_method_22_code 40 = .ok (.putfield 79, 3) := by decide +kernel
theorem oD7_43 : decode jdk_68_method_22_code 43 = .ok (.aload_n 0, 1) := by decide +kernel
theorem oD7_44 : decode jdk_68_method_22_code 44 = .ok (.areturn, 1) := by decide +kernel
theorem o_pn_2 : plainName "java/lang/StringBuilder" = true := by first | (simp [plainName, overriddenIn]; done) | decide +kernel
theorem oD8_0 : decode jdk_67_method_7_code 0 = .ok (.aload_n 0, 1) := by decide +kernel
theorem oD8_1 : decode jdk_67_method_7_code 1 = .ok (.aload_n 1, 1) := by decide +kernel
theorem oD8_2 : decode jdk_67_method_7_code 2 = .ok (.invokespecial 29, 3) := by decide +kernel
theorem o_pd__28Ljava_2flang_2fString_3b_29Ljava_2flang_2fAbstractStringBuilder_3b : parseMethodDescriptor "(Ljava/lang/String;)Ljava/lang/AbstractStringBuilder;" = some ⟨[(.object "java/lang/String")], some (.object "java/lang/AbstractStringBuilder")⟩ := by decide +kernel
theorem oD8_5 : decode jdk_67_method_7_code 5 = .ok (.pop, 1) := by decide +kernel
theorem oD8_6 : decode jdk_67_method_7_code 6 = .ok (.aload_n 0, 1) := by decide +kernel
theorem oD8_7 : decode jdk_67_method_7_code 7 = .ok (.areturn, 1) := by decide +kernel
theorem o_pn_3 : plainName "java/lang/Record" = true := by first | (simp [plainName, overriddenIn]; done) | decide +kernel
theorem oD9_0 : decode jdk_30_method_1_code 0 = .ok (.aload_n 0, 1) := by decide +kernel
theorem oD9_1 : decode jdk_30_method_1_code 1 = .ok (.invokespecial 1, 3) := by decide +kernel
theorem oD9_4 : decode jdk_30_method_1_code 4 = .ok (.return_, 1) := by decide +kernel
theorem o_pn_4 : plainName "java/util/Objects" = true := by first | (simp [plainName, overriddenIn]; done) | decide +kernel
theorem oD10_0 : decode jdk_31_method_11_code 0 = .ok (.aload_n 0, 1) := by decide +kernel
theorem oD10_1 : decode jdk_31_method_11_code 1 = .ok (.ifnonnull 12, 3) := by decide +kernel
theorem oD10_13 : decode jdk_31_method_11_code 13 = .ok (.aload_n 0, 1) := by decide +kernel
theorem oD10_14 : decode jdk_31_method_11_code 14 = .ok (.areturn, 1) := by decide +kernel
theorem o_ef6 (m : MethodId) (x0 : Int32) : entryFrame m #[(.int x0)] 2 = mkF m 0 #[.val (.int x0), .unset] [] := by first | (simp [entryFrame, mkF, argsToLocals, Value.category]; done) | rfl
theorem o_pn_5 : plainName "org/adviceweft/pointcut/NamePatternToStringPinLaw" = true := by first | (simp [plainName, overriddenIn]; done) | decide +kernel
theorem oD11_0 : decode method_2_code 0 = .ok (.iload_n 0, 1) := by decide +kernel
theorem oD11_1 : decode method_2_code 1 = .ok (.sipush 255, 3) := by decide +kernel
theorem oD11_4 : decode method_2_code 4 = .ok (.iand, 1) := by decide +kernel
theorem oD11_5 : decode method_2_code 5 = .ok (.istore_n 1, 1) := by decide +kernel
theorem oD11_6 : decode method_2_code 6 = .ok (.iload_n 1, 1) := by decide +kernel
theorem oD11_7 : decode method_2_code 7 = .ok (.bipush 42, 2) := by decide +kernel
theorem oD11_9 : decode method_2_code 9 = .ok (.if_icmp .ne 6, 3) := by decide +kernel
theorem oD11_15 : decode method_2_code 15 = .ok (.iload_n 1, 1) := by decide +kernel
theorem oD11_16 : decode method_2_code 16 = .ok (.i2c, 1) := by decide +kernel
theorem oD11_17 : decode method_2_code 17 = .ok (.ireturn, 1) := by decide +kernel
theorem oD11_12 : decode method_2_code 12 = .ok (.bipush 43, 2) := by decide +kernel
theorem oD11_14 : decode method_2_code 14 = .ok (.istore_n 1, 1) := by decide +kernel
theorem o_ef7 (m : MethodId) (x0 : Int32) : entryFrame m #[(.int x0)] 1 = mkF m 0 #[.val (.int x0)] [] := by first | (simp [entryFrame, mkF, argsToLocals, Value.category]; done) | rfl
theorem o_pn_6 : plainName "java/lang/StringLatin1" = true := by first | (simp [plainName, overriddenIn]; done) | decide +kernel
theorem oD12_0 : decode jdk_43_method_3_code 0 = .ok (.iload_n 0, 1) := by decide +kernel
theorem oD12_1 : decode jdk_43_method_3_code 1 = .ok (.sipush 255, 3) := by decide +kernel
theorem oD12_4 : decode jdk_43_method_3_code 4 = .ok (.if_icmp .gt 7, 3) := by decide +kernel
theorem oD12_7 : decode jdk_43_method_3_code 7 = .ok (.iconst 1, 1) := by decide +kernel
theorem oD12_8 : decode jdk_43_method_3_code 8 = .ok (.goto 4, 3) := by decide +kernel
theorem oD12_12 : decode jdk_43_method_3_code 12 = .ok (.ireturn, 1) := by decide +kernel
theorem oD13_0 : decode jdk_43_method_46_code 0 = .ok (.iconst 1, 1) := by decide +kernel
theorem oD13_1 : decode jdk_43_method_46_code 1 = .ok (.newarray .byte, 2) := by decide +kernel
theorem oD13_3 : decode jdk_43_method_46_code 3 = .ok (.dup, 1) := by decide +kernel
theorem oD13_4 : decode jdk_43_method_46_code 4 = .ok (.iconst 0, 1) := by decide +kernel
theorem oD13_5 : decode jdk_43_method_46_code 5 = .ok (.iload_n 0, 1) := by decide +kernel
theorem oD13_6 : decode jdk_43_method_46_code 6 = .ok (.i2b, 1) := by decide +kernel
theorem oD13_7 : decode jdk_43_method_46_code 7 = .ok (.bastore, 1) := by decide +kernel
theorem oD13_8 : decode jdk_43_method_46_code 8 = .ok (.areturn, 1) := by decide +kernel
theorem o_ef8 (m : MethodId) (x0 : Addr) (x1 : Addr) : entryFrame m #[(.ref x0), (.ref x1), (.int 0)] 3 = mkF m 0 #[.val (.ref x0), .val (.ref x1), .val (.int 0)] [] := by first | (simp [entryFrame, mkF, argsToLocals, Value.category]; done) | rfl
theorem oD14_0 : decode jdk_42_method_151_code 0 = .ok (.aload_n 0, 1) := by decide +kernel
theorem oD14_1 : decode jdk_42_method_151_code 1 = .ok (.invokespecial 1, 3) := by decide +kernel
theorem oD14_4 : decode jdk_42_method_151_code 4 = .ok (.aload_n 0, 1) := by decide +kernel
theorem oD14_5 : decode jdk_42_method_151_code 5 = .ok (.aload_n 1, 1) := by decide +kernel
theorem oD14_6 : decode jdk_42_method_151_code 6 = .ok (.putfield 9, 3) := by decide +kernel
theorem oD14_9 : decode jdk_42_method_151_code 9 = .ok (.aload_n 0, 1) := by decide +kernel
theorem oD14_10 : decode jdk_42_method_151_code 10 = .ok (.iload_n 2, 1) := by decide +kernel
theorem oD14_11 : decode jdk_42_method_151_code 11 = .ok (.putfield 15, 3) := by decide +kernel
theorem oD14_14 : decode jdk_42_method_151_code 14 = .ok (.return_, 1) := by decide +kernel
theorem oD15_0 : decode jdk_42_method_139_code 0 = .ok (.getstatic 38, 3) := by decide +kernel
theorem oD15_3 : decode jdk_42_method_139_code 3 = .ok (.ifCond .eq 23, 3) := by decide +kernel
theorem oD15_6 : decode jdk_42_method_139_code 6 = .ok (.iload_n 0, 1) := by decide +kernel
theorem oD15_7 : decode jdk_42_method_139_code 7 = .ok (.invokestatic 1015, 3) := by decide +kernel
theorem o_pd__28C_29Z : parseMethodDescriptor "(C)Z" = some ⟨[.char], some .boolean⟩ := by decide +kernel
theorem oD15_10 : decode jdk_42_method_139_code 10 = .ok (.ifCond .eq 16, 3) := by decide +kernel
theorem oD15_13 : decode jdk_42_method_139_code 13 = .ok (.new 10, 3) := by decide +kernel
theorem oD15_16 : decode jdk_42_method_139_code 16 = .ok (.dup, 1) := by decide +kernel
theorem oD15_17 : decode jdk_42_method_139_code 17 = .ok (.iload_n 0, 1) := by decide +kernel
theorem oD15_18 : decode jdk_42_method_139_code 18 = .ok (.invokestatic 1018, 3) := by decide +kernel
theorem o_pd__28C_29_5bB : parseMethodDescriptor "(C)[B" = some ⟨[.char], some (.array .byte)⟩ := by decide +kernel
theorem oD15_21 : decode jdk_42_method_139_code 21 = .ok (.iconst 0, 1) := by decide +kernel
theorem oD15_22 : decode jdk_42_method_139_code 22 = .ok (.invokespecial 209, 3) := by decide +kernel
theorem o_pd__28_5bBB_29V : parseMethodDescriptor "([BB)V" = some ⟨[(.array .byte), .byte], none⟩ := by decide +kernel
theorem oD15_25 : decode jdk_42_method_139_code 25 = .ok (.areturn, 1) := by decide +kernel
theorem o_ef9 (m : MethodId) (x0 : Addr) : entryFrame m #[(.ref x0), (.int 16)] 2 = mkF m 0 #[.val (.ref x0), .val (.int 16)] [] := by first | (simp [entryFrame, mkF, argsToLocals, Value.category]; done) | rfl
theorem oD16_0 : decode jdk_68_method_2_code 0 = .ok (.aload_n 0, 1) := by decide +kernel
theorem oD16_1 : decode jdk_68_method_2_code 1 = .ok (.invokespecial 3, 3) := by decide +kernel
theorem oD16_4 : decode jdk_68_method_2_code 4 = .ok (.getstatic 18, 3) := by decide +kernel
theorem oD16_7 : decode jdk_68_method_2_code 7 = .ok (.ifCond .eq 18, 3) := by decide +kernel
theorem oD16_10 : decode jdk_68_method_2_code 10 = .ok (.aload_n 0, 1) := by decide +kernel
theorem oD16_11 : decode jdk_68_method_2_code 11 = .ok (.iload_n 1, 1) := by decide +kernel
theorem oD16_12 : decode jdk_68_method_2_code 12 = .ok (.newarray .byte, 2) := by decide +kernel
theorem oD16_14 : decode jdk_68_method_2_code 14 = .ok (.putfield 15, 3) := by decide +kernel
theorem oD16_17 : decode jdk_68_method_2_code 17 = .ok (.aload_n 0, 1) := by decide +kernel
theorem oD16_18 : decode jdk_68_method_2_code 18 = .ok (.iconst 0, 1) := by decide +kernel
theorem oD16_19 : decode jdk_68_method_2_code 19 = .ok (.putfield 22, 3) := by decide +kernel
theorem oD16_22 : decode jdk_68_method_2_code 22 = .ok (.goto 16, 3) := by decide +kernel
theorem oD16_38 : decode jdk_68_method_2_code 38 = .ok (.return_, 1) := by decide +kernel
theorem oD17_0 : decode jdk_67_method_1_code 0 = .ok (.aload_n 0, 1) := by decide +kernel
theorem oD17_1 : decode jdk_67_method_1_code 1 = .ok (.bipush 16, 2) := by decide +kernel
theorem oD17_3 : decode jdk_67_method_1_code 3 = .ok (.invokespecial 1, 3) := by decide +kernel
theorem oD17_6 : decode jdk_67_method_1_code 6 = .ok (.return_, 1) := by decide +kernel
theorem oD18_0 : decode jdk_68_method_68_code 0 = .ok (.getstatic 18, 3) := by decide +kernel
theorem oD18_3 : decode jdk_68_method_68_code 3 = .ok (.ifCond .eq 14, 3) := by decide +kernel
theorem oD18_6 : decode jdk_68_method_68_code 6 = .ok (.aload_n 0, 1) := by decide +kernel
theorem oD18_7 : decode jdk_68_method_68_code 7 = .ok (.getfield 22, 3) := by decide +kernel
theorem oD18_10 : decode jdk_68_method_68_code 10 = .ok (.ifCond .ne 7, 3) := by decide +kernel
theorem oD18_13 : decode jdk_68_method_68_code 13 = .ok (.iconst 1, 1) := by decide +kernel
theorem oD18_14 : decode jdk_68_method_68_code 14 = .ok (.goto 4, 3) := by decide +kernel
theorem oD18_18 : decode jdk_68_method_68_code 18 = .ok (.ireturn, 1) := by decide +kernel
theorem oD19_0 : decode jdk_68_method_64_code 0 = .ok (.aload_n 0, 1) := by decide +kernel
theorem oD19_1 : decode jdk_68_method_64_code 1 = .ok (.getfield 15, 3) := by decide +kernel
theorem oD19_4 : decode jdk_68_method_64_code 4 = .ok (.areturn, 1) := by decide +kernel
theorem oD20_0 : decode jdk_68_method_6_code 0 = .ok (.aload_n 0, 1) := by decide +kernel
theorem oD20_1 : decode jdk_68_method_6_code 1 = .ok (.getfield 79, 3) := by decide +kernel
theorem oD20_4 : decode jdk_68_method_6_code 4 = .ok (.ireturn, 1) := by decide +kernel
theorem oD21_0 : decode jdk_67_method_93_code 0 = .ok (.aload_n 0, 1) := by decide +kernel
theorem oD21_1 : decode jdk_67_method_93_code 1 = .ok (.invokespecial 343, 3) := by decide +kernel
theorem oD21_4 : decode jdk_67_method_93_code 4 = .ok (.ireturn, 1) := by decide +kernel
theorem o_ef10 (m : MethodId) (x0 : Int32) (x1 : Int32) : entryFrame m #[(.int x0), (.int x1)] 2 = mkF m 0 #[.val (.int x0), .val (.int x1)] [] := by first | (simp [entryFrame, mkF, argsToLocals, Value.category]; done) | rfl
theorem oD22_0 : decode jdk_29_method_69_code 0 = .ok (.iload_n 0, 1) := by decide +kernel
theorem oD22_1 : decode jdk_29_method_69_code 1 = .ok (.iload_n 1, 1) := by decide +kernel
theorem oD22_2 : decode jdk_29_method_69_code 2 = .ok (.if_icmp .gt 7, 3) := by decide +kernel
theorem oD22_9 : decode jdk_29_method_69_code 9 = .ok (.iload_n 1, 1) := by decide +kernel
theorem oD22_10 : decode jdk_29_method_69_code 10 = .ok (.ireturn, 1) := by decide +kernel
theorem o_ef11 (m : MethodId) (x1 : Int32) : entryFrame m #[(.int 0), (.int x1)] 2 = mkF m 0 #[.val (.int 0), .val (.int x1)] [] := by first | (simp [entryFrame, mkF, argsToLocals, Value.category]; done) | rfl
theorem o_pn_7 : plainName "java/util/Arrays" = true := by first | (simp [plainName, overriddenIn]; done) | decide +kernel
theorem oD23_0 : decode jdk_65_method_131_code 0 = .ok (.iload_n 1, 1) := by decide +kernel
theorem oD23_1 : decode jdk_65_method_131_code 1 = .ok (.iload_n 0, 1) := by decide +kernel
theorem oD23_2 : decode jdk_65_method_131_code 2 = .ok (.if_icmp .ge 35, 3) := by decide +kernel
theorem oD23_37 : decode jdk_65_method_131_code 37 = .ok (.return_, 1) := by decide +kernel
theorem o_ef12 (m : MethodId) (x0 : Addr) (x2 : Int32) : entryFrame m #[(.ref x0), (.int 0), (.int x2)] 5 = mkF m 0 #[.val (.ref x0), .val (.int 0), .val (.int x2), .unset, .unset] [] := by first | (simp [entryFrame, mkF, argsToLocals, Value.category]; done) | rfl
theorem oD24_0 : decode jdk_65_method_133_code 0 = .ok (.iload_n 1, 1) := by decide +kernel
theorem oD24_1 : decode jdk_65_method_133_code 1 = .ok (.iload_n 2, 1) := by decide +kernel
theorem oD24_2 : decode jdk_65_method_133_code 2 = .ok (.invokestatic 343, 3) := by decide +kernel
theorem o_pd__28II_29V : parseMethodDescriptor "(II)V" = some ⟨[.int, .int], none⟩ := by decide +kernel
theorem oD24_5 : decode jdk_65_method_133_code 5 = .ok (.iload_n 2, 1) := by decide +kernel
theorem oD24_6 : decode jdk_65_method_133_code 6 = .ok (.iload_n 1, 1) := by decide +kernel
theorem oD24_7 : decode jdk_65_method_133_code 7 = .ok (.isub, 1) := by decide +kernel
theorem oD24_8 : decode jdk_65_method_133_code 8 = .ok (.istore_n 3, 1) := by decide +kernel
theorem oD24_9 : decode jdk_65_method_133_code 9 = .ok (.iload_n 3, 1) := by decide +kernel
theorem oD24_10 : decode jdk_65_method_133_code 10 = .ok (.newarray .byte, 2) := by decide +kernel
theorem oD24_12 : decode jdk_65_method_133_code 12 = .ok (.astore 4, 2) := by decide +kernel
theorem oD24_14 : decode jdk_65_method_133_code 14 = .ok (.aload_n 0, 1) := by decide +kernel
theorem oD24_15 : decode jdk_65_method_133_code 15 = .ok (.iload_n 1, 1) := by decide +kernel
theorem oD24_16 : decode jdk_65_method_133_code 16 = .ok (.aload 4, 2) := by decide +kernel
theorem oD24_18 : decode jdk_65_method_133_code 18 = .ok (.iconst 0, 1) := by decide +kernel
theorem oD24_19 : decode jdk_65_method_133_code 19 = .ok (.aload_n 0, 1) := by decide +kernel
theorem oD24_20 : decode jdk_65_method_133_code 20 = .ok (.arraylength, 1) := by decide +kernel
theorem oD24_21 : decode jdk_65_method_133_code 21 = .ok (.iload_n 1, 1) := by decide +kernel
theorem oD24_22 : decode jdk_65_method_133_code 22 = .ok (.isub, 1) := by decide +kernel
theorem oD24_23 : decode jdk_65_method_133_code 23 = .ok (.iload_n 3, 1) := by decide +kernel
theorem oD24_24 : decode jdk_65_method_133_code 24 = .ok (.invokestatic 304, 3) := by decide +kernel
theorem o_pd__28II_29I : parseMethodDescriptor "(II)I" = some ⟨[.int, .int], some .int⟩ := by decide +kernel
theorem oD24_27 : decode jdk_65_method_133_code 27 = .ok (.invokestatic 150, 3) := by decide +kernel
theorem oD24_30 : decode jdk_65_method_133_code 30 = .ok (.aload 4, 2) := by decide +kernel
theorem oD24_32 : decode jdk_65_method_133_code 32 = .ok (.areturn, 1) := by decide +kernel
theorem o_ef13 (m : MethodId) (x0 : Addr) (x2 : Int32) : entryFrame m #[(.ref x0), (.int 0), (.int x2)] 3 = mkF m 0 #[.val (.ref x0), .val (.int 0), .val (.int x2)] [] := by first | (simp [entryFrame, mkF, argsToLocals, Value.category]; done) | rfl
theorem oD25_0 : decode jdk_65_method_132_code 0 = .ok (.iload_n 1, 1) := by decide +kernel
theorem oD25_1 : decode jdk_65_method_132_code 1 = .ok (.ifCond .ne 9, 3) := by decide +kernel
theorem oD25_4 : decode jdk_65_method_132_code 4 = .ok (.iload_n 2, 1) := by decide +kernel
theorem oD25_5 : decode jdk_65_method_132_code 5 = .ok (.aload_n 0, 1) := by decide +kernel
theorem oD25_6 : decode jdk_65_method_132_code 6 = .ok (.arraylength, 1) := by decide +kernel
theorem oD25_7 : decode jdk_65_method_132_code 7 = .ok (.if_icmp .eq 10, 3) := by decide +kernel
theorem oD25_10 : decode jdk_65_method_132_code 10 = .ok (.aload_n 0, 1) := by decide +kernel
theorem oD25_11 : decode jdk_65_method_132_code 11 = .ok (.iload_n 1, 1) := by decide +kernel
theorem oD25_12 : decode jdk_65_method_132_code 12 = .ok (.iload_n 2, 1) := by decide +kernel
theorem oD25_13 : decode jdk_65_method_132_code 13 = .ok (.invokestatic 339, 3) := by decide +kernel
theorem o_pd__28_5bBII_29_5bB : parseMethodDescriptor "([BII)[B" = some ⟨[(.array .byte), .int, .int], some (.array .byte)⟩ := by decide +kernel
theorem oD25_16 : decode jdk_65_method_132_code 16 = .ok (.areturn, 1) := by decide +kernel
theorem o_ef14 (m : MethodId) (x0 : Addr) (x1 : Addr) : entryFrame m #[(.ref x0), (.ref x1), .null] 5 = mkF m 0 #[.val (.ref x0), .val (.ref x1), .val .null, .unset, .unset] [] := by first | (simp [entryFrame, mkF, argsToLocals, Value.category]; done) | rfl
theorem oD26_0 : decode jdk_42_method_150_code 0 = .ok (.aload_n 0, 1) := by decide +kernel
theorem oD26_1 : decode jdk_42_method_150_code 1 = .ok (.invokespecial 1, 3) := by decide +kernel
theorem oD26_4 : decode jdk_42_method_150_code 4 = .ok (.aload_n 1, 1) := by decide +kernel
theorem oD26_5 : decode jdk_42_method_150_code 5 = .ok (.invokevirtual 552, 3) := by decide +kernel
theorem o_pd__28_29_5bB : parseMethodDescriptor "()[B" = some ⟨[], some (.array .byte)⟩ := by decide +kernel
theorem oD26_8 : decode jdk_42_method_150_code 8 = .ok (.astore_n 3, 1) := by decide +kernel
theorem oD26_9 : decode jdk_42_method_150_code 9 = .ok (.aload_n 1, 1) := by decide +kernel
theorem oD26_10 : decode jdk_42_method_150_code 10 = .ok (.invokevirtual 549, 3) := by decide +kernel
theorem oD26_13 : decode jdk_42_method_150_code 13 = .ok (.istore 4, 2) := by decide +kernel
theorem oD26_15 : decode jdk_42_method_150_code 15 = .ok (.aload_n 1, 1) := by decide +kernel
theorem oD26_16 : decode jdk_42_method_150_code 16 = .ok (.invokevirtual 1047, 3) := by decide +kernel
theorem o_pd__28_29Z : parseMethodDescriptor "()Z" = some ⟨[], some .boolean⟩ := by decide +kernel
theorem oD26_19 : decode jdk_42_method_150_code 19 = .ok (.ifCond .eq 22, 3) := by decide +kernel
theorem oD26_22 : decode jdk_42_method_150_code 22 = .ok (.aload_n 0, 1) := by decide +kernel
theorem oD26_23 : decode jdk_42_method_150_code 23 = .ok (.iconst 0, 1) := by decide +kernel
theorem oD26_24 : decode jdk_42_method_150_code 24 = .ok (.putfield 15, 3) := by decide +kernel
theorem oD26_27 : decode jdk_42_method_150_code 27 = .ok (.aload_n 0, 1) := by decide +kernel
theorem oD26_28 : decode jdk_42_method_150_code 28 = .ok (.aload_n 3, 1) := by decide +kernel
theorem oD26_29 : decode jdk_42_method_150_code 29 = .ok (.iconst 0, 1) := by decide +kernel
theorem oD26_30 : decode jdk_42_method_150_code 30 = .ok (.iload 4, 2) := by decide +kernel
theorem oD26_32 : decode jdk_42_method_150_code 32 = .ok (.invokestatic 54, 3) := by decide +kernel
theorem oD26_35 : decode jdk_42_method_150_code 35 = .ok (.putfield 9, 3) := by decide +kernel
theorem oD26_38 : decode jdk_42_method_150_code 38 = .ok (.goto 59, 3) := by decide +kernel
theorem oD26_97 : decode jdk_42_method_150_code 97 = .ok (.return_, 1) := by decide +kernel
theorem oD27_0 : decode jdk_42_method_53_code 0 = .ok (.aload_n 0, 1) := by decide +kernel
theorem oD27_1 : decode jdk_42_method_53_code 1 = .ok (.aload_n 1, 1) := by decide +kernel
theorem oD27_2 : decode jdk_42_method_53_code 2 = .ok (.aconst_null, 1) := by decide +kernel
theorem oD27_3 : decode jdk_42_method_53_code 3 = .ok (.invokespecial 489, 3) := by decide +kernel
theorem o_pd__28Ljava_2flang_2fAbstractStringBuilder_3bLjava_2flang_2fVoid_3b_29V : parseMethodDescriptor "(Ljava/lang/AbstractStringBuilder;Ljava/lang/Void;)V" = some ⟨[(.object "java/lang/AbstractStringBuilder"), (.object "java/lang/Void")], none⟩ := by decide +kernel
theorem oD27_6 : decode jdk_42_method_53_code 6 = .ok (.return_, 1) := by decide +kernel
theorem oD28_0 : decode jdk_67_method_42_code 0 = .ok (.new 18, 3) := by decide +kernel
theorem oD28_3 : decode jdk_67_method_42_code 3 = .ok (.dup, 1) := by decide +kernel
theorem oD28_4 : decode jdk_67_method_42_code 4 = .ok (.aload_n 0, 1) := by decide +kernel
theorem oD28_5 : decode jdk_67_method_42_code 5 = .ok (.invokespecial 137, 3) := by decide +kernel
theorem o_pd__28Ljava_2flang_2fStringBuilder_3b_29V : parseMethodDescriptor "(Ljava/lang/StringBuilder;)V" = some ⟨[(.object "java/lang/StringBuilder")], none⟩ := by decide +kernel
theorem oD28_8 : decode jdk_67_method_42_code 8 = .ok (.areturn, 1) := by decide +kernel
theorem o_ef15 (m : MethodId) (x0 : Addr) (x1 : Int32) (x2 : Int32) : entryFrame m #[(.ref x0), (.int x1), (.int x2)] 3 = mkF m 0 #[.val (.ref x0), .val (.int x1), .val (.int x2)] [] := by first | (simp [entryFrame, mkF, argsToLocals, Value.category]; done) | rfl
theorem o_pn_8 : plainName "org/adviceweft/pointcut/NamePattern" = true := by first | (simp [plainName, overriddenIn]; done) | decide +kernel
theorem oD29_0 : decode prog_8_method_5_code 0 = .ok (.new 31, 3) := by decide +kernel
theorem oD29_3 : decode prog_8_method_5_code 3 = .ok (.dup, 1) := by decide +kernel
theorem oD29_4 : decode prog_8_method_5_code 4 = .ok (.invokespecial 33, 3) := by decide +kernel
theorem o_pd__28_29V : parseMethodDescriptor "()V" = some ⟨[], none⟩ := by decide +kernel
theorem oD29_7 : decode prog_8_method_5_code 7 = .ok (.iload_n 1, 1) := by decide +kernel
theorem oD29_8 : decode prog_8_method_5_code 8 = .ok (.ifCond .eq 8, 3) := by decide +kernel
theorem oD29_16 : decode prog_8_method_5_code 16 = .ok (.ldc 69, 2) := by decide +kernel
theorem oD29_18 : decode prog_8_method_5_code 18 = .ok (.invokevirtual 36, 3) := by decide +kernel
theorem o_pd__28Ljava_2flang_2fString_3b_29Ljava_2flang_2fStringBuilder_3b : parseMethodDescriptor "(Ljava/lang/String;)Ljava/lang/StringBuilder;" = some ⟨[(.object "java/lang/String")], some (.object "java/lang/StringBuilder")⟩ := by decide +kernel
theorem oD29_21 : decode prog_8_method_5_code 21 = .ok (.aload_n 0, 1) := by decide +kernel
theorem oD29_22 : decode prog_8_method_5_code 22 = .ok (.invokevirtual 36, 3) := by decide +kernel
theorem oD29_25 : decode prog_8_method_5_code 25 = .ok (.iload_n 2, 1) := by decide +kernel
theorem oD29_26 : decode prog_8_method_5_code 26 = .ok (.ifCond .eq 8, 3) := by decide +kernel
theorem oD29_34 : decode prog_8_method_5_code 34 = .ok (.ldc 69, 2) := by decide +kernel
theorem oD29_36 : decode prog_8_method_5_code 36 = .ok (.invokevirtual 36, 3) := by decide +kernel
theorem oD29_39 : decode prog_8_method_5_code 39 = .ok (.invokevirtual 46, 3) := by decide +kernel
theorem o_pd__28_29Ljava_2flang_2fString_3b : parseMethodDescriptor "()Ljava/lang/String;" = some ⟨[], some (.object "java/lang/String")⟩ := by decide +kernel
theorem oD29_42 : decode prog_8_method_5_code 42 = .ok (.areturn, 1) := by decide +kernel
theorem oD29_29 : decode prog_8_method_5_code 29 = .ok (.ldc 17, 2) := by decide +kernel
theorem oD29_31 : decode prog_8_method_5_code 31 = .ok (.goto 5, 3) := by decide +kernel
theorem oD29_11 : decode prog_8_method_5_code 11 = .ok (.ldc 17, 2) := by decide +kernel
theorem oD29_13 : decode prog_8_method_5_code 13 = .ok (.goto 5, 3) := by decide +kernel
theorem oD30_0 : decode prog_8_method_4_code 0 = .ok (.aload_n 0, 1) := by decide +kernel
theorem oD30_1 : decode prog_8_method_4_code 1 = .ok (.getfield 53, 3) := by decide +kernel
theorem oD30_4 : decode prog_8_method_4_code 4 = .ok (.aload_n 0, 1) := by decide +kernel
theorem oD30_5 : decode prog_8_method_4_code 5 = .ok (.getfield 56, 3) := by decide +kernel
theorem oD30_8 : decode prog_8_method_4_code 8 = .ok (.aload_n 0, 1) := by decide +kernel
theorem oD30_9 : decode prog_8_method_4_code 9 = .ok (.getfield 60, 3) := by decide +kernel
theorem oD30_12 : decode prog_8_method_4_code 12 = .ok (.invokestatic 40, 3) := by decide +kernel
theorem o_pd__28Ljava_2flang_2fString_3bZZ_29Ljava_2flang_2fString_3b : parseMethodDescriptor "(Ljava/lang/String;ZZ)Ljava/lang/String;" = some ⟨[(.object "java/lang/String"), .boolean, .boolean], some (.object "java/lang/String")⟩ := by decide +kernel
theorem oD30_15 : decode prog_8_method_4_code 15 = .ok (.areturn, 1) := by decide +kernel
theorem oD31_0 : decode jdk_43_method_24_code 0 = .ok (.aload_n 1, 1) := by decide +kernel
theorem oD31_1 : decode jdk_43_method_24_code 1 = .ok (.arraylength, 1) := by decide +kernel
theorem oD31_2 : decode jdk_43_method_24_code 2 = .ok (.ifCond .ne 5, 3) := by decide +kernel
theorem oD31_7 : decode jdk_43_method_24_code 7 = .ok (.aload_n 0, 1) := by decide +kernel
theorem oD31_8 : decode jdk_43_method_24_code 8 = .ok (.arraylength, 1) := by decide +kernel
theorem oD31_9 : decode jdk_43_method_24_code 9 = .ok (.ifCond .ne 5, 3) := by decide +kernel
theorem oD31_12 : decode jdk_43_method_24_code 12 = .ok (.iconst (-1), 1) := by decide +kernel
theorem oD31_13 : decode jdk_43_method_24_code 13 = .ok (.ireturn, 1) := by decide +kernel
theorem oD32_0 : decode jdk_42_method_84_code 0 = .ok (.aload_n 0, 1) := by decide +kernel
theorem oD32_1 : decode jdk_42_method_84_code 1 = .ok (.invokevirtual 335, 3) := by decide +kernel
theorem oD32_4 : decode jdk_42_method_84_code 4 = .ok (.istore_n 2, 1) := by decide +kernel
theorem oD32_5 : decode jdk_42_method_84_code 5 = .ok (.iload_n 2, 1) := by decide +kernel
theorem oD32_6 : decode jdk_42_method_84_code 6 = .ok (.aload_n 1, 1) := by decide +kernel
theorem oD32_7 : decode jdk_42_method_84_code 7 = .ok (.invokevirtual 335, 3) := by decide +kernel
theorem oD32_10 : decode jdk_42_method_84_code 10 = .ok (.if_icmp .ne 36, 3) := by decide +kernel
theorem oD32_13 : decode jdk_42_method_84_code 13 = .ok (.aload_n 0, 1) := by decide +kernel
theorem oD32_14 : decode jdk_42_method_84_code 14 = .ok (.invokevirtual 492, 3) := by decide +kernel
theorem oD32_17 : decode jdk_42_method_84_code 17 = .ok (.ifCond .eq 17, 3) := by decide +kernel
theorem oD32_20 : decode jdk_42_method_84_code 20 = .ok (.aload_n 0, 1) := by decide +kernel
theorem oD32_21 : decode jdk_42_method_84_code 21 = .ok (.getfield 9, 3) := by decide +kernel
theorem oD32_24 : decode jdk_42_method_84_code 24 = .ok (.aload_n 1, 1) := by decide +kernel
theorem oD32_25 : decode jdk_42_method_84_code 25 = .ok (.getfield 9, 3) := by decide +kernel
theorem oD32_28 : decode jdk_42_method_84_code 28 = .ok (.invokestatic 647, 3) := by decide +kernel
theorem o_pd__28_5bB_5bB_29I : parseMethodDescriptor "([B[B)I" = some ⟨[(.array .byte), (.array .byte)], some .int⟩ := by decide +kernel
theorem oD32_31 : decode jdk_42_method_84_code 31 = .ok (.goto 14, 3) := by decide +kernel
theorem oD32_45 : decode jdk_42_method_84_code 45 = .ok (.ireturn, 1) := by decide +kernel
theorem oD33_0 : decode jdk_42_method_126_code 0 = .ok (.aload_n 0, 1) := by decide +kernel
theorem oD33_1 : decode jdk_42_method_126_code 1 = .ok (.areturn, 1) := by decide +kernel
theorem oD34_0 : decode jdk_42_method_97_code 0 = .ok (.aload_n 0, 1) := by decide +kernel
theorem oD34_1 : decode jdk_42_method_97_code 1 = .ok (.aload_n 1, 1) := by decide +kernel
theorem oD34_2 : decode jdk_42_method_97_code 2 = .ok (.invokeinterface 710 1, 5) := by decide +kernel
theorem oD34_7 : decode jdk_42_method_97_code 7 = .ok (.invokevirtual 711, 3) := by decide +kernel
theorem o_pd__28Ljava_2flang_2fString_3b_29I : parseMethodDescriptor "(Ljava/lang/String;)I" = some ⟨[(.object "java/lang/String")], some .int⟩ := by decide +kernel
theorem oD34_10 : decode jdk_42_method_97_code 10 = .ok (.ifCond .lt 7, 3) := by decide +kernel
theorem oD34_17 : decode jdk_42_method_97_code 17 = .ok (.iconst 0, 1) := by decide +kernel
theorem oD34_18 : decode jdk_42_method_97_code 18 = .ok (.ireturn, 1) := by decide +kernel
theorem oD34_13 : decode jdk_42_method_97_code 13 = .ok (.iconst 1, 1) := by decide +kernel
theorem oD34_14 : decode jdk_42_method_97_code 14 = .ok (.goto 4, 3) := by decide +kernel
theorem o_ef16 (m : MethodId) (x0 : Addr) (x2 : Addr) : entryFrame m #[(.ref x0), (.int 1), (.ref x2), (.int 1), (.int 0)] 11 = mkF m 0 #[.val (.ref x0), .val (.int 1), .val (.ref x2), .val (.int 1), .val (.int 0), .unset, .unset, .unset, .unset, .unset, .unset] [] := by first | (simp [entryFrame, mkF, argsToLocals, Value.category]; done) | rfl
theorem oD35_0 : decode jdk_43_method_25_code 0 = .ok (.aload_n 2, 1) := by decide +kernel
theorem oD35_1 : decode jdk_43_method_25_code 1 = .ok (.iconst 0, 1) := by decide +kernel
theorem oD35_2 : decode jdk_43_method_25_code 2 = .ok (.baload, 1) := by decide +kernel
theorem oD35_3 : decode jdk_43_method_25_code 3 = .ok (.istore 5, 2) := by decide +kernel
theorem oD35_5 : decode jdk_43_method_25_code 5 = .ok (.iload_n 1, 1) := by decide +kernel
theorem oD35_6 : decode jdk_43_method_25_code 6 = .ok (.iload_n 3, 1) := by decide +kernel
theorem oD35_7 : decode jdk_43_method_25_code 7 = .ok (.isub, 1) := by decide +kernel
theorem oD35_8 : decode jdk_43_method_25_code 8 = .ok (.istore 6, 2) := by decide +kernel
theorem oD35_10 : decode jdk_43_method_25_code 10 = .ok (.iload 4, 2) := by decide +kernel
theorem oD35_12 : decode jdk_43_method_25_code 12 = .ok (.istore 7, 2) := by decide +kernel
theorem oD35_14 : decode jdk_43_method_25_code 14 = .ok (.iload 7, 2) := by decide +kernel
theorem oD35_16 : decode jdk_43_method_25_code 16 = .ok (.iload 6, 2) := by decide +kernel
theorem oD35_18 : decode jdk_43_method_25_code 18 = .ok (.if_icmp .gt 101, 3) := by decide +kernel
theorem oD35_21 : decode jdk_43_method_25_code 21 = .ok (.aload_n 0, 1) := by decide +kernel
theorem oD35_22 : decode jdk_43_method_25_code 22 = .ok (.iload 7, 2) := by decide +kernel
theorem oD35_24 : decode jdk_43_method_25_code 24 = .ok (.baload, 1) := by decide +kernel
theorem oD35_25 : decode jdk_43_method_25_code 25 = .ok (.iload 5, 2) := by decide +kernel
theorem oD35_27 : decode jdk_43_method_25_code 27 = .ok (.if_icmp .eq 25, 3) := by decide +kernel
theorem oD35_52 : decode jdk_43_method_25_code 52 = .ok (.iload 7, 2) := by decide +kernel
theorem oD35_54 : decode jdk_43_method_25_code 54 = .ok (.iload 6, 2) := by decide +kernel
theorem oD35_56 : decode jdk_43_method_25_code 56 = .ok (.if_icmp .gt 57, 3) := by decide +kernel
theorem oD35_59 : decode jdk_43_method_25_code 59 = .ok (.iload 7, 2) := by decide +kernel
theorem oD35_61 : decode jdk_43_method_25_code 61 = .ok (.iconst 1, 1) := by decide +kernel
theorem oD35_62 : decode jdk_43_method_25_code 62 = .ok (.iadd, 1) := by decide +kernel
theorem oD35_63 : decode jdk_43_method_25_code 63 = .ok (.istore 8, 2) := by decide +kernel
theorem oD35_65 : decode jdk_43_method_25_code 65 = .ok (.iload 8, 2) := by decide +kernel
theorem oD35_67 : decode jdk_43_method_25_code 67 = .ok (.iload_n 3, 1) := by decide +kernel
theorem oD35_68 : decode jdk_43_method_25_code 68 = .ok (.iadd, 1) := by decide +kernel
theorem oD35_69 : decode jdk_43_method_25_code 69 = .ok (.iconst 1, 1) := by decide +kernel
theorem oD35_70 : decode jdk_43_method_25_code 70 = .ok (.isub, 1) := by decide +kernel
theorem oD35_71 : decode jdk_43_method_25_code 71 = .ok (.istore 9, 2) := by decide +kernel
theorem oD35_73 : decode jdk_43_method_25_code 73 = .ok (.iconst 1, 1) := by decide +kernel
theorem oD35_74 : decode jdk_43_method_25_code 74 = .ok (.istore 10, 2) := by decide +kernel
theorem oD35_76 : decode jdk_43_method_25_code 76 = .ok (.iload 8, 2) := by decide +kernel
theorem oD35_78 : decode jdk_43_method_25_code 78 = .ok (.iload 9, 2) := by decide +kernel
theorem oD35_80 : decode jdk_43_method_25_code 80 = .ok (.if_icmp .ge 23, 3) := by decide +kernel
theorem oD35_103 : decode jdk_43_method_25_code 103 = .ok (.iload 8, 2) := by decide +kernel
theorem oD35_105 : decode jdk_43_method_25_code 105 = .ok (.iload 9, 2) := by decide +kernel
theorem oD35_107 : decode jdk_43_method_25_code 107 = .ok (.if_icmp .ne 6, 3) := by decide +kernel
theorem oD35_110 : decode jdk_43_method_25_code 110 = .ok (.iload 7, 2) := by decide +kernel
theorem oD35_112 : decode jdk_43_method_25_code 112 = .ok (.ireturn, 1) := by decide +kernel
theorem o_lf0 (v0 : Int32) (s0 : Int32) (h0 : v0 = s0) : ((0 : Int32) < 0 ↔ ¬ o_occ ([v0] : List Int32) ([s0] : List Int32) = true) := by simp_all [o_occ, o_pref]
theorem oD35_30 : decode jdk_43_method_25_code 30 = .ok (.iinc 7 1, 3) := by decide +kernel
theorem oD35_33 : decode jdk_43_method_25_code 33 = .ok (.iload 7, 2) := by decide +kernel
theorem oD35_35 : decode jdk_43_method_25_code 35 = .ok (.iload 6, 2) := by decide +kernel
theorem oD35_37 : decode jdk_43_method_25_code 37 = .ok (.if_icmp .gt 15, 3) := by decide +kernel
theorem oD35_113 : decode jdk_43_method_25_code 113 = .ok (.iinc 7 1, 3) := by decide +kernel
theorem oD35_116 : decode jdk_43_method_25_code 116 = .ok (.goto (-102), 3) := by decide +kernel
theorem oD35_119 : decode jdk_43_method_25_code 119 = .ok (.iconst (-1), 1) := by decide +kernel
theorem oD35_120 : decode jdk_43_method_25_code 120 = .ok (.ireturn, 1) := by decide +kernel
theorem o_lf1 (v0 : Int32) (s0 : Int32) (h0 : ¬ v0 = s0) : ((-1 : Int32) < 0 ↔ ¬ o_occ ([v0] : List Int32) ([s0] : List Int32) = true) := by simp_all [o_occ, o_pref]
theorem oD31_14 : decode jdk_43_method_24_code 14 = .ok (.aload_n 0, 1) := by decide +kernel
theorem oD31_15 : decode jdk_43_method_24_code 15 = .ok (.aload_n 0, 1) := by decide +kernel
theorem oD31_16 : decode jdk_43_method_24_code 16 = .ok (.arraylength, 1) := by decide +kernel
theorem oD31_17 : decode jdk_43_method_24_code 17 = .ok (.aload_n 1, 1) := by decide +kernel
theorem oD31_18 : decode jdk_43_method_24_code 18 = .ok (.aload_n 1, 1) := by decide +kernel
theorem oD31_19 : decode jdk_43_method_24_code 19 = .ok (.arraylength, 1) := by decide +kernel
theorem oD31_20 : decode jdk_43_method_24_code 20 = .ok (.iconst 0, 1) := by decide +kernel
theorem oD31_21 : decode jdk_43_method_24_code 21 = .ok (.invokestatic 99, 3) := by decide +kernel
theorem o_pd__28_5bBI_5bBII_29I : parseMethodDescriptor "([BI[BII)I" = some ⟨[(.array .byte), .int, (.array .byte), .int, .int], some .int⟩ := by decide +kernel
theorem oD31_24 : decode jdk_43_method_24_code 24 = .ok (.ireturn, 1) := by decide +kernel
theorem o_ef17 (m : MethodId) (x0 : Addr) (x2 : Addr) : entryFrame m #[(.ref x0), (.int 2), (.ref x2), (.int 1), (.int 0)] 11 = mkF m 0 #[.val (.ref x0), .val (.int 2), .val (.ref x2), .val (.int 1), .val (.int 0), .unset, .unset, .unset, .unset, .unset, .unset] [] := by first | (simp [entryFrame, mkF, argsToLocals, Value.category]; done) | rfl
theorem o_lf2 (v0 : Int32) (v1 : Int32) (s0 : Int32) (h0 : v0 = s0) : ((0 : Int32) < 0 ↔ ¬ o_occ ([v0, v1] : List Int32) ([s0] : List Int32) = true) := by simp_all [o_occ, o_pref]
theorem oD35_40 : decode jdk_43_method_25_code 40 = .ok (.aload_n 0, 1) := by decide +kernel
theorem oD35_41 : decode jdk_43_method_25_code 41 = .ok (.iload 7, 2) := by decide +kernel
theorem oD35_43 : decode jdk_43_method_25_code 43 = .ok (.baload, 1) := by decide +kernel
theorem oD35_44 : decode jdk_43_method_25_code 44 = .ok (.iload 5, 2) := by decide +kernel
theorem oD35_46 : decode jdk_43_method_25_code 46 = .ok (.if_icmp .eq 6, 3) := by decide +kernel
theorem o_lf3 (v0 : Int32) (v1 : Int32) (s0 : Int32) (h0 : ¬ v0 = s0) (h1 : v1 = s0) : ((1 : Int32) < 0 ↔ ¬ o_occ ([v0, v1] : List Int32) ([s0] : List Int32) = true) := by simp_all [o_occ, o_pref]
theorem oD35_49 : decode jdk_43_method_25_code 49 = .ok (.goto (-19), 3) := by decide +kernel
theorem o_lf4 (v0 : Int32) (v1 : Int32) (s0 : Int32) (h0 : ¬ v0 = s0) (h1 : ¬ v1 = s0) : ((-1 : Int32) < 0 ↔ ¬ o_occ ([v0, v1] : List Int32) ([s0] : List Int32) = true) := by simp_all [o_occ, o_pref]
theorem o_ef18 (m : MethodId) (x0 : Addr) (x2 : Addr) : entryFrame m #[(.ref x0), (.int 3), (.ref x2), (.int 1), (.int 0)] 11 = mkF m 0 #[.val (.ref x0), .val (.int 3), .val (.ref x2), .val (.int 1), .val (.int 0), .unset, .unset, .unset, .unset, .unset, .unset] [] := by first | (simp [entryFrame, mkF, argsToLocals, Value.category]; done) | rfl
theorem o_lf5 (v0 : Int32) (v1 : Int32) (v2 : Int32) (s0 : Int32) (h0 : v0 = s0) : ((0 : Int32) < 0 ↔ ¬ o_occ ([v0, v1, v2] : List Int32) ([s0] : List Int32) = true) := by simp_all [o_occ, o_pref]
theorem o_lf6 (v0 : Int32) (v1 : Int32) (v2 : Int32) (s0 : Int32) (h0 : ¬ v0 = s0) (h1 : v1 = s0) : ((1 : Int32) < 0 ↔ ¬ o_occ ([v0, v1, v2] : List Int32) ([s0] : List Int32) = true) := by simp_all [o_occ, o_pref]
theorem o_lf7 (v0 : Int32) (v1 : Int32) (v2 : Int32) (s0 : Int32) (h0 : ¬ v0 = s0) (h1 : ¬ v1 = s0) (h2 : v2 = s0) : ((2 : Int32) < 0 ↔ ¬ o_occ ([v0, v1, v2] : List Int32) ([s0] : List Int32) = true) := by simp_all [o_occ, o_pref]
theorem o_lf8 (v0 : Int32) (v1 : Int32) (v2 : Int32) (s0 : Int32) (h0 : ¬ v0 = s0) (h1 : ¬ v1 = s0) (h2 : ¬ v2 = s0) : ((-1 : Int32) < 0 ↔ ¬ o_occ ([v0, v1, v2] : List Int32) ([s0] : List Int32) = true) := by simp_all [o_occ, o_pref]
theorem o_ef19 (m : MethodId) (x0 : Addr) (x1 : Addr) : entryFrame m #[(.ref x0), (.ref x1), (.int 1), (.int 0)] 4 = mkF m 0 #[.val (.ref x0), .val (.ref x1), .val (.int 1), .val (.int 0)] [] := by first | (simp [entryFrame, mkF, argsToLocals, Value.category]; done) | rfl
theorem oD36_0 : decode prog_8_method_1_code 0 = .ok (.aload_n 0, 1) := by decide +kernel
theorem oD36_1 : decode prog_8_method_1_code 1 = .ok (.invokespecial 1, 3) := by decide +kernel
theorem oD36_4 : decode prog_8_method_1_code 4 = .ok (.aload_n 1, 1) := by decide +kernel
theorem oD36_5 : decode prog_8_method_1_code 5 = .ok (.ldc 7, 2) := by decide +kernel
theorem oD36_7 : decode prog_8_method_1_code 7 = .ok (.invokestatic 9, 3) := by decide +kernel
theorem o_pd__28Ljava_2flang_2fObject_3bLjava_2flang_2fString_3b_29Ljava_2flang_2fObject_3b : parseMethodDescriptor "(Ljava/lang/Object;Ljava/lang/String;)Ljava/lang/Object;" = some ⟨[(.object "java/lang/Object"), (.object "java/lang/String")], some (.object "java/lang/Object")⟩ := by decide +kernel
theorem oD36_10 : decode prog_8_method_1_code 10 = .ok (.pop, 1) := by decide +kernel
theorem oD36_11 : decode prog_8_method_1_code 11 = .ok (.aload_n 1, 1) := by decide +kernel
theorem oD36_12 : decode prog_8_method_1_code 12 = .ok (.ldc 17, 2) := by decide +kernel
theorem oD36_14 : decode prog_8_method_1_code 14 = .ok (.invokevirtual 19, 3) := by decide +kernel
theorem o_pd__28Ljava_2flang_2fCharSequence_3b_29Z : parseMethodDescriptor "(Ljava/lang/CharSequence;)Z" = some ⟨[(.object "java/lang/CharSequence")], some .boolean⟩ := by decide +kernel
theorem oD36_17 : decode prog_8_method_1_code 17 = .ok (.ifCond .ne 18, 3) := by decide +kernel
theorem oD36_20 : decode prog_8_method_1_code 20 = .ok (.aload_n 1, 1) := by decide +kernel
theorem oD36_21 : decode prog_8_method_1_code 21 = .ok (.invokevirtual 25, 3) := by decide +kernel
theorem oD36_24 : decode prog_8_method_1_code 24 = .ok (.ifCond .eq 48, 3) := by decide +kernel
theorem oD36_27 : decode prog_8_method_1_code 27 = .ok (.iload_n 2, 1) := by decide +kernel
theorem oD36_28 : decode prog_8_method_1_code 28 = .ok (.ifCond .eq 7, 3) := by decide +kernel
theorem oD36_31 : decode prog_8_method_1_code 31 = .ok (.iload_n 3, 1) := by decide +kernel
theorem oD36_32 : decode prog_8_method_1_code 32 = .ok (.ifCond .eq 40, 3) := by decide +kernel
theorem oD36_72 : decode prog_8_method_1_code 72 = .ok (.aload_n 0, 1) := by decide +kernel
theorem oD36_73 : decode prog_8_method_1_code 73 = .ok (.aload_n 1, 1) := by decide +kernel
theorem oD36_74 : decode prog_8_method_1_code 74 = .ok (.putfield 53, 3) := by decide +kernel
theorem oD36_77 : decode prog_8_method_1_code 77 = .ok (.aload_n 0, 1) := by decide +kernel
theorem oD36_78 : decode prog_8_method_1_code 78 = .ok (.iload_n 2, 1) := by decide +kernel
theorem oD36_79 : decode prog_8_method_1_code 79 = .ok (.putfield 56, 3) := by decide +kernel
theorem oD36_82 : decode prog_8_method_1_code 82 = .ok (.aload_n 0, 1) := by decide +kernel
theorem oD36_83 : decode prog_8_method_1_code 83 = .ok (.iload_n 3, 1) := by decide +kernel
theorem oD36_84 : decode prog_8_method_1_code 84 = .ok (.putfield 60, 3) := by decide +kernel
theorem oD36_87 : decode prog_8_method_1_code 87 = .ok (.return_, 1) := by decide +kernel
theorem o_ef20 (m : MethodId) (x0 : Addr) (x1 : Addr) (x2 : Int32) (x3 : Int32) : entryFrame m #[(.ref x0), (.ref x1), (.int x2), (.int x3)] 4 = mkF m 0 #[.val (.ref x0), .val (.ref x1), .val (.int x2), .val (.int x3)] [] := by first | (simp [entryFrame, mkF, argsToLocals, Value.category]; done) | rfl
theorem o_ef21 (m : MethodId) (x0 : Int32) (x1 : Int32) (x2 : Int32) (x3 : Int32) : entryFrame m #[(.int x0), (.int x1), (.int x2), (.int x3)] maxLocals = mkF m 0 #[.val (.int x0), .val (.int x1), .val (.int x2), .val (.int x3), .unset, .unset, .unset, .unset, .unset, .unset, .unset, .unset, .unset, .unset, .unset] [] := by first | (simp [entryFrame, mkF, argsToLocals, Value.category, maxLocals]; done) | rfl
theorem o_pd__28I_29C : parseMethodDescriptor "(I)C" = some ⟨[.int], some .char⟩ := by decide +kernel
theorem o_pd__28_5bC_29V : parseMethodDescriptor "([C)V" = some ⟨[(.array .char)], none⟩ := by decide +kernel
theorem o_pd__28Ljava_2flang_2fString_3bZZ_29V : parseMethodDescriptor "(Ljava/lang/String;ZZ)V" = some ⟨[(.object "java/lang/String"), .boolean, .boolean], none⟩ := by decide +kernel
theorem o_pd__28C_29Ljava_2flang_2fString_3b : parseMethodDescriptor "(C)Ljava/lang/String;" = some ⟨[.char], some (.object "java/lang/String")⟩ := by decide +kernel
abbrev Qcod (Z : State) (x : Addr) (zC_ : Int32) (h0 : Heap) (n0 : Nat) (v : Option Value) (h : Heap) (L : List Loc) : Prop := v = some (.int 0) ∧ Fr n0 L ∧ h = h0
set_option maxRecDepth 65536 in
set_option maxHeartbeats 40000000 in
theorem rmcod (l : Launch) (Z : State) (a0 : Array Value) (hw : ∀ d ∈ tables_1, d.before a0 Z = true) (ws : List Jvm.Cond) (x : Addr) (zC_ : Int32) (h0 : Heap) (n0 : Nat) (O0 : Old Z n0 h0) (C_x : Fld Z h0 x "java/lang/String" "coder" "B" (.int 0)) (SC_ : o_SC Z zC_) (hC_ : ¬ zC_ = 0) :
    o_Met l Z o_m0 jdk_42_method_152_code 1 (some .byte) ws o_R0 #[(.ref x)] h0 (Qcod Z x zC_ h0 n0) := by
  refine o_enter o_pn_0 (fun m => o_ef0 m x) (fun p e s m below meth c s₁ hx hby hml hZ hown hnm hlk hrt X0 e0 => ?_)
  have N0 := Fr.nil n0
  have y_ := @hb _ _ hby
  have k_ := @o_k _ _ hw
  refine o_getS X0 hx hZ hown (host := "") (Or.inl (k_ 18 rfl)) Via.refl e0 (Sta.ext O0.2 SC_) (y_ oD0_0) (fun T1 X1 e1 => ?_)
  refine o_iF (t := 13) X1 hx (y_ oD0_3) (fun hq => ?_) (fun hq => ?_)
  · have hc3 := o_h_eq.1 hq
    exact absurd hc3 hC_
  have hc3 := o_h_eq.2 hq
  refine o_aloadN X1 hx (y_ oD0_6) rfl rfl ?_
  refine o_getF X1 hx hZ hown (host := "") (Or.inl (k_ 30 rfl)) Via.refl e1 C_x (y_ oD0_7) (fun T2 X2 e2 => ?_)
  refine o_gO (t := 14) X2 hx (y_ oD0_10) ?_
  exact o_retN X2 hx (t := .byte) hrt hlk (by simp) (y_ oD0_14) rfl (by decide) (by decide) (o_hQ e2 ⟨rfl, N0, rfl⟩)
abbrev Qisl (Z : State) (x : Addr) (zC_ : Int32) (h0 : Heap) (n0 : Nat) (v : Option Value) (h : Heap) (L : List Loc) : Prop := v = some (.int 1) ∧ Fr n0 L ∧ h = h0
set_option maxRecDepth 65536 in
set_option maxHeartbeats 40000000 in
theorem rmisl (l : Launch) (Z : State) (a0 : Array Value) (hw : ∀ d ∈ tables_1, d.before a0 Z = true) (ws : List Jvm.Cond) (x : Addr) (zC_ : Int32) (h0 : Heap) (n0 : Nat) (O0 : Old Z n0 h0) (C_x : Fld Z h0 x "java/lang/String" "coder" "B" (.int 0)) (SC_ : o_SC Z zC_) (hC_ : ¬ zC_ = 0) :
    o_Met l Z o_m1 jdk_42_method_154_code 1 (some .boolean) ws o_R0 #[(.ref x)] h0 (Qisl Z x zC_ h0 n0) := by
  refine o_enter o_pn_0 (fun m => o_ef0 m x) (fun p e s m below meth c s₁ hx hby hml hZ hown hnm hlk hrt X0 e0 => ?_)
  have N0 := Fr.nil n0
  have y_ := @hb _ _ hby
  have k_ := @o_k _ _ hw
  refine o_getS X0 hx hZ hown (host := "") (Or.inl (k_ 18 rfl)) Via.refl e0 (Sta.ext O0.2 SC_) (y_ oD1_0) (fun T1 X1 e1 => ?_)
  refine o_iF (t := 17) X1 hx (y_ oD1_3) (fun hq => ?_) (fun hq => ?_)
  · have hc3 := o_h_eq.1 hq
    exact absurd hc3 hC_
  have hc3 := o_h_eq.2 hq
  refine o_aloadN X1 hx (y_ oD1_6) rfl rfl ?_
  refine o_getF X1 hx hZ hown (host := "") (Or.inl (k_ 30 rfl)) Via.refl e1 C_x (y_ oD1_7) (fun T2 X2 e2 => ?_)
  refine o_iFF X2 hx (y_ oD1_10) ?_
  refine o_iconst X2 hx (y_ oD1_13) (x := 1) rfl ?_
  refine o_gO (t := 18) X2 hx (y_ oD1_14) ?_
  exact o_retN X2 hx (t := .boolean) hrt hlk (by simp) (y_ oD1_18) rfl (by decide) (by decide) (o_hQ e2 ⟨rfl, N0, rfl⟩)
abbrev Qlen (Z : State) (x : Addr) (u : Addr) (ds : List Int32) (zC_ : Int32) (h0 : Heap) (n0 : Nat) (v : Option Value) (h : Heap) (L : List Loc) : Prop := v = some (.int (Int32.ofNat ds.length)) ∧ Fr n0 L ∧ h = h0
set_option maxRecDepth 65536 in
set_option maxHeartbeats 40000000 in
theorem rmlen (l : Launch) (Z : State) (a0 : Array Value) (hw : ∀ d ∈ tables_1, d.before a0 Z = true) (ws : List Jvm.Cond) (x : Addr) (u : Addr) (ds : List Int32) (zC_ : Int32) (h0 : Heap) (n0 : Nat) (O0 : Old Z n0 h0) (S_x : o_Str Z h0 x u ds) (SC_ : o_SC Z zC_) (hC_ : ¬ zC_ = 0) :
    o_Met l Z o_m2 jdk_42_method_54_code 1 (some .int) ws o_R1 #[(.ref x)] h0 (Qlen Z x u ds zC_ h0 n0) := by
  refine o_enter o_pn_0 (fun m => o_ef0 m x) (fun p e s m below meth c s₁ hx hby hml hZ hown hnm hlk hrt X0 e0 => ?_)
  have N0 := Fr.nil n0
  have y_ := @hb _ _ hby
  have k_ := @o_k _ _ hw
  obtain ⟨ks1, Sa1⟩ := S_x.2.2.2.1
  refine o_aloadN X0 hx (y_ oD2_0) rfl rfl ?_
  refine o_getF X0 hx hZ hown (host := "") (Or.inl (k_ 32 rfl)) Via.refl e0 S_x.2.2.1 (y_ oD2_1) (fun T2 X2 e2 => ?_)
  refine o_alen (n := (Int32.ofNat ds.length)) X2 hx hZ e2 Sa1 (y_ oD2_4) ?_
  refine o_aloadN X2 hx (y_ oD2_5) rfl rfl ?_
  refine o_vir (y := o_m0) (b := x) (argsL := []) (S := [(.int (Int32.ofNat ds.length))]) (W := 1) X2 hx hZ hown (k_ 73 rfl) (k_ 74 rfl) (k_ 76 rfl) (k_ 75 rfl) (backOf (W := 1) (rmcod l Z a0 hw [] x zC_ h0 n0 O0 S_x.2.1 SC_ hC_) hZ (k_ 77 rfl) (k_ 6 rfl) (by decide) (by decide)) e2 S_x.1 hml (lenOf o_pd__28_29B rfl) (y_ oD2_6) (fun T3 L3 v3 X3 hQ3 => ?_)
  obtain ⟨rfl, N3q, hh3⟩ := hQ3
  have N3 := Fr.app N0 N3q
  show o_G p e below _ T3 (mkF m 9 #[vR x] [(.int 0), (.int (Int32.ofNat ds.length))])
  refine o_ishr X3 hx (y_ oD2_9) ?_
  refine o_valE (z := (Int32.ofNat ds.length)) o_shr0 ?_
  exact o_retI X3 hx hrt hlk (y_ oD2_10) (by decide) (by decide) (o_hQ hh3 ⟨rfl, N3, rfl⟩)
abbrev Qeci (Z : State) (b : Addr) (mn : Int32) (t : Addr) (z : Int32) (cs : List Int32) (h0 : Heap) (n0 : Nat) (v : Option Value) (h : Heap) (L : List Loc) : Prop := v = none ∧ Fr n0 L ∧ h = h0
set_option maxRecDepth 65536 in
set_option maxHeartbeats 40000000 in
theorem rmeci (l : Launch) (Z : State) (a0 : Array Value) (hw : ∀ d ∈ tables_1, d.before a0 Z = true) (ws : List Jvm.Cond) (b : Addr) (mn : Int32) (t : Addr) (z : Int32) (cs : List Int32) (h0 : Heap) (n0 : Nat) (O0 : Old Z n0 h0) (B_b : o_Bl Z h0 b t z cs) (hcap : ¬ (0 : Int32) < mn - z) :
    o_Met l Z o_m3 jdk_68_method_9_code 3 none ws o_R0 #[(.ref b), (.int mn)] h0 (Qeci Z b mn t z cs h0 n0) := by
  refine o_enter o_pn_1 (fun m => o_ef1 m b mn) (fun p e s m below meth c s₁ hx hby hml hZ hown hnm hlk hrt X0 e0 => ?_)
  have N0 := Fr.nil n0
  have y_ := @hb _ _ hby
  have k_ := @o_k _ _ hw
  obtain ⟨Be1, Bc1, Bv1, Bn1, ⟨kb1, Ba1⟩, Bh1, Bs1⟩ := id B_b
  refine o_aloadN X0 hx (y_ oD3_0) rfl rfl ?_
  refine o_getF X0 hx hZ hown (host := "") (Or.inl (k_ 123 rfl)) Via.refl e0 Bv1 (y_ oD3_1) (fun T2 X2 e2 => ?_)
  refine o_alen (n := z) X2 hx hZ e2 Ba1 (y_ oD3_4) ?_
  refine o_aloadN X2 hx (y_ oD3_5) rfl rfl ?_
  refine o_getF X2 hx hZ hown (host := "") (Or.inl (k_ 125 rfl)) Via.refl e2 Bc1 (y_ oD3_6) (fun T3 X3 e3 => ?_)
  refine o_ishr X3 hx (y_ oD3_9) ?_
  refine o_valE (z := z) o_shr0 ?_
  refine o_istoreN X3 hx (y_ oD3_10) (A' := #[vR b, vI mn, vI z]) rfl ?_
  refine o_iloadN X3 hx (y_ oD3_11) rfl ?_
  refine o_iloadN X3 hx (y_ oD3_12) rfl ?_
  refine o_isub X3 hx (y_ oD3_13) ?_
  refine o_iF (t := 38) X3 hx (y_ oD3_14) (fun hq => ?_) (fun hq => ?_)
  · have hc14 := o_h_le.1 hq
    exact o_retV X3 hx hrt hlk (y_ oD3_38) (by decide) (by decide) (o_hQ e3 ⟨rfl, N0, rfl⟩)
  have hc14 := o_h_le.2 hq
  exact absurd hc14 hcap
abbrev Qinf (Z : State) (b : Addr) (x : Addr) (t : Addr) (z : Int32) (cs : List Int32) (u : Addr) (ds : List Int32) (zC_ : Int32) (h0 : Heap) (n0 : Nat) (v : Option Value) (h : Heap) (L : List Loc) : Prop := v = none ∧ Fr n0 L ∧ h = h0
set_option maxRecDepth 65536 in
set_option maxHeartbeats 40000000 in
theorem rminf (l : Launch) (Z : State) (a0 : Array Value) (hw : ∀ d ∈ tables_1, d.before a0 Z = true) (ws : List Jvm.Cond) (b : Addr) (x : Addr) (t : Addr) (z : Int32) (cs : List Int32) (u : Addr) (ds : List Int32) (zC_ : Int32) (h0 : Heap) (n0 : Nat) (O0 : Old Z n0 h0) (B_b : o_Bl Z h0 b t z cs) (S_x : o_Str Z h0 x u ds) (SC_ : o_SC Z zC_) (hC_ : ¬ zC_ = 0) :
    o_Met l Z o_m4 jdk_68_method_71_code 2 none ws o_R1 #[(.ref b), (.ref x)] h0 (Qinf Z b x t z cs u ds zC_ h0 n0) := by
  refine o_enter o_pn_1 (fun m => o_ef2 m b x) (fun p e s m below meth c s₁ hx hby hml hZ hown hnm hlk hrt X0 e0 => ?_)
  have N0 := Fr.nil n0
  have y_ := @hb _ _ hby
  have k_ := @o_k _ _ hw
  obtain ⟨Be1, Bc1, Bv1, Bn1, ⟨kb1, Ba1⟩, Bh1, Bs1⟩ := id B_b
  refine o_getS X0 hx hZ hown (host := "") (Or.inl (k_ 122 rfl)) Via.refl e0 (Sta.ext O0.2 SC_) (y_ oD4_0) (fun T2 X2 e2 => ?_)
  refine o_iF (t := 21) X2 hx (y_ oD4_3) (fun hq => ?_) (fun hq => ?_)
  · have hc3 := o_h_eq.1 hq
    exact absurd hc3 hC_
  have hc3 := o_h_eq.2 hq
  refine o_aloadN X2 hx (y_ oD4_6) rfl rfl ?_
  refine o_getF X2 hx hZ hown (host := "") (Or.inl (k_ 125 rfl)) Via.refl e2 Bc1 (y_ oD4_7) (fun T3 X3 e3 => ?_)
  refine o_aloadN X3 hx (y_ oD4_10) rfl rfl ?_
  refine o_vir (y := o_m0) (b := x) (argsL := []) (S := [(.int 0)]) (W := 1) X3 hx hZ hown (k_ 160 rfl) (k_ 74 rfl) (k_ 76 rfl) (k_ 75 rfl) (backOf (W := 1) (rmcod l Z a0 hw [] x zC_ h0 n0 O0 S_x.2.1 SC_ hC_) hZ (k_ 77 rfl) (k_ 6 rfl) (by decide) (by decide)) e3 S_x.1 hml (lenOf o_pd__28_29B rfl) (y_ oD4_11) (fun T4 L4 v4 X4 hQ4 => ?_)
  obtain ⟨rfl, N4q, hh4⟩ := hQ4
  have N4 := Fr.app N0 N4q
  show o_G p e below _ T4 (mkF m 14 #[vR b, vR x] [(.int 0), (.int 0)])
  refine o_iCT (t := 21) X4 hx (y_ oD4_14) ?_
  exact o_retV X4 hx hrt hlk (y_ oD4_21) (by decide) (by decide) (o_hQ hh4 ⟨rfl, N4, rfl⟩)
abbrev Qgbb (Z : State) (x : Addr) (d : Addr) (i : Int32) (u : Addr) (ds : List Int32) (kd : ClassId) (z : Int32) (vd : List Value) (zC_ : Int32) (h0 : Heap) (n0 : Nat) (v : Option Value) (h : Heap) (L : List Loc) : Prop := v = none ∧ Fr n0 L ∧ Keep h0 h [d] ∧ Arv Z h d kd .byte z (vd ++ (o_V8 ds)) (.int 0)
set_option maxRecDepth 65536 in
set_option maxHeartbeats 40000000 in
theorem rmgbb (l : Launch) (Z : State) (a0 : Array Value) (hw : ∀ d ∈ tables_1, d.before a0 Z = true) (ws : List Jvm.Cond) (x : Addr) (d : Addr) (i : Int32) (u : Addr) (ds : List Int32) (kd : ClassId) (z : Int32) (vd : List Value) (zC_ : Int32) (h0 : Heap) (n0 : Nat) (O0 : Old Z n0 h0) (S_x : o_Str Z h0 x u ds) (V_d : Arv Z h0 d kd .byte z vd (.int 0)) (g_d : n0 ≤ d) (hi : ¬ i < 0) (hl : i.toNatClampNeg = vd.length) (hs : vd.length + ds.length ≤ z.toNatClampNeg) (SC_ : o_SC Z zC_) (hC_ : ¬ zC_ = 0) :
    o_Met l Z o_m5 jdk_42_method_147_code 4 none ws o_R2 #[(.ref x), (.ref d), (.int i), (.int 0)] h0 (Qgbb Z x d i u ds kd z vd zC_ h0 n0) := by
  refine o_enter o_pn_0 (fun m => o_ef3 m x d i) (fun p e s m below meth c s₁ hx hby hml hZ hown hnm hlk hrt X0 e0 => ?_)
  have N0 := Fr.nil n0
  have y_ := @hb _ _ hby
  have k_ := @o_k _ _ hw
  obtain ⟨ks1, Sa1⟩ := S_x.2.2.2.1
  refine o_aloadN X0 hx (y_ oD5_0) rfl rfl ?_
  refine o_vir (y := o_m0) (b := x) (argsL := []) (S := []) (W := 0) X0 hx hZ hown (k_ 73 rfl) (k_ 74 rfl) (k_ 76 rfl) (k_ 75 rfl) (backOf (W := 0) (rmcod l Z a0 hw [] x zC_ h0 n0 O0 S_x.2.1 SC_ hC_) hZ (k_ 77 rfl) (k_ 6 rfl) (by decide) (by decide)) e0 S_x.1 hml (lenOf o_pd__28_29B rfl) (y_ oD5_1) (fun T2 L2 v2 X2 hQ2 => ?_)
  obtain ⟨rfl, N2q, hh2⟩ := hQ2
  have N2 := Fr.app N0 N2q
  show o_G p e below _ T2 (mkF m 4 #[vR x, vR d, vI i, vI 0] [(.int 0)])
  refine o_iloadN X2 hx (y_ oD5_4) rfl ?_
  refine o_iCF X2 hx (y_ oD5_5) ?_
  refine o_aloadN X2 hx (y_ oD5_8) rfl rfl ?_
  refine o_getF X2 hx hZ hown (host := "") (Or.inl (k_ 32 rfl)) Via.refl hh2 S_x.2.2.1 (y_ oD5_9) (fun T3 X3 e3 => ?_)
  refine o_iconst X3 hx (y_ oD5_12) (x := 0) rfl ?_
  refine o_aloadN X3 hx (y_ oD5_13) rfl rfl ?_
  refine o_iloadN X3 hx (y_ oD5_14) rfl ?_
  refine o_iloadN X3 hx (y_ oD5_15) rfl ?_
  refine o_ishl X3 hx (y_ oD5_16) ?_
  refine o_valE (z := i) o_shl0 ?_
  refine o_aloadN X3 hx (y_ oD5_17) rfl rfl ?_
  refine o_getF X3 hx hZ hown (host := "") (Or.inl (k_ 32 rfl)) Via.refl e3 S_x.2.2.1 (y_ oD5_18) (fun T4 X4 e4 => ?_)
  refine o_alen (n := (Int32.ofNat ds.length)) X4 hx hZ e4 Sa1 (y_ oD5_21) ?_
  refine o_cpB (W := 0) (us := (o_V8 ds)) X4 hx hZ hown (k_ 166 rfl) (k_ 169 rfl) (k_ 167 rfl) (k_ 168 rfl) e4 Sa1 V_d (by decide) hi (o_on S_x.l31) (by rw [o_oc S_x.l31]; exact Nat.le_of_eq (Nat.zero_add _)) (by rw [o_oc S_x.l31, hl]; exact hs) (by rw [o_oc S_x.l31]; exact o_V8range ds) hl N2 g_d (by rw [hml]; rfl) (y_ oD5_22) (by decide) (Nat.le_of_eq rfl) (by rw [nativeFrameWords_plain 5 (by decide)]; decide) (fun T5 h5 L5 X5 e5 N5 Kp5 V5 => ?_)
  have O6 := Old.keep O0 Kp5 (allS g_d all0)
  refine o_gO (t := 43) X5 hx (y_ oD5_25) ?_
  have kp7 := Keep.trans (Keep.refl h0 [d]) Kp5 (allS (Or.inl (List.mem_of_getElem? (i := 0) rfl)) all0)
  exact o_retV X5 hx hrt hlk (y_ oD5_43) (by decide) (by decide) (o_hQ e5 ⟨rfl, N5, kp7, V5⟩)
abbrev Qpsa (Z : State) (b : Addr) (i : Int32) (x : Addr) (t : Addr) (z : Int32) (cs : List Int32) (u : Addr) (ds : List Int32) (zC_ : Int32) (h0 : Heap) (n0 : Nat) (v : Option Value) (h : Heap) (L : List Loc) : Prop := v = none ∧ Fr n0 L ∧ Keep h0 h [t] ∧ ∃ k, Arv Z h t k .byte z ((o_V8 cs) ++ (o_V8 ds)) (.int 0)
set_option maxRecDepth 65536 in
set_option maxHeartbeats 40000000 in
theorem rmpsa (l : Launch) (Z : State) (a0 : Array Value) (hw : ∀ d ∈ tables_1, d.before a0 Z = true) (ws : List Jvm.Cond) (b : Addr) (i : Int32) (x : Addr) (t : Addr) (z : Int32) (cs : List Int32) (u : Addr) (ds : List Int32) (zC_ : Int32) (h0 : Heap) (n0 : Nat) (O0 : Old Z n0 h0) (B_b : o_Bl Z h0 b t z cs) (S_x : o_Str Z h0 x u ds) (g_t : n0 ≤ t) (hi : i = (Int32.ofNat cs.length)) (hs : cs.length + ds.length ≤ z.toNatClampNeg) (SC_ : o_SC Z zC_) (hC_ : ¬ zC_ = 0) :
    o_Met l Z o_m6 jdk_68_method_73_code 3 none ws o_R3 #[(.ref b), (.int i), (.ref x)] h0 (Qpsa Z b i x t z cs u ds zC_ h0 n0) := by
  refine o_enter o_pn_1 (fun m => o_ef4 m b i x) (fun p e s m below meth c s₁ hx hby hml hZ hown hnm hlk hrt X0 e0 => ?_)
  have N0 := Fr.nil n0
  have y_ := @hb _ _ hby
  have k_ := @o_k _ _ hw
  obtain ⟨Be1, Bc1, Bv1, Bn1, ⟨kb1, Ba1⟩, Bh1, Bs1⟩ := id B_b
  refine o_aloadN X0 hx (y_ oD6_0) rfl rfl ?_
  refine o_aloadN X0 hx (y_ oD6_1) rfl rfl ?_
  refine o_vir (y := o_m4) (b := b) (argsL := [(.ref x)]) (S := []) (W := 0) X0 hx hZ hown (k_ 155 rfl) (o_decl (k_ 156 rfl) (k_ 159 rfl)) (k_ 158 rfl) (k_ 156 rfl) (backOf (W := 0) (rminf l Z a0 hw [] b x t z cs u ds zC_ h0 n0 O0 B_b S_x SC_ hC_) hZ (k_ 159 rfl) (k_ 119 rfl) (by decide) (by decide)) e0 Be1 hml (lenOf o_pd__28Ljava_2flang_2fString_3b_29V rfl) (y_ oD6_2) (fun T2 L2 v2 X2 hQ2 => ?_)
  obtain ⟨rfl, N2q, hh2⟩ := hQ2
  have N2 := Fr.app N0 N2q
  show o_G p e below _ T2 (mkF m 5 #[vR b, vI i, vR x] [])
  refine o_aloadN X2 hx (y_ oD6_5) rfl rfl ?_
  refine o_aloadN X2 hx (y_ oD6_6) rfl rfl ?_
  refine o_getF X2 hx hZ hown (host := "") (Or.inl (k_ 123 rfl)) Via.refl hh2 Bv1 (y_ oD6_7) (fun T3 X3 e3 => ?_)
  refine o_iloadN X3 hx (y_ oD6_10) rfl ?_
  refine o_aloadN X3 hx (y_ oD6_11) rfl rfl ?_
  refine o_getF X3 hx hZ hown (host := "") (Or.inl (k_ 125 rfl)) Via.refl e3 Bc1 (y_ oD6_12) (fun T4 X4 e4 => ?_)
  refine o_vir (y := o_m5) (b := x) (argsL := [(.ref t), (.int i), (.int 0)]) (S := []) (W := 0) X4 hx hZ hown (k_ 161 rfl) (k_ 162 rfl) (k_ 164 rfl) (k_ 163 rfl) (backOf (W := 0) (rmgbb l Z a0 hw [] x t i u ds kb1 z (o_V8 cs) zC_ h0 n0 O0 S_x Ba1 g_t (by rw [hi]; exact o_on B_b.l31) (by rw [hi, o_oc B_b.l31]; exact (o_V8len cs).symm) (by rw [o_V8len]; exact hs) SC_ hC_) hZ (k_ 165 rfl) (k_ 6 rfl) (by decide) (by decide)) e4 S_x.1 hml (lenOf o_pd__28_5bBIB_29V rfl) (y_ oD6_15) (fun T5 L5 v5 X5 hQ5 => ?_)
  obtain ⟨rfl, N5q, Kp5, Va5⟩ := hQ5
  have N5 := Fr.app N2 N5q
  have O6 := Old.keep O0 Kp5 (allS g_t all0)
  show o_G p e below _ T5 (mkF m 18 #[vR b, vI i, vR x] [])
  have kp7 := Keep.trans (Keep.refl h0 [t]) Kp5 (allS (Or.inl (List.mem_of_getElem? (i := 0) rfl)) all0)
  exact o_retV X5 hx hrt hlk (y_ oD6_18) (by decide) (by decide) ⟨rfl, N5, kp7, _, Va5⟩
abbrev Qaap (Z : State) (b : Addr) (x : Addr) (t : Addr) (z : Int32) (cs : List Int32) (u : Addr) (ds : List Int32) (zC_ : Int32) (h0 : Heap) (n0 : Nat) (v : Option Value) (h : Heap) (L : List Loc) : Prop := v = some (.ref b) ∧ Fr n0 L ∧ Keep h0 h [b, t] ∧ o_Bl Z h b t z (cs ++ ds)
set_option maxRecDepth 65536 in
set_option maxHeartbeats 40000000 in
theorem rmaap (l : Launch) (Z : State) (a0 : Array Value) (hw : ∀ d ∈ tables_1, d.before a0 Z = true) (ws : List Jvm.Cond) (b : Addr) (x : Addr) (t : Addr) (z : Int32) (cs : List Int32) (u : Addr) (ds : List Int32) (zC_ : Int32) (h0 : Heap) (n0 : Nat) (O0 : Old Z n0 h0) (B_b : o_Bl Z h0 b t z cs) (S_x : o_Str Z h0 x u ds) (g_b : n0 ≤ b) (g_t : n0 ≤ t) (hs : cs.length + ds.length ≤ z.toNatClampNeg) (SC_ : o_SC Z zC_) (hC_ : ¬ zC_ = 0) :
    o_Met l Z o_m7 jdk_68_method_22_code 3 (some (.object "java/lang/AbstractStringBuilder")) ws o_R4 #[(.ref b), (.ref x)] h0 (Qaap Z b x t z cs u ds zC_ h0 n0) := by
  refine o_enter o_pn_1 (fun m => o_ef5 m b x) (fun p e s m below meth c s₁ hx hby hml hZ hown hnm hlk hrt X0 e0 => ?_)
  have N0 := Fr.nil n0
  have y_ := @hb _ _ hby
  have k_ := @o_k _ _ hw
  obtain ⟨Be1, Bc1, Bv1, Bn1, ⟨kb1, Ba1⟩, Bh1, Bs1⟩ := id B_b
  refine o_aloadN X0 hx (y_ oD7_0) rfl rfl ?_
  refine o_nonnullY (t := 9) X0 hx (y_ oD7_1) (by decide) (by decide) ?_
  refine o_aloadN X0 hx (y_ oD7_9) rfl rfl ?_
  refine o_vir (y := o_m2) (b := x) (argsL := []) (S := []) (W := 0) X0 hx hZ hown (k_ 138 rfl) (k_ 139 rfl) (k_ 141 rfl) (k_ 140 rfl) (backOf (W := 0) (rmlen l Z a0 hw [] x u ds zC_ h0 n0 O0 S_x SC_ hC_) hZ (k_ 142 rfl) (k_ 6 rfl) (by decide) (by decide)) e0 S_x.1 hml (lenOf o_pd__28_29I rfl) (y_ oD7_10) (fun T2 L2 v2 X2 hQ2 => ?_)
  obtain ⟨rfl, N2q, hh2⟩ := hQ2
  have N2 := Fr.app N0 N2q
  show o_G p e below _ T2 (mkF m 13 #[vR b, vR x, .unset] [(.int (Int32.ofNat ds.length))])
  refine o_istoreN X2 hx (y_ oD7_13) (A' := #[vR b, vR x, vI (Int32.ofNat ds.length)]) rfl ?_
  refine o_aloadN X2 hx (y_ oD7_14) rfl rfl ?_
  refine o_aloadN X2 hx (y_ oD7_15) rfl rfl ?_
  refine o_getF X2 hx hZ hown (host := "") (Or.inl (k_ 143 rfl)) Via.refl hh2 Bn1 (y_ oD7_16) (fun T3 X3 e3 => ?_)
  refine o_iloadN X3 hx (y_ oD7_19) rfl ?_
  refine o_iadd X3 hx (y_ oD7_20) ?_
  refine o_vir (y := o_m3) (b := b) (argsL := [(.int ((Int32.ofNat cs.length) + (Int32.ofNat ds.length)))]) (S := []) (W := 0) X3 hx hZ hown (k_ 145 rfl) (o_decl (k_ 146 rfl) (k_ 149 rfl)) (k_ 148 rfl) (k_ 146 rfl) (backOf (W := 0) (rmeci l Z a0 hw [] b ((Int32.ofNat cs.length) + (Int32.ofNat ds.length)) t z cs h0 n0 O0 B_b (o_cap B_b.nn hs)) hZ (k_ 149 rfl) (k_ 119 rfl) (by decide) (by decide)) e3 Be1 hml (lenOf o_pd__28I_29V rfl) (y_ oD7_21) (fun T4 L4 v4 X4 hQ4 => ?_)
  obtain ⟨rfl, N4q, hh4⟩ := hQ4
  have N4 := Fr.app N2 N4q
  show o_G p e below _ T4 (mkF m 24 #[vR b, vR x, vI (Int32.ofNat ds.length)] [])
  refine o_aloadN X4 hx (y_ oD7_24) rfl rfl ?_
  refine o_aloadN X4 hx (y_ oD7_25) rfl rfl ?_
  refine o_getF X4 hx hZ hown (host := "") (Or.inl (k_ 143 rfl)) Via.refl hh4 Bn1 (y_ oD7_26) (fun T5 X5 e5 => ?_)
  refine o_aloadN X5 hx (y_ oD7_29) rfl rfl ?_
  refine o_vir (y := o_m6) (b := b) (argsL := [(.int (Int32.ofNat cs.length)), (.ref x)]) (S := []) (W := 0) X5 hx hZ hown (k_ 150 rfl) (o_decl (k_ 151 rfl) (k_ 154 rfl)) (k_ 153 rfl) (k_ 151 rfl) (backOf (W := 0) (rmpsa l Z a0 hw [] b (Int32.ofNat cs.length) x t z cs u ds zC_ h0 n0 O0 B_b S_x g_t rfl hs SC_ hC_) hZ (k_ 154 rfl) (k_ 119 rfl) (by decide) (by decide)) e5 Be1 hml (lenOf o_pd__28ILjava_2flang_2fString_3b_29V rfl) (y_ oD7_30) (fun T6 L6 v6 X6 hQ6 => ?_)
  obtain ⟨rfl, N6q, Kp6, ka6, Va6⟩ := hQ6
  have N6 := Fr.app N4 N6q
  have O7 := Old.keep O0 Kp6 (allS g_t all0)
  show o_G p e below _ T6 (mkF m 33 #[vR b, vR x, vI (Int32.ofNat ds.length)] [])
  refine o_aloadN X6 hx (y_ oD7_33) rfl rfl ?_
  refine o_dup X6 hx (y_ oD7_34) rfl ?_
  have c8 := (Fld.keep Bn1 Kp6 (ninS (Exa.neArv Be1 Ba1 (k_ 110 rfl)) nin0))
  refine o_getF X6 hx hZ hown (host := "") (Or.inl (k_ 143 rfl)) Via.refl rfl c8 (y_ oD7_35) (fun T9 X9 e9 => ?_)
  refine o_iloadN X9 hx (y_ oD7_38) rfl ?_
  refine o_iadd X9 hx (y_ oD7_39) ?_
  have c10 := (Exa.keep Be1 Kp6)
  refine o_putF X9 hx hZ hown (host := "") (Or.inl (k_ 143 rfl)) Via.refl e9 c8 c10 (Or.inl (k_ 144 rfl)) (k_ 110 rfl) (ty := .int) (by decide) rfl rfl (y_ oD7_40) (fun T11 h11 X11 e11 W11 => ?_)
  have F11 := Fld.same W11 c8
  have N11 := Fr.snoc X11 N6 g_b
  have O11 := Old.wr O7 W11 g_b
  refine o_aloadN X11 hx (y_ oD7_43) rfl rfl ?_
  have kp12 := Keep.trans (Keep.refl h0 [b, t]) Kp6 (allS (Or.inl (List.mem_of_getElem? (i := 1) rfl)) all0)
  have kp13 := Keep.wr kp12 W11 (Or.inl (List.mem_of_getElem? (i := 0) rfl))
  have c14 := (Exa.wr W11 c10)
  have c15 := (Fld.other W11 (Fld.keep Bc1 Kp6 (ninS (Exa.neArv Be1 Ba1 (k_ 110 rfl)) nin0)) (Or.inr (slot_ne (Or.inl (k_ 126 rfl)) (Or.inl (k_ 144 rfl)) (by decide) (t := .byte) (t' := .int) (by decide) (by decide))))
  have c16 := (Fld.other W11 (Fld.keep Bv1 Kp6 (ninS (Exa.neArv Be1 Ba1 (k_ 110 rfl)) nin0)) (Or.inr (slot_ne (Or.inl (k_ 124 rfl)) (Or.inl (k_ 144 rfl)) (by decide) (t := (.array .byte)) (t' := .int) (by decide) (by decide))))
  have c17 := (Arv.other Va6 W11 (Ne.symm (Exa.neArv c10 Va6 (k_ 110 rfl))))
  exact o_retA X11 hx hrt hlk rfl rfl rfl (y_ oD7_44) (by decide) (by decide) (o_hQ e11 ⟨rfl, N11, kp13, o_blMk c14 c15 c16 F11 c17 Bh1 S_x.2.2.2.2.1 hs⟩)
abbrev Qsap (Z : State) (b : Addr) (x : Addr) (t : Addr) (z : Int32) (cs : List Int32) (u : Addr) (ds : List Int32) (zC_ : Int32) (h0 : Heap) (n0 : Nat) (v : Option Value) (h : Heap) (L : List Loc) : Prop := v = some (.ref b) ∧ Fr n0 L ∧ Keep h0 h [b, t] ∧ o_Bl Z h b t z (cs ++ ds)
set_option maxRecDepth 65536 in
set_option maxHeartbeats 40000000 in
theorem rmsap (l : Launch) (Z : State) (a0 : Array Value) (hw : ∀ d ∈ tables_1, d.before a0 Z = true) (ws : List Jvm.Cond) (b : Addr) (x : Addr) (t : Addr) (z : Int32) (cs : List Int32) (u : Addr) (ds : List Int32) (zC_ : Int32) (h0 : Heap) (n0 : Nat) (O0 : Old Z n0 h0) (B_b : o_Bl Z h0 b t z cs) (S_x : o_Str Z h0 x u ds) (g_b : n0 ≤ b) (g_t : n0 ≤ t) (hs : cs.length + ds.length ≤ z.toNatClampNeg) (SC_ : o_SC Z zC_) (hC_ : ¬ zC_ = 0) :
    o_Met l Z o_m8 jdk_67_method_7_code 2 (some (.object "java/lang/StringBuilder")) ws o_R5 #[(.ref b), (.ref x)] h0 (Qsap Z b x t z cs u ds zC_ h0 n0) := by
  refine o_enter o_pn_2 (fun m => o_ef2 m b x) (fun p e s m below meth c s₁ hx hby hml hZ hown hnm hlk hrt X0 e0 => ?_)
  have N0 := Fr.nil n0
  have y_ := @hb _ _ hby
  have k_ := @o_k _ _ hw
  refine o_aloadN X0 hx (y_ oD8_0) rfl rfl ?_
  refine o_aloadN X0 hx (y_ oD8_1) rfl rfl ?_
  refine o_sup (y := o_m7) (b := b) (argsL := [(.ref x)]) (S := []) (W := 0) X0 hx hZ hown (k_ 133 rfl) (o_same (y2 := o_m3) (k_ 134 rfl) (k_ 148 rfl) rfl (by decide)) (k_ 134 rfl) (k_ 135 rfl) (k_ 137 rfl) (backOf (W := 0) (rmaap l Z a0 hw [] b x t z cs u ds zC_ h0 n0 O0 B_b S_x g_b g_t hs SC_ hC_) hZ (k_ 137 rfl) (k_ 119 rfl) (by decide) (by decide)) e0 B_b.1 hml (lenOf o_pd__28Ljava_2flang_2fString_3b_29Ljava_2flang_2fAbstractStringBuilder_3b rfl) (y_ oD8_2) (fun T1 L1 v1 X1 hQ1 => ?_)
  obtain ⟨rfl, N1q, Kp1, Bl1⟩ := hQ1
  have N1 := Fr.app N0 N1q
  have O2 := Old.keep O0 Kp1 (allS g_b (allS g_t all0))
  show o_G p e below _ T1 (mkF m 5 #[vR b, vR x] [(.ref b)])
  refine o_pop X1 hx (y_ oD8_5) rfl ?_
  refine o_aloadN X1 hx (y_ oD8_6) rfl rfl ?_
  have kp3 := Keep.trans (Keep.refl h0 [b, t]) Kp1 (allS (Or.inl (List.mem_of_getElem? (i := 0) rfl)) (allS (Or.inl (List.mem_of_getElem? (i := 1) rfl)) all0))
  exact o_retA X1 hx hrt hlk rfl rfl rfl (y_ oD8_7) (by decide) (by decide) ⟨rfl, N1, kp3, Bl1⟩
abbrev Qrec (Z : State) (b : Addr) (h0 : Heap) (n0 : Nat) (v : Option Value) (h : Heap) (L : List Loc) : Prop := v = none ∧ Fr n0 L ∧ h = h0
set_option maxRecDepth 65536 in
set_option maxHeartbeats 40000000 in
theorem rmrec (l : Launch) (Z : State) (a0 : Array Value) (hw : ∀ d ∈ tables_1, d.before a0 Z = true) (ws : List Jvm.Cond) (b : Addr) (h0 : Heap) (n0 : Nat) (O0 : Old Z n0 h0) :
    o_Met l Z o_m9 jdk_30_method_1_code 1 none ws o_R6 #[(.ref b)] h0 (Qrec Z b h0 n0) := by
  refine o_enter o_pn_3 (fun m => o_ef0 m b) (fun p e s m below meth c s₁ hx hby hml hZ hown hnm hlk hrt X0 e0 => ?_)
  have N0 := Fr.nil n0
  have y_ := @hb _ _ hby
  have k_ := @o_k _ _ hw
  refine o_aloadN X0 hx (y_ oD9_0) rfl rfl ?_
  refine o_initO (W := 0) X0 hx hZ hown (k_ 45 rfl) (k_ 16 rfl) (k_ 17 rfl) e0 (by rw [hml]; rfl) (y_ oD9_1) (by decide) (Nat.le_of_eq rfl) (by decide) (fun T1 X1 e1 => ?_)
  exact o_retV X1 hx hrt hlk (y_ oD9_4) (by decide) (by decide) (o_hQ e1 ⟨rfl, N0, rfl⟩)
abbrev Qrnn (Z : State) (x : Addr) (y : Addr) (h0 : Heap) (n0 : Nat) (v : Option Value) (h : Heap) (L : List Loc) : Prop := v = some (.ref x) ∧ Fr n0 L ∧ h = h0
set_option maxRecDepth 65536 in
set_option maxHeartbeats 40000000 in
theorem rmrnn (l : Launch) (Z : State) (a0 : Array Value) (hw : ∀ d ∈ tables_1, d.before a0 Z = true) (ws : List Jvm.Cond) (x : Addr) (y : Addr) (h0 : Heap) (n0 : Nat) (O0 : Old Z n0 h0) :
    o_Met l Z o_m10 jdk_31_method_11_code 2 (some (.object "java/lang/Object")) ws o_R0 #[(.ref x), (.ref y)] h0 (Qrnn Z x y h0 n0) := by
  refine o_enter o_pn_4 (fun m => o_ef2 m x y) (fun p e s m below meth c s₁ hx hby hml hZ hown hnm hlk hrt X0 e0 => ?_)
  have N0 := Fr.nil n0
  have y_ := @hb _ _ hby
  have k_ := @o_k _ _ hw
  refine o_aloadN X0 hx (y_ oD10_0) rfl rfl ?_
  refine o_nonnullY (t := 13) X0 hx (y_ oD10_1) (by decide) (by decide) ?_
  refine o_aloadN X0 hx (y_ oD10_13) rfl rfl ?_
  exact o_retA X0 hx hrt hlk rfl rfl rfl (y_ oD10_14) (by decide) (by decide) (o_hQ e0 ⟨rfl, N0, rfl⟩)
abbrev Qcch (Z : State) (p9 : Int32) (h0 : Heap) (n0 : Nat) (v : Option Value) (h : Heap) (L : List Loc) : Prop := v = some (.int (o_core p9)) ∧ Fr n0 L ∧ h = h0
set_option maxRecDepth 65536 in
set_option maxHeartbeats 40000000 in
theorem rmcch (l : Launch) (Z : State) (a0 : Array Value) (hw : ∀ d ∈ tables_1, d.before a0 Z = true) (ws : List Jvm.Cond) (p9 : Int32) (h0 : Heap) (n0 : Nat) (O0 : Old Z n0 h0) :
    o_Met l Z o_m11 method_2_code 2 (some .char) ws o_R0 #[(.int p9)] h0 (Qcch Z p9 h0 n0) := by
  refine o_enter o_pn_5 (fun m => o_ef6 m p9) (fun p e s m below meth c s₁ hx hby hml hZ hown hnm hlk hrt X0 e0 => ?_)
  have N0 := Fr.nil n0
  have y_ := @hb _ _ hby
  have k_ := @o_k _ _ hw
  refine o_iloadN X0 hx (y_ oD11_0) rfl ?_
  refine o_sipush X0 hx (y_ oD11_1) (x := 255) rfl ?_
  refine o_iand X0 hx (y_ oD11_4) ?_
  refine o_istoreN X0 hx (y_ oD11_5) (A' := #[vI p9, vI (p9 &&& (255 : Int32))]) rfl ?_
  refine o_iloadN X0 hx (y_ oD11_6) rfl ?_
  refine o_bipush X0 hx (y_ oD11_7) (x := 42) rfl ?_
  refine o_iC (t := 15) X0 hx (y_ oD11_9) (fun hq => ?_) (fun hq => ?_)
  · have hc9 := o_c_ne.1 hq
    refine o_iloadN X0 hx (y_ oD11_15) rfl ?_
    refine o_i2c X0 hx (y_ oD11_16) ?_
    obtain ⟨c0, e_c0, f_c0, n_c0, l_c0, u_c0⟩ := o_chr p9
    rw [f_c0]
    exact o_retN X0 hx (t := .char) hrt hlk (by simp) (y_ oD11_17) n_c0 (by decide) (by decide) (o_hQ e0 ⟨by rw [o_core, if_neg hc9, e_c0], N0, rfl⟩)
  have hc9 := o_c_ne.2 hq
  refine o_bipush X0 hx (y_ oD11_12) (x := 43) rfl ?_
  refine o_istoreN X0 hx (y_ oD11_14) (A' := #[vI p9, vI 43]) rfl ?_
  refine o_iloadN X0 hx (y_ oD11_15) rfl ?_
  refine o_i2c X0 hx (y_ oD11_16) ?_
  refine o_valE (z := 43) (by decide) ?_
  exact o_retN X0 hx (t := .char) hrt hlk (by simp) (y_ oD11_17) rfl (by decide) (by decide) (o_hQ e0 ⟨by rw [o_core, if_pos hc9], N0, rfl⟩)
abbrev Qcen (Z : State) (ch : Int32) (h0 : Heap) (n0 : Nat) (v : Option Value) (h : Heap) (L : List Loc) : Prop := v = some (.int 1) ∧ Fr n0 L ∧ h = h0
set_option maxRecDepth 65536 in
set_option maxHeartbeats 40000000 in
theorem rmcen (l : Launch) (Z : State) (a0 : Array Value) (hw : ∀ d ∈ tables_1, d.before a0 Z = true) (ws : List Jvm.Cond) (ch : Int32) (h0 : Heap) (n0 : Nat) (O0 : Old Z n0 h0) (hch : ¬ (255 : Int32) < ch) :
    o_Met l Z o_m12 jdk_43_method_3_code 1 (some .boolean) ws o_R0 #[(.int ch)] h0 (Qcen Z ch h0 n0) := by
  refine o_enter o_pn_6 (fun m => o_ef7 m ch) (fun p e s m below meth c s₁ hx hby hml hZ hown hnm hlk hrt X0 e0 => ?_)
  have N0 := Fr.nil n0
  have y_ := @hb _ _ hby
  have k_ := @o_k _ _ hw
  refine o_iloadN X0 hx (y_ oD12_0) rfl ?_
  refine o_sipush X0 hx (y_ oD12_1) (x := 255) rfl ?_
  refine o_iC (t := 11) X0 hx (y_ oD12_4) (fun hq => ?_) (fun hq => ?_)
  · have hc4 := o_c_gt.1 hq
    exact absurd hc4 hch
  have hc4 := o_c_gt.2 hq
  refine o_iconst X0 hx (y_ oD12_7) (x := 1) rfl ?_
  refine o_gO (t := 12) X0 hx (y_ oD12_8) ?_
  exact o_retN X0 hx (t := .boolean) hrt hlk (by simp) (y_ oD12_12) rfl (by decide) (by decide) (o_hQ e0 ⟨rfl, N0, rfl⟩)
abbrev Qtob (Z : State) (ch : Int32) (h0 : Heap) (n0 : Nat) (v : Option Value) (h : Heap) (L : List Loc) : Prop := ∃ t2, v = some (.ref t2) ∧ Fr n0 L ∧ Keep h0 h [] ∧ n0 ≤ t2 ∧ h0.size ≤ t2 ∧ ∃ k, Arv Z h t2 k .byte 1 (o_V8 [ch]) (.int 0)
set_option maxRecDepth 65536 in
set_option maxHeartbeats 40000000 in
theorem rmtob (l : Launch) (Z : State) (a0 : Array Value) (hw : ∀ d ∈ tables_1, d.before a0 Z = true) (ws : List Jvm.Cond) (ch : Int32) (h0 : Heap) (n0 : Nat) (O0 : Old Z n0 h0) :
    o_Met l Z o_m13 jdk_43_method_46_code 1 (some (.array .byte)) ws o_R7 #[(.int ch)] h0 (Qtob Z ch h0 n0) := by
  refine o_enter o_pn_6 (fun m => o_ef7 m ch) (fun p e s m below meth c s₁ hx hby hml hZ hown hnm hlk hrt X0 e0 => ?_)
  have N0 := Fr.nil n0
  have y_ := @hb _ _ hby
  have k_ := @o_k _ _ hw
  refine o_iconst X0 hx (y_ oD13_0) (x := 1) rfl ?_
  refine o_newE (cap := 1) X0 hx hZ (k_ 23 rfl) e0 (y_ oD13_1) (by decide) (by decide) (fun T1 h1 k1 b1 X1 e1 gg1 E1 V1 A1 => ?_)
  have g_b1 := o_fresh O0 gg1
  have O1 := Old.ext O0 E1
  refine o_dup X1 hx (y_ oD13_3) rfl ?_
  refine o_iconst X1 hx (y_ oD13_4) (x := 0) rfl ?_
  refine o_iloadN X1 hx (y_ oD13_5) rfl ?_
  refine o_i2b X1 hx (y_ oD13_6) ?_
  refine o_stBp (zz := ch.toInt8.toInt32) X1 hx hZ e1 V1 (y_ oD13_7) ⟨by decide, by decide⟩ rfl (o_nb8 ch) (fun T2 h2 X2 e2 W2 V2 => ?_)
  have N2 := Fr.snoc X2 N0 g_b1
  have O2 := Old.wr O1 W2 g_b1
  have kp3 := Keep.ext (Keep.refl h0 []) E1
  have kp4 := Keep.wr kp3 W2 (Or.inr (Nat.le_trans (Keep.refl h0 []).1 (Nat.le_of_eq gg1.symm)))
  exact o_retA X2 hx hrt hlk rfl rfl rfl (y_ oD13_8) (by decide) (by decide) (o_hQ e2 ⟨b1, rfl, N2, kp4, g_b1, (Nat.le_trans (Keep.refl h0 []).1 (Nat.le_of_eq gg1.symm)), _, V2⟩)
abbrev Qsbb (Z : State) (x : Addr) (a : Addr) (h0 : Heap) (n0 : Nat) (v : Option Value) (h : Heap) (L : List Loc) : Prop := v = none ∧ Fr n0 L ∧ Keep h0 h [x] ∧ Exa Z h x "java/lang/String" ∧ Fld Z h x "java/lang/String" "coder" "B" (.int 0) ∧ Fld Z h x "java/lang/String" "value" "[B" (.ref a)
set_option maxRecDepth 65536 in
set_option maxHeartbeats 40000000 in
theorem rmsbb (l : Launch) (Z : State) (a0 : Array Value) (hw : ∀ d ∈ tables_1, d.before a0 Z = true) (ws : List Jvm.Cond) (x : Addr) (a : Addr) (h0 : Heap) (n0 : Nat) (O0 : Old Z n0 h0) (E_x : Exa Z h0 x "java/lang/String") (F_v : Fld Z h0 x "java/lang/String" "value" "[B" .null) (F_c : Fld Z h0 x "java/lang/String" "coder" "B" (.int 0)) (g_x : n0 ≤ x) :
    o_Met l Z o_m14 jdk_42_method_151_code 3 none ws o_R8 #[(.ref x), (.ref a), (.int 0)] h0 (Qsbb Z x a h0 n0) := by
  refine o_enter o_pn_0 (fun m => o_ef8 m x a) (fun p e s m below meth c s₁ hx hby hml hZ hown hnm hlk hrt X0 e0 => ?_)
  have N0 := Fr.nil n0
  have y_ := @hb _ _ hby
  have k_ := @o_k _ _ hw
  refine o_aloadN X0 hx (y_ oD14_0) rfl rfl ?_
  refine o_initO (W := 0) X0 hx hZ hown (k_ 15 rfl) (k_ 16 rfl) (k_ 17 rfl) e0 (by rw [hml]; rfl) (y_ oD14_1) (by decide) (Nat.le_of_eq rfl) (by decide) (fun T1 X1 e1 => ?_)
  refine o_aloadN X1 hx (y_ oD14_4) rfl rfl ?_
  refine o_aloadN X1 hx (y_ oD14_5) rfl rfl ?_
  refine o_putF X1 hx hZ hown (host := "") (Or.inl (k_ 32 rfl)) Via.refl e1 F_v E_x (Or.inr ⟨(k_ 33 rfl), rfl, hnm⟩) (k_ 5 rfl) (ty := (.array .byte)) (by decide) rfl rfl (y_ oD14_6) (fun T2 h2 X2 e2 W2 => ?_)
  have F2 := Fld.same W2 F_v
  have N2 := Fr.snoc X2 N0 g_x
  have O2 := Old.wr O0 W2 g_x
  refine o_aloadN X2 hx (y_ oD14_9) rfl rfl ?_
  refine o_iloadN X2 hx (y_ oD14_10) rfl ?_
  have c3 := (Exa.wr W2 E_x)
  have c4 := (Fld.other W2 F_c (Or.inr (slot_ne (Or.inr (k_ 31 rfl)) (Or.inr (k_ 33 rfl)) (by decide) (t := .byte) (t' := (.array .byte)) (by decide) (by decide))))
  refine o_putFN (v' := (.int 0)) X2 hx hZ hown (k_ 30 rfl) Via.refl e2 c4 c3 (Or.inr ⟨(k_ 31 rfl), rfl, hnm⟩) (k_ 5 rfl) (ty := .byte) (by decide) rfl rfl (y_ oD14_11) (fun T5 h5 X5 e5 W5 => ?_)
  have F5 := Fld.same W5 c4
  have N5 := Fr.snoc X5 N2 g_x
  have O5 := Old.wr O2 W5 g_x
  have kp6 := Keep.wr (Keep.refl h0 [x]) W2 (Or.inl (List.mem_of_getElem? (i := 0) rfl))
  have kp7 := Keep.wr kp6 W5 (Or.inl (List.mem_of_getElem? (i := 0) rfl))
  have c8 := (Exa.wr W5 c3)
  have c9 := (Fld.other W5 F2 (Or.inr (slot_ne (Or.inr (k_ 33 rfl)) (Or.inr (k_ 31 rfl)) (by decide) (t := (.array .byte)) (t' := .byte) (by decide) (by decide))))
  exact o_retV X5 hx hrt hlk (y_ oD14_14) (by decide) (by decide) (o_hQ e5 ⟨rfl, N5, kp7, c8, F5, c9⟩)
abbrev Qvoc (Z : State) (ch : Int32) (zC_ : Int32) (h0 : Heap) (n0 : Nat) (v : Option Value) (h : Heap) (L : List Loc) : Prop := ∃ x t2, v = some (.ref x) ∧ Fr n0 L ∧ Keep h0 h [] ∧ n0 ≤ x ∧ h0.size ≤ x ∧ n0 ≤ t2 ∧ h0.size ≤ t2 ∧ ¬ t2 = x ∧ o_Str Z h x t2 [ch]
set_option maxRecDepth 65536 in
set_option maxHeartbeats 40000000 in
theorem rmvoc (l : Launch) (Z : State) (a0 : Array Value) (hw : ∀ d ∈ tables_1, d.before a0 Z = true) (ws : List Jvm.Cond) (ch : Int32) (zC_ : Int32) (h0 : Heap) (n0 : Nat) (O0 : Old Z n0 h0) (hch : ¬ ch < 0 ∧ ¬ (255 : Int32) < ch) (SC_ : o_SC Z zC_) (hC_ : ¬ zC_ = 0) :
    o_Met l Z o_m15 jdk_42_method_139_code 1 (some (.object "java/lang/String")) ws o_R9 #[(.int ch)] h0 (Qvoc Z ch zC_ h0 n0) := by
  refine o_enter o_pn_0 (fun m => o_ef7 m ch) (fun p e s m below meth c s₁ hx hby hml hZ hown hnm hlk hrt X0 e0 => ?_)
  have N0 := Fr.nil n0
  have y_ := @hb _ _ hby
  have k_ := @o_k _ _ hw
  refine o_getS X0 hx hZ hown (host := "") (Or.inl (k_ 18 rfl)) Via.refl e0 (Sta.ext O0.2 SC_) (y_ oD15_0) (fun T1 X1 e1 => ?_)
  refine o_iF (t := 26) X1 hx (y_ oD15_3) (fun hq => ?_) (fun hq => ?_)
  · have hc3 := o_h_eq.1 hq
    exact absurd hc3 hC_
  have hc3 := o_h_eq.2 hq
  refine o_iloadN X1 hx (y_ oD15_6) rfl ?_
  refine o_sta (y := o_m12) (argsL := [(.int ch)]) (S := []) (W := 0) X1 hx hZ hown (k_ 236 rfl) (k_ 237 rfl) (k_ 85 rfl) (k_ 238 rfl) (backOf (W := 0) (rmcen l Z a0 hw [] ch h0 n0 O0 hch.2) hZ (k_ 238 rfl) (k_ 85 rfl) (by decide) (by decide)) e1 hml (lenOf o_pd__28C_29Z rfl) (y_ oD15_7) (fun T2 L2 v2 X2 hQ2 => ?_)
  obtain ⟨rfl, N2q, hh2⟩ := hQ2
  have N2 := Fr.app N0 N2q
  show o_G p e below _ T2 (mkF m 10 #[vI ch] [(.int 1)])
  refine o_iFF X2 hx (y_ oD15_10) ?_
  refine o_new X2 hx hZ hown (k_ 239 rfl) (k_ 5 rfl) (k_ 6 rfl) hh2 (y_ oD15_13) (by decide) (by decide) (fun T3 h3 b3 X3 e3 gg3 E3 A3 D3 => ?_)
  have g_b3 := o_fresh O0 gg3
  have O3 := Old.ext O0 E3
  have F3_coder : Fld Z h3 b3 "java/lang/String" "coder" "B" (.int 0) := D3 (Or.inr (k_ 31 rfl)) (ty := .byte) (by decide)
  have F3_value : Fld Z h3 b3 "java/lang/String" "value" "[B" .null := D3 (Or.inr (k_ 33 rfl)) (ty := (.array .byte)) (by decide)
  refine o_dup X3 hx (y_ oD15_16) rfl ?_
  refine o_iloadN X3 hx (y_ oD15_17) rfl ?_
  refine o_sta (y := o_m13) (argsL := [(.int ch)]) (S := [(.ref b3), (.ref b3)]) (W := 2) X3 hx hZ hown (k_ 240 rfl) (k_ 241 rfl) (k_ 85 rfl) (k_ 242 rfl) (backOf (W := 2) (rmtob l Z a0 hw [] ch h3 n0 O3) hZ (k_ 242 rfl) (k_ 85 rfl) (by decide) (by decide)) e3 hml (lenOf o_pd__28C_29_5bB rfl) (y_ oD15_18) (fun T4 L4 v4 X4 hQ4 => ?_)
  obtain ⟨t4, rfl, N4q, Kp4, g_t4, ht4, ka4, Va4⟩ := hQ4
  have N4 := Fr.app N2 N4q
  have O5 := Old.keep O3 Kp4 all0
  show o_G p e below _ T4 (mkF m 21 #[vI ch] [(.ref t4), (.ref b3), (.ref b3)])
  refine o_iconst X4 hx (y_ oD15_21) (x := 0) rfl ?_
  have c6 := (Exa.keep A3 Kp4)
  have c7 := (Fld.keep F3_value Kp4 nin0)
  have c8 := (Fld.keep F3_coder Kp4 nin0)
  refine o_ini (y := o_m14) (b := b3) (argsL := [(.ref t4), (.int 0)]) (S := [(.ref b3)]) (W := 1) rfl X4 hx hZ hown (k_ 243 rfl) (k_ 244 rfl) (k_ 245 rfl) (backOf (W := 1) (rmsbb l Z a0 hw [] b3 t4 T4.heap n0 O5 c6 c7 c8 g_b3) hZ (k_ 245 rfl) (k_ 6 rfl) (by decide) (by decide)) rfl hml (lenOf o_pd__28_5bBB_29V rfl) (y_ oD15_22) (fun T9 L9 v9 X9 hQ9 => ?_)
  obtain ⟨rfl, N9q, Kp9, Ex9, Fc9, Fv9⟩ := hQ9
  have N9 := Fr.app N4 N9q
  have O10 := Old.keep O5 Kp9 (allS g_b3 all0)
  show o_G p e below _ T9 (mkF m 25 #[vI ch] [(.ref b3)])
  have kp11 := Keep.ext (Keep.refl h0 []) E3
  have kp12 := Keep.trans kp11 Kp4 all0
  have kp13 := Keep.trans kp12 Kp9 (allS (Or.inr (Nat.le_trans (Keep.refl h0 []).1 (Nat.le_of_eq gg3.symm))) all0)
  have c14 := (Arv.keep Va4 Kp9 (ninS (Ne.symm (Nat.ne_of_lt (Nat.lt_of_lt_of_le A3.lt ht4))) nin0))
  exact o_retA X9 hx hrt hlk rfl rfl rfl (y_ oD15_25) (by decide) (by decide) ⟨b3, t4, rfl, N9, kp13, g_b3, (Nat.le_trans (Keep.refl h0 []).1 (Nat.le_of_eq gg3.symm)), g_t4, (Nat.le_trans kp11.1 ht4), (Ne.symm (Nat.ne_of_lt (Nat.lt_of_lt_of_le A3.lt ht4))), Ex9, Fc9, Fv9, ⟨_, c14⟩, o_csS hch o_cs0, o_b rfl⟩
abbrev Qasi (Z : State) (b : Addr) (zC_ : Int32) (h0 : Heap) (n0 : Nat) (v : Option Value) (h : Heap) (L : List Loc) : Prop := v = none ∧ Fr n0 L ∧ Keep h0 h [b] ∧ ∃ t, n0 ≤ t ∧ h0.size ≤ t ∧ o_Bl Z h b t 16 []
set_option maxRecDepth 65536 in
set_option maxHeartbeats 40000000 in
theorem rmasi (l : Launch) (Z : State) (a0 : Array Value) (hw : ∀ d ∈ tables_1, d.before a0 Z = true) (ws : List Jvm.Cond) (b : Addr) (zC_ : Int32) (h0 : Heap) (n0 : Nat) (O0 : Old Z n0 h0) (E_b : Exa Z h0 b "java/lang/StringBuilder") (F_v : Fld Z h0 b "java/lang/AbstractStringBuilder" "value" "[B" .null) (F_c : Fld Z h0 b "java/lang/AbstractStringBuilder" "coder" "B" (.int 0)) (F_n : Fld Z h0 b "java/lang/AbstractStringBuilder" "count" "I" (.int 0)) (g_b : n0 ≤ b) (SC_ : o_SC Z zC_) (hC_ : ¬ zC_ = 0) :
    o_Met l Z o_m16 jdk_68_method_2_code 2 none ws o_R10 #[(.ref b), (.int 16)] h0 (Qasi Z b zC_ h0 n0) := by
  refine o_enter o_pn_1 (fun m => o_ef9 m b) (fun p e s m below meth c s₁ hx hby hml hZ hown hnm hlk hrt X0 e0 => ?_)
  have N0 := Fr.nil n0
  have y_ := @hb _ _ hby
  have k_ := @o_k _ _ hw
  refine o_aloadN X0 hx (y_ oD16_0) rfl rfl ?_
  refine o_initO (W := 0) X0 hx hZ hown (k_ 121 rfl) (k_ 16 rfl) (k_ 17 rfl) e0 (by rw [hml]; rfl) (y_ oD16_1) (by decide) (Nat.le_of_eq rfl) (by decide) (fun T1 X1 e1 => ?_)
  refine o_getS X1 hx hZ hown (host := "") (Or.inl (k_ 122 rfl)) Via.refl e1 (Sta.ext O0.2 SC_) (y_ oD16_4) (fun T2 X2 e2 => ?_)
  refine o_iF (t := 25) X2 hx (y_ oD16_7) (fun hq => ?_) (fun hq => ?_)
  · have hc7 := o_h_eq.1 hq
    exact absurd hc7 hC_
  have hc7 := o_h_eq.2 hq
  refine o_aloadN X2 hx (y_ oD16_10) rfl rfl ?_
  refine o_iloadN X2 hx (y_ oD16_11) rfl ?_
  refine o_newE (cap := 16) X2 hx hZ (k_ 23 rfl) e2 (y_ oD16_12) (by decide) (by decide) (fun T3 h3 k3 b3 X3 e3 gg3 E3 V3 A3 => ?_)
  have g_b3 := o_fresh O0 gg3
  have O3 := Old.ext O0 E3
  have c4 := (Exa.ext E3 E_b)
  have c5 := (Fld.ext E3 F_v)
  refine o_putF X3 hx hZ hown (host := "") (Or.inl (k_ 123 rfl)) Via.refl e3 c5 c4 (Or.inl (k_ 124 rfl)) (k_ 110 rfl) (ty := (.array .byte)) (by decide) rfl rfl (y_ oD16_14) (fun T6 h6 X6 e6 W6 => ?_)
  have F6 := Fld.same W6 c5
  have N6 := Fr.snoc X6 N0 g_b
  have O6 := Old.wr O3 W6 g_b
  refine o_aloadN X6 hx (y_ oD16_17) rfl rfl ?_
  refine o_iconst X6 hx (y_ oD16_18) (x := 0) rfl ?_
  have c7 := (Exa.wr W6 c4)
  have c8 := (Fld.other W6 (Fld.ext E3 F_c) (Or.inr (slot_ne (Or.inl (k_ 126 rfl)) (Or.inl (k_ 124 rfl)) (by decide) (t := .byte) (t' := (.array .byte)) (by decide) (by decide))))
  refine o_putFN (v' := (.int 0)) X6 hx hZ hown (k_ 125 rfl) Via.refl e6 c8 c7 (Or.inl (k_ 126 rfl)) (k_ 110 rfl) (ty := .byte) (by decide) rfl rfl (y_ oD16_19) (fun T9 h9 X9 e9 W9 => ?_)
  have F9 := Fld.same W9 c8
  have N9 := Fr.snoc X9 N6 g_b
  have O9 := Old.wr O6 W9 g_b
  refine o_gO (t := 38) X9 hx (y_ oD16_22) ?_
  have kp10 := Keep.ext (Keep.refl h0 [b]) E3
  have kp11 := Keep.wr kp10 W6 (Or.inl (List.mem_of_getElem? (i := 0) rfl))
  have kp12 := Keep.wr kp11 W9 (Or.inl (List.mem_of_getElem? (i := 0) rfl))
  have c13 := (Exa.wr W9 c7)
  have c14 := (Fld.other W9 F6 (Or.inr (slot_ne (Or.inl (k_ 124 rfl)) (Or.inl (k_ 126 rfl)) (by decide) (t := (.array .byte)) (t' := .byte) (by decide) (by decide))))
  have c15 := (Fld.other W9 (Fld.other W6 (Fld.ext E3 F_n) (Or.inr (slot_ne (Or.inl (k_ 144 rfl)) (Or.inl (k_ 124 rfl)) (by decide) (t := .int) (t' := (.array .byte)) (by decide) (by decide)))) (Or.inr (slot_ne (Or.inl (k_ 144 rfl)) (Or.inl (k_ 126 rfl)) (by decide) (t := .int) (t' := .byte) (by decide) (by decide))))
  have c16 := (Arv.other (Arv.other V3 W6 (Ne.symm (o_ng E_b.lt gg3))) W9 (Ne.symm (o_ng E_b.lt gg3)))
  exact o_retV X9 hx hrt hlk (y_ oD16_38) (by decide) (by decide) (o_hQ e9 ⟨rfl, N9, kp12, b3, g_b3, (Nat.le_trans (Keep.refl h0 [b]).1 (Nat.le_of_eq gg3.symm)), c13, F9, c14, c15, ⟨_, c16⟩, o_cs0, Nat.zero_le _⟩)
abbrev Qsbi (Z : State) (b : Addr) (zC_ : Int32) (h0 : Heap) (n0 : Nat) (v : Option Value) (h : Heap) (L : List Loc) : Prop := v = none ∧ Fr n0 L ∧ Keep h0 h [b] ∧ ∃ t, n0 ≤ t ∧ h0.size ≤ t ∧ o_Bl Z h b t 16 []
set_option maxRecDepth 65536 in
set_option maxHeartbeats 40000000 in
theorem rmsbi (l : Launch) (Z : State) (a0 : Array Value) (hw : ∀ d ∈ tables_1, d.before a0 Z = true) (ws : List Jvm.Cond) (b : Addr) (zC_ : Int32) (h0 : Heap) (n0 : Nat) (O0 : Old Z n0 h0) (E_b : Exa Z h0 b "java/lang/StringBuilder") (F_v : Fld Z h0 b "java/lang/AbstractStringBuilder" "value" "[B" .null) (F_c : Fld Z h0 b "java/lang/AbstractStringBuilder" "coder" "B" (.int 0)) (F_n : Fld Z h0 b "java/lang/AbstractStringBuilder" "count" "I" (.int 0)) (g_b : n0 ≤ b) (SC_ : o_SC Z zC_) (hC_ : ¬ zC_ = 0) :
    o_Met l Z o_m17 jdk_67_method_1_code 1 none ws o_R11 #[(.ref b)] h0 (Qsbi Z b zC_ h0 n0) := by
  refine o_enter o_pn_2 (fun m => o_ef0 m b) (fun p e s m below meth c s₁ hx hby hml hZ hown hnm hlk hrt X0 e0 => ?_)
  have N0 := Fr.nil n0
  have y_ := @hb _ _ hby
  have k_ := @o_k _ _ hw
  refine o_aloadN X0 hx (y_ oD17_0) rfl rfl ?_
  refine o_bipush X0 hx (y_ oD17_1) (x := 16) rfl ?_
  refine o_ini (y := o_m16) (b := b) (argsL := [(.int 16)]) (S := []) (W := 0) rfl X0 hx hZ hown (k_ 115 rfl) (k_ 116 rfl) (k_ 120 rfl) (backOf (W := 0) (rmasi l Z a0 hw [] b zC_ h0 n0 O0 E_b F_v F_c F_n g_b SC_ hC_) hZ (k_ 120 rfl) (k_ 119 rfl) (by decide) (by decide)) e0 hml (lenOf o_pd__28I_29V rfl) (y_ oD17_3) (fun T1 L1 v1 X1 hQ1 => ?_)
  obtain ⟨rfl, N1q, Kp1, t1, g_t1, ht1, Bl1⟩ := hQ1
  have N1 := Fr.app N0 N1q
  have O2 := Old.keep O0 Kp1 (allS g_b all0)
  show o_G p e below _ T1 (mkF m 6 #[vR b] [])
  have kp3 := Keep.trans (Keep.refl h0 [b]) Kp1 (allS (Or.inl (List.mem_of_getElem? (i := 0) rfl)) all0)
  exact o_retV X1 hx hrt hlk (y_ oD17_6) (by decide) (by decide) ⟨rfl, N1, kp3, t1, g_t1, (Nat.le_trans (Keep.refl h0 [b]).1 ht1), Bl1⟩
abbrev Qail (Z : State) (b : Addr) (t : Addr) (z : Int32) (cs : List Int32) (zC_ : Int32) (h0 : Heap) (n0 : Nat) (v : Option Value) (h : Heap) (L : List Loc) : Prop := v = some (.int 1) ∧ Fr n0 L ∧ h = h0
set_option maxRecDepth 65536 in
set_option maxHeartbeats 40000000 in
theorem rmail (l : Launch) (Z : State) (a0 : Array Value) (hw : ∀ d ∈ tables_1, d.before a0 Z = true) (ws : List Jvm.Cond) (b : Addr) (t : Addr) (z : Int32) (cs : List Int32) (zC_ : Int32) (h0 : Heap) (n0 : Nat) (O0 : Old Z n0 h0) (B_b : o_Bl Z h0 b t z cs) (SC_ : o_SC Z zC_) (hC_ : ¬ zC_ = 0) :
    o_Met l Z o_m18 jdk_68_method_68_code 1 (some .boolean) ws o_R0 #[(.ref b)] h0 (Qail Z b t z cs zC_ h0 n0) := by
  refine o_enter o_pn_1 (fun m => o_ef0 m b) (fun p e s m below meth c s₁ hx hby hml hZ hown hnm hlk hrt X0 e0 => ?_)
  have N0 := Fr.nil n0
  have y_ := @hb _ _ hby
  have k_ := @o_k _ _ hw
  obtain ⟨Be1, Bc1, Bv1, Bn1, ⟨kb1, Ba1⟩, Bh1, Bs1⟩ := id B_b
  refine o_getS X0 hx hZ hown (host := "") (Or.inl (k_ 122 rfl)) Via.refl e0 (Sta.ext O0.2 SC_) (y_ oD18_0) (fun T2 X2 e2 => ?_)
  refine o_iF (t := 17) X2 hx (y_ oD18_3) (fun hq => ?_) (fun hq => ?_)
  · have hc3 := o_h_eq.1 hq
    exact absurd hc3 hC_
  have hc3 := o_h_eq.2 hq
  refine o_aloadN X2 hx (y_ oD18_6) rfl rfl ?_
  refine o_getF X2 hx hZ hown (host := "") (Or.inl (k_ 125 rfl)) Via.refl e2 Bc1 (y_ oD18_7) (fun T3 X3 e3 => ?_)
  refine o_iFF X3 hx (y_ oD18_10) ?_
  refine o_iconst X3 hx (y_ oD18_13) (x := 1) rfl ?_
  refine o_gO (t := 18) X3 hx (y_ oD18_14) ?_
  exact o_retN X3 hx (t := .boolean) hrt hlk (by simp) (y_ oD18_18) rfl (by decide) (by decide) (o_hQ e3 ⟨rfl, N0, rfl⟩)
abbrev Qgva (Z : State) (b : Addr) (t : Addr) (z : Int32) (cs : List Int32) (h0 : Heap) (n0 : Nat) (v : Option Value) (h : Heap) (L : List Loc) : Prop := v = some (.ref t) ∧ Fr n0 L ∧ h = h0
set_option maxRecDepth 65536 in
set_option maxHeartbeats 40000000 in
theorem rmgva (l : Launch) (Z : State) (a0 : Array Value) (hw : ∀ d ∈ tables_1, d.before a0 Z = true) (ws : List Jvm.Cond) (b : Addr) (t : Addr) (z : Int32) (cs : List Int32) (h0 : Heap) (n0 : Nat) (O0 : Old Z n0 h0) (B_b : o_Bl Z h0 b t z cs) :
    o_Met l Z o_m19 jdk_68_method_64_code 1 (some (.array .byte)) ws o_R0 #[(.ref b)] h0 (Qgva Z b t z cs h0 n0) := by
  refine o_enter o_pn_1 (fun m => o_ef0 m b) (fun p e s m below meth c s₁ hx hby hml hZ hown hnm hlk hrt X0 e0 => ?_)
  have N0 := Fr.nil n0
  have y_ := @hb _ _ hby
  have k_ := @o_k _ _ hw
  obtain ⟨Be1, Bc1, Bv1, Bn1, ⟨kb1, Ba1⟩, Bh1, Bs1⟩ := id B_b
  refine o_aloadN X0 hx (y_ oD19_0) rfl rfl ?_
  refine o_getF X0 hx hZ hown (host := "") (Or.inl (k_ 123 rfl)) Via.refl e0 Bv1 (y_ oD19_1) (fun T2 X2 e2 => ?_)
  exact o_retA X2 hx hrt hlk rfl rfl rfl (y_ oD19_4) (by decide) (by decide) (o_hQ e2 ⟨rfl, N0, rfl⟩)
abbrev Qale (Z : State) (b : Addr) (t : Addr) (z : Int32) (cs : List Int32) (h0 : Heap) (n0 : Nat) (v : Option Value) (h : Heap) (L : List Loc) : Prop := v = some (.int (Int32.ofNat cs.length)) ∧ Fr n0 L ∧ h = h0
set_option maxRecDepth 65536 in
set_option maxHeartbeats 40000000 in
theorem rmale (l : Launch) (Z : State) (a0 : Array Value) (hw : ∀ d ∈ tables_1, d.before a0 Z = true) (ws : List Jvm.Cond) (b : Addr) (t : Addr) (z : Int32) (cs : List Int32) (h0 : Heap) (n0 : Nat) (O0 : Old Z n0 h0) (B_b : o_Bl Z h0 b t z cs) :
    o_Met l Z o_m20 jdk_68_method_6_code 1 (some .int) ws o_R0 #[(.ref b)] h0 (Qale Z b t z cs h0 n0) := by
  refine o_enter o_pn_1 (fun m => o_ef0 m b) (fun p e s m below meth c s₁ hx hby hml hZ hown hnm hlk hrt X0 e0 => ?_)
  have N0 := Fr.nil n0
  have y_ := @hb _ _ hby
  have k_ := @o_k _ _ hw
  obtain ⟨Be1, Bc1, Bv1, Bn1, ⟨kb1, Ba1⟩, Bh1, Bs1⟩ := id B_b
  refine o_aloadN X0 hx (y_ oD20_0) rfl rfl ?_
  refine o_getF X0 hx hZ hown (host := "") (Or.inl (k_ 143 rfl)) Via.refl e0 Bn1 (y_ oD20_1) (fun T2 X2 e2 => ?_)
  exact o_retI X2 hx hrt hlk (y_ oD20_4) (by decide) (by decide) (o_hQ e2 ⟨rfl, N0, rfl⟩)
abbrev Qsle (Z : State) (b : Addr) (t : Addr) (z : Int32) (cs : List Int32) (h0 : Heap) (n0 : Nat) (v : Option Value) (h : Heap) (L : List Loc) : Prop := v = some (.int (Int32.ofNat cs.length)) ∧ Fr n0 L ∧ h = h0
set_option maxRecDepth 65536 in
set_option maxHeartbeats 40000000 in
theorem rmsle (l : Launch) (Z : State) (a0 : Array Value) (hw : ∀ d ∈ tables_1, d.before a0 Z = true) (ws : List Jvm.Cond) (b : Addr) (t : Addr) (z : Int32) (cs : List Int32) (h0 : Heap) (n0 : Nat) (O0 : Old Z n0 h0) (B_b : o_Bl Z h0 b t z cs) :
    o_Met l Z o_m21 jdk_67_method_93_code 1 (some .int) ws o_R1 #[(.ref b)] h0 (Qsle Z b t z cs h0 n0) := by
  refine o_enter o_pn_2 (fun m => o_ef0 m b) (fun p e s m below meth c s₁ hx hby hml hZ hown hnm hlk hrt X0 e0 => ?_)
  have N0 := Fr.nil n0
  have y_ := @hb _ _ hby
  have k_ := @o_k _ _ hw
  refine o_aloadN X0 hx (y_ oD21_0) rfl rfl ?_
  refine o_sup (y := o_m20) (b := b) (argsL := []) (S := []) (W := 0) X0 hx hZ hown (k_ 193 rfl) (o_same (y2 := o_m3) (k_ 189 rfl) (k_ 148 rfl) rfl (by decide)) (k_ 189 rfl) (k_ 135 rfl) (k_ 194 rfl) (backOf (W := 0) (rmale l Z a0 hw [] b t z cs h0 n0 O0 B_b) hZ (k_ 194 rfl) (k_ 119 rfl) (by decide) (by decide)) e0 B_b.1 hml (lenOf o_pd__28_29I rfl) (y_ oD21_1) (fun T1 L1 v1 X1 hQ1 => ?_)
  obtain ⟨rfl, N1q, hh1⟩ := hQ1
  have N1 := Fr.app N0 N1q
  show o_G p e below _ T1 (mkF m 4 #[vR b] [(.int (Int32.ofNat cs.length))])
  exact o_retI X1 hx hrt hlk (y_ oD21_4) (by decide) (by decide) (o_hQ hh1 ⟨rfl, N1, rfl⟩)
abbrev Qmin (Z : State) (x1 : Int32) (x2 : Int32) (h0 : Heap) (n0 : Nat) (v : Option Value) (h : Heap) (L : List Loc) : Prop := v = some (.int x2) ∧ Fr n0 L ∧ h = h0
set_option maxRecDepth 65536 in
set_option maxHeartbeats 40000000 in
theorem rmmin (l : Launch) (Z : State) (a0 : Array Value) (hw : ∀ d ∈ tables_1, d.before a0 Z = true) (ws : List Jvm.Cond) (x1 : Int32) (x2 : Int32) (h0 : Heap) (n0 : Nat) (O0 : Old Z n0 h0) (hlt : x2 < x1) :
    o_Met l Z o_m22 jdk_29_method_69_code 2 (some .int) ws o_R0 #[(.int x1), (.int x2)] h0 (Qmin Z x1 x2 h0 n0) := by
  refine o_enterM (Jvm.Free.JP.mathPlain rfl (by decide)) (fun m => o_ef10 m x1 x2) (fun p e s m below meth c s₁ hx hby hml hZ hown hnm hlk hrt X0 e0 => ?_)
  have N0 := Fr.nil n0
  have y_ := @hb _ _ hby
  have k_ := @o_k _ _ hw
  refine o_iloadN X0 hx (y_ oD22_0) rfl ?_
  refine o_iloadN X0 hx (y_ oD22_1) rfl ?_
  refine o_iC (t := 9) X0 hx (y_ oD22_2) (fun hq => ?_) (fun hq => ?_)
  · have hc2 := o_c_gt.1 hq
    refine o_iloadN X0 hx (y_ oD22_9) rfl ?_
    exact o_retI X0 hx hrt hlk (y_ oD22_10) (by decide) (by decide) (o_hQ e0 ⟨rfl, N0, rfl⟩)
  have hc2 := o_c_gt.2 hq
  exact absurd hlt hc2
abbrev Qchk (Z : State) (nn : Int32) (h0 : Heap) (n0 : Nat) (v : Option Value) (h : Heap) (L : List Loc) : Prop := v = none ∧ Fr n0 L ∧ h = h0
set_option maxRecDepth 65536 in
set_option maxHeartbeats 40000000 in
theorem rmchk (l : Launch) (Z : State) (a0 : Array Value) (hw : ∀ d ∈ tables_1, d.before a0 Z = true) (ws : List Jvm.Cond) (nn : Int32) (h0 : Heap) (n0 : Nat) (O0 : Old Z n0 h0) (hn : ¬ nn < 0) :
    o_Met l Z o_m23 jdk_65_method_131_code 2 none ws o_R0 #[(.int 0), (.int nn)] h0 (Qchk Z nn h0 n0) := by
  refine o_enter o_pn_7 (fun m => o_ef11 m nn) (fun p e s m below meth c s₁ hx hby hml hZ hown hnm hlk hrt X0 e0 => ?_)
  have N0 := Fr.nil n0
  have y_ := @hb _ _ hby
  have k_ := @o_k _ _ hw
  refine o_iloadN X0 hx (y_ oD23_0) rfl ?_
  refine o_iloadN X0 hx (y_ oD23_1) rfl ?_
  refine o_iC (t := 37) X0 hx (y_ oD23_2) (fun hq => ?_) (fun hq => ?_)
  · have hc2 := o_c_ge.1 hq
    exact o_retV X0 hx hrt hlk (y_ oD23_37) (by decide) (by decide) (o_hQ e0 ⟨rfl, N0, rfl⟩)
  have hc2 := o_c_ge.2 hq
  exact absurd hc2 hn
abbrev Qcob (Z : State) (d : Addr) (nn : Int32) (kd : ClassId) (z : Int32) (cs : List Int32) (h0 : Heap) (n0 : Nat) (v : Option Value) (h : Heap) (L : List Loc) : Prop := ∃ t2, v = some (.ref t2) ∧ Fr n0 L ∧ Keep h0 h [] ∧ n0 ≤ t2 ∧ h0.size ≤ t2 ∧ Exa Z h t2 "[B" ∧ ∃ k, Arv Z h t2 k .byte nn (o_V8 cs) (.int 0)
set_option maxRecDepth 65536 in
set_option maxHeartbeats 40000000 in
theorem rmcob (l : Launch) (Z : State) (a0 : Array Value) (hw : ∀ d ∈ tables_1, d.before a0 Z = true) (ws : List Jvm.Cond) (d : Addr) (nn : Int32) (kd : ClassId) (z : Int32) (cs : List Int32) (h0 : Heap) (n0 : Nat) (O0 : Old Z n0 h0) (V_d : Arv Z h0 d kd .byte z (o_V8 cs) (.int 0)) (hn : nn = (Int32.ofNat cs.length)) (hlt : cs.length < z.toNatClampNeg) (hcap : cs.length ≤ 8) (hz : ¬ z < 0) :
    o_Met l Z o_m24 jdk_65_method_133_code 5 (some (.array .byte)) ws o_R12 #[(.ref d), (.int 0), (.int nn)] h0 (Qcob Z d nn kd z cs h0 n0) := by
  refine o_enter o_pn_7 (fun m => o_ef12 m d nn) (fun p e s m below meth c s₁ hx hby hml hZ hown hnm hlk hrt X0 e0 => ?_)
  have N0 := Fr.nil n0
  have y_ := @hb _ _ hby
  have k_ := @o_k _ _ hw
  refine o_iloadN X0 hx (y_ oD24_0) rfl ?_
  refine o_iloadN X0 hx (y_ oD24_1) rfl ?_
  refine o_sta (y := o_m23) (argsL := [(.int 0), (.int nn)]) (S := []) (W := 0) X0 hx hZ hown (k_ 207 rfl) (k_ 208 rfl) (k_ 202 rfl) (k_ 209 rfl) (backOf (W := 0) (rmchk l Z a0 hw [] nn h0 n0 O0 (by rw [hn]; exact o_on (Nat.lt_of_le_of_lt hcap (by decide)))) hZ (k_ 209 rfl) (k_ 202 rfl) (by decide) (by decide)) e0 hml (lenOf o_pd__28II_29V rfl) (y_ oD24_2) (fun T1 L1 v1 X1 hQ1 => ?_)
  obtain ⟨rfl, N1q, hh1⟩ := hQ1
  have N1 := Fr.app N0 N1q
  show o_G p e below _ T1 (mkF m 5 #[vR d, vI 0, vI nn, .unset, .unset] [])
  refine o_iloadN X1 hx (y_ oD24_5) rfl ?_
  refine o_iloadN X1 hx (y_ oD24_6) rfl ?_
  refine o_isub X1 hx (y_ oD24_7) ?_
  refine o_valE (z := nn) (Int32.sub_zero _) ?_
  refine o_istoreN X1 hx (y_ oD24_8) (A' := #[vR d, vI 0, vI nn, vI nn, .unset]) rfl ?_
  refine o_iloadN X1 hx (y_ oD24_9) rfl ?_
  refine o_newE (cap := 8) X1 hx hZ (k_ 23 rfl) hh1 (y_ oD24_10) (by rw [hn]; exact o_on (Nat.lt_of_le_of_lt hcap (by decide))) (by rw [hn, o_oc (Nat.lt_of_le_of_lt hcap (by decide))]; exact hcap) (fun T2 h2 k2 b2 X2 e2 gg2 E2 V2 A2 => ?_)
  have g_b2 := o_fresh O0 gg2
  have O2 := Old.ext O0 E2
  refine o_astore X2 hx (y_ oD24_12) rfl (A' := #[vR d, vI 0, vI nn, vI nn, vR b2]) rfl ?_
  refine o_aloadN X2 hx (y_ oD24_14) rfl rfl ?_
  refine o_iloadN X2 hx (y_ oD24_15) rfl ?_
  refine o_aload X2 hx (y_ oD24_16) rfl rfl ?_
  refine o_iconst X2 hx (y_ oD24_18) (x := 0) rfl ?_
  refine o_aloadN X2 hx (y_ oD24_19) rfl rfl ?_
  have c3 := (Arv.ext V_d E2)
  refine o_alen (n := z) X2 hx hZ e2 c3 (y_ oD24_20) ?_
  refine o_iloadN X2 hx (y_ oD24_21) rfl ?_
  refine o_isub X2 hx (y_ oD24_22) ?_
  refine o_valE (z := z) (Int32.sub_zero _) ?_
  refine o_iloadN X2 hx (y_ oD24_23) rfl ?_
  refine o_sta (y := o_m22) (argsL := [(.int z), (.int nn)]) (S := [(.int 0), (.ref b2), (.int 0), (.ref d)]) (W := 4) X2 hx hZ hown (k_ 210 rfl) (k_ 211 rfl) (k_ 212 rfl) (k_ 213 rfl) (backOf (W := 4) (rmmin l Z a0 hw [] z nn h2 n0 O2 (by rw [hn]; exact o_olt hz hlt)) hZ (k_ 213 rfl) (k_ 212 rfl) (by decide) (by decide)) e2 hml (lenOf o_pd__28II_29I rfl) (y_ oD24_24) (fun T4 L4 v4 X4 hQ4 => ?_)
  obtain ⟨rfl, N4q, hh4⟩ := hQ4
  have N4 := Fr.app N1 N4q
  show o_G p e below _ T4 (mkF m 27 #[vR d, vI 0, vI nn, vI nn, vR b2] [(.int nn), (.int 0), (.ref b2), (.int 0), (.ref d)])
  refine o_cpB (W := 0) (us := (o_V8 cs)) X4 hx hZ hown (k_ 214 rfl) (k_ 169 rfl) (k_ 167 rfl) (k_ 168 rfl) hh4 c3 V2 (by decide) (by decide) (by rw [hn]; exact o_on (Nat.lt_of_le_of_lt hcap (by decide))) (by rw [hn, o_oc (Nat.lt_of_le_of_lt hcap (by decide))]; exact Nat.le_of_lt (Nat.lt_of_le_of_lt (Nat.le_of_eq (Nat.zero_add _)) hlt)) (Nat.le_of_eq (Nat.zero_add _)) (by rw [hn, o_oc (Nat.lt_of_le_of_lt hcap (by decide))]; exact o_V8range cs) rfl N4 g_b2 (by rw [hml]; rfl) (y_ oD24_27) (by decide) (Nat.le_of_eq rfl) (by rw [nativeFrameWords_plain 5 (by decide)]; decide) (fun T5 h5 L5 X5 e5 N5 Kp5 V5 => ?_)
  have O6 := Old.keep O2 Kp5 (allS g_b2 all0)
  refine o_aload X5 hx (y_ oD24_30) rfl rfl ?_
  have kp7 := Keep.ext (Keep.refl h0 []) E2
  have kp8 := Keep.trans kp7 Kp5 (allS (Or.inr (Nat.le_trans (Keep.refl h0 []).1 (Nat.le_of_eq gg2.symm))) all0)
  have c9 := (Exa.keep A2 Kp5)
  exact o_retA X5 hx hrt hlk rfl rfl rfl (y_ oD24_32) (by decide) (by decide) (o_hQ e5 ⟨b2, rfl, N5, kp8, g_b2, (Nat.le_trans (Keep.refl h0 []).1 (Nat.le_of_eq gg2.symm)), c9, _, V5⟩)
abbrev Qcor (Z : State) (d : Addr) (nn : Int32) (kd : ClassId) (z : Int32) (cs : List Int32) (h0 : Heap) (n0 : Nat) (v : Option Value) (h : Heap) (L : List Loc) : Prop := ∃ t2, v = some (.ref t2) ∧ Fr n0 L ∧ Keep h0 h [] ∧ n0 ≤ t2 ∧ h0.size ≤ t2 ∧ Exa Z h t2 "[B" ∧ ∃ k, Arv Z h t2 k .byte nn (o_V8 cs) (.int 0)
set_option maxRecDepth 65536 in
set_option maxHeartbeats 40000000 in
theorem rmcor (l : Launch) (Z : State) (a0 : Array Value) (hw : ∀ d ∈ tables_1, d.before a0 Z = true) (ws : List Jvm.Cond) (d : Addr) (nn : Int32) (kd : ClassId) (z : Int32) (cs : List Int32) (h0 : Heap) (n0 : Nat) (O0 : Old Z n0 h0) (V_d : Arv Z h0 d kd .byte z (o_V8 cs) (.int 0)) (hn : nn = (Int32.ofNat cs.length)) (hlt : cs.length < z.toNatClampNeg) (hcap : cs.length ≤ 8) (hz : ¬ z < 0) :
    o_Met l Z o_m25 jdk_65_method_132_code 3 (some (.array .byte)) ws o_R13 #[(.ref d), (.int 0), (.int nn)] h0 (Qcor Z d nn kd z cs h0 n0) := by
  refine o_enter o_pn_7 (fun m => o_ef13 m d nn) (fun p e s m below meth c s₁ hx hby hml hZ hown hnm hlk hrt X0 e0 => ?_)
  have N0 := Fr.nil n0
  have y_ := @hb _ _ hby
  have k_ := @o_k _ _ hw
  refine o_iloadN X0 hx (y_ oD25_0) rfl ?_
  refine o_iFF X0 hx (y_ oD25_1) ?_
  refine o_iloadN X0 hx (y_ oD25_4) rfl ?_
  refine o_aloadN X0 hx (y_ oD25_5) rfl rfl ?_
  refine o_alen (n := z) X0 hx hZ e0 V_d (y_ oD25_6) ?_
  refine o_iC (t := 17) X0 hx (y_ oD25_7) (fun hq => ?_) (fun hq => ?_)
  · have hc7 := o_c_eq.1 hq
    exact absurd hc7 (by rw [hn]; exact o_one hz hlt)
  have hc7 := o_c_eq.2 hq
  refine o_aloadN X0 hx (y_ oD25_10) rfl rfl ?_
  refine o_iloadN X0 hx (y_ oD25_11) rfl ?_
  refine o_iloadN X0 hx (y_ oD25_12) rfl ?_
  refine o_sta (y := o_m24) (argsL := [(.ref d), (.int 0), (.int nn)]) (S := []) (W := 0) X0 hx hZ hown (k_ 204 rfl) (k_ 205 rfl) (k_ 202 rfl) (k_ 206 rfl) (backOf (W := 0) (rmcob l Z a0 hw [] d nn kd z cs h0 n0 O0 V_d hn hlt hcap hz) hZ (k_ 206 rfl) (k_ 202 rfl) (by decide) (by decide)) e0 hml (lenOf o_pd__28_5bBII_29_5bB rfl) (y_ oD25_13) (fun T1 L1 v1 X1 hQ1 => ?_)
  obtain ⟨t1, rfl, N1q, Kp1, g_t1, ht1, Et1, ka1, Va1⟩ := hQ1
  have N1 := Fr.app N0 N1q
  have O2 := Old.keep O0 Kp1 all0
  show o_G p e below _ T1 (mkF m 16 #[vR d, vI 0, vI nn] [(.ref t1)])
  have kp3 := Keep.trans (Keep.refl h0 []) Kp1 all0
  exact o_retA X1 hx hrt hlk rfl rfl rfl (y_ oD25_16) (by decide) (by decide) ⟨t1, rfl, N1, kp3, g_t1, (Nat.le_trans (Keep.refl h0 []).1 ht1), Et1, _, Va1⟩
abbrev Qsia (Z : State) (x : Addr) (b : Addr) (t : Addr) (z : Int32) (cs : List Int32) (zC_ : Int32) (h0 : Heap) (n0 : Nat) (v : Option Value) (h : Heap) (L : List Loc) : Prop := v = none ∧ Fr n0 L ∧ Keep h0 h [x] ∧ ∃ t2, n0 ≤ t2 ∧ h0.size ≤ t2 ∧ ¬ t2 = x ∧ Exa Z h t2 "[B" ∧ o_Str Z h x t2 cs
set_option maxRecDepth 65536 in
set_option maxHeartbeats 40000000 in
theorem rmsia (l : Launch) (Z : State) (a0 : Array Value) (hw : ∀ d ∈ tables_1, d.before a0 Z = true) (ws : List Jvm.Cond) (x : Addr) (b : Addr) (t : Addr) (z : Int32) (cs : List Int32) (zC_ : Int32) (h0 : Heap) (n0 : Nat) (O0 : Old Z n0 h0) (E_x : Exa Z h0 x "java/lang/String") (F_v : Fld Z h0 x "java/lang/String" "value" "[B" .null) (F_c : Fld Z h0 x "java/lang/String" "coder" "B" (.int 0)) (g_x : n0 ≤ x) (B_b : o_Bl Z h0 b t z cs) (hlt : cs.length < z.toNatClampNeg) (hcap : cs.length ≤ 8) (SC_ : o_SC Z zC_) (hC_ : ¬ zC_ = 0) :
    o_Met l Z o_m26 jdk_42_method_150_code 5 none ws o_R14 #[(.ref x), (.ref b), .null] h0 (Qsia Z x b t z cs zC_ h0 n0) := by
  refine o_enter o_pn_0 (fun m => o_ef14 m x b) (fun p e s m below meth c s₁ hx hby hml hZ hown hnm hlk hrt X0 e0 => ?_)
  have N0 := Fr.nil n0
  have y_ := @hb _ _ hby
  have k_ := @o_k _ _ hw
  obtain ⟨Be1, Bc1, Bv1, Bn1, ⟨kb1, Ba1⟩, Bh1, Bs1⟩ := id B_b
  refine o_aloadN X0 hx (y_ oD26_0) rfl rfl ?_
  refine o_initO (W := 0) X0 hx hZ hown (k_ 15 rfl) (k_ 16 rfl) (k_ 17 rfl) e0 (by rw [hml]; rfl) (y_ oD26_1) (by decide) (Nat.le_of_eq rfl) (by decide) (fun T2 X2 e2 => ?_)
  refine o_aloadN X2 hx (y_ oD26_4) rfl rfl ?_
  refine o_vir (y := o_m19) (b := b) (argsL := []) (S := []) (W := 0) X2 hx hZ hown (k_ 182 rfl) (k_ 183 rfl) (k_ 185 rfl) (k_ 184 rfl) (backOf (W := 0) (rmgva l Z a0 hw [] b t z cs h0 n0 O0 B_b) hZ (k_ 186 rfl) (k_ 119 rfl) (by decide) (by decide)) e2 Be1 hml (lenOf o_pd__28_29_5bB rfl) (y_ oD26_5) (fun T3 L3 v3 X3 hQ3 => ?_)
  obtain ⟨rfl, N3q, hh3⟩ := hQ3
  have N3 := Fr.app N0 N3q
  show o_G p e below _ T3 (mkF m 8 #[vR x, vR b, .val .null, .unset, .unset] [(.ref t)])
  refine o_astoreN X3 hx (y_ oD26_8) rfl (A' := #[vR x, vR b, .val .null, vR t, .unset]) rfl ?_
  refine o_aloadN X3 hx (y_ oD26_9) rfl rfl ?_
  refine o_virtual (y := o_m20) (z := o_m21) (b := b) (argsL := []) (S := []) (W := 0) X3 hx hZ hown (k_ 187 rfl) (k_ 188 rfl) (o_nf (y2 := o_m3) hZ (k_ 148 rfl) rfl) (k_ 190 rfl) (k_ 191 rfl) (by decide) (backOf (W := 0) (rmsle l Z a0 hw [] b t z cs h0 n0 O0 B_b) hZ (k_ 192 rfl) (k_ 111 rfl) (by decide) (by decide)) hh3 Be1 (by rw [hml]; rfl) (lenOf o_pd__28_29I rfl) rfl (Nat.le_of_eq rfl) (y_ oD26_10) (by decide) (by decide) (fun T4 L4 v4 X4 hQ4 => ?_)
  obtain ⟨rfl, N4q, hh4⟩ := hQ4
  have N4 := Fr.app N3 N4q
  show o_G p e below _ T4 (mkF m 13 #[vR x, vR b, .val .null, vR t, .unset] [(.int (Int32.ofNat cs.length))])
  refine o_istore X4 hx (y_ oD26_13) (A' := #[vR x, vR b, .val .null, vR t, vI (Int32.ofNat cs.length)]) rfl ?_
  refine o_aloadN X4 hx (y_ oD26_15) rfl rfl ?_
  refine o_vir (y := o_m18) (b := b) (argsL := []) (S := []) (W := 0) X4 hx hZ hown (k_ 195 rfl) (k_ 196 rfl) (k_ 198 rfl) (k_ 197 rfl) (backOf (W := 0) (rmail l Z a0 hw [] b t z cs zC_ h0 n0 O0 B_b SC_ hC_) hZ (k_ 199 rfl) (k_ 119 rfl) (by decide) (by decide)) hh4 Be1 hml (lenOf o_pd__28_29Z rfl) (y_ oD26_16) (fun T5 L5 v5 X5 hQ5 => ?_)
  obtain ⟨rfl, N5q, hh5⟩ := hQ5
  have N5 := Fr.app N4 N5q
  show o_G p e below _ T5 (mkF m 19 #[vR x, vR b, .val .null, vR t, vI (Int32.ofNat cs.length)] [(.int 1)])
  refine o_iFF X5 hx (y_ oD26_19) ?_
  refine o_aloadN X5 hx (y_ oD26_22) rfl rfl ?_
  refine o_iconst X5 hx (y_ oD26_23) (x := 0) rfl ?_
  refine o_putFN (v' := (.int 0)) X5 hx hZ hown (k_ 30 rfl) Via.refl hh5 F_c E_x (Or.inr ⟨(k_ 31 rfl), rfl, hnm⟩) (k_ 5 rfl) (ty := .byte) (by decide) rfl rfl (y_ oD26_24) (fun T6 h6 X6 e6 W6 => ?_)
  have F6 := Fld.same W6 F_c
  have N6 := Fr.snoc X6 N5 g_x
  have O6 := Old.wr O0 W6 g_x
  refine o_aloadN X6 hx (y_ oD26_27) rfl rfl ?_
  refine o_aloadN X6 hx (y_ oD26_28) rfl rfl ?_
  refine o_iconst X6 hx (y_ oD26_29) (x := 0) rfl ?_
  refine o_iload X6 hx (y_ oD26_30) rfl ?_
  have c7 := (Arv.other Ba1 W6 (Ne.symm (Exa.neArv E_x Ba1 (k_ 5 rfl))))
  refine o_sta (y := o_m25) (argsL := [(.ref t), (.int 0), (.int (Int32.ofNat cs.length))]) (S := [(.ref x)]) (W := 1) X6 hx hZ hown (k_ 200 rfl) (k_ 201 rfl) (k_ 202 rfl) (k_ 203 rfl) (backOf (W := 1) (rmcor l Z a0 hw [] t (Int32.ofNat cs.length) kb1 z cs h6 n0 O6 c7 rfl hlt hcap B_b.nn) hZ (k_ 203 rfl) (k_ 202 rfl) (by decide) (by decide)) e6 hml (lenOf o_pd__28_5bBII_29_5bB rfl) (y_ oD26_32) (fun T8 L8 v8 X8 hQ8 => ?_)
  obtain ⟨t8, rfl, N8q, Kp8, g_t8, ht8, Et8, ka8, Va8⟩ := hQ8
  have N8 := Fr.app N6 N8q
  have O9 := Old.keep O6 Kp8 all0
  show o_G p e below _ T8 (mkF m 35 #[vR x, vR b, .val .null, vR t, vI (Int32.ofNat cs.length)] [(.ref t8), (.ref x)])
  have c10 := (Exa.keep (Exa.wr W6 E_x) Kp8)
  have c11 := (Fld.keep (Fld.other W6 F_v (Or.inr (slot_ne (Or.inr (k_ 33 rfl)) (Or.inr (k_ 31 rfl)) (by decide) (t := (.array .byte)) (t' := .byte) (by decide) (by decide)))) Kp8 nin0)
  refine o_putF X8 hx hZ hown (host := "") (Or.inl (k_ 32 rfl)) Via.refl rfl c11 c10 (Or.inr ⟨(k_ 33 rfl), rfl, hnm⟩) (k_ 5 rfl) (ty := (.array .byte)) (by decide) rfl rfl (y_ oD26_35) (fun T12 h12 X12 e12 W12 => ?_)
  have F12 := Fld.same W12 c11
  have N12 := Fr.snoc X12 N8 g_x
  have O12 := Old.wr O9 W12 g_x
  refine o_gO (t := 97) X12 hx (y_ oD26_38) ?_
  have kp13 := Keep.wr (Keep.refl h0 [x]) W6 (Or.inl (List.mem_of_getElem? (i := 0) rfl))
  have kp14 := Keep.trans kp13 Kp8 all0
  have kp15 := Keep.wr kp14 W12 (Or.inl (List.mem_of_getElem? (i := 0) rfl))
  have c16 := (Exa.wr W12 Et8)
  have c17 := (Exa.wr W12 c10)
  have c18 := (Fld.other W12 (Fld.keep F6 Kp8 nin0) (Or.inr (slot_ne (Or.inr (k_ 31 rfl)) (Or.inr (k_ 33 rfl)) (by decide) (t := .byte) (t' := (.array .byte)) (by decide) (by decide))))
  have c19 := (Arv.other Va8 W12 (Ne.symm (Nat.ne_of_lt (Nat.lt_of_lt_of_le F6.lt ht8))))
  exact o_retV X12 hx hrt hlk (y_ oD26_97) (by decide) (by decide) (o_hQ e12 ⟨rfl, N12, kp15, t8, g_t8, (Nat.le_trans kp13.1 ht8), (Ne.symm (Nat.ne_of_lt (Nat.lt_of_lt_of_le F6.lt ht8))), c16, c17, c18, F12, ⟨_, c19⟩, B_b.2.2.2.2.2.1, Nat.le_trans hcap (by decide)⟩)
abbrev Qsib (Z : State) (x : Addr) (b : Addr) (t : Addr) (z : Int32) (cs : List Int32) (zC_ : Int32) (h0 : Heap) (n0 : Nat) (v : Option Value) (h : Heap) (L : List Loc) : Prop := v = none ∧ Fr n0 L ∧ Keep h0 h [x] ∧ ∃ t2, n0 ≤ t2 ∧ h0.size ≤ t2 ∧ ¬ t2 = x ∧ Exa Z h t2 "[B" ∧ o_Str Z h x t2 cs
set_option maxRecDepth 65536 in
set_option maxHeartbeats 40000000 in
theorem rmsib (l : Launch) (Z : State) (a0 : Array Value) (hw : ∀ d ∈ tables_1, d.before a0 Z = true) (ws : List Jvm.Cond) (x : Addr) (b : Addr) (t : Addr) (z : Int32) (cs : List Int32) (zC_ : Int32) (h0 : Heap) (n0 : Nat) (O0 : Old Z n0 h0) (E_x : Exa Z h0 x "java/lang/String") (F_v : Fld Z h0 x "java/lang/String" "value" "[B" .null) (F_c : Fld Z h0 x "java/lang/String" "coder" "B" (.int 0)) (g_x : n0 ≤ x) (B_b : o_Bl Z h0 b t z cs) (hlt : cs.length < z.toNatClampNeg) (hcap : cs.length ≤ 8) (SC_ : o_SC Z zC_) (hC_ : ¬ zC_ = 0) :
    o_Met l Z o_m27 jdk_42_method_53_code 2 none ws o_R15 #[(.ref x), (.ref b)] h0 (Qsib Z x b t z cs zC_ h0 n0) := by
  refine o_enter o_pn_0 (fun m => o_ef2 m x b) (fun p e s m below meth c s₁ hx hby hml hZ hown hnm hlk hrt X0 e0 => ?_)
  have N0 := Fr.nil n0
  have y_ := @hb _ _ hby
  have k_ := @o_k _ _ hw
  refine o_aloadN X0 hx (y_ oD27_0) rfl rfl ?_
  refine o_aloadN X0 hx (y_ oD27_1) rfl rfl ?_
  refine o_anull X0 hx (y_ oD27_2) ?_
  refine o_ini (y := o_m26) (b := x) (argsL := [(.ref b), .null]) (S := []) (W := 0) rfl X0 hx hZ hown (k_ 179 rfl) (k_ 180 rfl) (k_ 181 rfl) (backOf (W := 0) (rmsia l Z a0 hw [] x b t z cs zC_ h0 n0 O0 E_x F_v F_c g_x B_b hlt hcap SC_ hC_) hZ (k_ 181 rfl) (k_ 6 rfl) (by decide) (by decide)) e0 hml (lenOf o_pd__28Ljava_2flang_2fAbstractStringBuilder_3bLjava_2flang_2fVoid_3b_29V rfl) (y_ oD27_3) (fun T1 L1 v1 X1 hQ1 => ?_)
  obtain ⟨rfl, N1q, Kp1, t1, g_t1, ht1, hne1, Et1, Sf1⟩ := hQ1
  have N1 := Fr.app N0 N1q
  have O2 := Old.keep O0 Kp1 (allS g_x all0)
  show o_G p e below _ T1 (mkF m 6 #[vR x, vR b] [])
  have kp3 := Keep.trans (Keep.refl h0 [x]) Kp1 (allS (Or.inl (List.mem_of_getElem? (i := 0) rfl)) all0)
  exact o_retV X1 hx hrt hlk (y_ oD27_6) (by decide) (by decide) ⟨rfl, N1, kp3, t1, g_t1, (Nat.le_trans (Keep.refl h0 [x]).1 ht1), hne1, Et1, Sf1⟩
abbrev Qsts (Z : State) (b : Addr) (t : Addr) (z : Int32) (cs : List Int32) (zC_ : Int32) (h0 : Heap) (n0 : Nat) (v : Option Value) (h : Heap) (L : List Loc) : Prop := ∃ x t2, v = some (.ref x) ∧ Fr n0 L ∧ Keep h0 h [] ∧ n0 ≤ x ∧ h0.size ≤ x ∧ n0 ≤ t2 ∧ h0.size ≤ t2 ∧ ¬ t2 = x ∧ Exa Z h t2 "[B" ∧ o_Str Z h x t2 cs
set_option maxRecDepth 65536 in
set_option maxHeartbeats 40000000 in
theorem rmsts (l : Launch) (Z : State) (a0 : Array Value) (hw : ∀ d ∈ tables_1, d.before a0 Z = true) (ws : List Jvm.Cond) (b : Addr) (t : Addr) (z : Int32) (cs : List Int32) (zC_ : Int32) (h0 : Heap) (n0 : Nat) (O0 : Old Z n0 h0) (B_b : o_Bl Z h0 b t z cs) (hlt : cs.length < z.toNatClampNeg) (hcap : cs.length ≤ 8) (SC_ : o_SC Z zC_) (hC_ : ¬ zC_ = 0) :
    o_Met l Z o_m28 jdk_67_method_42_code 1 (some (.object "java/lang/String")) ws o_R16 #[(.ref b)] h0 (Qsts Z b t z cs zC_ h0 n0) := by
  refine o_enter o_pn_2 (fun m => o_ef0 m b) (fun p e s m below meth c s₁ hx hby hml hZ hown hnm hlk hrt X0 e0 => ?_)
  have N0 := Fr.nil n0
  have y_ := @hb _ _ hby
  have k_ := @o_k _ _ hw
  refine o_new X0 hx hZ hown (k_ 175 rfl) (k_ 5 rfl) (k_ 6 rfl) e0 (y_ oD28_0) (by decide) (by decide) (fun T1 h1 b1 X1 e1 gg1 E1 A1 D1 => ?_)
  have g_b1 := o_fresh O0 gg1
  have O1 := Old.ext O0 E1
  have F1_coder : Fld Z h1 b1 "java/lang/String" "coder" "B" (.int 0) := D1 (Or.inr (k_ 31 rfl)) (ty := .byte) (by decide)
  have F1_value : Fld Z h1 b1 "java/lang/String" "value" "[B" .null := D1 (Or.inr (k_ 33 rfl)) (ty := (.array .byte)) (by decide)
  refine o_dup X1 hx (y_ oD28_3) rfl ?_
  refine o_aloadN X1 hx (y_ oD28_4) rfl rfl ?_
  have c2 := (o_Bl.ext E1 B_b)
  refine o_ini (y := o_m27) (b := b1) (argsL := [(.ref b)]) (S := [(.ref b1)]) (W := 1) rfl X1 hx hZ hown (k_ 176 rfl) (k_ 177 rfl) (k_ 178 rfl) (backOf (W := 1) (rmsib l Z a0 hw [] b1 b t z cs zC_ h1 n0 O1 A1 F1_value F1_coder g_b1 c2 hlt hcap SC_ hC_) hZ (k_ 178 rfl) (k_ 6 rfl) (by decide) (by decide)) e1 hml (lenOf o_pd__28Ljava_2flang_2fStringBuilder_3b_29V rfl) (y_ oD28_5) (fun T3 L3 v3 X3 hQ3 => ?_)
  obtain ⟨rfl, N3q, Kp3, t3, g_t3, ht3, hne3, Et3, Sf3⟩ := hQ3
  have N3 := Fr.app N0 N3q
  have O4 := Old.keep O1 Kp3 (allS g_b1 all0)
  show o_G p e below _ T3 (mkF m 8 #[vR b] [(.ref b1)])
  have kp5 := Keep.ext (Keep.refl h0 []) E1
  have kp6 := Keep.trans kp5 Kp3 (allS (Or.inr (Nat.le_trans (Keep.refl h0 []).1 (Nat.le_of_eq gg1.symm))) all0)
  exact o_retA X3 hx hrt hlk rfl rfl rfl (y_ oD28_8) (by decide) (by decide) ⟨b1, t3, rfl, N3, kp6, g_b1, (Nat.le_trans (Keep.refl h0 []).1 (Nat.le_of_eq gg1.symm)), g_t3, (Nat.le_trans kp5.1 ht3), hne3, Et3, Sf3⟩
abbrev Qwri (Z : State) (x : Addr) (B : Int32) (A : Int32) (u : Addr) (ds : List Int32) (zC_ : Int32) (h0 : Heap) (n0 : Nat) (v : Option Value) (h : Heap) (L : List Loc) : Prop := ∃ x t2, v = some (.ref x) ∧ Fr n0 L ∧ Keep h0 h [] ∧ n0 ≤ x ∧ h0.size ≤ x ∧ n0 ≤ t2 ∧ h0.size ≤ t2 ∧ ¬ t2 = x ∧ o_Str Z h x t2 (o_wr B A ds)
set_option maxRecDepth 65536 in
set_option maxHeartbeats 40000000 in
theorem rmwri (l : Launch) (Z : State) (a0 : Array Value) (hw : ∀ d ∈ tables_1, d.before a0 Z = true) (ws : List Jvm.Cond) (x : Addr) (B : Int32) (A : Int32) (u : Addr) (ds : List Int32) (zC_ : Int32) (h0 : Heap) (n0 : Nat) (O0 : Old Z n0 h0) (S_x : o_Str Z h0 x u ds) (h3 : ds.length ≤ 3) (SC_ : o_SC Z zC_) (hC_ : ¬ zC_ = 0) :
    o_MetH o_EL l Z o_m29 prog_8_method_5_code 3 (some (.object "java/lang/String")) ws o_R17 #[(.ref x), (.int B), (.int A)] h0 (Qwri Z x B A u ds zC_ h0 n0) := by
  refine o_enterH o_pn_8 (fun m => o_ef15 m x B A) (fun p e s m below meth c s₁ hx hby hml hZ hown hnm hlk hrt X0 e0 hS0 hk0 C0 => ?_)
  have N0 := Fr.nil n0
  have y_ := @hb _ _ hby
  have k_ := @o_k _ _ hw
  have hEL := o_EWs hw
  refine o_new X0 hx hZ hown (k_ 109 rfl) (k_ 110 rfl) (k_ 111 rfl) e0 (y_ oD29_0) (by decide) (by decide) (fun T1 h1 b1 X1 e1 gg1 E1 A1 D1 => ?_)
  have g_b1 := o_fresh O0 gg1
  have O1 := Old.ext O0 E1
  have C2 := CHr.trans C0 (CHr.ext E1 C0.1)
  have F1_value : Fld Z h1 b1 "java/lang/AbstractStringBuilder" "value" "[B" .null := D1 (Or.inl (k_ 124 rfl)) (ty := (.array .byte)) (by decide)
  have F1_coder : Fld Z h1 b1 "java/lang/AbstractStringBuilder" "coder" "B" (.int 0) := D1 (Or.inl (k_ 126 rfl)) (ty := .byte) (by decide)
  have F1_count : Fld Z h1 b1 "java/lang/AbstractStringBuilder" "count" "I" (.int 0) := D1 (Or.inl (k_ 144 rfl)) (ty := .int) (by decide)
  refine o_dup X1 hx (y_ oD29_3) rfl ?_
  refine o_ini (y := o_m17) (b := b1) (argsL := []) (S := [(.ref b1)]) (W := 1) rfl X1 hx hZ hown (k_ 112 rfl) (k_ 113 rfl) (k_ 114 rfl) (backOf (W := 1) (rmsbi l Z a0 hw [] b1 zC_ h1 n0 O1 A1 F1_value F1_coder F1_count g_b1 SC_ hC_) hZ (k_ 114 rfl) (k_ 111 rfl) (by decide) (by decide)) e1 hml (lenOf o_pd__28_29V rfl) (y_ oD29_4) (fun T3 L3 v3 X3 hQ3 => ?_)
  obtain ⟨rfl, N3q, Kp3, t3, g_t3, ht3, Bl3⟩ := hQ3
  have N3 := Fr.app N0 N3q
  have O4 := Old.keep O1 Kp3 (allS g_b1 all0)
  have C5 := CHr.trans C2 (CHr.keep Kp3 (sfS (Safe.exa hZ.alike A1 (by decide) (by decide)) sf0) C2.1)
  show o_G p e below _ T3 (mkF m 7 #[vR x, vI B, vI A] [(.ref b1)])
  refine o_iloadN X3 hx (y_ oD29_7) rfl ?_
  refine o_iF (t := 16) X3 hx (y_ oD29_8) (fun hq => ?_) (fun hq => ?_)
  · have hc8 := o_h_eq.1 hq
    have sft6 : Safe Z o_EL _ T3.heap t3 := (Bl3.safe hZ (o_ENs hw))
    refine o_ldcH (n := 0) (vs := []) (z := 0) X3 hx hZ hown (k_ 127 rfl) (fun d hd => hw d (o_strat d hd)) rfl hS0 (Nat.le_trans (Nat.le_trans hk0 E1.1) Kp3.1) hEL (by decide) C5.1 ⟨by decide, by decide⟩ (by decide) (by decide) (y_ oD29_16) (by decide) (by decide) (by decide) (by decide) (fun a7 b7 kb7 T7 k7 X7 E7 hS7 hk7 hZ7 hown7 Ex7 Co7 Va7 Av7 hC7 Li7 Sa7 => ?_)
    have O7 := Old.ext O4 E7
    have C8 := CHr.trans C5 (hC7)
    have sf9 := (CHr.safe (hC7) Bl3.lt2 sft6)
    show o_G p e below _ T7 (mkF m 18 #[vR x, vI B, vI A] [(.ref a7), (.ref b1)])
    have Ss7 : o_Str Z T7.heap a7 b7 ([] : List Int32) := ⟨Ex7, Co7, Va7, ⟨_, Av7⟩, by decide, by decide⟩
    have c10 := (o_Bl.ext E7 Bl3)
    have c12 := (Exa.ext E7 (Exa.keep A1 Kp3))
    refine o_vir (y := o_m8) (b := b1) (argsL := [(.ref a7)]) (S := []) (W := 0) X7 hx hZ7 hown7 (k_ 128 rfl) (k_ 129 rfl) (k_ 131 rfl) (k_ 130 rfl) (backOf (W := 0) (rmsap l Z a0 hw [] b1 a7 t3 16 ([] : List Int32) b7 ([] : List Int32) zC_ T7.heap n0 O7 c10 Ss7 g_b1 g_t3 (o_b rfl) SC_ hC_) hZ7 (k_ 132 rfl) (k_ 111 rfl) (by decide) (by decide)) rfl c12 hml (lenOf o_pd__28Ljava_2flang_2fString_3b_29Ljava_2flang_2fStringBuilder_3b rfl) (y_ oD29_18) (fun T11 L11 v11 X11 hQ11 => ?_)
    obtain ⟨rfl, N11q, Kp11, Bl11⟩ := hQ11
    have N11 := Fr.app N3 N11q
    have O13 := Old.keep O7 Kp11 (allS g_b1 (allS g_t3 all0))
    have C14 := CHr.trans C8 (CHr.keep Kp11 (sfS (Safe.exa hZ7.alike c10.1 (by decide) (by decide)) (sfS (c10.safe hZ7 (o_ENs hw)) sf0)) C8.1)
    show o_G p e below _ T11 (mkF m 21 #[vR x, vI B, vI A] [(.ref b1)])
    refine o_aloadN X11 hx (y_ oD29_21) rfl rfl ?_
    have c15 := (o_Str.keep (o_Str.ext E7 (o_Str.keep (o_Str.ext E1 S_x) Kp3 (ninS (o_ng S_x.lt gg1) nin0) (ninS (o_ng S_x.lt2 gg1) nin0))) Kp11 (ninS (o_ng S_x.lt gg1) (ninS (Nat.ne_of_lt (Nat.lt_of_lt_of_le (Nat.lt_of_lt_of_le S_x.lt E1.1) ht3)) nin0)) (ninS (o_ng S_x.lt2 gg1) (ninS (Nat.ne_of_lt (Nat.lt_of_lt_of_le (Nat.lt_of_lt_of_le S_x.lt2 E1.1) ht3)) nin0)))
    have c17 := (Exa.keep c12 Kp11)
    refine o_vir (y := o_m8) (b := b1) (argsL := [(.ref x)]) (S := []) (W := 0) X11 hx hZ7 hown7 (k_ 128 rfl) (k_ 129 rfl) (k_ 131 rfl) (k_ 130 rfl) (backOf (W := 0) (rmsap l Z a0 hw [] b1 x t3 16 (([] : List Int32) ++ ([] : List Int32)) u ds zC_ T11.heap n0 O13 Bl11 c15 g_b1 g_t3 (by simp only [List.length_append, List.length_nil, List.length_cons]; show _ ≤ 16; omega) SC_ hC_) hZ7 (k_ 132 rfl) (k_ 111 rfl) (by decide) (by decide)) rfl c17 hml (lenOf o_pd__28Ljava_2flang_2fString_3b_29Ljava_2flang_2fStringBuilder_3b rfl) (y_ oD29_22) (fun T16 L16 v16 X16 hQ16 => ?_)
    obtain ⟨rfl, N16q, Kp16, Bl16⟩ := hQ16
    have N16 := Fr.app N11 N16q
    have O18 := Old.keep O13 Kp16 (allS g_b1 (allS g_t3 all0))
    have C19 := CHr.trans C14 (CHr.keep Kp16 (sfS (Safe.exa hZ7.alike Bl11.1 (by decide) (by decide)) (sfS (Bl11.safe hZ7 (o_ENs hw)) sf0)) C14.1)
    show o_G p e below _ T16 (mkF m 25 #[vR x, vI B, vI A] [(.ref b1)])
    refine o_iloadN X16 hx (y_ oD29_25) rfl ?_
    refine o_iF (t := 34) X16 hx (y_ oD29_26) (fun hq => ?_) (fun hq => ?_)
    · have hc26 := o_h_eq.1 hq
      refine o_ldcA X16 hx hZ7 hown7 (k_ 127 rfl) Li7 (y_ oD29_34) ?_
      have c21 := (o_Str.keep (o_Str.keep Ss7 Kp11 (ninS (Exa.ne Ex7 c12 (by decide)) (ninS (Ne.symm (Sa7 _ sf9).1) nin0)) (ninS (Ne.symm (Exa.neArv c12 Av7 (k_ 110 rfl))) (ninS (Ne.symm (Sa7 _ sf9).2) nin0))) Kp16 (ninS (Exa.ne (Exa.keep Ex7 Kp11) c17 (by decide)) (ninS (Ne.symm (Sa7 _ sf9).1) nin0)) (ninS (Ne.symm (Exa.neArv c17 (Arv.keep Av7 Kp11 (ninS (Ne.symm (Exa.neArv c12 Av7 (k_ 110 rfl))) (ninS (Ne.symm (Sa7 _ sf9).2) nin0))) (k_ 110 rfl))) (ninS (Ne.symm (Sa7 _ sf9).2) nin0)))
      have c23 := (Exa.keep c17 Kp16)
      refine o_vir (y := o_m8) (b := b1) (argsL := [(.ref a7)]) (S := []) (W := 0) X16 hx hZ7 hown7 (k_ 128 rfl) (k_ 129 rfl) (k_ 131 rfl) (k_ 130 rfl) (backOf (W := 0) (rmsap l Z a0 hw [] b1 a7 t3 16 ((([] : List Int32) ++ ([] : List Int32)) ++ ds) b7 ([] : List Int32) zC_ T16.heap n0 O18 Bl16 c21 g_b1 g_t3 (by simp only [List.length_append, List.length_nil, List.length_cons]; show _ ≤ 16; omega) SC_ hC_) hZ7 (k_ 132 rfl) (k_ 111 rfl) (by decide) (by decide)) rfl c23 hml (lenOf o_pd__28Ljava_2flang_2fString_3b_29Ljava_2flang_2fStringBuilder_3b rfl) (y_ oD29_36) (fun T22 L22 v22 X22 hQ22 => ?_)
      obtain ⟨rfl, N22q, Kp22, Bl22⟩ := hQ22
      have N22 := Fr.app N16 N22q
      have O24 := Old.keep O18 Kp22 (allS g_b1 (allS g_t3 all0))
      have C25 := CHr.trans C19 (CHr.keep Kp22 (sfS (Safe.exa hZ7.alike Bl16.1 (by decide) (by decide)) (sfS (Bl16.safe hZ7 (o_ENs hw)) sf0)) C19.1)
      show o_G p e below _ T22 (mkF m 39 #[vR x, vI B, vI A] [(.ref b1)])
      have c27 := (Exa.keep c23 Kp22)
      refine o_vir (y := o_m28) (b := b1) (argsL := []) (S := []) (W := 0) X22 hx hZ7 hown7 (k_ 170 rfl) (k_ 171 rfl) (k_ 173 rfl) (k_ 172 rfl) (backOf (W := 0) (rmsts l Z a0 hw [] b1 t3 16 (((([] : List Int32) ++ ([] : List Int32)) ++ ds) ++ ([] : List Int32)) zC_ T22.heap n0 O24 Bl22 (by simp only [List.length_append, List.length_nil, List.length_cons]; show _ < 16; omega) (by simp only [List.length_append, List.length_nil, List.length_cons]; omega) SC_ hC_) hZ7 (k_ 174 rfl) (k_ 111 rfl) (by decide) (by decide)) rfl c27 hml (lenOf o_pd__28_29Ljava_2flang_2fString_3b rfl) (y_ oD29_39) (fun T26 L26 v26 X26 hQ26 => ?_)
      obtain ⟨x26, t26, rfl, N26q, Kp26, g_x26, hx26, g_t26, ht26, hne26, Et26, Sf26⟩ := hQ26
      have N26 := Fr.app N22 N26q
      have O28 := Old.keep O24 Kp26 all0
      have C29 := CHr.trans C25 (CHr.keep Kp26 sf0 C25.1)
      show o_G p e below _ T26 (mkF m 42 #[vR x, vI B, vI A] [(.ref x26)])
      have kp30 := Keep.ext (Keep.refl h0 []) E1
      have kp31 := Keep.trans kp30 Kp3 (allS (Or.inr (Nat.le_trans (Keep.refl h0 []).1 (Nat.le_of_eq gg1.symm))) all0)
      have kp32 := Keep.ext kp31 E7
      have kp33 := Keep.trans kp32 Kp11 (allS (Or.inr (Nat.le_trans (Keep.refl h0 []).1 (Nat.le_of_eq gg1.symm))) (allS (Or.inr (Nat.le_trans kp30.1 ht3)) all0))
      have kp34 := Keep.trans kp33 Kp16 (allS (Or.inr (Nat.le_trans (Keep.refl h0 []).1 (Nat.le_of_eq gg1.symm))) (allS (Or.inr (Nat.le_trans kp30.1 ht3)) all0))
      have kp35 := Keep.trans kp34 Kp22 (allS (Or.inr (Nat.le_trans (Keep.refl h0 []).1 (Nat.le_of_eq gg1.symm))) (allS (Or.inr (Nat.le_trans kp30.1 ht3)) all0))
      have kp36 := Keep.trans kp35 Kp26 all0
      exact o_retAH X26 hx hS7 (Nat.le_trans (Nat.le_trans (Nat.le_trans (Nat.le_trans hk7 Kp11.1) Kp16.1) Kp22.1) Kp26.1) hZ7 hEL (by exact C29) hrt hlk rfl rfl rfl (y_ oD29_42) (by decide) (by decide) ⟨x26, t26, rfl, N26, kp36, g_x26, (Nat.le_trans kp35.1 hx26), g_t26, (Nat.le_trans kp35.1 ht26), hne26, (by rw [o_wr, if_pos hc8, if_pos hc26]; simpa using Sf26)⟩
    have hc26 := o_h_eq.2 hq
    refine o_ldcH (n := 4) (vs := [.int 42]) (z := 1) X16 hx hZ7 hown7 (k_ 53 rfl) (fun d hd => hw d (o_strat d hd)) rfl hS7 (Nat.le_trans (Nat.le_trans hk7 Kp11.1) Kp16.1) hEL (by decide) C19.1 ⟨by decide, by decide⟩ (by decide) (by decide) (y_ oD29_29) (by decide) (by decide) (by decide) (by decide) (fun a37 b37 kb37 T37 k37 X37 E37 hS37 hk37 hZ37 hown37 Ex37 Co37 Va37 Av37 hC37 Li37 Sa37 => ?_)
    have O37 := Old.ext O18 E37
    have C38 := CHr.trans C19 (hC37)
    show o_G p e below _ T37 (mkF m 31 #[vR x, vI B, vI A] [(.ref a37), (.ref b1)])
    have Ss37 : o_Str Z T37.heap a37 b37 o_star := ⟨Ex37, Co37, Va37, ⟨_, Av37⟩, by decide, by decide⟩
    refine o_gO (t := 36) X37 hx (y_ oD29_31) ?_
    have c39 := (o_Bl.ext E37 Bl16)
    have c41 := (Exa.ext E37 (Exa.keep c17 Kp16))
    refine o_vir (y := o_m8) (b := b1) (argsL := [(.ref a37)]) (S := []) (W := 0) X37 hx hZ37 hown37 (k_ 128 rfl) (k_ 129 rfl) (k_ 131 rfl) (k_ 130 rfl) (backOf (W := 0) (rmsap l Z a0 hw [] b1 a37 t3 16 ((([] : List Int32) ++ ([] : List Int32)) ++ ds) b37 o_star zC_ T37.heap n0 O37 c39 Ss37 g_b1 g_t3 (by simp only [List.length_append, List.length_nil, List.length_cons]; show _ ≤ 16; omega) SC_ hC_) hZ37 (k_ 132 rfl) (k_ 111 rfl) (by decide) (by decide)) rfl c41 hml (lenOf o_pd__28Ljava_2flang_2fString_3b_29Ljava_2flang_2fStringBuilder_3b rfl) (y_ oD29_36) (fun T40 L40 v40 X40 hQ40 => ?_)
    obtain ⟨rfl, N40q, Kp40, Bl40⟩ := hQ40
    have N40 := Fr.app N16 N40q
    have O42 := Old.keep O37 Kp40 (allS g_b1 (allS g_t3 all0))
    have C43 := CHr.trans C38 (CHr.keep Kp40 (sfS (Safe.exa hZ37.alike c39.1 (by decide) (by decide)) (sfS (c39.safe hZ37 (o_ENs hw)) sf0)) C38.1)
    show o_G p e below _ T40 (mkF m 39 #[vR x, vI B, vI A] [(.ref b1)])
    have c45 := (Exa.keep c41 Kp40)
    refine o_vir (y := o_m28) (b := b1) (argsL := []) (S := []) (W := 0) X40 hx hZ37 hown37 (k_ 170 rfl) (k_ 171 rfl) (k_ 173 rfl) (k_ 172 rfl) (backOf (W := 0) (rmsts l Z a0 hw [] b1 t3 16 (((([] : List Int32) ++ ([] : List Int32)) ++ ds) ++ o_star) zC_ T40.heap n0 O42 Bl40 (by simp only [List.length_append, List.length_nil, List.length_cons]; show _ < 16; omega) (by simp only [List.length_append, List.length_nil, List.length_cons]; omega) SC_ hC_) hZ37 (k_ 174 rfl) (k_ 111 rfl) (by decide) (by decide)) rfl c45 hml (lenOf o_pd__28_29Ljava_2flang_2fString_3b rfl) (y_ oD29_39) (fun T44 L44 v44 X44 hQ44 => ?_)
    obtain ⟨x44, t44, rfl, N44q, Kp44, g_x44, hx44, g_t44, ht44, hne44, Et44, Sf44⟩ := hQ44
    have N44 := Fr.app N40 N44q
    have O46 := Old.keep O42 Kp44 all0
    have C47 := CHr.trans C43 (CHr.keep Kp44 sf0 C43.1)
    show o_G p e below _ T44 (mkF m 42 #[vR x, vI B, vI A] [(.ref x44)])
    have kp48 := Keep.ext (Keep.refl h0 []) E1
    have kp49 := Keep.trans kp48 Kp3 (allS (Or.inr (Nat.le_trans (Keep.refl h0 []).1 (Nat.le_of_eq gg1.symm))) all0)
    have kp50 := Keep.ext kp49 E7
    have kp51 := Keep.trans kp50 Kp11 (allS (Or.inr (Nat.le_trans (Keep.refl h0 []).1 (Nat.le_of_eq gg1.symm))) (allS (Or.inr (Nat.le_trans kp48.1 ht3)) all0))
    have kp52 := Keep.trans kp51 Kp16 (allS (Or.inr (Nat.le_trans (Keep.refl h0 []).1 (Nat.le_of_eq gg1.symm))) (allS (Or.inr (Nat.le_trans kp48.1 ht3)) all0))
    have kp53 := Keep.ext kp52 E37
    have kp54 := Keep.trans kp53 Kp40 (allS (Or.inr (Nat.le_trans (Keep.refl h0 []).1 (Nat.le_of_eq gg1.symm))) (allS (Or.inr (Nat.le_trans kp48.1 ht3)) all0))
    have kp55 := Keep.trans kp54 Kp44 all0
    exact o_retAH X44 hx hS37 (Nat.le_trans (Nat.le_trans hk37 Kp40.1) Kp44.1) hZ37 hEL (by exact C47) hrt hlk rfl rfl rfl (y_ oD29_42) (by decide) (by decide) ⟨x44, t44, rfl, N44, kp55, g_x44, (Nat.le_trans kp54.1 hx44), g_t44, (Nat.le_trans kp54.1 ht44), hne44, (by rw [o_wr, if_pos hc8, if_neg hc26]; simpa using Sf44)⟩
  have hc8 := o_h_eq.2 hq
  have sft56 : Safe Z o_EL _ T3.heap t3 := (Bl3.safe hZ (o_ENs hw))
  refine o_ldcH (n := 4) (vs := [.int 42]) (z := 1) X3 hx hZ hown (k_ 53 rfl) (fun d hd => hw d (o_strat d hd)) rfl hS0 (Nat.le_trans (Nat.le_trans hk0 E1.1) Kp3.1) hEL (by decide) C5.1 ⟨by decide, by decide⟩ (by decide) (by decide) (y_ oD29_11) (by decide) (by decide) (by decide) (by decide) (fun a57 b57 kb57 T57 k57 X57 E57 hS57 hk57 hZ57 hown57 Ex57 Co57 Va57 Av57 hC57 Li57 Sa57 => ?_)
  have O57 := Old.ext O4 E57
  have C58 := CHr.trans C5 (hC57)
  have sf59 := (CHr.safe (hC57) Bl3.lt2 sft56)
  show o_G p e below _ T57 (mkF m 13 #[vR x, vI B, vI A] [(.ref a57), (.ref b1)])
  have Ss57 : o_Str Z T57.heap a57 b57 o_star := ⟨Ex57, Co57, Va57, ⟨_, Av57⟩, by decide, by decide⟩
  refine o_gO (t := 18) X57 hx (y_ oD29_13) ?_
  have c60 := (o_Bl.ext E57 Bl3)
  have c62 := (Exa.ext E57 (Exa.keep A1 Kp3))
  refine o_vir (y := o_m8) (b := b1) (argsL := [(.ref a57)]) (S := []) (W := 0) X57 hx hZ57 hown57 (k_ 128 rfl) (k_ 129 rfl) (k_ 131 rfl) (k_ 130 rfl) (backOf (W := 0) (rmsap l Z a0 hw [] b1 a57 t3 16 ([] : List Int32) b57 o_star zC_ T57.heap n0 O57 c60 Ss57 g_b1 g_t3 (o_b rfl) SC_ hC_) hZ57 (k_ 132 rfl) (k_ 111 rfl) (by decide) (by decide)) rfl c62 hml (lenOf o_pd__28Ljava_2flang_2fString_3b_29Ljava_2flang_2fStringBuilder_3b rfl) (y_ oD29_18) (fun T61 L61 v61 X61 hQ61 => ?_)
  obtain ⟨rfl, N61q, Kp61, Bl61⟩ := hQ61
  have N61 := Fr.app N3 N61q
  have O63 := Old.keep O57 Kp61 (allS g_b1 (allS g_t3 all0))
  have C64 := CHr.trans C58 (CHr.keep Kp61 (sfS (Safe.exa hZ57.alike c60.1 (by decide) (by decide)) (sfS (c60.safe hZ57 (o_ENs hw)) sf0)) C58.1)
  show o_G p e below _ T61 (mkF m 21 #[vR x, vI B, vI A] [(.ref b1)])
  refine o_aloadN X61 hx (y_ oD29_21) rfl rfl ?_
  have c65 := (o_Str.keep (o_Str.ext E57 (o_Str.keep (o_Str.ext E1 S_x) Kp3 (ninS (o_ng S_x.lt gg1) nin0) (ninS (o_ng S_x.lt2 gg1) nin0))) Kp61 (ninS (o_ng S_x.lt gg1) (ninS (Nat.ne_of_lt (Nat.lt_of_lt_of_le (Nat.lt_of_lt_of_le S_x.lt E1.1) ht3)) nin0)) (ninS (o_ng S_x.lt2 gg1) (ninS (Nat.ne_of_lt (Nat.lt_of_lt_of_le (Nat.lt_of_lt_of_le S_x.lt2 E1.1) ht3)) nin0)))
  have c67 := (Exa.keep c62 Kp61)
  refine o_vir (y := o_m8) (b := b1) (argsL := [(.ref x)]) (S := []) (W := 0) X61 hx hZ57 hown57 (k_ 128 rfl) (k_ 129 rfl) (k_ 131 rfl) (k_ 130 rfl) (backOf (W := 0) (rmsap l Z a0 hw [] b1 x t3 16 (([] : List Int32) ++ o_star) u ds zC_ T61.heap n0 O63 Bl61 c65 g_b1 g_t3 (by simp only [List.length_append, List.length_nil, List.length_cons]; show _ ≤ 16; omega) SC_ hC_) hZ57 (k_ 132 rfl) (k_ 111 rfl) (by decide) (by decide)) rfl c67 hml (lenOf o_pd__28Ljava_2flang_2fString_3b_29Ljava_2flang_2fStringBuilder_3b rfl) (y_ oD29_22) (fun T66 L66 v66 X66 hQ66 => ?_)
  obtain ⟨rfl, N66q, Kp66, Bl66⟩ := hQ66
  have N66 := Fr.app N61 N66q
  have O68 := Old.keep O63 Kp66 (allS g_b1 (allS g_t3 all0))
  have C69 := CHr.trans C64 (CHr.keep Kp66 (sfS (Safe.exa hZ57.alike Bl61.1 (by decide) (by decide)) (sfS (Bl61.safe hZ57 (o_ENs hw)) sf0)) C64.1)
  show o_G p e below _ T66 (mkF m 25 #[vR x, vI B, vI A] [(.ref b1)])
  refine o_iloadN X66 hx (y_ oD29_25) rfl ?_
  refine o_iF (t := 34) X66 hx (y_ oD29_26) (fun hq => ?_) (fun hq => ?_)
  · have hc26 := o_h_eq.1 hq
    refine o_ldcH (n := 0) (vs := []) (z := 0) X66 hx hZ57 hown57 (k_ 127 rfl) (fun d hd => hw d (o_strat d hd)) rfl hS57 (Nat.le_trans (Nat.le_trans hk57 Kp61.1) Kp66.1) hEL (by decide) C69.1 ⟨by decide, by decide⟩ (by decide) (by decide) (y_ oD29_34) (by decide) (by decide) (by decide) (by decide) (fun a70 b70 kb70 T70 k70 X70 E70 hS70 hk70 hZ70 hown70 Ex70 Co70 Va70 Av70 hC70 Li70 Sa70 => ?_)
    have O70 := Old.ext O68 E70
    have C71 := CHr.trans C69 (hC70)
    show o_G p e below _ T70 (mkF m 36 #[vR x, vI B, vI A] [(.ref a70), (.ref b1)])
    have Ss70 : o_Str Z T70.heap a70 b70 ([] : List Int32) := ⟨Ex70, Co70, Va70, ⟨_, Av70⟩, by decide, by decide⟩
    have c72 := (o_Bl.ext E70 Bl66)
    have c74 := (Exa.ext E70 (Exa.keep c67 Kp66))
    refine o_vir (y := o_m8) (b := b1) (argsL := [(.ref a70)]) (S := []) (W := 0) X70 hx hZ70 hown70 (k_ 128 rfl) (k_ 129 rfl) (k_ 131 rfl) (k_ 130 rfl) (backOf (W := 0) (rmsap l Z a0 hw [] b1 a70 t3 16 ((([] : List Int32) ++ o_star) ++ ds) b70 ([] : List Int32) zC_ T70.heap n0 O70 c72 Ss70 g_b1 g_t3 (by simp only [List.length_append, List.length_nil, List.length_cons]; show _ ≤ 16; omega) SC_ hC_) hZ70 (k_ 132 rfl) (k_ 111 rfl) (by decide) (by decide)) rfl c74 hml (lenOf o_pd__28Ljava_2flang_2fString_3b_29Ljava_2flang_2fStringBuilder_3b rfl) (y_ oD29_36) (fun T73 L73 v73 X73 hQ73 => ?_)
    obtain ⟨rfl, N73q, Kp73, Bl73⟩ := hQ73
    have N73 := Fr.app N66 N73q
    have O75 := Old.keep O70 Kp73 (allS g_b1 (allS g_t3 all0))
    have C76 := CHr.trans C71 (CHr.keep Kp73 (sfS (Safe.exa hZ70.alike c72.1 (by decide) (by decide)) (sfS (c72.safe hZ70 (o_ENs hw)) sf0)) C71.1)
    show o_G p e below _ T73 (mkF m 39 #[vR x, vI B, vI A] [(.ref b1)])
    have c78 := (Exa.keep c74 Kp73)
    refine o_vir (y := o_m28) (b := b1) (argsL := []) (S := []) (W := 0) X73 hx hZ70 hown70 (k_ 170 rfl) (k_ 171 rfl) (k_ 173 rfl) (k_ 172 rfl) (backOf (W := 0) (rmsts l Z a0 hw [] b1 t3 16 (((([] : List Int32) ++ o_star) ++ ds) ++ ([] : List Int32)) zC_ T73.heap n0 O75 Bl73 (by simp only [List.length_append, List.length_nil, List.length_cons]; show _ < 16; omega) (by simp only [List.length_append, List.length_nil, List.length_cons]; omega) SC_ hC_) hZ70 (k_ 174 rfl) (k_ 111 rfl) (by decide) (by decide)) rfl c78 hml (lenOf o_pd__28_29Ljava_2flang_2fString_3b rfl) (y_ oD29_39) (fun T77 L77 v77 X77 hQ77 => ?_)
    obtain ⟨x77, t77, rfl, N77q, Kp77, g_x77, hx77, g_t77, ht77, hne77, Et77, Sf77⟩ := hQ77
    have N77 := Fr.app N73 N77q
    have O79 := Old.keep O75 Kp77 all0
    have C80 := CHr.trans C76 (CHr.keep Kp77 sf0 C76.1)
    show o_G p e below _ T77 (mkF m 42 #[vR x, vI B, vI A] [(.ref x77)])
    have kp81 := Keep.ext (Keep.refl h0 []) E1
    have kp82 := Keep.trans kp81 Kp3 (allS (Or.inr (Nat.le_trans (Keep.refl h0 []).1 (Nat.le_of_eq gg1.symm))) all0)
    have kp83 := Keep.ext kp82 E57
    have kp84 := Keep.trans kp83 Kp61 (allS (Or.inr (Nat.le_trans (Keep.refl h0 []).1 (Nat.le_of_eq gg1.symm))) (allS (Or.inr (Nat.le_trans kp81.1 ht3)) all0))
    have kp85 := Keep.trans kp84 Kp66 (allS (Or.inr (Nat.le_trans (Keep.refl h0 []).1 (Nat.le_of_eq gg1.symm))) (allS (Or.inr (Nat.le_trans kp81.1 ht3)) all0))
    have kp86 := Keep.ext kp85 E70
    have kp87 := Keep.trans kp86 Kp73 (allS (Or.inr (Nat.le_trans (Keep.refl h0 []).1 (Nat.le_of_eq gg1.symm))) (allS (Or.inr (Nat.le_trans kp81.1 ht3)) all0))
    have kp88 := Keep.trans kp87 Kp77 all0
    exact o_retAH X77 hx hS70 (Nat.le_trans (Nat.le_trans hk70 Kp73.1) Kp77.1) hZ70 hEL (by exact C80) hrt hlk rfl rfl rfl (y_ oD29_42) (by decide) (by decide) ⟨x77, t77, rfl, N77, kp88, g_x77, (Nat.le_trans kp87.1 hx77), g_t77, (Nat.le_trans kp87.1 ht77), hne77, (by rw [o_wr, if_neg hc8, if_pos hc26]; simpa using Sf77)⟩
  have hc26 := o_h_eq.2 hq
  refine o_ldcA X66 hx hZ57 hown57 (k_ 53 rfl) Li57 (y_ oD29_29) ?_
  refine o_gO (t := 36) X66 hx (y_ oD29_31) ?_
  have c90 := (o_Str.keep (o_Str.keep Ss57 Kp61 (ninS (Exa.ne Ex57 c62 (by decide)) (ninS (Ne.symm (Sa57 _ sf59).1) nin0)) (ninS (Ne.symm (Exa.neArv c62 Av57 (k_ 110 rfl))) (ninS (Ne.symm (Sa57 _ sf59).2) nin0))) Kp66 (ninS (Exa.ne (Exa.keep Ex57 Kp61) c67 (by decide)) (ninS (Ne.symm (Sa57 _ sf59).1) nin0)) (ninS (Ne.symm (Exa.neArv c67 (Arv.keep Av57 Kp61 (ninS (Ne.symm (Exa.neArv c62 Av57 (k_ 110 rfl))) (ninS (Ne.symm (Sa57 _ sf59).2) nin0))) (k_ 110 rfl))) (ninS (Ne.symm (Sa57 _ sf59).2) nin0)))
  have c92 := (Exa.keep c67 Kp66)
  refine o_vir (y := o_m8) (b := b1) (argsL := [(.ref a57)]) (S := []) (W := 0) X66 hx hZ57 hown57 (k_ 128 rfl) (k_ 129 rfl) (k_ 131 rfl) (k_ 130 rfl) (backOf (W := 0) (rmsap l Z a0 hw [] b1 a57 t3 16 ((([] : List Int32) ++ o_star) ++ ds) b57 o_star zC_ T66.heap n0 O68 Bl66 c90 g_b1 g_t3 (by simp only [List.length_append, List.length_nil, List.length_cons]; show _ ≤ 16; omega) SC_ hC_) hZ57 (k_ 132 rfl) (k_ 111 rfl) (by decide) (by decide)) rfl c92 hml (lenOf o_pd__28Ljava_2flang_2fString_3b_29Ljava_2flang_2fStringBuilder_3b rfl) (y_ oD29_36) (fun T91 L91 v91 X91 hQ91 => ?_)
  obtain ⟨rfl, N91q, Kp91, Bl91⟩ := hQ91
  have N91 := Fr.app N66 N91q
  have O93 := Old.keep O68 Kp91 (allS g_b1 (allS g_t3 all0))
  have C94 := CHr.trans C69 (CHr.keep Kp91 (sfS (Safe.exa hZ57.alike Bl66.1 (by decide) (by decide)) (sfS (Bl66.safe hZ57 (o_ENs hw)) sf0)) C69.1)
  show o_G p e below _ T91 (mkF m 39 #[vR x, vI B, vI A] [(.ref b1)])
  have c96 := (Exa.keep c92 Kp91)
  refine o_vir (y := o_m28) (b := b1) (argsL := []) (S := []) (W := 0) X91 hx hZ57 hown57 (k_ 170 rfl) (k_ 171 rfl) (k_ 173 rfl) (k_ 172 rfl) (backOf (W := 0) (rmsts l Z a0 hw [] b1 t3 16 (((([] : List Int32) ++ o_star) ++ ds) ++ o_star) zC_ T91.heap n0 O93 Bl91 (by simp only [List.length_append, List.length_nil, List.length_cons]; show _ < 16; omega) (by simp only [List.length_append, List.length_nil, List.length_cons]; omega) SC_ hC_) hZ57 (k_ 174 rfl) (k_ 111 rfl) (by decide) (by decide)) rfl c96 hml (lenOf o_pd__28_29Ljava_2flang_2fString_3b rfl) (y_ oD29_39) (fun T95 L95 v95 X95 hQ95 => ?_)
  obtain ⟨x95, t95, rfl, N95q, Kp95, g_x95, hx95, g_t95, ht95, hne95, Et95, Sf95⟩ := hQ95
  have N95 := Fr.app N91 N95q
  have O97 := Old.keep O93 Kp95 all0
  have C98 := CHr.trans C94 (CHr.keep Kp95 sf0 C94.1)
  show o_G p e below _ T95 (mkF m 42 #[vR x, vI B, vI A] [(.ref x95)])
  have kp99 := Keep.ext (Keep.refl h0 []) E1
  have kp100 := Keep.trans kp99 Kp3 (allS (Or.inr (Nat.le_trans (Keep.refl h0 []).1 (Nat.le_of_eq gg1.symm))) all0)
  have kp101 := Keep.ext kp100 E57
  have kp102 := Keep.trans kp101 Kp61 (allS (Or.inr (Nat.le_trans (Keep.refl h0 []).1 (Nat.le_of_eq gg1.symm))) (allS (Or.inr (Nat.le_trans kp99.1 ht3)) all0))
  have kp103 := Keep.trans kp102 Kp66 (allS (Or.inr (Nat.le_trans (Keep.refl h0 []).1 (Nat.le_of_eq gg1.symm))) (allS (Or.inr (Nat.le_trans kp99.1 ht3)) all0))
  have kp104 := Keep.trans kp103 Kp91 (allS (Or.inr (Nat.le_trans (Keep.refl h0 []).1 (Nat.le_of_eq gg1.symm))) (allS (Or.inr (Nat.le_trans kp99.1 ht3)) all0))
  have kp105 := Keep.trans kp104 Kp95 all0
  exact o_retAH X95 hx hS57 (Nat.le_trans (Nat.le_trans (Nat.le_trans (Nat.le_trans hk57 Kp61.1) Kp66.1) Kp91.1) Kp95.1) hZ57 hEL (by exact C98) hrt hlk rfl rfl rfl (y_ oD29_42) (by decide) (by decide) ⟨x95, t95, rfl, N95, kp105, g_x95, (Nat.le_trans kp104.1 hx95), g_t95, (Nat.le_trans kp104.1 ht95), hne95, (by rw [o_wr, if_neg hc8, if_neg hc26]; simpa using Sf95)⟩
abbrev Qtsn (Z : State) (b : Addr) (x : Addr) (B : Int32) (A : Int32) (u : Addr) (ds : List Int32) (zC_ : Int32) (h0 : Heap) (n0 : Nat) (v : Option Value) (h : Heap) (L : List Loc) : Prop := ∃ x t2, v = some (.ref x) ∧ Fr n0 L ∧ Keep h0 h [] ∧ n0 ≤ x ∧ h0.size ≤ x ∧ n0 ≤ t2 ∧ h0.size ≤ t2 ∧ ¬ t2 = x ∧ o_Str Z h x t2 (o_wr B A ds)
set_option maxRecDepth 65536 in
set_option maxHeartbeats 40000000 in
theorem rmtsn (l : Launch) (Z : State) (a0 : Array Value) (hw : ∀ d ∈ tables_1, d.before a0 Z = true) (ws : List Jvm.Cond) (b : Addr) (x : Addr) (B : Int32) (A : Int32) (u : Addr) (ds : List Int32) (zC_ : Int32) (h0 : Heap) (n0 : Nat) (O0 : Old Z n0 h0) (F_k : Fld Z h0 b "org/adviceweft/pointcut/NamePattern" "core" "Ljava/lang/String;" (.ref x)) (F_b : Fld Z h0 b "org/adviceweft/pointcut/NamePattern" "anyBefore" "Z" (.int B)) (F_a : Fld Z h0 b "org/adviceweft/pointcut/NamePattern" "anyAfter" "Z" (.int A)) (S_x : o_Str Z h0 x u ds) (h3 : ds.length ≤ 3) (SC_ : o_SC Z zC_) (hC_ : ¬ zC_ = 0) :
    o_MetH o_EL l Z o_m30 prog_8_method_4_code 1 (some (.object "java/lang/String")) ws o_R18 #[(.ref b)] h0 (Qtsn Z b x B A u ds zC_ h0 n0) := by
  refine o_enterH o_pn_8 (fun m => o_ef0 m b) (fun p e s m below meth c s₁ hx hby hml hZ hown hnm hlk hrt X0 e0 hS0 hk0 C0 => ?_)
  have N0 := Fr.nil n0
  have y_ := @hb _ _ hby
  have k_ := @o_k _ _ hw
  have hEL := o_EWs hw
  refine o_aloadN X0 hx (y_ oD30_0) rfl rfl ?_
  refine o_getF X0 hx hZ hown (host := "") (Or.inl (k_ 95 rfl)) Via.refl e0 F_k (y_ oD30_1) (fun T1 X1 e1 => ?_)
  refine o_aloadN X1 hx (y_ oD30_4) rfl rfl ?_
  refine o_getF X1 hx hZ hown (host := "") (Or.inl (k_ 97 rfl)) Via.refl e1 F_b (y_ oD30_5) (fun T2 X2 e2 => ?_)
  refine o_aloadN X2 hx (y_ oD30_8) rfl rfl ?_
  refine o_getF X2 hx hZ hown (host := "") (Or.inl (k_ 99 rfl)) Via.refl e2 F_a (y_ oD30_9) (fun T3 X3 e3 => ?_)
  refine o_staticH (y := o_m29) (argsL := [(.ref x), (.int B), (.int A)]) (S := []) (W := 0) X3 hx hZ hS0 hown (k_ 106 rfl) (k_ 107 rfl) (k_ 36 rfl) (k_ 108 rfl) (by decide) (backOfSH (W := 0) (rmwri l Z a0 hw [] x B A u ds zC_ h0 n0 O0 S_x h3 SC_ hC_) hZ (k_ 108 rfl) (k_ 36 rfl) (by decide) (by decide) hEL C0.1) e3 hk0 (by rw [hml]; rfl) (lenOf o_pd__28Ljava_2flang_2fString_3bZZ_29Ljava_2flang_2fString_3b rfl) rfl (Nat.le_of_eq rfl) (y_ oD30_12) (by decide) (by decide) (fun T4 L4 v4 k4 X4 hS4 hk4 hZ4 hown4 hQ4 hC4 => ?_)
  obtain ⟨x4, t4, rfl, N4q, Kp4, g_x4, hx4, g_t4, ht4, hne4, Sf4⟩ := hQ4
  have N4 := Fr.app N0 N4q
  have O5 := Old.keep O0 Kp4 all0
  have C6 := CHr.trans C0 (hC4)
  show o_G p e below _ T4 (mkF m 15 #[vR b] [(.ref x4)])
  have kp7 := Keep.trans (Keep.refl h0 []) Kp4 all0
  exact o_retAH X4 hx hS4 hk4 hZ4 hEL (by exact C6) hrt hlk rfl rfl rfl (y_ oD30_15) (by decide) (by decide) ⟨x4, t4, rfl, N4, kp7, g_x4, (Nat.le_trans (Keep.refl h0 []).1 hx4), g_t4, (Nat.le_trans (Keep.refl h0 []).1 ht4), hne4, Sf4⟩
abbrev Qixt0_1 (Z : State) (a : Addr) (b : Addr) (ka : ClassId) (kb : ClassId) (s0 : Int32) (h0 : Heap) (n0 : Nat) (v : Option Value) (h : Heap) (L : List Loc) : Prop := ∃ r : Int32, v = some (.int r) ∧ Fr n0 L ∧ h = h0 ∧ (r < 0 ↔ ¬ o_occ ([] : List Int32) ([s0] : List Int32) = true)
set_option maxRecDepth 65536 in
set_option maxHeartbeats 40000000 in
theorem rmixt0_1 (l : Launch) (Z : State) (a0 : Array Value) (hw : ∀ d ∈ tables_1, d.before a0 Z = true) (ws : List Jvm.Cond) (a : Addr) (b : Addr) (ka : ClassId) (kb : ClassId) (s0 : Int32) (h0 : Heap) (n0 : Nat) (O0 : Old Z n0 h0) (V_a : Arv Z h0 a ka .byte (0 : Int32) [] (.int 0)) (V_b : Arv Z h0 b kb .byte (1 : Int32) [.int s0] (.int 0)) :
    o_Met l Z o_m31 jdk_43_method_24_code 2 (some .int) ws o_R19 #[(.ref a), (.ref b)] h0 (Qixt0_1 Z a b ka kb s0 h0 n0) := by
  refine o_enter o_pn_6 (fun m => o_ef2 m a b) (fun p e s m below meth c s₁ hx hby hml hZ hown hnm hlk hrt X0 e0 => ?_)
  have N0 := Fr.nil n0
  have y_ := @hb _ _ hby
  have k_ := @o_k _ _ hw
  refine o_aloadN X0 hx (y_ oD31_0) rfl rfl ?_
  refine o_alen (n := 1) X0 hx hZ e0 V_b (y_ oD31_1) ?_
  refine o_iFT (t := 7) X0 hx (y_ oD31_2) ?_
  refine o_aloadN X0 hx (y_ oD31_7) rfl rfl ?_
  refine o_alen (n := 0) X0 hx hZ e0 V_a (y_ oD31_8) ?_
  refine o_iFF X0 hx (y_ oD31_9) ?_
  refine o_iconst X0 hx (y_ oD31_12) (x := (-1 : Int32)) rfl ?_
  exact o_retI X0 hx hrt hlk (y_ oD31_13) (by decide) (by decide) (o_hQ e0 ⟨_, rfl, N0, rfl, by simp [o_occ, o_pref]⟩)
abbrev Qixs0_1 (Z : State) (x : Addr) (y : Addr) (t : Addr) (u : Addr) (d0 : Int32) (zC_ : Int32) (h0 : Heap) (n0 : Nat) (v : Option Value) (h : Heap) (L : List Loc) : Prop := ∃ r : Int32, v = some (.int r) ∧ Fr n0 L ∧ h = h0 ∧ (r < 0 ↔ ¬ o_occ ([] : List Int32) ([d0] : List Int32) = true)
set_option maxRecDepth 65536 in
set_option maxHeartbeats 40000000 in
theorem rmixs0_1 (l : Launch) (Z : State) (a0 : Array Value) (hw : ∀ d ∈ tables_1, d.before a0 Z = true) (ws : List Jvm.Cond) (x : Addr) (y : Addr) (t : Addr) (u : Addr) (d0 : Int32) (zC_ : Int32) (h0 : Heap) (n0 : Nat) (O0 : Old Z n0 h0) (S_x : o_Str Z h0 x t ([] : List Int32)) (S_y : o_Str Z h0 y u ([d0] : List Int32)) (SC_ : o_SC Z zC_) (hC_ : ¬ zC_ = 0) :
    o_Met l Z o_m32 jdk_42_method_84_code 3 (some .int) ws o_R3 #[(.ref x), (.ref y)] h0 (Qixs0_1 Z x y t u d0 zC_ h0 n0) := by
  refine o_enter o_pn_0 (fun m => o_ef5 m x y) (fun p e s m below meth c s₁ hx hby hml hZ hown hnm hlk hrt X0 e0 => ?_)
  have N0 := Fr.nil n0
  have y_ := @hb _ _ hby
  have k_ := @o_k _ _ hw
  refine o_aloadN X0 hx (y_ oD32_0) rfl rfl ?_
  refine o_vir (y := o_m0) (b := x) (argsL := []) (S := []) (W := 0) X0 hx hZ hown (k_ 73 rfl) (k_ 74 rfl) (k_ 76 rfl) (k_ 75 rfl) (backOf (W := 0) (rmcod l Z a0 hw [] x zC_ h0 n0 O0 S_x.2.1 SC_ hC_) hZ (k_ 77 rfl) (k_ 6 rfl) (by decide) (by decide)) e0 S_x.1 hml (lenOf o_pd__28_29B rfl) (y_ oD32_1) (fun T1 L1 v1 X1 hQ1 => ?_)
  obtain ⟨rfl, N1q, hh1⟩ := hQ1
  have N1 := Fr.app N0 N1q
  show o_G p e below _ T1 (mkF m 4 #[vR x, vR y, .unset] [(.int 0)])
  refine o_istoreN X1 hx (y_ oD32_4) (A' := #[vR x, vR y, vI 0]) rfl ?_
  refine o_iloadN X1 hx (y_ oD32_5) rfl ?_
  refine o_aloadN X1 hx (y_ oD32_6) rfl rfl ?_
  refine o_vir (y := o_m0) (b := y) (argsL := []) (S := [(.int 0)]) (W := 1) X1 hx hZ hown (k_ 73 rfl) (k_ 74 rfl) (k_ 76 rfl) (k_ 75 rfl) (backOf (W := 1) (rmcod l Z a0 hw [] y zC_ h0 n0 O0 S_y.2.1 SC_ hC_) hZ (k_ 77 rfl) (k_ 6 rfl) (by decide) (by decide)) hh1 S_y.1 hml (lenOf o_pd__28_29B rfl) (y_ oD32_7) (fun T2 L2 v2 X2 hQ2 => ?_)
  obtain ⟨rfl, N2q, hh2⟩ := hQ2
  have N2 := Fr.app N1 N2q
  show o_G p e below _ T2 (mkF m 10 #[vR x, vR y, vI 0] [(.int 0), (.int 0)])
  refine o_iCF X2 hx (y_ oD32_10) ?_
  refine o_aloadN X2 hx (y_ oD32_13) rfl rfl ?_
  refine o_vir (y := o_m1) (b := x) (argsL := []) (S := []) (W := 0) X2 hx hZ hown (k_ 78 rfl) (k_ 79 rfl) (k_ 81 rfl) (k_ 80 rfl) (backOf (W := 0) (rmisl l Z a0 hw [] x zC_ h0 n0 O0 S_x.2.1 SC_ hC_) hZ (k_ 82 rfl) (k_ 6 rfl) (by decide) (by decide)) hh2 S_x.1 hml (lenOf o_pd__28_29Z rfl) (y_ oD32_14) (fun T3 L3 v3 X3 hQ3 => ?_)
  obtain ⟨rfl, N3q, hh3⟩ := hQ3
  have N3 := Fr.app N2 N3q
  show o_G p e below _ T3 (mkF m 17 #[vR x, vR y, vI 0] [(.int 1)])
  refine o_iFF X3 hx (y_ oD32_17) ?_
  obtain ⟨kb4, Bv4⟩ := S_x.2.2.2.1
  have Bw4 : Arv Z h0 t kb4 .byte (0 : Int32) [] (.int 0) := Bv4
  obtain ⟨kb5, Bv5⟩ := S_y.2.2.2.1
  have Bw5 : Arv Z h0 u kb5 .byte (1 : Int32) [.int d0.toInt8.toInt32] (.int 0) := Bv5
  refine o_aloadN X3 hx (y_ oD32_20) rfl rfl ?_
  refine o_getF X3 hx hZ hown (host := "") (Or.inl (k_ 32 rfl)) Via.refl hh3 S_x.2.2.1 (y_ oD32_21) (fun T6 X6 e6 => ?_)
  refine o_aloadN X6 hx (y_ oD32_24) rfl rfl ?_
  refine o_getF X6 hx hZ hown (host := "") (Or.inl (k_ 32 rfl)) Via.refl e6 S_y.2.2.1 (y_ oD32_25) (fun T7 X7 e7 => ?_)
  refine o_sta (y := o_m31) (argsL := [(.ref t), (.ref u)]) (S := []) (W := 0) X7 hx hZ hown (k_ 83 rfl) (k_ 84 rfl) (k_ 85 rfl) (k_ 86 rfl) (backOf (W := 0) (rmixt0_1 l Z a0 hw [] t u kb4 kb5 (d0.toInt8.toInt32) h0 n0 O0 Bw4 Bw5) hZ (k_ 86 rfl) (k_ 85 rfl) (by decide) (by decide)) e7 hml (lenOf o_pd__28_5bB_5bB_29I rfl) (y_ oD32_28) (fun T8 L8 v8 X8 hQ8 => ?_)
  obtain ⟨r8, rfl, N8q, hh8, hr8⟩ := hQ8
  have N8 := Fr.app N3 N8q
  show o_G p e below _ T8 (mkF m 31 #[vR x, vR y, vI 0] [(.int r8)])
  refine o_gO (t := 45) X8 hx (y_ oD32_31) ?_
  exact o_retI X8 hx hrt hlk (y_ oD32_45) (by decide) (by decide) (o_hQ hh8 ⟨_, rfl, N8, rfl, by rw [← o_occ_b ([] : List Int32) ([d0] : List Int32) S_x.2.2.2.2.1 S_y.2.2.2.2.1]; exact hr8⟩)
abbrev Qtos (Z : State) (x : Addr) (h0 : Heap) (n0 : Nat) (v : Option Value) (h : Heap) (L : List Loc) : Prop := v = some (.ref x) ∧ Fr n0 L ∧ h = h0
set_option maxRecDepth 65536 in
set_option maxHeartbeats 40000000 in
theorem rmtos (l : Launch) (Z : State) (a0 : Array Value) (hw : ∀ d ∈ tables_1, d.before a0 Z = true) (ws : List Jvm.Cond) (x : Addr) (h0 : Heap) (n0 : Nat) (O0 : Old Z n0 h0) :
    o_Met l Z o_m34 jdk_42_method_126_code 1 (some (.object "java/lang/String")) ws o_R0 #[(.ref x)] h0 (Qtos Z x h0 n0) := by
  refine o_enter o_pn_0 (fun m => o_ef0 m x) (fun p e s m below meth c s₁ hx hby hml hZ hown hnm hlk hrt X0 e0 => ?_)
  have N0 := Fr.nil n0
  have y_ := @hb _ _ hby
  have k_ := @o_k _ _ hw
  refine o_aloadN X0 hx (y_ oD33_0) rfl rfl ?_
  exact o_retA X0 hx hrt hlk rfl rfl rfl (y_ oD33_1) (by decide) (by decide) (o_hQ e0 ⟨rfl, N0, rfl⟩)
abbrev Qcon0_1 (Z : State) (x : Addr) (y : Addr) (t : Addr) (u : Addr) (d0 : Int32) (zC_ : Int32) (h0 : Heap) (n0 : Nat) (v : Option Value) (h : Heap) (L : List Loc) : Prop := v = some (.int (if o_occ ([] : List Int32) ([d0] : List Int32) = true then 1 else 0)) ∧ Fr n0 L ∧ h = h0
set_option maxRecDepth 65536 in
set_option maxHeartbeats 40000000 in
theorem rmcon0_1 (l : Launch) (Z : State) (a0 : Array Value) (hw : ∀ d ∈ tables_1, d.before a0 Z = true) (ws : List Jvm.Cond) (x : Addr) (y : Addr) (t : Addr) (u : Addr) (d0 : Int32) (zC_ : Int32) (h0 : Heap) (n0 : Nat) (O0 : Old Z n0 h0) (S_x : o_Str Z h0 x t ([] : List Int32)) (S_y : o_Str Z h0 y u ([d0] : List Int32)) (SC_ : o_SC Z zC_) (hC_ : ¬ zC_ = 0) :
    o_Met l Z o_m33 jdk_42_method_97_code 2 (some .boolean) ws o_R4 #[(.ref x), (.ref y)] h0 (Qcon0_1 Z x y t u d0 zC_ h0 n0) := by
  refine o_enter o_pn_0 (fun m => o_ef2 m x y) (fun p e s m below meth c s₁ hx hby hml hZ hown hnm hlk hrt X0 e0 => ?_)
  have N0 := Fr.nil n0
  have y_ := @hb _ _ hby
  have k_ := @o_k _ _ hw
  refine o_aloadN X0 hx (y_ oD34_0) rfl rfl ?_
  refine o_aloadN X0 hx (y_ oD34_1) rfl rfl ?_
  refine o_iface (xi := o_m35) (y := o_m34) (b := y) (argsL := []) (S := [(.ref x)]) (W := 1) X0 hx hZ hown (k_ 59 rfl) (k_ 60 rfl) (mvT hZ (k_ 61 rfl)) (k_ 62 rfl) (k_ 63 rfl) (k_ 64 rfl) (k_ 65 rfl) (k_ 66 rfl) (by decide) (backOf (W := 1) (rmtos l Z a0 hw [] y h0 n0 O0) hZ (k_ 67 rfl) (k_ 6 rfl) (by decide) (by decide)) e0 S_y.1 (by rw [hml]; rfl) (lenOf o_pd__28_29Ljava_2flang_2fString_3b rfl) rfl (Nat.le_of_eq rfl) (y_ oD34_2) (by decide) (by decide) (fun T1 L1 v1 X1 hQ1 => ?_)
  obtain ⟨rfl, N1q, hh1⟩ := hQ1
  have N1 := Fr.app N0 N1q
  show o_G p e below _ T1 (mkF m 7 #[vR x, vR y] [(.ref y), (.ref x)])
  refine o_vir (y := o_m32) (b := x) (argsL := [(.ref y)]) (S := []) (W := 0) X1 hx hZ hown (k_ 68 rfl) (k_ 69 rfl) (k_ 71 rfl) (k_ 70 rfl) (backOf (W := 0) (rmixs0_1 l Z a0 hw [] x y t u d0 zC_ h0 n0 O0 S_x S_y SC_ hC_) hZ (k_ 72 rfl) (k_ 6 rfl) (by decide) (by decide)) hh1 S_x.1 hml (lenOf o_pd__28Ljava_2flang_2fString_3b_29I rfl) (y_ oD34_7) (fun T2 L2 v2 X2 hQ2 => ?_)
  obtain ⟨r2, rfl, N2q, hh2, hr2⟩ := hQ2
  have N2 := Fr.app N1 N2q
  show o_G p e below _ T2 (mkF m 10 #[vR x, vR y] [(.int r2)])
  refine o_iF (t := 17) X2 hx (y_ oD34_10) (fun hq => ?_) (fun hq => ?_)
  · have hc10 := o_h_lt.1 hq
    refine o_iconst X2 hx (y_ oD34_17) (x := 0) rfl ?_
    exact o_retN X2 hx (t := .boolean) hrt hlk (by simp) (y_ oD34_18) rfl (by decide) (by decide) (o_hQ hh2 ⟨by rw [if_neg (hr2.mp hc10)], N2, rfl⟩)
  have hc10 := o_h_lt.2 hq
  refine o_iconst X2 hx (y_ oD34_13) (x := 1) rfl ?_
  refine o_gO (t := 18) X2 hx (y_ oD34_14) ?_
  exact o_retN X2 hx (t := .boolean) hrt hlk (by simp) (y_ oD34_18) rfl (by decide) (by decide) (o_hQ hh2 ⟨by rw [if_pos (Classical.byContradiction fun q => hc10 (hr2.mpr q))], N2, rfl⟩)
abbrev Qixf1_1 (Z : State) (a : Addr) (b : Addr) (ka : ClassId) (kb : ClassId) (v0 : Int32) (s0 : Int32) (h0 : Heap) (n0 : Nat) (v : Option Value) (h : Heap) (L : List Loc) : Prop := ∃ r : Int32, v = some (.int r) ∧ Fr n0 L ∧ h = h0 ∧ (r < 0 ↔ ¬ o_occ ([v0] : List Int32) ([s0] : List Int32) = true)
set_option maxRecDepth 65536 in
set_option maxHeartbeats 40000000 in
theorem rmixf1_1 (l : Launch) (Z : State) (a0 : Array Value) (hw : ∀ d ∈ tables_1, d.before a0 Z = true) (ws : List Jvm.Cond) (a : Addr) (b : Addr) (ka : ClassId) (kb : ClassId) (v0 : Int32) (s0 : Int32) (h0 : Heap) (n0 : Nat) (O0 : Old Z n0 h0) (V_a : Arv Z h0 a ka .byte (1 : Int32) [.int v0] (.int 0)) (V_b : Arv Z h0 b kb .byte (1 : Int32) [.int s0] (.int 0)) :
    o_Met l Z o_m36 jdk_43_method_25_code 11 (some .int) ws o_R0 #[(.ref a), (.int 1), (.ref b), (.int 1), (.int 0)] h0 (Qixf1_1 Z a b ka kb v0 s0 h0 n0) := by
  refine o_enter o_pn_6 (fun m => o_ef16 m a b) (fun p e s m below meth c s₁ hx hby hml hZ hown hnm hlk hrt X0 e0 => ?_)
  have N0 := Fr.nil n0
  have y_ := @hb _ _ hby
  have k_ := @o_k _ _ hw
  refine o_aloadN X0 hx (y_ oD35_0) rfl rfl ?_
  refine o_iconst X0 hx (y_ oD35_1) (x := 0) rfl ?_
  refine o_bload (v := (.int s0)) X0 hx hZ e0 V_b (y_ oD35_2) ⟨by decide, by decide⟩ rfl ?_
  refine o_istore X0 hx (y_ oD35_3) (A' := #[vR a, vI 1, vR b, vI 1, vI 0, vI s0, .unset, .unset, .unset, .unset, .unset]) rfl ?_
  refine o_iloadN X0 hx (y_ oD35_5) rfl ?_
  refine o_iloadN X0 hx (y_ oD35_6) rfl ?_
  refine o_isub X0 hx (y_ oD35_7) ?_
  refine o_valE (z := 0) (by decide) ?_
  refine o_istore X0 hx (y_ oD35_8) (A' := #[vR a, vI 1, vR b, vI 1, vI 0, vI s0, vI 0, .unset, .unset, .unset, .unset]) rfl ?_
  refine o_iload X0 hx (y_ oD35_10) rfl ?_
  refine o_istore X0 hx (y_ oD35_12) (A' := #[vR a, vI 1, vR b, vI 1, vI 0, vI s0, vI 0, vI 0, .unset, .unset, .unset]) rfl ?_
  refine o_iload X0 hx (y_ oD35_14) rfl ?_
  refine o_iload X0 hx (y_ oD35_16) rfl ?_
  refine o_iCF X0 hx (y_ oD35_18) ?_
  refine o_aloadN X0 hx (y_ oD35_21) rfl rfl ?_
  refine o_iload X0 hx (y_ oD35_22) rfl ?_
  refine o_bload (v := (.int v0)) X0 hx hZ e0 V_a (y_ oD35_24) ⟨by decide, by decide⟩ rfl ?_
  refine o_iload X0 hx (y_ oD35_25) rfl ?_
  refine o_iC (t := 52) X0 hx (y_ oD35_27) (fun hq => ?_) (fun hq => ?_)
  · have hc27_1 := o_c_eq.1 hq
    refine o_iload X0 hx (y_ oD35_52) rfl ?_
    refine o_iload X0 hx (y_ oD35_54) rfl ?_
    refine o_iCF X0 hx (y_ oD35_56) ?_
    refine o_iload X0 hx (y_ oD35_59) rfl ?_
    refine o_iconst X0 hx (y_ oD35_61) (x := 1) rfl ?_
    refine o_iadd X0 hx (y_ oD35_62) ?_
    refine o_valE (z := 1) (by decide) ?_
    refine o_istore X0 hx (y_ oD35_63) (A' := #[vR a, vI 1, vR b, vI 1, vI 0, vI s0, vI 0, vI 0, vI 1, .unset, .unset]) rfl ?_
    refine o_iload X0 hx (y_ oD35_65) rfl ?_
    refine o_iloadN X0 hx (y_ oD35_67) rfl ?_
    refine o_iadd X0 hx (y_ oD35_68) ?_
    refine o_valE (z := 2) (by decide) ?_
    refine o_iconst X0 hx (y_ oD35_69) (x := 1) rfl ?_
    refine o_isub X0 hx (y_ oD35_70) ?_
    refine o_valE (z := 1) (by decide) ?_
    refine o_istore X0 hx (y_ oD35_71) (A' := #[vR a, vI 1, vR b, vI 1, vI 0, vI s0, vI 0, vI 0, vI 1, vI 1, .unset]) rfl ?_
    refine o_iconst X0 hx (y_ oD35_73) (x := 1) rfl ?_
    refine o_istore X0 hx (y_ oD35_74) (A' := #[vR a, vI 1, vR b, vI 1, vI 0, vI s0, vI 0, vI 0, vI 1, vI 1, vI 1]) rfl ?_
    refine o_iload X0 hx (y_ oD35_76) rfl ?_
    refine o_iload X0 hx (y_ oD35_78) rfl ?_
    refine o_iCT (t := 103) X0 hx (y_ oD35_80) ?_
    refine o_iload X0 hx (y_ oD35_103) rfl ?_
    refine o_iload X0 hx (y_ oD35_105) rfl ?_
    refine o_iCF X0 hx (y_ oD35_107) ?_
    refine o_iload X0 hx (y_ oD35_110) rfl ?_
    exact o_retI X0 hx hrt hlk (y_ oD35_112) (by decide) (by decide) (o_hQ e0 ⟨_, rfl, N0, rfl, (o_lf0 v0 s0 hc27_1)⟩)
  have hc27_1 := o_c_eq.2 hq
  refine o_iincK X0 hx (y_ oD35_30) (y := 1) rfl rfl (z := 1) (by decide) (A' := #[vR a, vI 1, vR b, vI 1, vI 0, vI s0, vI 0, vI 1, .unset, .unset, .unset]) rfl ?_
  refine o_iload X0 hx (y_ oD35_33) rfl ?_
  refine o_iload X0 hx (y_ oD35_35) rfl ?_
  refine o_iCT (t := 52) X0 hx (y_ oD35_37) ?_
  refine o_iload X0 hx (y_ oD35_52) rfl ?_
  refine o_iload X0 hx (y_ oD35_54) rfl ?_
  refine o_iCT (t := 113) X0 hx (y_ oD35_56) ?_
  refine o_iincK X0 hx (y_ oD35_113) (y := 1) rfl rfl (z := 2) (by decide) (A' := #[vR a, vI 1, vR b, vI 1, vI 0, vI s0, vI 0, vI 2, .unset, .unset, .unset]) rfl ?_
  refine o_gO (t := 14) X0 hx (y_ oD35_116) ?_
  refine o_iload X0 hx (y_ oD35_14) rfl ?_
  refine o_iload X0 hx (y_ oD35_16) rfl ?_
  refine o_iCT (t := 119) X0 hx (y_ oD35_18) ?_
  refine o_iconst X0 hx (y_ oD35_119) (x := (-1 : Int32)) rfl ?_
  exact o_retI X0 hx hrt hlk (y_ oD35_120) (by decide) (by decide) (o_hQ e0 ⟨_, rfl, N0, rfl, (o_lf1 v0 s0 hc27_1)⟩)
abbrev Qixt1_1 (Z : State) (a : Addr) (b : Addr) (ka : ClassId) (kb : ClassId) (v0 : Int32) (s0 : Int32) (h0 : Heap) (n0 : Nat) (v : Option Value) (h : Heap) (L : List Loc) : Prop := ∃ r : Int32, v = some (.int r) ∧ Fr n0 L ∧ h = h0 ∧ (r < 0 ↔ ¬ o_occ ([v0] : List Int32) ([s0] : List Int32) = true)
set_option maxRecDepth 65536 in
set_option maxHeartbeats 40000000 in
theorem rmixt1_1 (l : Launch) (Z : State) (a0 : Array Value) (hw : ∀ d ∈ tables_1, d.before a0 Z = true) (ws : List Jvm.Cond) (a : Addr) (b : Addr) (ka : ClassId) (kb : ClassId) (v0 : Int32) (s0 : Int32) (h0 : Heap) (n0 : Nat) (O0 : Old Z n0 h0) (V_a : Arv Z h0 a ka .byte (1 : Int32) [.int v0] (.int 0)) (V_b : Arv Z h0 b kb .byte (1 : Int32) [.int s0] (.int 0)) :
    o_Met l Z o_m31 jdk_43_method_24_code 2 (some .int) ws o_R19 #[(.ref a), (.ref b)] h0 (Qixt1_1 Z a b ka kb v0 s0 h0 n0) := by
  refine o_enter o_pn_6 (fun m => o_ef2 m a b) (fun p e s m below meth c s₁ hx hby hml hZ hown hnm hlk hrt X0 e0 => ?_)
  have N0 := Fr.nil n0
  have y_ := @hb _ _ hby
  have k_ := @o_k _ _ hw
  refine o_aloadN X0 hx (y_ oD31_0) rfl rfl ?_
  refine o_alen (n := 1) X0 hx hZ e0 V_b (y_ oD31_1) ?_
  refine o_iFT (t := 7) X0 hx (y_ oD31_2) ?_
  refine o_aloadN X0 hx (y_ oD31_7) rfl rfl ?_
  refine o_alen (n := 1) X0 hx hZ e0 V_a (y_ oD31_8) ?_
  refine o_iFT (t := 14) X0 hx (y_ oD31_9) ?_
  refine o_aloadN X0 hx (y_ oD31_14) rfl rfl ?_
  refine o_aloadN X0 hx (y_ oD31_15) rfl rfl ?_
  refine o_alen (n := 1) X0 hx hZ e0 V_a (y_ oD31_16) ?_
  refine o_aloadN X0 hx (y_ oD31_17) rfl rfl ?_
  refine o_aloadN X0 hx (y_ oD31_18) rfl rfl ?_
  refine o_alen (n := 1) X0 hx hZ e0 V_b (y_ oD31_19) ?_
  refine o_iconst X0 hx (y_ oD31_20) (x := 0) rfl ?_
  refine o_sta (y := o_m36) (argsL := [(.ref a), (.int 1), (.ref b), (.int 1), (.int 0)]) (S := []) (W := 0) X0 hx hZ hown (k_ 87 rfl) (k_ 88 rfl) (k_ 85 rfl) (k_ 89 rfl) (backOf (W := 0) (rmixf1_1 l Z a0 hw [] a b ka kb v0 s0 h0 n0 O0 V_a V_b) hZ (k_ 89 rfl) (k_ 85 rfl) (by decide) (by decide)) e0 hml (lenOf o_pd__28_5bBI_5bBII_29I rfl) (y_ oD31_21) (fun T1 L1 v1 X1 hQ1 => ?_)
  obtain ⟨r1, rfl, N1q, hh1, hr1⟩ := hQ1
  have N1 := Fr.app N0 N1q
  show o_G p e below _ T1 (mkF m 24 #[vR a, vR b] [(.int r1)])
  exact o_retI X1 hx hrt hlk (y_ oD31_24) (by decide) (by decide) (o_hQ hh1 ⟨_, rfl, N1, rfl, hr1⟩)
abbrev Qixs1_1 (Z : State) (x : Addr) (y : Addr) (t : Addr) (u : Addr) (c0 : Int32) (d0 : Int32) (zC_ : Int32) (h0 : Heap) (n0 : Nat) (v : Option Value) (h : Heap) (L : List Loc) : Prop := ∃ r : Int32, v = some (.int r) ∧ Fr n0 L ∧ h = h0 ∧ (r < 0 ↔ ¬ o_occ ([c0] : List Int32) ([d0] : List Int32) = true)
set_option maxRecDepth 65536 in
set_option maxHeartbeats 40000000 in
theorem rmixs1_1 (l : Launch) (Z : State) (a0 : Array Value) (hw : ∀ d ∈ tables_1, d.before a0 Z = true) (ws : List Jvm.Cond) (x : Addr) (y : Addr) (t : Addr) (u : Addr) (c0 : Int32) (d0 : Int32) (zC_ : Int32) (h0 : Heap) (n0 : Nat) (O0 : Old Z n0 h0) (S_x : o_Str Z h0 x t ([c0] : List Int32)) (S_y : o_Str Z h0 y u ([d0] : List Int32)) (SC_ : o_SC Z zC_) (hC_ : ¬ zC_ = 0) :
    o_Met l Z o_m32 jdk_42_method_84_code 3 (some .int) ws o_R3 #[(.ref x), (.ref y)] h0 (Qixs1_1 Z x y t u c0 d0 zC_ h0 n0) := by
  refine o_enter o_pn_0 (fun m => o_ef5 m x y) (fun p e s m below meth c s₁ hx hby hml hZ hown hnm hlk hrt X0 e0 => ?_)
  have N0 := Fr.nil n0
  have y_ := @hb _ _ hby
  have k_ := @o_k _ _ hw
  refine o_aloadN X0 hx (y_ oD32_0) rfl rfl ?_
  refine o_vir (y := o_m0) (b := x) (argsL := []) (S := []) (W := 0) X0 hx hZ hown (k_ 73 rfl) (k_ 74 rfl) (k_ 76 rfl) (k_ 75 rfl) (backOf (W := 0) (rmcod l Z a0 hw [] x zC_ h0 n0 O0 S_x.2.1 SC_ hC_) hZ (k_ 77 rfl) (k_ 6 rfl) (by decide) (by decide)) e0 S_x.1 hml (lenOf o_pd__28_29B rfl) (y_ oD32_1) (fun T1 L1 v1 X1 hQ1 => ?_)
  obtain ⟨rfl, N1q, hh1⟩ := hQ1
  have N1 := Fr.app N0 N1q
  show o_G p e below _ T1 (mkF m 4 #[vR x, vR y, .unset] [(.int 0)])
  refine o_istoreN X1 hx (y_ oD32_4) (A' := #[vR x, vR y, vI 0]) rfl ?_
  refine o_iloadN X1 hx (y_ oD32_5) rfl ?_
  refine o_aloadN X1 hx (y_ oD32_6) rfl rfl ?_
  refine o_vir (y := o_m0) (b := y) (argsL := []) (S := [(.int 0)]) (W := 1) X1 hx hZ hown (k_ 73 rfl) (k_ 74 rfl) (k_ 76 rfl) (k_ 75 rfl) (backOf (W := 1) (rmcod l Z a0 hw [] y zC_ h0 n0 O0 S_y.2.1 SC_ hC_) hZ (k_ 77 rfl) (k_ 6 rfl) (by decide) (by decide)) hh1 S_y.1 hml (lenOf o_pd__28_29B rfl) (y_ oD32_7) (fun T2 L2 v2 X2 hQ2 => ?_)
  obtain ⟨rfl, N2q, hh2⟩ := hQ2
  have N2 := Fr.app N1 N2q
  show o_G p e below _ T2 (mkF m 10 #[vR x, vR y, vI 0] [(.int 0), (.int 0)])
  refine o_iCF X2 hx (y_ oD32_10) ?_
  refine o_aloadN X2 hx (y_ oD32_13) rfl rfl ?_
  refine o_vir (y := o_m1) (b := x) (argsL := []) (S := []) (W := 0) X2 hx hZ hown (k_ 78 rfl) (k_ 79 rfl) (k_ 81 rfl) (k_ 80 rfl) (backOf (W := 0) (rmisl l Z a0 hw [] x zC_ h0 n0 O0 S_x.2.1 SC_ hC_) hZ (k_ 82 rfl) (k_ 6 rfl) (by decide) (by decide)) hh2 S_x.1 hml (lenOf o_pd__28_29Z rfl) (y_ oD32_14) (fun T3 L3 v3 X3 hQ3 => ?_)
  obtain ⟨rfl, N3q, hh3⟩ := hQ3
  have N3 := Fr.app N2 N3q
  show o_G p e below _ T3 (mkF m 17 #[vR x, vR y, vI 0] [(.int 1)])
  refine o_iFF X3 hx (y_ oD32_17) ?_
  obtain ⟨kb4, Bv4⟩ := S_x.2.2.2.1
  have Bw4 : Arv Z h0 t kb4 .byte (1 : Int32) [.int c0.toInt8.toInt32] (.int 0) := Bv4
  obtain ⟨kb5, Bv5⟩ := S_y.2.2.2.1
  have Bw5 : Arv Z h0 u kb5 .byte (1 : Int32) [.int d0.toInt8.toInt32] (.int 0) := Bv5
  refine o_aloadN X3 hx (y_ oD32_20) rfl rfl ?_
  refine o_getF X3 hx hZ hown (host := "") (Or.inl (k_ 32 rfl)) Via.refl hh3 S_x.2.2.1 (y_ oD32_21) (fun T6 X6 e6 => ?_)
  refine o_aloadN X6 hx (y_ oD32_24) rfl rfl ?_
  refine o_getF X6 hx hZ hown (host := "") (Or.inl (k_ 32 rfl)) Via.refl e6 S_y.2.2.1 (y_ oD32_25) (fun T7 X7 e7 => ?_)
  refine o_sta (y := o_m31) (argsL := [(.ref t), (.ref u)]) (S := []) (W := 0) X7 hx hZ hown (k_ 83 rfl) (k_ 84 rfl) (k_ 85 rfl) (k_ 86 rfl) (backOf (W := 0) (rmixt1_1 l Z a0 hw [] t u kb4 kb5 (c0.toInt8.toInt32) (d0.toInt8.toInt32) h0 n0 O0 Bw4 Bw5) hZ (k_ 86 rfl) (k_ 85 rfl) (by decide) (by decide)) e7 hml (lenOf o_pd__28_5bB_5bB_29I rfl) (y_ oD32_28) (fun T8 L8 v8 X8 hQ8 => ?_)
  obtain ⟨r8, rfl, N8q, hh8, hr8⟩ := hQ8
  have N8 := Fr.app N3 N8q
  show o_G p e below _ T8 (mkF m 31 #[vR x, vR y, vI 0] [(.int r8)])
  refine o_gO (t := 45) X8 hx (y_ oD32_31) ?_
  exact o_retI X8 hx hrt hlk (y_ oD32_45) (by decide) (by decide) (o_hQ hh8 ⟨_, rfl, N8, rfl, by rw [← o_occ_b ([c0] : List Int32) ([d0] : List Int32) S_x.2.2.2.2.1 S_y.2.2.2.2.1]; exact hr8⟩)
abbrev Qcon1_1 (Z : State) (x : Addr) (y : Addr) (t : Addr) (u : Addr) (c0 : Int32) (d0 : Int32) (zC_ : Int32) (h0 : Heap) (n0 : Nat) (v : Option Value) (h : Heap) (L : List Loc) : Prop := v = some (.int (if o_occ ([c0] : List Int32) ([d0] : List Int32) = true then 1 else 0)) ∧ Fr n0 L ∧ h = h0
set_option maxRecDepth 65536 in
set_option maxHeartbeats 40000000 in
theorem rmcon1_1 (l : Launch) (Z : State) (a0 : Array Value) (hw : ∀ d ∈ tables_1, d.before a0 Z = true) (ws : List Jvm.Cond) (x : Addr) (y : Addr) (t : Addr) (u : Addr) (c0 : Int32) (d0 : Int32) (zC_ : Int32) (h0 : Heap) (n0 : Nat) (O0 : Old Z n0 h0) (S_x : o_Str Z h0 x t ([c0] : List Int32)) (S_y : o_Str Z h0 y u ([d0] : List Int32)) (SC_ : o_SC Z zC_) (hC_ : ¬ zC_ = 0) :
    o_Met l Z o_m33 jdk_42_method_97_code 2 (some .boolean) ws o_R4 #[(.ref x), (.ref y)] h0 (Qcon1_1 Z x y t u c0 d0 zC_ h0 n0) := by
  refine o_enter o_pn_0 (fun m => o_ef2 m x y) (fun p e s m below meth c s₁ hx hby hml hZ hown hnm hlk hrt X0 e0 => ?_)
  have N0 := Fr.nil n0
  have y_ := @hb _ _ hby
  have k_ := @o_k _ _ hw
  refine o_aloadN X0 hx (y_ oD34_0) rfl rfl ?_
  refine o_aloadN X0 hx (y_ oD34_1) rfl rfl ?_
  refine o_iface (xi := o_m35) (y := o_m34) (b := y) (argsL := []) (S := [(.ref x)]) (W := 1) X0 hx hZ hown (k_ 59 rfl) (k_ 60 rfl) (mvT hZ (k_ 61 rfl)) (k_ 62 rfl) (k_ 63 rfl) (k_ 64 rfl) (k_ 65 rfl) (k_ 66 rfl) (by decide) (backOf (W := 1) (rmtos l Z a0 hw [] y h0 n0 O0) hZ (k_ 67 rfl) (k_ 6 rfl) (by decide) (by decide)) e0 S_y.1 (by rw [hml]; rfl) (lenOf o_pd__28_29Ljava_2flang_2fString_3b rfl) rfl (Nat.le_of_eq rfl) (y_ oD34_2) (by decide) (by decide) (fun T1 L1 v1 X1 hQ1 => ?_)
  obtain ⟨rfl, N1q, hh1⟩ := hQ1
  have N1 := Fr.app N0 N1q
  show o_G p e below _ T1 (mkF m 7 #[vR x, vR y] [(.ref y), (.ref x)])
  refine o_vir (y := o_m32) (b := x) (argsL := [(.ref y)]) (S := []) (W := 0) X1 hx hZ hown (k_ 68 rfl) (k_ 69 rfl) (k_ 71 rfl) (k_ 70 rfl) (backOf (W := 0) (rmixs1_1 l Z a0 hw [] x y t u c0 d0 zC_ h0 n0 O0 S_x S_y SC_ hC_) hZ (k_ 72 rfl) (k_ 6 rfl) (by decide) (by decide)) hh1 S_x.1 hml (lenOf o_pd__28Ljava_2flang_2fString_3b_29I rfl) (y_ oD34_7) (fun T2 L2 v2 X2 hQ2 => ?_)
  obtain ⟨r2, rfl, N2q, hh2, hr2⟩ := hQ2
  have N2 := Fr.app N1 N2q
  show o_G p e below _ T2 (mkF m 10 #[vR x, vR y] [(.int r2)])
  refine o_iF (t := 17) X2 hx (y_ oD34_10) (fun hq => ?_) (fun hq => ?_)
  · have hc10 := o_h_lt.1 hq
    refine o_iconst X2 hx (y_ oD34_17) (x := 0) rfl ?_
    exact o_retN X2 hx (t := .boolean) hrt hlk (by simp) (y_ oD34_18) rfl (by decide) (by decide) (o_hQ hh2 ⟨by rw [if_neg (hr2.mp hc10)], N2, rfl⟩)
  have hc10 := o_h_lt.2 hq
  refine o_iconst X2 hx (y_ oD34_13) (x := 1) rfl ?_
  refine o_gO (t := 18) X2 hx (y_ oD34_14) ?_
  exact o_retN X2 hx (t := .boolean) hrt hlk (by simp) (y_ oD34_18) rfl (by decide) (by decide) (o_hQ hh2 ⟨by rw [if_pos (Classical.byContradiction fun q => hc10 (hr2.mpr q))], N2, rfl⟩)
abbrev Qixf2_1 (Z : State) (a : Addr) (b : Addr) (ka : ClassId) (kb : ClassId) (v0 : Int32) (v1 : Int32) (s0 : Int32) (h0 : Heap) (n0 : Nat) (v : Option Value) (h : Heap) (L : List Loc) : Prop := ∃ r : Int32, v = some (.int r) ∧ Fr n0 L ∧ h = h0 ∧ (r < 0 ↔ ¬ o_occ ([v0, v1] : List Int32) ([s0] : List Int32) = true)
set_option maxRecDepth 65536 in
set_option maxHeartbeats 40000000 in
theorem rmixf2_1 (l : Launch) (Z : State) (a0 : Array Value) (hw : ∀ d ∈ tables_1, d.before a0 Z = true) (ws : List Jvm.Cond) (a : Addr) (b : Addr) (ka : ClassId) (kb : ClassId) (v0 : Int32) (v1 : Int32) (s0 : Int32) (h0 : Heap) (n0 : Nat) (O0 : Old Z n0 h0) (V_a : Arv Z h0 a ka .byte (2 : Int32) [.int v0, .int v1] (.int 0)) (V_b : Arv Z h0 b kb .byte (1 : Int32) [.int s0] (.int 0)) :
    o_Met l Z o_m36 jdk_43_method_25_code 11 (some .int) ws o_R0 #[(.ref a), (.int 2), (.ref b), (.int 1), (.int 0)] h0 (Qixf2_1 Z a b ka kb v0 v1 s0 h0 n0) := by
  refine o_enter o_pn_6 (fun m => o_ef17 m a b) (fun p e s m below meth c s₁ hx hby hml hZ hown hnm hlk hrt X0 e0 => ?_)
  have N0 := Fr.nil n0
  have y_ := @hb _ _ hby
  have k_ := @o_k _ _ hw
  refine o_aloadN X0 hx (y_ oD35_0) rfl rfl ?_
  refine o_iconst X0 hx (y_ oD35_1) (x := 0) rfl ?_
  refine o_bload (v := (.int s0)) X0 hx hZ e0 V_b (y_ oD35_2) ⟨by decide, by decide⟩ rfl ?_
  refine o_istore X0 hx (y_ oD35_3) (A' := #[vR a, vI 2, vR b, vI 1, vI 0, vI s0, .unset, .unset, .unset, .unset, .unset]) rfl ?_
  refine o_iloadN X0 hx (y_ oD35_5) rfl ?_
  refine o_iloadN X0 hx (y_ oD35_6) rfl ?_
  refine o_isub X0 hx (y_ oD35_7) ?_
  refine o_valE (z := 1) (by decide) ?_
  refine o_istore X0 hx (y_ oD35_8) (A' := #[vR a, vI 2, vR b, vI 1, vI 0, vI s0, vI 1, .unset, .unset, .unset, .unset]) rfl ?_
  refine o_iload X0 hx (y_ oD35_10) rfl ?_
  refine o_istore X0 hx (y_ oD35_12) (A' := #[vR a, vI 2, vR b, vI 1, vI 0, vI s0, vI 1, vI 0, .unset, .unset, .unset]) rfl ?_
  refine o_iload X0 hx (y_ oD35_14) rfl ?_
  refine o_iload X0 hx (y_ oD35_16) rfl ?_
  refine o_iCF X0 hx (y_ oD35_18) ?_
  refine o_aloadN X0 hx (y_ oD35_21) rfl rfl ?_
  refine o_iload X0 hx (y_ oD35_22) rfl ?_
  refine o_bload (v := (.int v0)) X0 hx hZ e0 V_a (y_ oD35_24) ⟨by decide, by decide⟩ rfl ?_
  refine o_iload X0 hx (y_ oD35_25) rfl ?_
  refine o_iC (t := 52) X0 hx (y_ oD35_27) (fun hq => ?_) (fun hq => ?_)
  · have hc27_1 := o_c_eq.1 hq
    refine o_iload X0 hx (y_ oD35_52) rfl ?_
    refine o_iload X0 hx (y_ oD35_54) rfl ?_
    refine o_iCF X0 hx (y_ oD35_56) ?_
    refine o_iload X0 hx (y_ oD35_59) rfl ?_
    refine o_iconst X0 hx (y_ oD35_61) (x := 1) rfl ?_
    refine o_iadd X0 hx (y_ oD35_62) ?_
    refine o_valE (z := 1) (by decide) ?_
    refine o_istore X0 hx (y_ oD35_63) (A' := #[vR a, vI 2, vR b, vI 1, vI 0, vI s0, vI 1, vI 0, vI 1, .unset, .unset]) rfl ?_
    refine o_iload X0 hx (y_ oD35_65) rfl ?_
    refine o_iloadN X0 hx (y_ oD35_67) rfl ?_
    refine o_iadd X0 hx (y_ oD35_68) ?_
    refine o_valE (z := 2) (by decide) ?_
    refine o_iconst X0 hx (y_ oD35_69) (x := 1) rfl ?_
    refine o_isub X0 hx (y_ oD35_70) ?_
    refine o_valE (z := 1) (by decide) ?_
    refine o_istore X0 hx (y_ oD35_71) (A' := #[vR a, vI 2, vR b, vI 1, vI 0, vI s0, vI 1, vI 0, vI 1, vI 1, .unset]) rfl ?_
    refine o_iconst X0 hx (y_ oD35_73) (x := 1) rfl ?_
    refine o_istore X0 hx (y_ oD35_74) (A' := #[vR a, vI 2, vR b, vI 1, vI 0, vI s0, vI 1, vI 0, vI 1, vI 1, vI 1]) rfl ?_
    refine o_iload X0 hx (y_ oD35_76) rfl ?_
    refine o_iload X0 hx (y_ oD35_78) rfl ?_
    refine o_iCT (t := 103) X0 hx (y_ oD35_80) ?_
    refine o_iload X0 hx (y_ oD35_103) rfl ?_
    refine o_iload X0 hx (y_ oD35_105) rfl ?_
    refine o_iCF X0 hx (y_ oD35_107) ?_
    refine o_iload X0 hx (y_ oD35_110) rfl ?_
    exact o_retI X0 hx hrt hlk (y_ oD35_112) (by decide) (by decide) (o_hQ e0 ⟨_, rfl, N0, rfl, (o_lf2 v0 v1 s0 hc27_1)⟩)
  have hc27_1 := o_c_eq.2 hq
  refine o_iincK X0 hx (y_ oD35_30) (y := 1) rfl rfl (z := 1) (by decide) (A' := #[vR a, vI 2, vR b, vI 1, vI 0, vI s0, vI 1, vI 1, .unset, .unset, .unset]) rfl ?_
  refine o_iload X0 hx (y_ oD35_33) rfl ?_
  refine o_iload X0 hx (y_ oD35_35) rfl ?_
  refine o_iCF X0 hx (y_ oD35_37) ?_
  refine o_aloadN X0 hx (y_ oD35_40) rfl rfl ?_
  refine o_iload X0 hx (y_ oD35_41) rfl ?_
  refine o_bload (v := (.int v1)) X0 hx hZ e0 V_a (y_ oD35_43) ⟨by decide, by decide⟩ rfl ?_
  refine o_iload X0 hx (y_ oD35_44) rfl ?_
  refine o_iC (t := 52) X0 hx (y_ oD35_46) (fun hq => ?_) (fun hq => ?_)
  · have hc46_2 := o_c_eq.1 hq
    refine o_iload X0 hx (y_ oD35_52) rfl ?_
    refine o_iload X0 hx (y_ oD35_54) rfl ?_
    refine o_iCF X0 hx (y_ oD35_56) ?_
    refine o_iload X0 hx (y_ oD35_59) rfl ?_
    refine o_iconst X0 hx (y_ oD35_61) (x := 1) rfl ?_
    refine o_iadd X0 hx (y_ oD35_62) ?_
    refine o_valE (z := 2) (by decide) ?_
    refine o_istore X0 hx (y_ oD35_63) (A' := #[vR a, vI 2, vR b, vI 1, vI 0, vI s0, vI 1, vI 1, vI 2, .unset, .unset]) rfl ?_
    refine o_iload X0 hx (y_ oD35_65) rfl ?_
    refine o_iloadN X0 hx (y_ oD35_67) rfl ?_
    refine o_iadd X0 hx (y_ oD35_68) ?_
    refine o_valE (z := 3) (by decide) ?_
    refine o_iconst X0 hx (y_ oD35_69) (x := 1) rfl ?_
    refine o_isub X0 hx (y_ oD35_70) ?_
    refine o_valE (z := 2) (by decide) ?_
    refine o_istore X0 hx (y_ oD35_71) (A' := #[vR a, vI 2, vR b, vI 1, vI 0, vI s0, vI 1, vI 1, vI 2, vI 2, .unset]) rfl ?_
    refine o_iconst X0 hx (y_ oD35_73) (x := 1) rfl ?_
    refine o_istore X0 hx (y_ oD35_74) (A' := #[vR a, vI 2, vR b, vI 1, vI 0, vI s0, vI 1, vI 1, vI 2, vI 2, vI 1]) rfl ?_
    refine o_iload X0 hx (y_ oD35_76) rfl ?_
    refine o_iload X0 hx (y_ oD35_78) rfl ?_
    refine o_iCT (t := 103) X0 hx (y_ oD35_80) ?_
    refine o_iload X0 hx (y_ oD35_103) rfl ?_
    refine o_iload X0 hx (y_ oD35_105) rfl ?_
    refine o_iCF X0 hx (y_ oD35_107) ?_
    refine o_iload X0 hx (y_ oD35_110) rfl ?_
    exact o_retI X0 hx hrt hlk (y_ oD35_112) (by decide) (by decide) (o_hQ e0 ⟨_, rfl, N0, rfl, (o_lf3 v0 v1 s0 hc27_1 hc46_2)⟩)
  have hc46_2 := o_c_eq.2 hq
  refine o_gO (t := 30) X0 hx (y_ oD35_49) ?_
  refine o_iincK X0 hx (y_ oD35_30) (y := 1) rfl rfl (z := 2) (by decide) (A' := #[vR a, vI 2, vR b, vI 1, vI 0, vI s0, vI 1, vI 2, .unset, .unset, .unset]) rfl ?_
  refine o_iload X0 hx (y_ oD35_33) rfl ?_
  refine o_iload X0 hx (y_ oD35_35) rfl ?_
  refine o_iCT (t := 52) X0 hx (y_ oD35_37) ?_
  refine o_iload X0 hx (y_ oD35_52) rfl ?_
  refine o_iload X0 hx (y_ oD35_54) rfl ?_
  refine o_iCT (t := 113) X0 hx (y_ oD35_56) ?_
  refine o_iincK X0 hx (y_ oD35_113) (y := 1) rfl rfl (z := 3) (by decide) (A' := #[vR a, vI 2, vR b, vI 1, vI 0, vI s0, vI 1, vI 3, .unset, .unset, .unset]) rfl ?_
  refine o_gO (t := 14) X0 hx (y_ oD35_116) ?_
  refine o_iload X0 hx (y_ oD35_14) rfl ?_
  refine o_iload X0 hx (y_ oD35_16) rfl ?_
  refine o_iCT (t := 119) X0 hx (y_ oD35_18) ?_
  refine o_iconst X0 hx (y_ oD35_119) (x := (-1 : Int32)) rfl ?_
  exact o_retI X0 hx hrt hlk (y_ oD35_120) (by decide) (by decide) (o_hQ e0 ⟨_, rfl, N0, rfl, (o_lf4 v0 v1 s0 hc27_1 hc46_2)⟩)
abbrev Qixt2_1 (Z : State) (a : Addr) (b : Addr) (ka : ClassId) (kb : ClassId) (v0 : Int32) (v1 : Int32) (s0 : Int32) (h0 : Heap) (n0 : Nat) (v : Option Value) (h : Heap) (L : List Loc) : Prop := ∃ r : Int32, v = some (.int r) ∧ Fr n0 L ∧ h = h0 ∧ (r < 0 ↔ ¬ o_occ ([v0, v1] : List Int32) ([s0] : List Int32) = true)
set_option maxRecDepth 65536 in
set_option maxHeartbeats 40000000 in
theorem rmixt2_1 (l : Launch) (Z : State) (a0 : Array Value) (hw : ∀ d ∈ tables_1, d.before a0 Z = true) (ws : List Jvm.Cond) (a : Addr) (b : Addr) (ka : ClassId) (kb : ClassId) (v0 : Int32) (v1 : Int32) (s0 : Int32) (h0 : Heap) (n0 : Nat) (O0 : Old Z n0 h0) (V_a : Arv Z h0 a ka .byte (2 : Int32) [.int v0, .int v1] (.int 0)) (V_b : Arv Z h0 b kb .byte (1 : Int32) [.int s0] (.int 0)) :
    o_Met l Z o_m31 jdk_43_method_24_code 2 (some .int) ws o_R19 #[(.ref a), (.ref b)] h0 (Qixt2_1 Z a b ka kb v0 v1 s0 h0 n0) := by
  refine o_enter o_pn_6 (fun m => o_ef2 m a b) (fun p e s m below meth c s₁ hx hby hml hZ hown hnm hlk hrt X0 e0 => ?_)
  have N0 := Fr.nil n0
  have y_ := @hb _ _ hby
  have k_ := @o_k _ _ hw
  refine o_aloadN X0 hx (y_ oD31_0) rfl rfl ?_
  refine o_alen (n := 1) X0 hx hZ e0 V_b (y_ oD31_1) ?_
  refine o_iFT (t := 7) X0 hx (y_ oD31_2) ?_
  refine o_aloadN X0 hx (y_ oD31_7) rfl rfl ?_
  refine o_alen (n := 2) X0 hx hZ e0 V_a (y_ oD31_8) ?_
  refine o_iFT (t := 14) X0 hx (y_ oD31_9) ?_
  refine o_aloadN X0 hx (y_ oD31_14) rfl rfl ?_
  refine o_aloadN X0 hx (y_ oD31_15) rfl rfl ?_
  refine o_alen (n := 2) X0 hx hZ e0 V_a (y_ oD31_16) ?_
  refine o_aloadN X0 hx (y_ oD31_17) rfl rfl ?_
  refine o_aloadN X0 hx (y_ oD31_18) rfl rfl ?_
  refine o_alen (n := 1) X0 hx hZ e0 V_b (y_ oD31_19) ?_
  refine o_iconst X0 hx (y_ oD31_20) (x := 0) rfl ?_
  refine o_sta (y := o_m36) (argsL := [(.ref a), (.int 2), (.ref b), (.int 1), (.int 0)]) (S := []) (W := 0) X0 hx hZ hown (k_ 87 rfl) (k_ 88 rfl) (k_ 85 rfl) (k_ 89 rfl) (backOf (W := 0) (rmixf2_1 l Z a0 hw [] a b ka kb v0 v1 s0 h0 n0 O0 V_a V_b) hZ (k_ 89 rfl) (k_ 85 rfl) (by decide) (by decide)) e0 hml (lenOf o_pd__28_5bBI_5bBII_29I rfl) (y_ oD31_21) (fun T1 L1 v1 X1 hQ1 => ?_)
  obtain ⟨r1, rfl, N1q, hh1, hr1⟩ := hQ1
  have N1 := Fr.app N0 N1q
  show o_G p e below _ T1 (mkF m 24 #[vR a, vR b] [(.int r1)])
  exact o_retI X1 hx hrt hlk (y_ oD31_24) (by decide) (by decide) (o_hQ hh1 ⟨_, rfl, N1, rfl, hr1⟩)
abbrev Qixs2_1 (Z : State) (x : Addr) (y : Addr) (t : Addr) (u : Addr) (c0 : Int32) (c1 : Int32) (d0 : Int32) (zC_ : Int32) (h0 : Heap) (n0 : Nat) (v : Option Value) (h : Heap) (L : List Loc) : Prop := ∃ r : Int32, v = some (.int r) ∧ Fr n0 L ∧ h = h0 ∧ (r < 0 ↔ ¬ o_occ ([c0, c1] : List Int32) ([d0] : List Int32) = true)
set_option maxRecDepth 65536 in
set_option maxHeartbeats 40000000 in
theorem rmixs2_1 (l : Launch) (Z : State) (a0 : Array Value) (hw : ∀ d ∈ tables_1, d.before a0 Z = true) (ws : List Jvm.Cond) (x : Addr) (y : Addr) (t : Addr) (u : Addr) (c0 : Int32) (c1 : Int32) (d0 : Int32) (zC_ : Int32) (h0 : Heap) (n0 : Nat) (O0 : Old Z n0 h0) (S_x : o_Str Z h0 x t ([c0, c1] : List Int32)) (S_y : o_Str Z h0 y u ([d0] : List Int32)) (SC_ : o_SC Z zC_) (hC_ : ¬ zC_ = 0) :
    o_Met l Z o_m32 jdk_42_method_84_code 3 (some .int) ws o_R3 #[(.ref x), (.ref y)] h0 (Qixs2_1 Z x y t u c0 c1 d0 zC_ h0 n0) := by
  refine o_enter o_pn_0 (fun m => o_ef5 m x y) (fun p e s m below meth c s₁ hx hby hml hZ hown hnm hlk hrt X0 e0 => ?_)
  have N0 := Fr.nil n0
  have y_ := @hb _ _ hby
  have k_ := @o_k _ _ hw
  refine o_aloadN X0 hx (y_ oD32_0) rfl rfl ?_
  refine o_vir (y := o_m0) (b := x) (argsL := []) (S := []) (W := 0) X0 hx hZ hown (k_ 73 rfl) (k_ 74 rfl) (k_ 76 rfl) (k_ 75 rfl) (backOf (W := 0) (rmcod l Z a0 hw [] x zC_ h0 n0 O0 S_x.2.1 SC_ hC_) hZ (k_ 77 rfl) (k_ 6 rfl) (by decide) (by decide)) e0 S_x.1 hml (lenOf o_pd__28_29B rfl) (y_ oD32_1) (fun T1 L1 v1 X1 hQ1 => ?_)
  obtain ⟨rfl, N1q, hh1⟩ := hQ1
  have N1 := Fr.app N0 N1q
  show o_G p e below _ T1 (mkF m 4 #[vR x, vR y, .unset] [(.int 0)])
  refine o_istoreN X1 hx (y_ oD32_4) (A' := #[vR x, vR y, vI 0]) rfl ?_
  refine o_iloadN X1 hx (y_ oD32_5) rfl ?_
  refine o_aloadN X1 hx (y_ oD32_6) rfl rfl ?_
  refine o_vir (y := o_m0) (b := y) (argsL := []) (S := [(.int 0)]) (W := 1) X1 hx hZ hown (k_ 73 rfl) (k_ 74 rfl) (k_ 76 rfl) (k_ 75 rfl) (backOf (W := 1) (rmcod l Z a0 hw [] y zC_ h0 n0 O0 S_y.2.1 SC_ hC_) hZ (k_ 77 rfl) (k_ 6 rfl) (by decide) (by decide)) hh1 S_y.1 hml (lenOf o_pd__28_29B rfl) (y_ oD32_7) (fun T2 L2 v2 X2 hQ2 => ?_)
  obtain ⟨rfl, N2q, hh2⟩ := hQ2
  have N2 := Fr.app N1 N2q
  show o_G p e below _ T2 (mkF m 10 #[vR x, vR y, vI 0] [(.int 0), (.int 0)])
  refine o_iCF X2 hx (y_ oD32_10) ?_
  refine o_aloadN X2 hx (y_ oD32_13) rfl rfl ?_
  refine o_vir (y := o_m1) (b := x) (argsL := []) (S := []) (W := 0) X2 hx hZ hown (k_ 78 rfl) (k_ 79 rfl) (k_ 81 rfl) (k_ 80 rfl) (backOf (W := 0) (rmisl l Z a0 hw [] x zC_ h0 n0 O0 S_x.2.1 SC_ hC_) hZ (k_ 82 rfl) (k_ 6 rfl) (by decide) (by decide)) hh2 S_x.1 hml (lenOf o_pd__28_29Z rfl) (y_ oD32_14) (fun T3 L3 v3 X3 hQ3 => ?_)
  obtain ⟨rfl, N3q, hh3⟩ := hQ3
  have N3 := Fr.app N2 N3q
  show o_G p e below _ T3 (mkF m 17 #[vR x, vR y, vI 0] [(.int 1)])
  refine o_iFF X3 hx (y_ oD32_17) ?_
  obtain ⟨kb4, Bv4⟩ := S_x.2.2.2.1
  have Bw4 : Arv Z h0 t kb4 .byte (2 : Int32) [.int c0.toInt8.toInt32, .int c1.toInt8.toInt32] (.int 0) := Bv4
  obtain ⟨kb5, Bv5⟩ := S_y.2.2.2.1
  have Bw5 : Arv Z h0 u kb5 .byte (1 : Int32) [.int d0.toInt8.toInt32] (.int 0) := Bv5
  refine o_aloadN X3 hx (y_ oD32_20) rfl rfl ?_
  refine o_getF X3 hx hZ hown (host := "") (Or.inl (k_ 32 rfl)) Via.refl hh3 S_x.2.2.1 (y_ oD32_21) (fun T6 X6 e6 => ?_)
  refine o_aloadN X6 hx (y_ oD32_24) rfl rfl ?_
  refine o_getF X6 hx hZ hown (host := "") (Or.inl (k_ 32 rfl)) Via.refl e6 S_y.2.2.1 (y_ oD32_25) (fun T7 X7 e7 => ?_)
  refine o_sta (y := o_m31) (argsL := [(.ref t), (.ref u)]) (S := []) (W := 0) X7 hx hZ hown (k_ 83 rfl) (k_ 84 rfl) (k_ 85 rfl) (k_ 86 rfl) (backOf (W := 0) (rmixt2_1 l Z a0 hw [] t u kb4 kb5 (c0.toInt8.toInt32) (c1.toInt8.toInt32) (d0.toInt8.toInt32) h0 n0 O0 Bw4 Bw5) hZ (k_ 86 rfl) (k_ 85 rfl) (by decide) (by decide)) e7 hml (lenOf o_pd__28_5bB_5bB_29I rfl) (y_ oD32_28) (fun T8 L8 v8 X8 hQ8 => ?_)
  obtain ⟨r8, rfl, N8q, hh8, hr8⟩ := hQ8
  have N8 := Fr.app N3 N8q
  show o_G p e below _ T8 (mkF m 31 #[vR x, vR y, vI 0] [(.int r8)])
  refine o_gO (t := 45) X8 hx (y_ oD32_31) ?_
  exact o_retI X8 hx hrt hlk (y_ oD32_45) (by decide) (by decide) (o_hQ hh8 ⟨_, rfl, N8, rfl, by rw [← o_occ_b ([c0, c1] : List Int32) ([d0] : List Int32) S_x.2.2.2.2.1 S_y.2.2.2.2.1]; exact hr8⟩)
abbrev Qcon2_1 (Z : State) (x : Addr) (y : Addr) (t : Addr) (u : Addr) (c0 : Int32) (c1 : Int32) (d0 : Int32) (zC_ : Int32) (h0 : Heap) (n0 : Nat) (v : Option Value) (h : Heap) (L : List Loc) : Prop := v = some (.int (if o_occ ([c0, c1] : List Int32) ([d0] : List Int32) = true then 1 else 0)) ∧ Fr n0 L ∧ h = h0
set_option maxRecDepth 65536 in
set_option maxHeartbeats 40000000 in
theorem rmcon2_1 (l : Launch) (Z : State) (a0 : Array Value) (hw : ∀ d ∈ tables_1, d.before a0 Z = true) (ws : List Jvm.Cond) (x : Addr) (y : Addr) (t : Addr) (u : Addr) (c0 : Int32) (c1 : Int32) (d0 : Int32) (zC_ : Int32) (h0 : Heap) (n0 : Nat) (O0 : Old Z n0 h0) (S_x : o_Str Z h0 x t ([c0, c1] : List Int32)) (S_y : o_Str Z h0 y u ([d0] : List Int32)) (SC_ : o_SC Z zC_) (hC_ : ¬ zC_ = 0) :
    o_Met l Z o_m33 jdk_42_method_97_code 2 (some .boolean) ws o_R4 #[(.ref x), (.ref y)] h0 (Qcon2_1 Z x y t u c0 c1 d0 zC_ h0 n0) := by
  refine o_enter o_pn_0 (fun m => o_ef2 m x y) (fun p e s m below meth c s₁ hx hby hml hZ hown hnm hlk hrt X0 e0 => ?_)
  have N0 := Fr.nil n0
  have y_ := @hb _ _ hby
  have k_ := @o_k _ _ hw
  refine o_aloadN X0 hx (y_ oD34_0) rfl rfl ?_
  refine o_aloadN X0 hx (y_ oD34_1) rfl rfl ?_
  refine o_iface (xi := o_m35) (y := o_m34) (b := y) (argsL := []) (S := [(.ref x)]) (W := 1) X0 hx hZ hown (k_ 59 rfl) (k_ 60 rfl) (mvT hZ (k_ 61 rfl)) (k_ 62 rfl) (k_ 63 rfl) (k_ 64 rfl) (k_ 65 rfl) (k_ 66 rfl) (by decide) (backOf (W := 1) (rmtos l Z a0 hw [] y h0 n0 O0) hZ (k_ 67 rfl) (k_ 6 rfl) (by decide) (by decide)) e0 S_y.1 (by rw [hml]; rfl) (lenOf o_pd__28_29Ljava_2flang_2fString_3b rfl) rfl (Nat.le_of_eq rfl) (y_ oD34_2) (by decide) (by decide) (fun T1 L1 v1 X1 hQ1 => ?_)
  obtain ⟨rfl, N1q, hh1⟩ := hQ1
  have N1 := Fr.app N0 N1q
  show o_G p e below _ T1 (mkF m 7 #[vR x, vR y] [(.ref y), (.ref x)])
  refine o_vir (y := o_m32) (b := x) (argsL := [(.ref y)]) (S := []) (W := 0) X1 hx hZ hown (k_ 68 rfl) (k_ 69 rfl) (k_ 71 rfl) (k_ 70 rfl) (backOf (W := 0) (rmixs2_1 l Z a0 hw [] x y t u c0 c1 d0 zC_ h0 n0 O0 S_x S_y SC_ hC_) hZ (k_ 72 rfl) (k_ 6 rfl) (by decide) (by decide)) hh1 S_x.1 hml (lenOf o_pd__28Ljava_2flang_2fString_3b_29I rfl) (y_ oD34_7) (fun T2 L2 v2 X2 hQ2 => ?_)
  obtain ⟨r2, rfl, N2q, hh2, hr2⟩ := hQ2
  have N2 := Fr.app N1 N2q
  show o_G p e below _ T2 (mkF m 10 #[vR x, vR y] [(.int r2)])
  refine o_iF (t := 17) X2 hx (y_ oD34_10) (fun hq => ?_) (fun hq => ?_)
  · have hc10 := o_h_lt.1 hq
    refine o_iconst X2 hx (y_ oD34_17) (x := 0) rfl ?_
    exact o_retN X2 hx (t := .boolean) hrt hlk (by simp) (y_ oD34_18) rfl (by decide) (by decide) (o_hQ hh2 ⟨by rw [if_neg (hr2.mp hc10)], N2, rfl⟩)
  have hc10 := o_h_lt.2 hq
  refine o_iconst X2 hx (y_ oD34_13) (x := 1) rfl ?_
  refine o_gO (t := 18) X2 hx (y_ oD34_14) ?_
  exact o_retN X2 hx (t := .boolean) hrt hlk (by simp) (y_ oD34_18) rfl (by decide) (by decide) (o_hQ hh2 ⟨by rw [if_pos (Classical.byContradiction fun q => hc10 (hr2.mpr q))], N2, rfl⟩)
abbrev Qixf3_1 (Z : State) (a : Addr) (b : Addr) (ka : ClassId) (kb : ClassId) (v0 : Int32) (v1 : Int32) (v2 : Int32) (s0 : Int32) (h0 : Heap) (n0 : Nat) (v : Option Value) (h : Heap) (L : List Loc) : Prop := ∃ r : Int32, v = some (.int r) ∧ Fr n0 L ∧ h = h0 ∧ (r < 0 ↔ ¬ o_occ ([v0, v1, v2] : List Int32) ([s0] : List Int32) = true)
set_option maxRecDepth 65536 in
set_option maxHeartbeats 40000000 in
theorem rmixf3_1 (l : Launch) (Z : State) (a0 : Array Value) (hw : ∀ d ∈ tables_1, d.before a0 Z = true) (ws : List Jvm.Cond) (a : Addr) (b : Addr) (ka : ClassId) (kb : ClassId) (v0 : Int32) (v1 : Int32) (v2 : Int32) (s0 : Int32) (h0 : Heap) (n0 : Nat) (O0 : Old Z n0 h0) (V_a : Arv Z h0 a ka .byte (3 : Int32) [.int v0, .int v1, .int v2] (.int 0)) (V_b : Arv Z h0 b kb .byte (1 : Int32) [.int s0] (.int 0)) :
    o_Met l Z o_m36 jdk_43_method_25_code 11 (some .int) ws o_R0 #[(.ref a), (.int 3), (.ref b), (.int 1), (.int 0)] h0 (Qixf3_1 Z a b ka kb v0 v1 v2 s0 h0 n0) := by
  refine o_enter o_pn_6 (fun m => o_ef18 m a b) (fun p e s m below meth c s₁ hx hby hml hZ hown hnm hlk hrt X0 e0 => ?_)
  have N0 := Fr.nil n0
  have y_ := @hb _ _ hby
  have k_ := @o_k _ _ hw
  refine o_aloadN X0 hx (y_ oD35_0) rfl rfl ?_
  refine o_iconst X0 hx (y_ oD35_1) (x := 0) rfl ?_
  refine o_bload (v := (.int s0)) X0 hx hZ e0 V_b (y_ oD35_2) ⟨by decide, by decide⟩ rfl ?_
  refine o_istore X0 hx (y_ oD35_3) (A' := #[vR a, vI 3, vR b, vI 1, vI 0, vI s0, .unset, .unset, .unset, .unset, .unset]) rfl ?_
  refine o_iloadN X0 hx (y_ oD35_5) rfl ?_
  refine o_iloadN X0 hx (y_ oD35_6) rfl ?_
  refine o_isub X0 hx (y_ oD35_7) ?_
  refine o_valE (z := 2) (by decide) ?_
  refine o_istore X0 hx (y_ oD35_8) (A' := #[vR a, vI 3, vR b, vI 1, vI 0, vI s0, vI 2, .unset, .unset, .unset, .unset]) rfl ?_
  refine o_iload X0 hx (y_ oD35_10) rfl ?_
  refine o_istore X0 hx (y_ oD35_12) (A' := #[vR a, vI 3, vR b, vI 1, vI 0, vI s0, vI 2, vI 0, .unset, .unset, .unset]) rfl ?_
  refine o_iload X0 hx (y_ oD35_14) rfl ?_
  refine o_iload X0 hx (y_ oD35_16) rfl ?_
  refine o_iCF X0 hx (y_ oD35_18) ?_
  refine o_aloadN X0 hx (y_ oD35_21) rfl rfl ?_
  refine o_iload X0 hx (y_ oD35_22) rfl ?_
  refine o_bload (v := (.int v0)) X0 hx hZ e0 V_a (y_ oD35_24) ⟨by decide, by decide⟩ rfl ?_
  refine o_iload X0 hx (y_ oD35_25) rfl ?_
  refine o_iC (t := 52) X0 hx (y_ oD35_27) (fun hq => ?_) (fun hq => ?_)
  · have hc27_1 := o_c_eq.1 hq
    refine o_iload X0 hx (y_ oD35_52) rfl ?_
    refine o_iload X0 hx (y_ oD35_54) rfl ?_
    refine o_iCF X0 hx (y_ oD35_56) ?_
    refine o_iload X0 hx (y_ oD35_59) rfl ?_
    refine o_iconst X0 hx (y_ oD35_61) (x := 1) rfl ?_
    refine o_iadd X0 hx (y_ oD35_62) ?_
    refine o_valE (z := 1) (by decide) ?_
    refine o_istore X0 hx (y_ oD35_63) (A' := #[vR a, vI 3, vR b, vI 1, vI 0, vI s0, vI 2, vI 0, vI 1, .unset, .unset]) rfl ?_
    refine o_iload X0 hx (y_ oD35_65) rfl ?_
    refine o_iloadN X0 hx (y_ oD35_67) rfl ?_
    refine o_iadd X0 hx (y_ oD35_68) ?_
    refine o_valE (z := 2) (by decide) ?_
    refine o_iconst X0 hx (y_ oD35_69) (x := 1) rfl ?_
    refine o_isub X0 hx (y_ oD35_70) ?_
    refine o_valE (z := 1) (by decide) ?_
    refine o_istore X0 hx (y_ oD35_71) (A' := #[vR a, vI 3, vR b, vI 1, vI 0, vI s0, vI 2, vI 0, vI 1, vI 1, .unset]) rfl ?_
    refine o_iconst X0 hx (y_ oD35_73) (x := 1) rfl ?_
    refine o_istore X0 hx (y_ oD35_74) (A' := #[vR a, vI 3, vR b, vI 1, vI 0, vI s0, vI 2, vI 0, vI 1, vI 1, vI 1]) rfl ?_
    refine o_iload X0 hx (y_ oD35_76) rfl ?_
    refine o_iload X0 hx (y_ oD35_78) rfl ?_
    refine o_iCT (t := 103) X0 hx (y_ oD35_80) ?_
    refine o_iload X0 hx (y_ oD35_103) rfl ?_
    refine o_iload X0 hx (y_ oD35_105) rfl ?_
    refine o_iCF X0 hx (y_ oD35_107) ?_
    refine o_iload X0 hx (y_ oD35_110) rfl ?_
    exact o_retI X0 hx hrt hlk (y_ oD35_112) (by decide) (by decide) (o_hQ e0 ⟨_, rfl, N0, rfl, (o_lf5 v0 v1 v2 s0 hc27_1)⟩)
  have hc27_1 := o_c_eq.2 hq
  refine o_iincK X0 hx (y_ oD35_30) (y := 1) rfl rfl (z := 1) (by decide) (A' := #[vR a, vI 3, vR b, vI 1, vI 0, vI s0, vI 2, vI 1, .unset, .unset, .unset]) rfl ?_
  refine o_iload X0 hx (y_ oD35_33) rfl ?_
  refine o_iload X0 hx (y_ oD35_35) rfl ?_
  refine o_iCF X0 hx (y_ oD35_37) ?_
  refine o_aloadN X0 hx (y_ oD35_40) rfl rfl ?_
  refine o_iload X0 hx (y_ oD35_41) rfl ?_
  refine o_bload (v := (.int v1)) X0 hx hZ e0 V_a (y_ oD35_43) ⟨by decide, by decide⟩ rfl ?_
  refine o_iload X0 hx (y_ oD35_44) rfl ?_
  refine o_iC (t := 52) X0 hx (y_ oD35_46) (fun hq => ?_) (fun hq => ?_)
  · have hc46_2 := o_c_eq.1 hq
    refine o_iload X0 hx (y_ oD35_52) rfl ?_
    refine o_iload X0 hx (y_ oD35_54) rfl ?_
    refine o_iCF X0 hx (y_ oD35_56) ?_
    refine o_iload X0 hx (y_ oD35_59) rfl ?_
    refine o_iconst X0 hx (y_ oD35_61) (x := 1) rfl ?_
    refine o_iadd X0 hx (y_ oD35_62) ?_
    refine o_valE (z := 2) (by decide) ?_
    refine o_istore X0 hx (y_ oD35_63) (A' := #[vR a, vI 3, vR b, vI 1, vI 0, vI s0, vI 2, vI 1, vI 2, .unset, .unset]) rfl ?_
    refine o_iload X0 hx (y_ oD35_65) rfl ?_
    refine o_iloadN X0 hx (y_ oD35_67) rfl ?_
    refine o_iadd X0 hx (y_ oD35_68) ?_
    refine o_valE (z := 3) (by decide) ?_
    refine o_iconst X0 hx (y_ oD35_69) (x := 1) rfl ?_
    refine o_isub X0 hx (y_ oD35_70) ?_
    refine o_valE (z := 2) (by decide) ?_
    refine o_istore X0 hx (y_ oD35_71) (A' := #[vR a, vI 3, vR b, vI 1, vI 0, vI s0, vI 2, vI 1, vI 2, vI 2, .unset]) rfl ?_
    refine o_iconst X0 hx (y_ oD35_73) (x := 1) rfl ?_
    refine o_istore X0 hx (y_ oD35_74) (A' := #[vR a, vI 3, vR b, vI 1, vI 0, vI s0, vI 2, vI 1, vI 2, vI 2, vI 1]) rfl ?_
    refine o_iload X0 hx (y_ oD35_76) rfl ?_
    refine o_iload X0 hx (y_ oD35_78) rfl ?_
    refine o_iCT (t := 103) X0 hx (y_ oD35_80) ?_
    refine o_iload X0 hx (y_ oD35_103) rfl ?_
    refine o_iload X0 hx (y_ oD35_105) rfl ?_
    refine o_iCF X0 hx (y_ oD35_107) ?_
    refine o_iload X0 hx (y_ oD35_110) rfl ?_
    exact o_retI X0 hx hrt hlk (y_ oD35_112) (by decide) (by decide) (o_hQ e0 ⟨_, rfl, N0, rfl, (o_lf6 v0 v1 v2 s0 hc27_1 hc46_2)⟩)
  have hc46_2 := o_c_eq.2 hq
  refine o_gO (t := 30) X0 hx (y_ oD35_49) ?_
  refine o_iincK X0 hx (y_ oD35_30) (y := 1) rfl rfl (z := 2) (by decide) (A' := #[vR a, vI 3, vR b, vI 1, vI 0, vI s0, vI 2, vI 2, .unset, .unset, .unset]) rfl ?_
  refine o_iload X0 hx (y_ oD35_33) rfl ?_
  refine o_iload X0 hx (y_ oD35_35) rfl ?_
  refine o_iCF X0 hx (y_ oD35_37) ?_
  refine o_aloadN X0 hx (y_ oD35_40) rfl rfl ?_
  refine o_iload X0 hx (y_ oD35_41) rfl ?_
  refine o_bload (v := (.int v2)) X0 hx hZ e0 V_a (y_ oD35_43) ⟨by decide, by decide⟩ rfl ?_
  refine o_iload X0 hx (y_ oD35_44) rfl ?_
  refine o_iC (t := 52) X0 hx (y_ oD35_46) (fun hq => ?_) (fun hq => ?_)
  · have hc46_3 := o_c_eq.1 hq
    refine o_iload X0 hx (y_ oD35_52) rfl ?_
    refine o_iload X0 hx (y_ oD35_54) rfl ?_
    refine o_iCF X0 hx (y_ oD35_56) ?_
    refine o_iload X0 hx (y_ oD35_59) rfl ?_
    refine o_iconst X0 hx (y_ oD35_61) (x := 1) rfl ?_
    refine o_iadd X0 hx (y_ oD35_62) ?_
    refine o_valE (z := 3) (by decide) ?_
    refine o_istore X0 hx (y_ oD35_63) (A' := #[vR a, vI 3, vR b, vI 1, vI 0, vI s0, vI 2, vI 2, vI 3, .unset, .unset]) rfl ?_
    refine o_iload X0 hx (y_ oD35_65) rfl ?_
    refine o_iloadN X0 hx (y_ oD35_67) rfl ?_
    refine o_iadd X0 hx (y_ oD35_68) ?_
    refine o_valE (z := 4) (by decide) ?_
    refine o_iconst X0 hx (y_ oD35_69) (x := 1) rfl ?_
    refine o_isub X0 hx (y_ oD35_70) ?_
    refine o_valE (z := 3) (by decide) ?_
    refine o_istore X0 hx (y_ oD35_71) (A' := #[vR a, vI 3, vR b, vI 1, vI 0, vI s0, vI 2, vI 2, vI 3, vI 3, .unset]) rfl ?_
    refine o_iconst X0 hx (y_ oD35_73) (x := 1) rfl ?_
    refine o_istore X0 hx (y_ oD35_74) (A' := #[vR a, vI 3, vR b, vI 1, vI 0, vI s0, vI 2, vI 2, vI 3, vI 3, vI 1]) rfl ?_
    refine o_iload X0 hx (y_ oD35_76) rfl ?_
    refine o_iload X0 hx (y_ oD35_78) rfl ?_
    refine o_iCT (t := 103) X0 hx (y_ oD35_80) ?_
    refine o_iload X0 hx (y_ oD35_103) rfl ?_
    refine o_iload X0 hx (y_ oD35_105) rfl ?_
    refine o_iCF X0 hx (y_ oD35_107) ?_
    refine o_iload X0 hx (y_ oD35_110) rfl ?_
    exact o_retI X0 hx hrt hlk (y_ oD35_112) (by decide) (by decide) (o_hQ e0 ⟨_, rfl, N0, rfl, (o_lf7 v0 v1 v2 s0 hc27_1 hc46_2 hc46_3)⟩)
  have hc46_3 := o_c_eq.2 hq
  refine o_gO (t := 30) X0 hx (y_ oD35_49) ?_
  refine o_iincK X0 hx (y_ oD35_30) (y := 1) rfl rfl (z := 3) (by decide) (A' := #[vR a, vI 3, vR b, vI 1, vI 0, vI s0, vI 2, vI 3, .unset, .unset, .unset]) rfl ?_
  refine o_iload X0 hx (y_ oD35_33) rfl ?_
  refine o_iload X0 hx (y_ oD35_35) rfl ?_
  refine o_iCT (t := 52) X0 hx (y_ oD35_37) ?_
  refine o_iload X0 hx (y_ oD35_52) rfl ?_
  refine o_iload X0 hx (y_ oD35_54) rfl ?_
  refine o_iCT (t := 113) X0 hx (y_ oD35_56) ?_
  refine o_iincK X0 hx (y_ oD35_113) (y := 1) rfl rfl (z := 4) (by decide) (A' := #[vR a, vI 3, vR b, vI 1, vI 0, vI s0, vI 2, vI 4, .unset, .unset, .unset]) rfl ?_
  refine o_gO (t := 14) X0 hx (y_ oD35_116) ?_
  refine o_iload X0 hx (y_ oD35_14) rfl ?_
  refine o_iload X0 hx (y_ oD35_16) rfl ?_
  refine o_iCT (t := 119) X0 hx (y_ oD35_18) ?_
  refine o_iconst X0 hx (y_ oD35_119) (x := (-1 : Int32)) rfl ?_
  exact o_retI X0 hx hrt hlk (y_ oD35_120) (by decide) (by decide) (o_hQ e0 ⟨_, rfl, N0, rfl, (o_lf8 v0 v1 v2 s0 hc27_1 hc46_2 hc46_3)⟩)
abbrev Qixt3_1 (Z : State) (a : Addr) (b : Addr) (ka : ClassId) (kb : ClassId) (v0 : Int32) (v1 : Int32) (v2 : Int32) (s0 : Int32) (h0 : Heap) (n0 : Nat) (v : Option Value) (h : Heap) (L : List Loc) : Prop := ∃ r : Int32, v = some (.int r) ∧ Fr n0 L ∧ h = h0 ∧ (r < 0 ↔ ¬ o_occ ([v0, v1, v2] : List Int32) ([s0] : List Int32) = true)
set_option maxRecDepth 65536 in
set_option maxHeartbeats 40000000 in
theorem rmixt3_1 (l : Launch) (Z : State) (a0 : Array Value) (hw : ∀ d ∈ tables_1, d.before a0 Z = true) (ws : List Jvm.Cond) (a : Addr) (b : Addr) (ka : ClassId) (kb : ClassId) (v0 : Int32) (v1 : Int32) (v2 : Int32) (s0 : Int32) (h0 : Heap) (n0 : Nat) (O0 : Old Z n0 h0) (V_a : Arv Z h0 a ka .byte (3 : Int32) [.int v0, .int v1, .int v2] (.int 0)) (V_b : Arv Z h0 b kb .byte (1 : Int32) [.int s0] (.int 0)) :
    o_Met l Z o_m31 jdk_43_method_24_code 2 (some .int) ws o_R19 #[(.ref a), (.ref b)] h0 (Qixt3_1 Z a b ka kb v0 v1 v2 s0 h0 n0) := by
  refine o_enter o_pn_6 (fun m => o_ef2 m a b) (fun p e s m below meth c s₁ hx hby hml hZ hown hnm hlk hrt X0 e0 => ?_)
  have N0 := Fr.nil n0
  have y_ := @hb _ _ hby
  have k_ := @o_k _ _ hw
  refine o_aloadN X0 hx (y_ oD31_0) rfl rfl ?_
  refine o_alen (n := 1) X0 hx hZ e0 V_b (y_ oD31_1) ?_
  refine o_iFT (t := 7) X0 hx (y_ oD31_2) ?_
  refine o_aloadN X0 hx (y_ oD31_7) rfl rfl ?_
  refine o_alen (n := 3) X0 hx hZ e0 V_a (y_ oD31_8) ?_
  refine o_iFT (t := 14) X0 hx (y_ oD31_9) ?_
  refine o_aloadN X0 hx (y_ oD31_14) rfl rfl ?_
  refine o_aloadN X0 hx (y_ oD31_15) rfl rfl ?_
  refine o_alen (n := 3) X0 hx hZ e0 V_a (y_ oD31_16) ?_
  refine o_aloadN X0 hx (y_ oD31_17) rfl rfl ?_
  refine o_aloadN X0 hx (y_ oD31_18) rfl rfl ?_
  refine o_alen (n := 1) X0 hx hZ e0 V_b (y_ oD31_19) ?_
  refine o_iconst X0 hx (y_ oD31_20) (x := 0) rfl ?_
  refine o_sta (y := o_m36) (argsL := [(.ref a), (.int 3), (.ref b), (.int 1), (.int 0)]) (S := []) (W := 0) X0 hx hZ hown (k_ 87 rfl) (k_ 88 rfl) (k_ 85 rfl) (k_ 89 rfl) (backOf (W := 0) (rmixf3_1 l Z a0 hw [] a b ka kb v0 v1 v2 s0 h0 n0 O0 V_a V_b) hZ (k_ 89 rfl) (k_ 85 rfl) (by decide) (by decide)) e0 hml (lenOf o_pd__28_5bBI_5bBII_29I rfl) (y_ oD31_21) (fun T1 L1 v1 X1 hQ1 => ?_)
  obtain ⟨r1, rfl, N1q, hh1, hr1⟩ := hQ1
  have N1 := Fr.app N0 N1q
  show o_G p e below _ T1 (mkF m 24 #[vR a, vR b] [(.int r1)])
  exact o_retI X1 hx hrt hlk (y_ oD31_24) (by decide) (by decide) (o_hQ hh1 ⟨_, rfl, N1, rfl, hr1⟩)
abbrev Qixs3_1 (Z : State) (x : Addr) (y : Addr) (t : Addr) (u : Addr) (c0 : Int32) (c1 : Int32) (c2 : Int32) (d0 : Int32) (zC_ : Int32) (h0 : Heap) (n0 : Nat) (v : Option Value) (h : Heap) (L : List Loc) : Prop := ∃ r : Int32, v = some (.int r) ∧ Fr n0 L ∧ h = h0 ∧ (r < 0 ↔ ¬ o_occ ([c0, c1, c2] : List Int32) ([d0] : List Int32) = true)
set_option maxRecDepth 65536 in
set_option maxHeartbeats 40000000 in
theorem rmixs3_1 (l : Launch) (Z : State) (a0 : Array Value) (hw : ∀ d ∈ tables_1, d.before a0 Z = true) (ws : List Jvm.Cond) (x : Addr) (y : Addr) (t : Addr) (u : Addr) (c0 : Int32) (c1 : Int32) (c2 : Int32) (d0 : Int32) (zC_ : Int32) (h0 : Heap) (n0 : Nat) (O0 : Old Z n0 h0) (S_x : o_Str Z h0 x t ([c0, c1, c2] : List Int32)) (S_y : o_Str Z h0 y u ([d0] : List Int32)) (SC_ : o_SC Z zC_) (hC_ : ¬ zC_ = 0) :
    o_Met l Z o_m32 jdk_42_method_84_code 3 (some .int) ws o_R3 #[(.ref x), (.ref y)] h0 (Qixs3_1 Z x y t u c0 c1 c2 d0 zC_ h0 n0) := by
  refine o_enter o_pn_0 (fun m => o_ef5 m x y) (fun p e s m below meth c s₁ hx hby hml hZ hown hnm hlk hrt X0 e0 => ?_)
  have N0 := Fr.nil n0
  have y_ := @hb _ _ hby
  have k_ := @o_k _ _ hw
  refine o_aloadN X0 hx (y_ oD32_0) rfl rfl ?_
  refine o_vir (y := o_m0) (b := x) (argsL := []) (S := []) (W := 0) X0 hx hZ hown (k_ 73 rfl) (k_ 74 rfl) (k_ 76 rfl) (k_ 75 rfl) (backOf (W := 0) (rmcod l Z a0 hw [] x zC_ h0 n0 O0 S_x.2.1 SC_ hC_) hZ (k_ 77 rfl) (k_ 6 rfl) (by decide) (by decide)) e0 S_x.1 hml (lenOf o_pd__28_29B rfl) (y_ oD32_1) (fun T1 L1 v1 X1 hQ1 => ?_)
  obtain ⟨rfl, N1q, hh1⟩ := hQ1
  have N1 := Fr.app N0 N1q
  show o_G p e below _ T1 (mkF m 4 #[vR x, vR y, .unset] [(.int 0)])
  refine o_istoreN X1 hx (y_ oD32_4) (A' := #[vR x, vR y, vI 0]) rfl ?_
  refine o_iloadN X1 hx (y_ oD32_5) rfl ?_
  refine o_aloadN X1 hx (y_ oD32_6) rfl rfl ?_
  refine o_vir (y := o_m0) (b := y) (argsL := []) (S := [(.int 0)]) (W := 1) X1 hx hZ hown (k_ 73 rfl) (k_ 74 rfl) (k_ 76 rfl) (k_ 75 rfl) (backOf (W := 1) (rmcod l Z a0 hw [] y zC_ h0 n0 O0 S_y.2.1 SC_ hC_) hZ (k_ 77 rfl) (k_ 6 rfl) (by decide) (by decide)) hh1 S_y.1 hml (lenOf o_pd__28_29B rfl) (y_ oD32_7) (fun T2 L2 v2 X2 hQ2 => ?_)
  obtain ⟨rfl, N2q, hh2⟩ := hQ2
  have N2 := Fr.app N1 N2q
  show o_G p e below _ T2 (mkF m 10 #[vR x, vR y, vI 0] [(.int 0), (.int 0)])
  refine o_iCF X2 hx (y_ oD32_10) ?_
  refine o_aloadN X2 hx (y_ oD32_13) rfl rfl ?_
  refine o_vir (y := o_m1) (b := x) (argsL := []) (S := []) (W := 0) X2 hx hZ hown (k_ 78 rfl) (k_ 79 rfl) (k_ 81 rfl) (k_ 80 rfl) (backOf (W := 0) (rmisl l Z a0 hw [] x zC_ h0 n0 O0 S_x.2.1 SC_ hC_) hZ (k_ 82 rfl) (k_ 6 rfl) (by decide) (by decide)) hh2 S_x.1 hml (lenOf o_pd__28_29Z rfl) (y_ oD32_14) (fun T3 L3 v3 X3 hQ3 => ?_)
  obtain ⟨rfl, N3q, hh3⟩ := hQ3
  have N3 := Fr.app N2 N3q
  show o_G p e below _ T3 (mkF m 17 #[vR x, vR y, vI 0] [(.int 1)])
  refine o_iFF X3 hx (y_ oD32_17) ?_
  obtain ⟨kb4, Bv4⟩ := S_x.2.2.2.1
  have Bw4 : Arv Z h0 t kb4 .byte (3 : Int32) [.int c0.toInt8.toInt32, .int c1.toInt8.toInt32, .int c2.toInt8.toInt32] (.int 0) := Bv4
  obtain ⟨kb5, Bv5⟩ := S_y.2.2.2.1
  have Bw5 : Arv Z h0 u kb5 .byte (1 : Int32) [.int d0.toInt8.toInt32] (.int 0) := Bv5
  refine o_aloadN X3 hx (y_ oD32_20) rfl rfl ?_
  refine o_getF X3 hx hZ hown (host := "") (Or.inl (k_ 32 rfl)) Via.refl hh3 S_x.2.2.1 (y_ oD32_21) (fun T6 X6 e6 => ?_)
  refine o_aloadN X6 hx (y_ oD32_24) rfl rfl ?_
  refine o_getF X6 hx hZ hown (host := "") (Or.inl (k_ 32 rfl)) Via.refl e6 S_y.2.2.1 (y_ oD32_25) (fun T7 X7 e7 => ?_)
  refine o_sta (y := o_m31) (argsL := [(.ref t), (.ref u)]) (S := []) (W := 0) X7 hx hZ hown (k_ 83 rfl) (k_ 84 rfl) (k_ 85 rfl) (k_ 86 rfl) (backOf (W := 0) (rmixt3_1 l Z a0 hw [] t u kb4 kb5 (c0.toInt8.toInt32) (c1.toInt8.toInt32) (c2.toInt8.toInt32) (d0.toInt8.toInt32) h0 n0 O0 Bw4 Bw5) hZ (k_ 86 rfl) (k_ 85 rfl) (by decide) (by decide)) e7 hml (lenOf o_pd__28_5bB_5bB_29I rfl) (y_ oD32_28) (fun T8 L8 v8 X8 hQ8 => ?_)
  obtain ⟨r8, rfl, N8q, hh8, hr8⟩ := hQ8
  have N8 := Fr.app N3 N8q
  show o_G p e below _ T8 (mkF m 31 #[vR x, vR y, vI 0] [(.int r8)])
  refine o_gO (t := 45) X8 hx (y_ oD32_31) ?_
  exact o_retI X8 hx hrt hlk (y_ oD32_45) (by decide) (by decide) (o_hQ hh8 ⟨_, rfl, N8, rfl, by rw [← o_occ_b ([c0, c1, c2] : List Int32) ([d0] : List Int32) S_x.2.2.2.2.1 S_y.2.2.2.2.1]; exact hr8⟩)
abbrev Qcon3_1 (Z : State) (x : Addr) (y : Addr) (t : Addr) (u : Addr) (c0 : Int32) (c1 : Int32) (c2 : Int32) (d0 : Int32) (zC_ : Int32) (h0 : Heap) (n0 : Nat) (v : Option Value) (h : Heap) (L : List Loc) : Prop := v = some (.int (if o_occ ([c0, c1, c2] : List Int32) ([d0] : List Int32) = true then 1 else 0)) ∧ Fr n0 L ∧ h = h0
set_option maxRecDepth 65536 in
set_option maxHeartbeats 40000000 in
theorem rmcon3_1 (l : Launch) (Z : State) (a0 : Array Value) (hw : ∀ d ∈ tables_1, d.before a0 Z = true) (ws : List Jvm.Cond) (x : Addr) (y : Addr) (t : Addr) (u : Addr) (c0 : Int32) (c1 : Int32) (c2 : Int32) (d0 : Int32) (zC_ : Int32) (h0 : Heap) (n0 : Nat) (O0 : Old Z n0 h0) (S_x : o_Str Z h0 x t ([c0, c1, c2] : List Int32)) (S_y : o_Str Z h0 y u ([d0] : List Int32)) (SC_ : o_SC Z zC_) (hC_ : ¬ zC_ = 0) :
    o_Met l Z o_m33 jdk_42_method_97_code 2 (some .boolean) ws o_R4 #[(.ref x), (.ref y)] h0 (Qcon3_1 Z x y t u c0 c1 c2 d0 zC_ h0 n0) := by
  refine o_enter o_pn_0 (fun m => o_ef2 m x y) (fun p e s m below meth c s₁ hx hby hml hZ hown hnm hlk hrt X0 e0 => ?_)
  have N0 := Fr.nil n0
  have y_ := @hb _ _ hby
  have k_ := @o_k _ _ hw
  refine o_aloadN X0 hx (y_ oD34_0) rfl rfl ?_
  refine o_aloadN X0 hx (y_ oD34_1) rfl rfl ?_
  refine o_iface (xi := o_m35) (y := o_m34) (b := y) (argsL := []) (S := [(.ref x)]) (W := 1) X0 hx hZ hown (k_ 59 rfl) (k_ 60 rfl) (mvT hZ (k_ 61 rfl)) (k_ 62 rfl) (k_ 63 rfl) (k_ 64 rfl) (k_ 65 rfl) (k_ 66 rfl) (by decide) (backOf (W := 1) (rmtos l Z a0 hw [] y h0 n0 O0) hZ (k_ 67 rfl) (k_ 6 rfl) (by decide) (by decide)) e0 S_y.1 (by rw [hml]; rfl) (lenOf o_pd__28_29Ljava_2flang_2fString_3b rfl) rfl (Nat.le_of_eq rfl) (y_ oD34_2) (by decide) (by decide) (fun T1 L1 v1 X1 hQ1 => ?_)
  obtain ⟨rfl, N1q, hh1⟩ := hQ1
  have N1 := Fr.app N0 N1q
  show o_G p e below _ T1 (mkF m 7 #[vR x, vR y] [(.ref y), (.ref x)])
  refine o_vir (y := o_m32) (b := x) (argsL := [(.ref y)]) (S := []) (W := 0) X1 hx hZ hown (k_ 68 rfl) (k_ 69 rfl) (k_ 71 rfl) (k_ 70 rfl) (backOf (W := 0) (rmixs3_1 l Z a0 hw [] x y t u c0 c1 c2 d0 zC_ h0 n0 O0 S_x S_y SC_ hC_) hZ (k_ 72 rfl) (k_ 6 rfl) (by decide) (by decide)) hh1 S_x.1 hml (lenOf o_pd__28Ljava_2flang_2fString_3b_29I rfl) (y_ oD34_7) (fun T2 L2 v2 X2 hQ2 => ?_)
  obtain ⟨r2, rfl, N2q, hh2, hr2⟩ := hQ2
  have N2 := Fr.app N1 N2q
  show o_G p e below _ T2 (mkF m 10 #[vR x, vR y] [(.int r2)])
  refine o_iF (t := 17) X2 hx (y_ oD34_10) (fun hq => ?_) (fun hq => ?_)
  · have hc10 := o_h_lt.1 hq
    refine o_iconst X2 hx (y_ oD34_17) (x := 0) rfl ?_
    exact o_retN X2 hx (t := .boolean) hrt hlk (by simp) (y_ oD34_18) rfl (by decide) (by decide) (o_hQ hh2 ⟨by rw [if_neg (hr2.mp hc10)], N2, rfl⟩)
  have hc10 := o_h_lt.2 hq
  refine o_iconst X2 hx (y_ oD34_13) (x := 1) rfl ?_
  refine o_gO (t := 18) X2 hx (y_ oD34_14) ?_
  exact o_retN X2 hx (t := .boolean) hrt hlk (by simp) (y_ oD34_18) rfl (by decide) (by decide) (o_hQ hh2 ⟨by rw [if_pos (Classical.byContradiction fun q => hc10 (hr2.mpr q))], N2, rfl⟩)
abbrev Qct0 (Z : State) (b : Addr) (x : Addr) (t : Addr) (zC_ : Int32) (h0 : Heap) (n0 : Nat) (v : Option Value) (h : Heap) (L : List Loc) : Prop := v = none ∧ Fr n0 L ∧ Keep h0 h [b] ∧ Exa Z h b "org/adviceweft/pointcut/NamePattern" ∧ Fld Z h b "org/adviceweft/pointcut/NamePattern" "core" "Ljava/lang/String;" (.ref x) ∧ Fld Z h b "org/adviceweft/pointcut/NamePattern" "anyBefore" "Z" (.int 1) ∧ Fld Z h b "org/adviceweft/pointcut/NamePattern" "anyAfter" "Z" (.int 0)
set_option maxRecDepth 65536 in
set_option maxHeartbeats 40000000 in
theorem rmct0 (l : Launch) (Z : State) (a0 : Array Value) (hw : ∀ d ∈ tables_1, d.before a0 Z = true) (ws : List Jvm.Cond) (b : Addr) (x : Addr) (t : Addr) (zC_ : Int32) (h0 : Heap) (n0 : Nat) (O0 : Old Z n0 h0) (E_b : Exa Z h0 b "org/adviceweft/pointcut/NamePattern") (F_k : Fld Z h0 b "org/adviceweft/pointcut/NamePattern" "core" "Ljava/lang/String;" .null) (F_b : Fld Z h0 b "org/adviceweft/pointcut/NamePattern" "anyBefore" "Z" (.int 0)) (F_a : Fld Z h0 b "org/adviceweft/pointcut/NamePattern" "anyAfter" "Z" (.int 0)) (g_b : n0 ≤ b) (S_x : o_Str Z h0 x t ([] : List Int32)) (hst : ¬ o_occ ([] : List Int32) ([(42 : Int32)] : List Int32) = true) (SC_ : o_SC Z zC_) (hC_ : ¬ zC_ = 0) :
    o_MetH o_EL l Z o_m37 prog_8_method_1_code 4 none ws o_R20 #[(.ref b), (.ref x), (.int 1), (.int 0)] h0 (Qct0 Z b x t zC_ h0 n0) := by
  refine o_enterH o_pn_8 (fun m => o_ef19 m b x) (fun p e s m below meth c s₁ hx hby hml hZ hown hnm hlk hrt X0 e0 hS0 hk0 C0 => ?_)
  have N0 := Fr.nil n0
  have y_ := @hb _ _ hby
  have k_ := @o_k _ _ hw
  have hEL := o_EWs hw
  refine o_aloadN X0 hx (y_ oD36_0) rfl rfl ?_
  refine o_ini (y := o_m9) (b := b) (argsL := []) (S := []) (W := 0) rfl X0 hx hZ hown (k_ 40 rfl) (k_ 41 rfl) (k_ 44 rfl) (backOf (W := 0) (rmrec l Z a0 hw [] b h0 n0 O0) hZ (k_ 44 rfl) (k_ 43 rfl) (by decide) (by decide)) e0 hml (lenOf o_pd__28_29V rfl) (y_ oD36_1) (fun T1 L1 v1 X1 hQ1 => ?_)
  obtain ⟨rfl, N1q, hh1⟩ := hQ1
  have N1 := Fr.app N0 N1q
  show o_G p e below _ T1 (mkF m 4 #[vR b, vR x, vI 1, vI 0] [])
  refine o_aloadN X1 hx (y_ oD36_4) rfl rfl ?_
  refine o_ldcH (n := 16) (vs := [.int 99, .int 111, .int 114, .int 101]) (z := 4) X1 hx hZ hown (k_ 46 rfl) (fun d hd => hw d (o_strat d hd)) hh1 hS0 hk0 hEL (by decide) C0.1 ⟨by decide, by decide⟩ (by decide) (by decide) (y_ oD36_5) (by decide) (by decide) (by decide) (by decide) (fun a2 b2 kb2 T2 k2 X2 E2 hS2 hk2 hZ2 hown2 Ex2 Co2 Va2 Av2 hC2 Li2 Sa2 => ?_)
  have O2 := Old.ext O0 E2
  have C3 := CHr.trans C0 (hC2)
  show o_G p e below _ T2 (mkF m 7 #[vR b, vR x, vI 1, vI 0] [(.ref a2), (.ref x)])
  refine o_sta (y := o_m10) (argsL := [(.ref x), (.ref a2)]) (S := []) (W := 0) X2 hx hZ2 hown2 (k_ 49 rfl) (k_ 50 rfl) (k_ 51 rfl) (k_ 52 rfl) (backOf (W := 0) (rmrnn l Z a0 hw [] x a2 T2.heap n0 O2) hZ2 (k_ 52 rfl) (k_ 51 rfl) (by decide) (by decide)) rfl hml (lenOf o_pd__28Ljava_2flang_2fObject_3bLjava_2flang_2fString_3b_29Ljava_2flang_2fObject_3b rfl) (y_ oD36_7) (fun T4 L4 v4 X4 hQ4 => ?_)
  obtain ⟨rfl, N4q, hh4⟩ := hQ4
  have N4 := Fr.app N1 N4q
  show o_G p e below _ T4 (mkF m 10 #[vR b, vR x, vI 1, vI 0] [(.ref x)])
  refine o_pop X4 hx (y_ oD36_10) rfl ?_
  refine o_aloadN X4 hx (y_ oD36_11) rfl rfl ?_
  refine o_ldcH (n := 4) (vs := [.int 42]) (z := 1) X4 hx hZ2 hown2 (k_ 53 rfl) (fun d hd => hw d (o_strat d hd)) hh4 hS2 hk2 hEL (by decide) C3.1 ⟨by decide, by decide⟩ (by decide) (by decide) (y_ oD36_12) (by decide) (by decide) (by decide) (by decide) (fun a5 b5 kb5 T5 k5 X5 E5 hS5 hk5 hZ5 hown5 Ex5 Co5 Va5 Av5 hC5 Li5 Sa5 => ?_)
  have O5 := Old.ext O2 E5
  have C6 := CHr.trans C3 (hC5)
  show o_G p e below _ T5 (mkF m 14 #[vR b, vR x, vI 1, vI 0] [(.ref a5), (.ref x)])
  have Ss5 : o_Str Z T5.heap a5 b5 ([(42 : Int32)] : List Int32) := ⟨Ex5, Co5, Va5, ⟨_, Av5⟩, by decide, by decide⟩
  have c7 := (o_Str.ext E5 (o_Str.ext E2 S_x))
  refine o_vir (y := o_m33) (b := x) (argsL := [(.ref a5)]) (S := []) (W := 0) X5 hx hZ5 hown5 (k_ 54 rfl) (k_ 55 rfl) (k_ 57 rfl) (k_ 56 rfl) (backOf (W := 0) (rmcon0_1 l Z a0 hw [] x a5 t b5 (42 : Int32) zC_ T5.heap n0 O5 c7 Ss5 SC_ hC_) hZ5 (k_ 58 rfl) (k_ 6 rfl) (by decide) (by decide)) rfl c7.1 hml (lenOf o_pd__28Ljava_2flang_2fCharSequence_3b_29Z rfl) (y_ oD36_14) (fun T8 L8 v8 X8 hQ8 => ?_)
  obtain ⟨rfl, N8q, hh8⟩ := hQ8
  have N8 := Fr.app N4 N8q
  show o_G p e below _ T8 (mkF m 17 #[vR b, vR x, vI 1, vI 0] [(.int (if o_occ ([] : List Int32) ([(42 : Int32)] : List Int32) = true then 1 else 0 : Int32))])
  refine o_iF (t := 35) X8 hx (y_ oD36_17) (fun hq => ?_) (fun hq => ?_)
  · have hc17 := o_h_ne.1 hq
    exact absurd (if_neg hst) hc17
  have hc17 := o_h_ne.2 hq
  refine o_aloadN X8 hx (y_ oD36_20) rfl rfl ?_
  refine o_vir (y := o_m38) (b := x) (argsL := []) (S := []) (W := 0) X8 hx hZ5 hown5 (k_ 90 rfl) (k_ 91 rfl) (k_ 93 rfl) (k_ 92 rfl) (o_empB (W := 0) hZ5 hw (k_ 5 rfl) c7 (by decide) (by decide)) hh8 c7.1 hml (lenOf o_pd__28_29Z rfl) (y_ oD36_21) (fun T9 L9 v9 X9 hQ9 => ?_)
  obtain ⟨rfl, rfl, hh9⟩ := hQ9
  have N9 := Fr.app N8 (Fr.nil n0)
  show o_G p e below _ T9 (mkF m 24 #[vR b, vR x, vI 1, vI 0] [(.int 1)])
  refine o_iFF X9 hx (y_ oD36_24) ?_
  refine o_iloadN X9 hx (y_ oD36_27) rfl ?_
  refine o_iFF X9 hx (y_ oD36_28) ?_
  refine o_iloadN X9 hx (y_ oD36_31) rfl ?_
  refine o_iFT (t := 72) X9 hx (y_ oD36_32) ?_
  refine o_aloadN X9 hx (y_ oD36_72) rfl rfl ?_
  refine o_aloadN X9 hx (y_ oD36_73) rfl rfl ?_
  have c10 := (Exa.ext E5 (Exa.ext E2 E_b))
  have c11 := (Fld.ext E5 (Fld.ext E2 F_k))
  refine o_putF X9 hx hZ5 hown5 (host := "") (Or.inl (k_ 95 rfl)) Via.refl hh9 c11 c10 (Or.inr ⟨(k_ 96 rfl), rfl, hnm⟩) (k_ 35 rfl) (ty := (.object "java/lang/String")) (by decide) rfl rfl (y_ oD36_74) (fun T12 h12 X12 e12 W12 => ?_)
  have F12 := Fld.same W12 c11
  have N12 := Fr.snoc X12 N9 g_b
  have O12 := Old.wr O5 W12 g_b
  have C13 := CHr.trans C6 (CHr.wr W12 (Safe.exa hZ5.alike c10 (by decide) (by decide)) C6.1)
  refine o_aloadN X12 hx (y_ oD36_77) rfl rfl ?_
  refine o_iloadN X12 hx (y_ oD36_78) rfl ?_
  have c14 := (Exa.wr W12 c10)
  have c15 := (Fld.other W12 (Fld.ext E5 (Fld.ext E2 F_b)) (Or.inr (slot_ne (Or.inr (k_ 98 rfl)) (Or.inr (k_ 96 rfl)) (by decide) (t := .boolean) (t' := (.object "java/lang/String")) (by decide) (by decide))))
  refine o_putFN (v' := (.int 1)) X12 hx hZ5 hown5 (k_ 97 rfl) Via.refl e12 c15 c14 (Or.inr ⟨(k_ 98 rfl), rfl, hnm⟩) (k_ 35 rfl) (ty := .boolean) (by decide) rfl rfl (y_ oD36_79) (fun T16 h16 X16 e16 W16 => ?_)
  have F16 := Fld.same W16 c15
  have N16 := Fr.snoc X16 N12 g_b
  have O16 := Old.wr O12 W16 g_b
  have C17 := CHr.trans C13 (CHr.wr W16 (Safe.exa hZ5.alike c14 (by decide) (by decide)) C13.1)
  refine o_aloadN X16 hx (y_ oD36_82) rfl rfl ?_
  refine o_iloadN X16 hx (y_ oD36_83) rfl ?_
  have c18 := (Exa.wr W16 c14)
  have c19 := (Fld.other W16 (Fld.other W12 (Fld.ext E5 (Fld.ext E2 F_a)) (Or.inr (slot_ne (Or.inr (k_ 100 rfl)) (Or.inr (k_ 96 rfl)) (by decide) (t := .boolean) (t' := (.object "java/lang/String")) (by decide) (by decide)))) (Or.inr (slot_ne (Or.inr (k_ 100 rfl)) (Or.inr (k_ 98 rfl)) (by decide) (t := .boolean) (t' := .boolean) (by decide) (by decide))))
  refine o_putFN (v' := (.int 0)) X16 hx hZ5 hown5 (k_ 99 rfl) Via.refl e16 c19 c18 (Or.inr ⟨(k_ 100 rfl), rfl, hnm⟩) (k_ 35 rfl) (ty := .boolean) (by decide) rfl rfl (y_ oD36_84) (fun T20 h20 X20 e20 W20 => ?_)
  have F20 := Fld.same W20 c19
  have N20 := Fr.snoc X20 N16 g_b
  have O20 := Old.wr O16 W20 g_b
  have C21 := CHr.trans C17 (CHr.wr W20 (Safe.exa hZ5.alike c18 (by decide) (by decide)) C17.1)
  have kp22 := Keep.ext (Keep.refl h0 [b]) E2
  have kp23 := Keep.ext kp22 E5
  have kp24 := Keep.wr kp23 W12 (Or.inl (List.mem_of_getElem? (i := 0) rfl))
  have kp25 := Keep.wr kp24 W16 (Or.inl (List.mem_of_getElem? (i := 0) rfl))
  have kp26 := Keep.wr kp25 W20 (Or.inl (List.mem_of_getElem? (i := 0) rfl))
  have c27 := (Exa.wr W20 c18)
  have c28 := (Fld.other W20 (Fld.other W16 F12 (Or.inr (slot_ne (Or.inr (k_ 96 rfl)) (Or.inr (k_ 98 rfl)) (by decide) (t := (.object "java/lang/String")) (t' := .boolean) (by decide) (by decide)))) (Or.inr (slot_ne (Or.inr (k_ 96 rfl)) (Or.inr (k_ 100 rfl)) (by decide) (t := (.object "java/lang/String")) (t' := .boolean) (by decide) (by decide))))
  have c29 := (Fld.other W20 F16 (Or.inr (slot_ne (Or.inr (k_ 98 rfl)) (Or.inr (k_ 100 rfl)) (by decide) (t := .boolean) (t' := .boolean) (by decide) (by decide))))
  exact o_retVH X20 hx hS5 (by rw [e20]; exact (Nat.le_trans (Nat.le_trans (Nat.le_trans hk5 (Keep.of_wr W12).1) (Keep.of_wr W16).1) (Keep.of_wr W20).1)) hZ5 hEL (by rw [e20]; exact C21) hrt hlk (y_ oD36_87) (by decide) (by decide) (o_hQ e20 ⟨rfl, N20, kp26, c27, c28, c29, F20⟩)
abbrev Qct1 (Z : State) (b : Addr) (x : Addr) (B : Int32) (A : Int32) (t : Addr) (c0 : Int32) (zC_ : Int32) (h0 : Heap) (n0 : Nat) (v : Option Value) (h : Heap) (L : List Loc) : Prop := v = none ∧ Fr n0 L ∧ Keep h0 h [b] ∧ Exa Z h b "org/adviceweft/pointcut/NamePattern" ∧ Fld Z h b "org/adviceweft/pointcut/NamePattern" "core" "Ljava/lang/String;" (.ref x) ∧ Fld Z h b "org/adviceweft/pointcut/NamePattern" "anyBefore" "Z" (.int B) ∧ Fld Z h b "org/adviceweft/pointcut/NamePattern" "anyAfter" "Z" (.int A)
set_option maxRecDepth 65536 in
set_option maxHeartbeats 40000000 in
theorem rmct1 (l : Launch) (Z : State) (a0 : Array Value) (hw : ∀ d ∈ tables_1, d.before a0 Z = true) (ws : List Jvm.Cond) (b : Addr) (x : Addr) (B : Int32) (A : Int32) (t : Addr) (c0 : Int32) (zC_ : Int32) (h0 : Heap) (n0 : Nat) (O0 : Old Z n0 h0) (E_b : Exa Z h0 b "org/adviceweft/pointcut/NamePattern") (F_k : Fld Z h0 b "org/adviceweft/pointcut/NamePattern" "core" "Ljava/lang/String;" .null) (F_b : Fld Z h0 b "org/adviceweft/pointcut/NamePattern" "anyBefore" "Z" (.int 0)) (F_a : Fld Z h0 b "org/adviceweft/pointcut/NamePattern" "anyAfter" "Z" (.int 0)) (g_b : n0 ≤ b) (S_x : o_Str Z h0 x t ([c0] : List Int32)) (hst : ¬ o_occ ([c0] : List Int32) ([(42 : Int32)] : List Int32) = true) (hB : B = 0 ∨ B = 1) (hA : A = 0 ∨ A = 1) (SC_ : o_SC Z zC_) (hC_ : ¬ zC_ = 0) :
    o_MetH o_EL l Z o_m37 prog_8_method_1_code 4 none ws o_R20 #[(.ref b), (.ref x), (.int B), (.int A)] h0 (Qct1 Z b x B A t c0 zC_ h0 n0) := by
  refine o_enterH o_pn_8 (fun m => o_ef20 m b x B A) (fun p e s m below meth c s₁ hx hby hml hZ hown hnm hlk hrt X0 e0 hS0 hk0 C0 => ?_)
  have N0 := Fr.nil n0
  have y_ := @hb _ _ hby
  have k_ := @o_k _ _ hw
  have hEL := o_EWs hw
  refine o_aloadN X0 hx (y_ oD36_0) rfl rfl ?_
  refine o_ini (y := o_m9) (b := b) (argsL := []) (S := []) (W := 0) rfl X0 hx hZ hown (k_ 40 rfl) (k_ 41 rfl) (k_ 44 rfl) (backOf (W := 0) (rmrec l Z a0 hw [] b h0 n0 O0) hZ (k_ 44 rfl) (k_ 43 rfl) (by decide) (by decide)) e0 hml (lenOf o_pd__28_29V rfl) (y_ oD36_1) (fun T1 L1 v1 X1 hQ1 => ?_)
  obtain ⟨rfl, N1q, hh1⟩ := hQ1
  have N1 := Fr.app N0 N1q
  show o_G p e below _ T1 (mkF m 4 #[vR b, vR x, vI B, vI A] [])
  refine o_aloadN X1 hx (y_ oD36_4) rfl rfl ?_
  refine o_ldcH (n := 16) (vs := [.int 99, .int 111, .int 114, .int 101]) (z := 4) X1 hx hZ hown (k_ 46 rfl) (fun d hd => hw d (o_strat d hd)) hh1 hS0 hk0 hEL (by decide) C0.1 ⟨by decide, by decide⟩ (by decide) (by decide) (y_ oD36_5) (by decide) (by decide) (by decide) (by decide) (fun a2 b2 kb2 T2 k2 X2 E2 hS2 hk2 hZ2 hown2 Ex2 Co2 Va2 Av2 hC2 Li2 Sa2 => ?_)
  have O2 := Old.ext O0 E2
  have C3 := CHr.trans C0 (hC2)
  show o_G p e below _ T2 (mkF m 7 #[vR b, vR x, vI B, vI A] [(.ref a2), (.ref x)])
  refine o_sta (y := o_m10) (argsL := [(.ref x), (.ref a2)]) (S := []) (W := 0) X2 hx hZ2 hown2 (k_ 49 rfl) (k_ 50 rfl) (k_ 51 rfl) (k_ 52 rfl) (backOf (W := 0) (rmrnn l Z a0 hw [] x a2 T2.heap n0 O2) hZ2 (k_ 52 rfl) (k_ 51 rfl) (by decide) (by decide)) rfl hml (lenOf o_pd__28Ljava_2flang_2fObject_3bLjava_2flang_2fString_3b_29Ljava_2flang_2fObject_3b rfl) (y_ oD36_7) (fun T4 L4 v4 X4 hQ4 => ?_)
  obtain ⟨rfl, N4q, hh4⟩ := hQ4
  have N4 := Fr.app N1 N4q
  show o_G p e below _ T4 (mkF m 10 #[vR b, vR x, vI B, vI A] [(.ref x)])
  refine o_pop X4 hx (y_ oD36_10) rfl ?_
  refine o_aloadN X4 hx (y_ oD36_11) rfl rfl ?_
  refine o_ldcH (n := 4) (vs := [.int 42]) (z := 1) X4 hx hZ2 hown2 (k_ 53 rfl) (fun d hd => hw d (o_strat d hd)) hh4 hS2 hk2 hEL (by decide) C3.1 ⟨by decide, by decide⟩ (by decide) (by decide) (y_ oD36_12) (by decide) (by decide) (by decide) (by decide) (fun a5 b5 kb5 T5 k5 X5 E5 hS5 hk5 hZ5 hown5 Ex5 Co5 Va5 Av5 hC5 Li5 Sa5 => ?_)
  have O5 := Old.ext O2 E5
  have C6 := CHr.trans C3 (hC5)
  show o_G p e below _ T5 (mkF m 14 #[vR b, vR x, vI B, vI A] [(.ref a5), (.ref x)])
  have Ss5 : o_Str Z T5.heap a5 b5 ([(42 : Int32)] : List Int32) := ⟨Ex5, Co5, Va5, ⟨_, Av5⟩, by decide, by decide⟩
  have c7 := (o_Str.ext E5 (o_Str.ext E2 S_x))
  refine o_vir (y := o_m33) (b := x) (argsL := [(.ref a5)]) (S := []) (W := 0) X5 hx hZ5 hown5 (k_ 54 rfl) (k_ 55 rfl) (k_ 57 rfl) (k_ 56 rfl) (backOf (W := 0) (rmcon1_1 l Z a0 hw [] x a5 t b5 c0 (42 : Int32) zC_ T5.heap n0 O5 c7 Ss5 SC_ hC_) hZ5 (k_ 58 rfl) (k_ 6 rfl) (by decide) (by decide)) rfl c7.1 hml (lenOf o_pd__28Ljava_2flang_2fCharSequence_3b_29Z rfl) (y_ oD36_14) (fun T8 L8 v8 X8 hQ8 => ?_)
  obtain ⟨rfl, N8q, hh8⟩ := hQ8
  have N8 := Fr.app N4 N8q
  show o_G p e below _ T8 (mkF m 17 #[vR b, vR x, vI B, vI A] [(.int (if o_occ ([c0] : List Int32) ([(42 : Int32)] : List Int32) = true then 1 else 0 : Int32))])
  refine o_iF (t := 35) X8 hx (y_ oD36_17) (fun hq => ?_) (fun hq => ?_)
  · have hc17 := o_h_ne.1 hq
    exact absurd (if_neg hst) hc17
  have hc17 := o_h_ne.2 hq
  refine o_aloadN X8 hx (y_ oD36_20) rfl rfl ?_
  refine o_vir (y := o_m38) (b := x) (argsL := []) (S := []) (W := 0) X8 hx hZ5 hown5 (k_ 90 rfl) (k_ 91 rfl) (k_ 93 rfl) (k_ 92 rfl) (o_empB (W := 0) hZ5 hw (k_ 5 rfl) c7 (by decide) (by decide)) hh8 c7.1 hml (lenOf o_pd__28_29Z rfl) (y_ oD36_21) (fun T9 L9 v9 X9 hQ9 => ?_)
  obtain ⟨rfl, rfl, hh9⟩ := hQ9
  have N9 := Fr.app N8 (Fr.nil n0)
  show o_G p e below _ T9 (mkF m 24 #[vR b, vR x, vI B, vI A] [(.int 0)])
  refine o_iFT (t := 72) X9 hx (y_ oD36_24) ?_
  refine o_aloadN X9 hx (y_ oD36_72) rfl rfl ?_
  refine o_aloadN X9 hx (y_ oD36_73) rfl rfl ?_
  have c10 := (Exa.ext E5 (Exa.ext E2 E_b))
  have c11 := (Fld.ext E5 (Fld.ext E2 F_k))
  refine o_putF X9 hx hZ5 hown5 (host := "") (Or.inl (k_ 95 rfl)) Via.refl hh9 c11 c10 (Or.inr ⟨(k_ 96 rfl), rfl, hnm⟩) (k_ 35 rfl) (ty := (.object "java/lang/String")) (by decide) rfl rfl (y_ oD36_74) (fun T12 h12 X12 e12 W12 => ?_)
  have F12 := Fld.same W12 c11
  have N12 := Fr.snoc X12 N9 g_b
  have O12 := Old.wr O5 W12 g_b
  have C13 := CHr.trans C6 (CHr.wr W12 (Safe.exa hZ5.alike c10 (by decide) (by decide)) C6.1)
  refine o_aloadN X12 hx (y_ oD36_77) rfl rfl ?_
  refine o_iloadN X12 hx (y_ oD36_78) rfl ?_
  have c14 := (Exa.wr W12 c10)
  have c15 := (Fld.other W12 (Fld.ext E5 (Fld.ext E2 F_b)) (Or.inr (slot_ne (Or.inr (k_ 98 rfl)) (Or.inr (k_ 96 rfl)) (by decide) (t := .boolean) (t' := (.object "java/lang/String")) (by decide) (by decide))))
  refine o_putFN (v' := (.int B)) X12 hx hZ5 hown5 (k_ 97 rfl) Via.refl e12 c15 c14 (Or.inr ⟨(k_ 98 rfl), rfl, hnm⟩) (k_ 35 rfl) (ty := .boolean) (by decide) (o_narZ hB) (o_fitZ hB) (y_ oD36_79) (fun T16 h16 X16 e16 W16 => ?_)
  have F16 := Fld.same W16 c15
  have N16 := Fr.snoc X16 N12 g_b
  have O16 := Old.wr O12 W16 g_b
  have C17 := CHr.trans C13 (CHr.wr W16 (Safe.exa hZ5.alike c14 (by decide) (by decide)) C13.1)
  refine o_aloadN X16 hx (y_ oD36_82) rfl rfl ?_
  refine o_iloadN X16 hx (y_ oD36_83) rfl ?_
  have c18 := (Exa.wr W16 c14)
  have c19 := (Fld.other W16 (Fld.other W12 (Fld.ext E5 (Fld.ext E2 F_a)) (Or.inr (slot_ne (Or.inr (k_ 100 rfl)) (Or.inr (k_ 96 rfl)) (by decide) (t := .boolean) (t' := (.object "java/lang/String")) (by decide) (by decide)))) (Or.inr (slot_ne (Or.inr (k_ 100 rfl)) (Or.inr (k_ 98 rfl)) (by decide) (t := .boolean) (t' := .boolean) (by decide) (by decide))))
  refine o_putFN (v' := (.int A)) X16 hx hZ5 hown5 (k_ 99 rfl) Via.refl e16 c19 c18 (Or.inr ⟨(k_ 100 rfl), rfl, hnm⟩) (k_ 35 rfl) (ty := .boolean) (by decide) (o_narZ hA) (o_fitZ hA) (y_ oD36_84) (fun T20 h20 X20 e20 W20 => ?_)
  have F20 := Fld.same W20 c19
  have N20 := Fr.snoc X20 N16 g_b
  have O20 := Old.wr O16 W20 g_b
  have C21 := CHr.trans C17 (CHr.wr W20 (Safe.exa hZ5.alike c18 (by decide) (by decide)) C17.1)
  have kp22 := Keep.ext (Keep.refl h0 [b]) E2
  have kp23 := Keep.ext kp22 E5
  have kp24 := Keep.wr kp23 W12 (Or.inl (List.mem_of_getElem? (i := 0) rfl))
  have kp25 := Keep.wr kp24 W16 (Or.inl (List.mem_of_getElem? (i := 0) rfl))
  have kp26 := Keep.wr kp25 W20 (Or.inl (List.mem_of_getElem? (i := 0) rfl))
  have c27 := (Exa.wr W20 c18)
  have c28 := (Fld.other W20 (Fld.other W16 F12 (Or.inr (slot_ne (Or.inr (k_ 96 rfl)) (Or.inr (k_ 98 rfl)) (by decide) (t := (.object "java/lang/String")) (t' := .boolean) (by decide) (by decide)))) (Or.inr (slot_ne (Or.inr (k_ 96 rfl)) (Or.inr (k_ 100 rfl)) (by decide) (t := (.object "java/lang/String")) (t' := .boolean) (by decide) (by decide))))
  have c29 := (Fld.other W20 F16 (Or.inr (slot_ne (Or.inr (k_ 98 rfl)) (Or.inr (k_ 100 rfl)) (by decide) (t := .boolean) (t' := .boolean) (by decide) (by decide))))
  exact o_retVH X20 hx hS5 (by rw [e20]; exact (Nat.le_trans (Nat.le_trans (Nat.le_trans hk5 (Keep.of_wr W12).1) (Keep.of_wr W16).1) (Keep.of_wr W20).1)) hZ5 hEL (by rw [e20]; exact C21) hrt hlk (y_ oD36_87) (by decide) (by decide) (o_hQ e20 ⟨rfl, N20, kp26, c27, c28, c29, F20⟩)
abbrev Qct2 (Z : State) (b : Addr) (x : Addr) (B : Int32) (A : Int32) (t : Addr) (c0 : Int32) (c1 : Int32) (zC_ : Int32) (h0 : Heap) (n0 : Nat) (v : Option Value) (h : Heap) (L : List Loc) : Prop := v = none ∧ Fr n0 L ∧ Keep h0 h [b] ∧ Exa Z h b "org/adviceweft/pointcut/NamePattern" ∧ Fld Z h b "org/adviceweft/pointcut/NamePattern" "core" "Ljava/lang/String;" (.ref x) ∧ Fld Z h b "org/adviceweft/pointcut/NamePattern" "anyBefore" "Z" (.int B) ∧ Fld Z h b "org/adviceweft/pointcut/NamePattern" "anyAfter" "Z" (.int A)
set_option maxRecDepth 65536 in
set_option maxHeartbeats 40000000 in
theorem rmct2 (l : Launch) (Z : State) (a0 : Array Value) (hw : ∀ d ∈ tables_1, d.before a0 Z = true) (ws : List Jvm.Cond) (b : Addr) (x : Addr) (B : Int32) (A : Int32) (t : Addr) (c0 : Int32) (c1 : Int32) (zC_ : Int32) (h0 : Heap) (n0 : Nat) (O0 : Old Z n0 h0) (E_b : Exa Z h0 b "org/adviceweft/pointcut/NamePattern") (F_k : Fld Z h0 b "org/adviceweft/pointcut/NamePattern" "core" "Ljava/lang/String;" .null) (F_b : Fld Z h0 b "org/adviceweft/pointcut/NamePattern" "anyBefore" "Z" (.int 0)) (F_a : Fld Z h0 b "org/adviceweft/pointcut/NamePattern" "anyAfter" "Z" (.int 0)) (g_b : n0 ≤ b) (S_x : o_Str Z h0 x t ([c0, c1] : List Int32)) (hst : ¬ o_occ ([c0, c1] : List Int32) ([(42 : Int32)] : List Int32) = true) (hB : B = 0 ∨ B = 1) (hA : A = 0 ∨ A = 1) (SC_ : o_SC Z zC_) (hC_ : ¬ zC_ = 0) :
    o_MetH o_EL l Z o_m37 prog_8_method_1_code 4 none ws o_R20 #[(.ref b), (.ref x), (.int B), (.int A)] h0 (Qct2 Z b x B A t c0 c1 zC_ h0 n0) := by
  refine o_enterH o_pn_8 (fun m => o_ef20 m b x B A) (fun p e s m below meth c s₁ hx hby hml hZ hown hnm hlk hrt X0 e0 hS0 hk0 C0 => ?_)
  have N0 := Fr.nil n0
  have y_ := @hb _ _ hby
  have k_ := @o_k _ _ hw
  have hEL := o_EWs hw
  refine o_aloadN X0 hx (y_ oD36_0) rfl rfl ?_
  refine o_ini (y := o_m9) (b := b) (argsL := []) (S := []) (W := 0) rfl X0 hx hZ hown (k_ 40 rfl) (k_ 41 rfl) (k_ 44 rfl) (backOf (W := 0) (rmrec l Z a0 hw [] b h0 n0 O0) hZ (k_ 44 rfl) (k_ 43 rfl) (by decide) (by decide)) e0 hml (lenOf o_pd__28_29V rfl) (y_ oD36_1) (fun T1 L1 v1 X1 hQ1 => ?_)
  obtain ⟨rfl, N1q, hh1⟩ := hQ1
  have N1 := Fr.app N0 N1q
  show o_G p e below _ T1 (mkF m 4 #[vR b, vR x, vI B, vI A] [])
  refine o_aloadN X1 hx (y_ oD36_4) rfl rfl ?_
  refine o_ldcH (n := 16) (vs := [.int 99, .int 111, .int 114, .int 101]) (z := 4) X1 hx hZ hown (k_ 46 rfl) (fun d hd => hw d (o_strat d hd)) hh1 hS0 hk0 hEL (by decide) C0.1 ⟨by decide, by decide⟩ (by decide) (by decide) (y_ oD36_5) (by decide) (by decide) (by decide) (by decide) (fun a2 b2 kb2 T2 k2 X2 E2 hS2 hk2 hZ2 hown2 Ex2 Co2 Va2 Av2 hC2 Li2 Sa2 => ?_)
  have O2 := Old.ext O0 E2
  have C3 := CHr.trans C0 (hC2)
  show o_G p e below _ T2 (mkF m 7 #[vR b, vR x, vI B, vI A] [(.ref a2), (.ref x)])
  refine o_sta (y := o_m10) (argsL := [(.ref x), (.ref a2)]) (S := []) (W := 0) X2 hx hZ2 hown2 (k_ 49 rfl) (k_ 50 rfl) (k_ 51 rfl) (k_ 52 rfl) (backOf (W := 0) (rmrnn l Z a0 hw [] x a2 T2.heap n0 O2) hZ2 (k_ 52 rfl) (k_ 51 rfl) (by decide) (by decide)) rfl hml (lenOf o_pd__28Ljava_2flang_2fObject_3bLjava_2flang_2fString_3b_29Ljava_2flang_2fObject_3b rfl) (y_ oD36_7) (fun T4 L4 v4 X4 hQ4 => ?_)
  obtain ⟨rfl, N4q, hh4⟩ := hQ4
  have N4 := Fr.app N1 N4q
  show o_G p e below _ T4 (mkF m 10 #[vR b, vR x, vI B, vI A] [(.ref x)])
  refine o_pop X4 hx (y_ oD36_10) rfl ?_
  refine o_aloadN X4 hx (y_ oD36_11) rfl rfl ?_
  refine o_ldcH (n := 4) (vs := [.int 42]) (z := 1) X4 hx hZ2 hown2 (k_ 53 rfl) (fun d hd => hw d (o_strat d hd)) hh4 hS2 hk2 hEL (by decide) C3.1 ⟨by decide, by decide⟩ (by decide) (by decide) (y_ oD36_12) (by decide) (by decide) (by decide) (by decide) (fun a5 b5 kb5 T5 k5 X5 E5 hS5 hk5 hZ5 hown5 Ex5 Co5 Va5 Av5 hC5 Li5 Sa5 => ?_)
  have O5 := Old.ext O2 E5
  have C6 := CHr.trans C3 (hC5)
  show o_G p e below _ T5 (mkF m 14 #[vR b, vR x, vI B, vI A] [(.ref a5), (.ref x)])
  have Ss5 : o_Str Z T5.heap a5 b5 ([(42 : Int32)] : List Int32) := ⟨Ex5, Co5, Va5, ⟨_, Av5⟩, by decide, by decide⟩
  have c7 := (o_Str.ext E5 (o_Str.ext E2 S_x))
  refine o_vir (y := o_m33) (b := x) (argsL := [(.ref a5)]) (S := []) (W := 0) X5 hx hZ5 hown5 (k_ 54 rfl) (k_ 55 rfl) (k_ 57 rfl) (k_ 56 rfl) (backOf (W := 0) (rmcon2_1 l Z a0 hw [] x a5 t b5 c0 c1 (42 : Int32) zC_ T5.heap n0 O5 c7 Ss5 SC_ hC_) hZ5 (k_ 58 rfl) (k_ 6 rfl) (by decide) (by decide)) rfl c7.1 hml (lenOf o_pd__28Ljava_2flang_2fCharSequence_3b_29Z rfl) (y_ oD36_14) (fun T8 L8 v8 X8 hQ8 => ?_)
  obtain ⟨rfl, N8q, hh8⟩ := hQ8
  have N8 := Fr.app N4 N8q
  show o_G p e below _ T8 (mkF m 17 #[vR b, vR x, vI B, vI A] [(.int (if o_occ ([c0, c1] : List Int32) ([(42 : Int32)] : List Int32) = true then 1 else 0 : Int32))])
  refine o_iF (t := 35) X8 hx (y_ oD36_17) (fun hq => ?_) (fun hq => ?_)
  · have hc17 := o_h_ne.1 hq
    exact absurd (if_neg hst) hc17
  have hc17 := o_h_ne.2 hq
  refine o_aloadN X8 hx (y_ oD36_20) rfl rfl ?_
  refine o_vir (y := o_m38) (b := x) (argsL := []) (S := []) (W := 0) X8 hx hZ5 hown5 (k_ 90 rfl) (k_ 91 rfl) (k_ 93 rfl) (k_ 92 rfl) (o_empB (W := 0) hZ5 hw (k_ 5 rfl) c7 (by decide) (by decide)) hh8 c7.1 hml (lenOf o_pd__28_29Z rfl) (y_ oD36_21) (fun T9 L9 v9 X9 hQ9 => ?_)
  obtain ⟨rfl, rfl, hh9⟩ := hQ9
  have N9 := Fr.app N8 (Fr.nil n0)
  show o_G p e below _ T9 (mkF m 24 #[vR b, vR x, vI B, vI A] [(.int 0)])
  refine o_iFT (t := 72) X9 hx (y_ oD36_24) ?_
  refine o_aloadN X9 hx (y_ oD36_72) rfl rfl ?_
  refine o_aloadN X9 hx (y_ oD36_73) rfl rfl ?_
  have c10 := (Exa.ext E5 (Exa.ext E2 E_b))
  have c11 := (Fld.ext E5 (Fld.ext E2 F_k))
  refine o_putF X9 hx hZ5 hown5 (host := "") (Or.inl (k_ 95 rfl)) Via.refl hh9 c11 c10 (Or.inr ⟨(k_ 96 rfl), rfl, hnm⟩) (k_ 35 rfl) (ty := (.object "java/lang/String")) (by decide) rfl rfl (y_ oD36_74) (fun T12 h12 X12 e12 W12 => ?_)
  have F12 := Fld.same W12 c11
  have N12 := Fr.snoc X12 N9 g_b
  have O12 := Old.wr O5 W12 g_b
  have C13 := CHr.trans C6 (CHr.wr W12 (Safe.exa hZ5.alike c10 (by decide) (by decide)) C6.1)
  refine o_aloadN X12 hx (y_ oD36_77) rfl rfl ?_
  refine o_iloadN X12 hx (y_ oD36_78) rfl ?_
  have c14 := (Exa.wr W12 c10)
  have c15 := (Fld.other W12 (Fld.ext E5 (Fld.ext E2 F_b)) (Or.inr (slot_ne (Or.inr (k_ 98 rfl)) (Or.inr (k_ 96 rfl)) (by decide) (t := .boolean) (t' := (.object "java/lang/String")) (by decide) (by decide))))
  refine o_putFN (v' := (.int B)) X12 hx hZ5 hown5 (k_ 97 rfl) Via.refl e12 c15 c14 (Or.inr ⟨(k_ 98 rfl), rfl, hnm⟩) (k_ 35 rfl) (ty := .boolean) (by decide) (o_narZ hB) (o_fitZ hB) (y_ oD36_79) (fun T16 h16 X16 e16 W16 => ?_)
  have F16 := Fld.same W16 c15
  have N16 := Fr.snoc X16 N12 g_b
  have O16 := Old.wr O12 W16 g_b
  have C17 := CHr.trans C13 (CHr.wr W16 (Safe.exa hZ5.alike c14 (by decide) (by decide)) C13.1)
  refine o_aloadN X16 hx (y_ oD36_82) rfl rfl ?_
  refine o_iloadN X16 hx (y_ oD36_83) rfl ?_
  have c18 := (Exa.wr W16 c14)
  have c19 := (Fld.other W16 (Fld.other W12 (Fld.ext E5 (Fld.ext E2 F_a)) (Or.inr (slot_ne (Or.inr (k_ 100 rfl)) (Or.inr (k_ 96 rfl)) (by decide) (t := .boolean) (t' := (.object "java/lang/String")) (by decide) (by decide)))) (Or.inr (slot_ne (Or.inr (k_ 100 rfl)) (Or.inr (k_ 98 rfl)) (by decide) (t := .boolean) (t' := .boolean) (by decide) (by decide))))
  refine o_putFN (v' := (.int A)) X16 hx hZ5 hown5 (k_ 99 rfl) Via.refl e16 c19 c18 (Or.inr ⟨(k_ 100 rfl), rfl, hnm⟩) (k_ 35 rfl) (ty := .boolean) (by decide) (o_narZ hA) (o_fitZ hA) (y_ oD36_84) (fun T20 h20 X20 e20 W20 => ?_)
  have F20 := Fld.same W20 c19
  have N20 := Fr.snoc X20 N16 g_b
  have O20 := Old.wr O16 W20 g_b
  have C21 := CHr.trans C17 (CHr.wr W20 (Safe.exa hZ5.alike c18 (by decide) (by decide)) C17.1)
  have kp22 := Keep.ext (Keep.refl h0 [b]) E2
  have kp23 := Keep.ext kp22 E5
  have kp24 := Keep.wr kp23 W12 (Or.inl (List.mem_of_getElem? (i := 0) rfl))
  have kp25 := Keep.wr kp24 W16 (Or.inl (List.mem_of_getElem? (i := 0) rfl))
  have kp26 := Keep.wr kp25 W20 (Or.inl (List.mem_of_getElem? (i := 0) rfl))
  have c27 := (Exa.wr W20 c18)
  have c28 := (Fld.other W20 (Fld.other W16 F12 (Or.inr (slot_ne (Or.inr (k_ 96 rfl)) (Or.inr (k_ 98 rfl)) (by decide) (t := (.object "java/lang/String")) (t' := .boolean) (by decide) (by decide)))) (Or.inr (slot_ne (Or.inr (k_ 96 rfl)) (Or.inr (k_ 100 rfl)) (by decide) (t := (.object "java/lang/String")) (t' := .boolean) (by decide) (by decide))))
  have c29 := (Fld.other W20 F16 (Or.inr (slot_ne (Or.inr (k_ 98 rfl)) (Or.inr (k_ 100 rfl)) (by decide) (t := .boolean) (t' := .boolean) (by decide) (by decide))))
  exact o_retVH X20 hx hS5 (by rw [e20]; exact (Nat.le_trans (Nat.le_trans (Nat.le_trans hk5 (Keep.of_wr W12).1) (Keep.of_wr W16).1) (Keep.of_wr W20).1)) hZ5 hEL (by rw [e20]; exact C21) hrt hlk (y_ oD36_87) (by decide) (by decide) (o_hQ e20 ⟨rfl, N20, kp26, c27, c28, c29, F20⟩)
abbrev Qct3 (Z : State) (b : Addr) (x : Addr) (B : Int32) (A : Int32) (t : Addr) (c0 : Int32) (c1 : Int32) (c2 : Int32) (zC_ : Int32) (h0 : Heap) (n0 : Nat) (v : Option Value) (h : Heap) (L : List Loc) : Prop := v = none ∧ Fr n0 L ∧ Keep h0 h [b] ∧ Exa Z h b "org/adviceweft/pointcut/NamePattern" ∧ Fld Z h b "org/adviceweft/pointcut/NamePattern" "core" "Ljava/lang/String;" (.ref x) ∧ Fld Z h b "org/adviceweft/pointcut/NamePattern" "anyBefore" "Z" (.int B) ∧ Fld Z h b "org/adviceweft/pointcut/NamePattern" "anyAfter" "Z" (.int A)
set_option maxRecDepth 65536 in
set_option maxHeartbeats 40000000 in
theorem rmct3 (l : Launch) (Z : State) (a0 : Array Value) (hw : ∀ d ∈ tables_1, d.before a0 Z = true) (ws : List Jvm.Cond) (b : Addr) (x : Addr) (B : Int32) (A : Int32) (t : Addr) (c0 : Int32) (c1 : Int32) (c2 : Int32) (zC_ : Int32) (h0 : Heap) (n0 : Nat) (O0 : Old Z n0 h0) (E_b : Exa Z h0 b "org/adviceweft/pointcut/NamePattern") (F_k : Fld Z h0 b "org/adviceweft/pointcut/NamePattern" "core" "Ljava/lang/String;" .null) (F_b : Fld Z h0 b "org/adviceweft/pointcut/NamePattern" "anyBefore" "Z" (.int 0)) (F_a : Fld Z h0 b "org/adviceweft/pointcut/NamePattern" "anyAfter" "Z" (.int 0)) (g_b : n0 ≤ b) (S_x : o_Str Z h0 x t ([c0, c1, c2] : List Int32)) (hst : ¬ o_occ ([c0, c1, c2] : List Int32) ([(42 : Int32)] : List Int32) = true) (hB : B = 0 ∨ B = 1) (hA : A = 0 ∨ A = 1) (SC_ : o_SC Z zC_) (hC_ : ¬ zC_ = 0) :
    o_MetH o_EL l Z o_m37 prog_8_method_1_code 4 none ws o_R20 #[(.ref b), (.ref x), (.int B), (.int A)] h0 (Qct3 Z b x B A t c0 c1 c2 zC_ h0 n0) := by
  refine o_enterH o_pn_8 (fun m => o_ef20 m b x B A) (fun p e s m below meth c s₁ hx hby hml hZ hown hnm hlk hrt X0 e0 hS0 hk0 C0 => ?_)
  have N0 := Fr.nil n0
  have y_ := @hb _ _ hby
  have k_ := @o_k _ _ hw
  have hEL := o_EWs hw
  refine o_aloadN X0 hx (y_ oD36_0) rfl rfl ?_
  refine o_ini (y := o_m9) (b := b) (argsL := []) (S := []) (W := 0) rfl X0 hx hZ hown (k_ 40 rfl) (k_ 41 rfl) (k_ 44 rfl) (backOf (W := 0) (rmrec l Z a0 hw [] b h0 n0 O0) hZ (k_ 44 rfl) (k_ 43 rfl) (by decide) (by decide)) e0 hml (lenOf o_pd__28_29V rfl) (y_ oD36_1) (fun T1 L1 v1 X1 hQ1 => ?_)
  obtain ⟨rfl, N1q, hh1⟩ := hQ1
  have N1 := Fr.app N0 N1q
  show o_G p e below _ T1 (mkF m 4 #[vR b, vR x, vI B, vI A] [])
  refine o_aloadN X1 hx (y_ oD36_4) rfl rfl ?_
  refine o_ldcH (n := 16) (vs := [.int 99, .int 111, .int 114, .int 101]) (z := 4) X1 hx hZ hown (k_ 46 rfl) (fun d hd => hw d (o_strat d hd)) hh1 hS0 hk0 hEL (by decide) C0.1 ⟨by decide, by decide⟩ (by decide) (by decide) (y_ oD36_5) (by decide) (by decide) (by decide) (by decide) (fun a2 b2 kb2 T2 k2 X2 E2 hS2 hk2 hZ2 hown2 Ex2 Co2 Va2 Av2 hC2 Li2 Sa2 => ?_)
  have O2 := Old.ext O0 E2
  have C3 := CHr.trans C0 (hC2)
  show o_G p e below _ T2 (mkF m 7 #[vR b, vR x, vI B, vI A] [(.ref a2), (.ref x)])
  refine o_sta (y := o_m10) (argsL := [(.ref x), (.ref a2)]) (S := []) (W := 0) X2 hx hZ2 hown2 (k_ 49 rfl) (k_ 50 rfl) (k_ 51 rfl) (k_ 52 rfl) (backOf (W := 0) (rmrnn l Z a0 hw [] x a2 T2.heap n0 O2) hZ2 (k_ 52 rfl) (k_ 51 rfl) (by decide) (by decide)) rfl hml (lenOf o_pd__28Ljava_2flang_2fObject_3bLjava_2flang_2fString_3b_29Ljava_2flang_2fObject_3b rfl) (y_ oD36_7) (fun T4 L4 v4 X4 hQ4 => ?_)
  obtain ⟨rfl, N4q, hh4⟩ := hQ4
  have N4 := Fr.app N1 N4q
  show o_G p e below _ T4 (mkF m 10 #[vR b, vR x, vI B, vI A] [(.ref x)])
  refine o_pop X4 hx (y_ oD36_10) rfl ?_
  refine o_aloadN X4 hx (y_ oD36_11) rfl rfl ?_
  refine o_ldcH (n := 4) (vs := [.int 42]) (z := 1) X4 hx hZ2 hown2 (k_ 53 rfl) (fun d hd => hw d (o_strat d hd)) hh4 hS2 hk2 hEL (by decide) C3.1 ⟨by decide, by decide⟩ (by decide) (by decide) (y_ oD36_12) (by decide) (by decide) (by decide) (by decide) (fun a5 b5 kb5 T5 k5 X5 E5 hS5 hk5 hZ5 hown5 Ex5 Co5 Va5 Av5 hC5 Li5 Sa5 => ?_)
  have O5 := Old.ext O2 E5
  have C6 := CHr.trans C3 (hC5)
  show o_G p e below _ T5 (mkF m 14 #[vR b, vR x, vI B, vI A] [(.ref a5), (.ref x)])
  have Ss5 : o_Str Z T5.heap a5 b5 ([(42 : Int32)] : List Int32) := ⟨Ex5, Co5, Va5, ⟨_, Av5⟩, by decide, by decide⟩
  have c7 := (o_Str.ext E5 (o_Str.ext E2 S_x))
  refine o_vir (y := o_m33) (b := x) (argsL := [(.ref a5)]) (S := []) (W := 0) X5 hx hZ5 hown5 (k_ 54 rfl) (k_ 55 rfl) (k_ 57 rfl) (k_ 56 rfl) (backOf (W := 0) (rmcon3_1 l Z a0 hw [] x a5 t b5 c0 c1 c2 (42 : Int32) zC_ T5.heap n0 O5 c7 Ss5 SC_ hC_) hZ5 (k_ 58 rfl) (k_ 6 rfl) (by decide) (by decide)) rfl c7.1 hml (lenOf o_pd__28Ljava_2flang_2fCharSequence_3b_29Z rfl) (y_ oD36_14) (fun T8 L8 v8 X8 hQ8 => ?_)
  obtain ⟨rfl, N8q, hh8⟩ := hQ8
  have N8 := Fr.app N4 N8q
  show o_G p e below _ T8 (mkF m 17 #[vR b, vR x, vI B, vI A] [(.int (if o_occ ([c0, c1, c2] : List Int32) ([(42 : Int32)] : List Int32) = true then 1 else 0 : Int32))])
  refine o_iF (t := 35) X8 hx (y_ oD36_17) (fun hq => ?_) (fun hq => ?_)
  · have hc17 := o_h_ne.1 hq
    exact absurd (if_neg hst) hc17
  have hc17 := o_h_ne.2 hq
  refine o_aloadN X8 hx (y_ oD36_20) rfl rfl ?_
  refine o_vir (y := o_m38) (b := x) (argsL := []) (S := []) (W := 0) X8 hx hZ5 hown5 (k_ 90 rfl) (k_ 91 rfl) (k_ 93 rfl) (k_ 92 rfl) (o_empB (W := 0) hZ5 hw (k_ 5 rfl) c7 (by decide) (by decide)) hh8 c7.1 hml (lenOf o_pd__28_29Z rfl) (y_ oD36_21) (fun T9 L9 v9 X9 hQ9 => ?_)
  obtain ⟨rfl, rfl, hh9⟩ := hQ9
  have N9 := Fr.app N8 (Fr.nil n0)
  show o_G p e below _ T9 (mkF m 24 #[vR b, vR x, vI B, vI A] [(.int 0)])
  refine o_iFT (t := 72) X9 hx (y_ oD36_24) ?_
  refine o_aloadN X9 hx (y_ oD36_72) rfl rfl ?_
  refine o_aloadN X9 hx (y_ oD36_73) rfl rfl ?_
  have c10 := (Exa.ext E5 (Exa.ext E2 E_b))
  have c11 := (Fld.ext E5 (Fld.ext E2 F_k))
  refine o_putF X9 hx hZ5 hown5 (host := "") (Or.inl (k_ 95 rfl)) Via.refl hh9 c11 c10 (Or.inr ⟨(k_ 96 rfl), rfl, hnm⟩) (k_ 35 rfl) (ty := (.object "java/lang/String")) (by decide) rfl rfl (y_ oD36_74) (fun T12 h12 X12 e12 W12 => ?_)
  have F12 := Fld.same W12 c11
  have N12 := Fr.snoc X12 N9 g_b
  have O12 := Old.wr O5 W12 g_b
  have C13 := CHr.trans C6 (CHr.wr W12 (Safe.exa hZ5.alike c10 (by decide) (by decide)) C6.1)
  refine o_aloadN X12 hx (y_ oD36_77) rfl rfl ?_
  refine o_iloadN X12 hx (y_ oD36_78) rfl ?_
  have c14 := (Exa.wr W12 c10)
  have c15 := (Fld.other W12 (Fld.ext E5 (Fld.ext E2 F_b)) (Or.inr (slot_ne (Or.inr (k_ 98 rfl)) (Or.inr (k_ 96 rfl)) (by decide) (t := .boolean) (t' := (.object "java/lang/String")) (by decide) (by decide))))
  refine o_putFN (v' := (.int B)) X12 hx hZ5 hown5 (k_ 97 rfl) Via.refl e12 c15 c14 (Or.inr ⟨(k_ 98 rfl), rfl, hnm⟩) (k_ 35 rfl) (ty := .boolean) (by decide) (o_narZ hB) (o_fitZ hB) (y_ oD36_79) (fun T16 h16 X16 e16 W16 => ?_)
  have F16 := Fld.same W16 c15
  have N16 := Fr.snoc X16 N12 g_b
  have O16 := Old.wr O12 W16 g_b
  have C17 := CHr.trans C13 (CHr.wr W16 (Safe.exa hZ5.alike c14 (by decide) (by decide)) C13.1)
  refine o_aloadN X16 hx (y_ oD36_82) rfl rfl ?_
  refine o_iloadN X16 hx (y_ oD36_83) rfl ?_
  have c18 := (Exa.wr W16 c14)
  have c19 := (Fld.other W16 (Fld.other W12 (Fld.ext E5 (Fld.ext E2 F_a)) (Or.inr (slot_ne (Or.inr (k_ 100 rfl)) (Or.inr (k_ 96 rfl)) (by decide) (t := .boolean) (t' := (.object "java/lang/String")) (by decide) (by decide)))) (Or.inr (slot_ne (Or.inr (k_ 100 rfl)) (Or.inr (k_ 98 rfl)) (by decide) (t := .boolean) (t' := .boolean) (by decide) (by decide))))
  refine o_putFN (v' := (.int A)) X16 hx hZ5 hown5 (k_ 99 rfl) Via.refl e16 c19 c18 (Or.inr ⟨(k_ 100 rfl), rfl, hnm⟩) (k_ 35 rfl) (ty := .boolean) (by decide) (o_narZ hA) (o_fitZ hA) (y_ oD36_84) (fun T20 h20 X20 e20 W20 => ?_)
  have F20 := Fld.same W20 c19
  have N20 := Fr.snoc X20 N16 g_b
  have O20 := Old.wr O16 W20 g_b
  have C21 := CHr.trans C17 (CHr.wr W20 (Safe.exa hZ5.alike c18 (by decide) (by decide)) C17.1)
  have kp22 := Keep.ext (Keep.refl h0 [b]) E2
  have kp23 := Keep.ext kp22 E5
  have kp24 := Keep.wr kp23 W12 (Or.inl (List.mem_of_getElem? (i := 0) rfl))
  have kp25 := Keep.wr kp24 W16 (Or.inl (List.mem_of_getElem? (i := 0) rfl))
  have kp26 := Keep.wr kp25 W20 (Or.inl (List.mem_of_getElem? (i := 0) rfl))
  have c27 := (Exa.wr W20 c18)
  have c28 := (Fld.other W20 (Fld.other W16 F12 (Or.inr (slot_ne (Or.inr (k_ 96 rfl)) (Or.inr (k_ 98 rfl)) (by decide) (t := (.object "java/lang/String")) (t' := .boolean) (by decide) (by decide)))) (Or.inr (slot_ne (Or.inr (k_ 96 rfl)) (Or.inr (k_ 100 rfl)) (by decide) (t := (.object "java/lang/String")) (t' := .boolean) (by decide) (by decide))))
  have c29 := (Fld.other W20 F16 (Or.inr (slot_ne (Or.inr (k_ 98 rfl)) (Or.inr (k_ 100 rfl)) (by decide) (t := .boolean) (t' := .boolean) (by decide) (by decide))))
  exact o_retVH X20 hx hS5 (by rw [e20]; exact (Nat.le_trans (Nat.le_trans (Nat.le_trans hk5 (Keep.of_wr W12).1) (Keep.of_wr W16).1) (Keep.of_wr W20).1)) hZ5 hEL (by rw [e20]; exact C21) hrt hlk (y_ oD36_87) (by decide) (by decide) (o_hQ e20 ⟨rfl, N20, kp26, c27, c28, c29, F20⟩)
abbrev Q0 (Z : State) (p1 : Int32) (p2 : Int32) (p3 : Int32) (p4 : Int32) (zC_ : Int32) (fm : Value) (h0 : Heap) (n0 : Nat) (v : Option Value) (h : Heap) (L : List Loc) : Prop := v = some (.int 1) ∧ Fr n0 L
set_option maxRecDepth 65536 in
set_option maxHeartbeats 40000000 in
theorem rm0 (l : Launch) (Z : State) (a0 : Array Value) (hw : ∀ d ∈ tables_1, d.before a0 Z = true) (ws : List Jvm.Cond) (p1 : Int32) (p2 : Int32) (p3 : Int32) (p4 : Int32) (zC_ : Int32) (fm : Value) (h0 : Heap) (n0 : Nat) (O0 : Old Z n0 h0) (SC_ : o_SC Z zC_) (hC_ : ¬ zC_ = 0) (S_f : Sta Z Z.heap "jdk/internal/util/Preconditions" "SIOOBE_FORMATTER" "Ljava/util/function/BiFunction;" fm) (hfm : fm.isRef = true) :
    o_MetL o_EL l Z x code maxLocals ret ws room_1 #[(.int p1), (.int p2), (.int p3), (.int p4)] h0 (Q0 Z p1 p2 p3 p4 zC_ fm h0 n0) := by
  refine o_enterL o_pn_5 (fun m => o_ef21 m p1 p2 p3 p4) (fun p e s m below meth c s₁ hx hby hml hZ hown hnm hlk hrt X0 e0 hS0 hk0 C0 => ?_)
  have N0 := Fr.nil n0
  have y_ := @hb _ _ hby
  have k_ := @o_k _ _ hw
  have hml : c.maxLocals = 15 := hml
  have hEL := o_EWs hw
  refine o_iloadN X0 hx (y_ at_0) rfl ?_
  refine o_iconst X0 hx (y_ at_1) (x := 1) rfl ?_
  refine o_iand X0 hx (y_ at_2) ?_
  refine o_iF (t := 10) X0 hx (y_ at_3) (fun hq => ?_) (fun hq => ?_)
  · have hc3 := o_h_eq.1 hq
    refine o_iconst X0 hx (y_ at_10) (x := 0) rfl ?_
    refine o_istore X0 hx (y_ at_11) (A' := #[vI p1, vI p2, vI p3, vI p4, vI 0, .unset, .unset, .unset, .unset, .unset, .unset, .unset, .unset, .unset, .unset]) rfl ?_
    refine o_iloadN X0 hx (y_ at_13) rfl ?_
    refine o_iconst X0 hx (y_ at_14) (x := 2) rfl ?_
    refine o_iand X0 hx (y_ at_15) ?_
    refine o_iF (t := 23) X0 hx (y_ at_16) (fun hq => ?_) (fun hq => ?_)
    · have hc16 := o_h_eq.1 hq
      refine o_iconst X0 hx (y_ at_23) (x := 0) rfl ?_
      refine o_istore X0 hx (y_ at_24) (A' := #[vI p1, vI p2, vI p3, vI p4, vI 0, vI 0, .unset, .unset, .unset, .unset, .unset, .unset, .unset, .unset, .unset]) rfl ?_
      refine o_iloadN X0 hx (y_ at_26) rfl ?_
      refine o_iconst X0 hx (y_ at_27) (x := 2) rfl ?_
      refine o_iushr X0 hx (y_ at_28) ?_
      refine o_iconst X0 hx (y_ at_29) (x := 3) rfl ?_
      refine o_iand X0 hx (y_ at_30) ?_
      have hkl := o_and3 (XT.ushr p1 (2 : Int32))
      generalize (XT.ushr p1 (2 : Int32)) &&& (3 : Int32) = kl at hkl ⊢
      refine o_istore X0 hx (y_ at_31) (A' := #[vI p1, vI p2, vI p3, vI p4, vI 0, vI 0, vI kl, .unset, .unset, .unset, .unset, .unset, .unset, .unset, .unset]) rfl ?_
      refine o_iloadN X0 hx (y_ at_33) rfl ?_
      refine o_sta (y := o_m11) (argsL := [(.int p2)]) (S := []) (W := 0) X0 hx hZ hown (k_ 0 rfl) (k_ 1 rfl) (k_ 2 rfl) (k_ 3 rfl) (backOf (W := 0) (rmcch l Z a0 hw [] p2 h0 n0 O0) hZ (k_ 3 rfl) (k_ 2 rfl) (by decide) (by decide)) e0 hml (lenOf o_pd__28I_29C rfl) (y_ at_34) (fun T1 L1 v1 X1 hQ1 => ?_)
      obtain ⟨rfl, N1q, hh1⟩ := hQ1
      have N1 := Fr.app N0 N1q
      show o_G p e below _ T1 (mkF m 37 #[vI p1, vI p2, vI p3, vI p4, vI 0, vI 0, vI kl, .unset, .unset, .unset, .unset, .unset, .unset, .unset, .unset] [(.int (o_core p2))])
      obtain ⟨ca, e_ca, n_ca, l_ca, u_ca, s_ca⟩ := o_coreP p2
      rw [e_ca]
      refine o_istore X1 hx (y_ at_37) (A' := #[vI p1, vI p2, vI p3, vI p4, vI 0, vI 0, vI kl, vI ca, .unset, .unset, .unset, .unset, .unset, .unset, .unset]) rfl ?_
      refine o_iloadN X1 hx (y_ at_39) rfl ?_
      refine o_sta (y := o_m11) (argsL := [(.int p3)]) (S := []) (W := 0) X1 hx hZ hown (k_ 0 rfl) (k_ 1 rfl) (k_ 2 rfl) (k_ 3 rfl) (backOf (W := 0) (rmcch l Z a0 hw [] p3 h0 n0 O0) hZ (k_ 3 rfl) (k_ 2 rfl) (by decide) (by decide)) hh1 hml (lenOf o_pd__28I_29C rfl) (y_ at_40) (fun T2 L2 v2 X2 hQ2 => ?_)
      obtain ⟨rfl, N2q, hh2⟩ := hQ2
      have N2 := Fr.app N1 N2q
      show o_G p e below _ T2 (mkF m 43 #[vI p1, vI p2, vI p3, vI p4, vI 0, vI 0, vI kl, vI ca, .unset, .unset, .unset, .unset, .unset, .unset, .unset] [(.int (o_core p3))])
      obtain ⟨cb, e_cb, n_cb, l_cb, u_cb, s_cb⟩ := o_coreP p3
      rw [e_cb]
      refine o_istore X2 hx (y_ at_43) (A' := #[vI p1, vI p2, vI p3, vI p4, vI 0, vI 0, vI kl, vI ca, vI cb, .unset, .unset, .unset, .unset, .unset, .unset]) rfl ?_
      refine o_iloadN X2 hx (y_ at_45) rfl ?_
      refine o_sta (y := o_m11) (argsL := [(.int p4)]) (S := []) (W := 0) X2 hx hZ hown (k_ 0 rfl) (k_ 1 rfl) (k_ 2 rfl) (k_ 3 rfl) (backOf (W := 0) (rmcch l Z a0 hw [] p4 h0 n0 O0) hZ (k_ 3 rfl) (k_ 2 rfl) (by decide) (by decide)) hh2 hml (lenOf o_pd__28I_29C rfl) (y_ at_46) (fun T3 L3 v3 X3 hQ3 => ?_)
      obtain ⟨rfl, N3q, hh3⟩ := hQ3
      have N3 := Fr.app N2 N3q
      show o_G p e below _ T3 (mkF m 49 #[vI p1, vI p2, vI p3, vI p4, vI 0, vI 0, vI kl, vI ca, vI cb, .unset, .unset, .unset, .unset, .unset, .unset] [(.int (o_core p4))])
      obtain ⟨cc, e_cc, n_cc, l_cc, u_cc, s_cc⟩ := o_coreP p4
      rw [e_cc]
      refine o_istore X3 hx (y_ at_49) (A' := #[vI p1, vI p2, vI p3, vI p4, vI 0, vI 0, vI kl, vI ca, vI cb, vI cc, .unset, .unset, .unset, .unset, .unset]) rfl ?_
      refine o_iload X3 hx (y_ at_51) rfl ?_
      refine o_iF (t := 68) X3 hx (y_ at_53) (fun hq => ?_) (fun hq => ?_)
      · have hc53 := o_h_ne.1 hq
        refine o_iload X3 hx (y_ at_68) rfl ?_
        refine o_iF (t := 80) X3 hx (y_ at_70) (fun hq => ?_) (fun hq => ?_)
        · have hc70 := o_h_ne.1 hq
          refine o_iload X3 hx (y_ at_80) rfl ?_
          refine o_iconst X3 hx (y_ at_82) (x := 1) rfl ?_
          refine o_iC (t := 96) X3 hx (y_ at_83) (fun hq => ?_) (fun hq => ?_)
          · have hc83 := o_c_ne.1 hq
            refine o_iload X3 hx (y_ at_96) rfl ?_
            refine o_iconst X3 hx (y_ at_98) (x := 2) rfl ?_
            refine o_iC (t := 127) X3 hx (y_ at_99) (fun hq => ?_) (fun hq => ?_)
            · have hc99 := o_c_ne.1 hq
              obtain rfl : kl = 3 := ((hkl.resolve_left hc53).resolve_left hc83).resolve_left hc99
              refine o_new X3 hx hZ hown (k_ 4 rfl) (k_ 5 rfl) (k_ 6 rfl) hh3 (y_ at_127) (by decide) (by decide) (fun T4 h4 b4 X4 e4 gg4 E4 A4 D4 => ?_)
              have g_b4 := o_fresh O0 gg4
              have O4 := Old.ext O0 E4
              have C5 := CHr.trans C0 (CHr.ext E4 C0.1)
              have F4_coder : Fld Z h4 b4 "java/lang/String" "coder" "B" (.int 0) := D4 (Or.inr (k_ 31 rfl)) (ty := .byte) (by decide)
              have F4_value : Fld Z h4 b4 "java/lang/String" "value" "[B" .null := D4 (Or.inr (k_ 33 rfl)) (ty := (.array .byte)) (by decide)
              refine o_dup X4 hx (y_ at_130) rfl ?_
              refine o_iconst X4 hx (y_ at_131) (x := 3) rfl ?_
              refine o_newA (cap := 3) X4 hx hZ (k_ 7 rfl) e4 (y_ at_132) (by decide) (by decide) (by decide) (by decide) (by decide) (fun T6 h6 k6 b6 X6 e6 gg6 E6 A6 => ?_)
              have g_b6 := o_fresh O4 gg6
              have O6 := Old.ext O4 E6
              have C7 := CHr.trans C5 (CHr.ext E6 C5.1)
              have V6 : Arv Z h6 b6 k6 .char (3 : Int32) [(.int 0), (.int 0), (.int 0)] (.int 0) := A6.pad (pad_rep [] (.int 0) 3)
              refine o_dup X6 hx (y_ at_134) rfl ?_
              refine o_iconst X6 hx (y_ at_135) (x := 0) rfl ?_
              refine o_iload X6 hx (y_ at_136) rfl ?_
              refine o_stC (i := 0) (z := ca) X6 hx hZ e6 V6 (y_ at_138) ⟨by decide, by decide⟩ rfl (o_b rfl) n_ca (fun T8 h8 X8 e8 W8 V8 => ?_)
              have N8 := Fr.snoc X8 N3 g_b6
              have O8 := Old.wr O6 W8 g_b6
              have C9 := CHr.trans C7 (CHr.wr W8 (Safe.arv hZ.alike V6 (by decide)) C7.1)
              refine o_dup X8 hx (y_ at_139) rfl ?_
              refine o_iconst X8 hx (y_ at_140) (x := 1) rfl ?_
              refine o_iload X8 hx (y_ at_141) rfl ?_
              refine o_stC (i := 1) (z := cb) X8 hx hZ e8 V8 (y_ at_143) ⟨by decide, by decide⟩ rfl (o_b rfl) n_cb (fun T10 h10 X10 e10 W10 V10 => ?_)
              have N10 := Fr.snoc X10 N8 g_b6
              have O10 := Old.wr O8 W10 g_b6
              have C11 := CHr.trans C9 (CHr.wr W10 (Safe.arv hZ.alike V8 (by decide)) C9.1)
              refine o_dup X10 hx (y_ at_144) rfl ?_
              refine o_iconst X10 hx (y_ at_145) (x := 2) rfl ?_
              refine o_iload X10 hx (y_ at_146) rfl ?_
              refine o_stC (i := 2) (z := cc) X10 hx hZ e10 V10 (y_ at_148) ⟨by decide, by decide⟩ rfl (o_b rfl) n_cc (fun T12 h12 X12 e12 W12 V12 => ?_)
              have N12 := Fr.snoc X12 N10 g_b6
              have O12 := Old.wr O10 W12 g_b6
              have C13 := CHr.trans C11 (CHr.wr W12 (Safe.arv hZ.alike V10 (by decide)) C11.1)
              have c14 := (Exa.wr W12 (Exa.wr W10 (Exa.wr W8 (Exa.ext E6 A4))))
              have c15 := (Fld.other W12 (Fld.other W10 (Fld.other W8 (Fld.ext E6 F4_value) (Or.inl (o_ng A4.lt gg6))) (Or.inl (o_ng A4.lt gg6))) (Or.inl (o_ng A4.lt gg6)))
              have c16 := (Fld.other W12 (Fld.other W10 (Fld.other W8 (Fld.ext E6 F4_coder) (Or.inl (o_ng A4.lt gg6))) (Or.inl (o_ng A4.lt gg6))) (Or.inl (o_ng A4.lt gg6)))
              refine o_ini (y := o_m39) (b := b4) (argsL := [(.ref b6)]) (S := [(.ref b4)]) (W := 1) rfl X12 hx hZ hown (k_ 8 rfl) (k_ 9 rfl) (k_ 10 rfl) (o_newB (W := 1) (cs := ([ca, cb, cc] : List Int32)) (n := 3) hZ hw (k_ 5 rfl) O12 g_b4 c14 c15 c16 V12 SC_ hC_ rfl rfl (by decide) (by decide) (o_csS ⟨l_ca, u_ca⟩ (o_csS ⟨l_cb, u_cb⟩ (o_csS ⟨l_cc, u_cc⟩ o_cs0))) (by decide) (by decide)) e12 hml (lenOf o_pd__28_5bC_29V rfl) (y_ at_149) (fun T17 L17 v17 X17 hQ17 => ?_)
              obtain ⟨rfl, Nq17, Kp17, t17, g_t17, ht17, hne17, Sf17⟩ := hQ17
              have N17 := Fr.app N12 Nq17
              have O18 := Old.keep O12 Kp17 (allS g_b4 all0)
              have C19 := CHr.trans C13 (CHr.keep Kp17 (sfS (o_safeN hZ.alike c14 c15) sf0) C13.1)
              show o_G p e below _ T17 (mkF m 152 #[vI p1, vI p2, vI p3, vI p4, vI 0, vI 0, vI 3, vI ca, vI cb, vI cc, .unset, .unset, .unset, .unset, .unset] [(.ref b4)])
              refine o_astore X17 hx (y_ at_152) rfl (A' := #[vI p1, vI p2, vI p3, vI p4, vI 0, vI 0, vI 3, vI ca, vI cb, vI cc, vR b4, .unset, .unset, .unset, .unset]) rfl ?_
              refine o_new X17 hx hZ hown (k_ 34 rfl) (k_ 35 rfl) (k_ 36 rfl) rfl (y_ at_154) (by decide) (by decide) (fun T20 h20 b20 X20 e20 gg20 E20 A20 D20 => ?_)
              have g_b20 := o_fresh O18 gg20
              have O20 := Old.ext O18 E20
              have C21 := CHr.trans C19 (CHr.ext E20 C19.1)
              have F20_core : Fld Z h20 b20 "org/adviceweft/pointcut/NamePattern" "core" "Ljava/lang/String;" .null := D20 (Or.inr (k_ 96 rfl)) (ty := (.object "java/lang/String")) (by decide)
              have F20_anyBefore : Fld Z h20 b20 "org/adviceweft/pointcut/NamePattern" "anyBefore" "Z" (.int 0) := D20 (Or.inr (k_ 98 rfl)) (ty := .boolean) (by decide)
              have F20_anyAfter : Fld Z h20 b20 "org/adviceweft/pointcut/NamePattern" "anyAfter" "Z" (.int 0) := D20 (Or.inr (k_ 100 rfl)) (ty := .boolean) (by decide)
              refine o_dup X20 hx (y_ at_157) rfl ?_
              refine o_aload X20 hx (y_ at_158) rfl rfl ?_
              refine o_iload X20 hx (y_ at_160) rfl ?_
              refine o_iload X20 hx (y_ at_162) rfl ?_
              have c22 := (o_Str.ext E20 Sf17)
              refine o_initH (y := o_m37) (b := b20) (argsL := [(.ref b4), (.int 0), (.int 0)]) (S := [(.ref b20)]) (W := 1) rfl X20 hx hZ hS0 hown (k_ 37 rfl) (k_ 38 rfl) (k_ 39 rfl) (by decide) (backOfSH (W := 1) (rmct3 l Z a0 hw [] b20 b4 (0 : Int32) (0 : Int32) t17 ca cb cc zC_ h20 n0 O20 A20 F20_core F20_anyBefore F20_anyAfter g_b20 c22 (o_nostar3 s_ca s_cb s_cc) (by decide) (by decide) SC_ hC_) hZ (k_ 39 rfl) (k_ 36 rfl) (by decide) (by decide) hEL C21.1) e20 (Nat.le_trans (Nat.le_trans (Nat.le_trans (Nat.le_trans (Nat.le_trans (Nat.le_trans (Nat.le_trans hk0 E4.1) E6.1) (Keep.of_wr W8).1) (Keep.of_wr W10).1) (Keep.of_wr W12).1) Kp17.1) E20.1) (by rw [hml]; rfl) (lenOf o_pd__28Ljava_2flang_2fString_3bZZ_29V rfl) rfl (Nat.le_of_eq rfl) (y_ at_164) (by decide) (by decide) (fun T23 L23 v23 k23 X23 hS23 hk23 hZ23 hown23 hQ23 hC23 => ?_)
              obtain ⟨rfl, N23q, Kp23, Ex23, Fk23, Fb23, Fa23⟩ := hQ23
              have N23 := Fr.app N17 N23q
              have O24 := Old.keep O20 Kp23 (allS g_b20 all0)
              have C25 := CHr.trans C21 (hC23)
              show o_G p e below _ T23 (mkF m 167 #[vI p1, vI p2, vI p3, vI p4, vI 0, vI 0, vI 3, vI ca, vI cb, vI cc, vR b4, .unset, .unset, .unset, .unset] [(.ref b20)])
              refine o_astore X23 hx (y_ at_167) rfl (A' := #[vI p1, vI p2, vI p3, vI p4, vI 0, vI 0, vI 3, vI ca, vI cb, vI cc, vR b4, vR b20, .unset, .unset, .unset]) rfl ?_
              refine o_aload X23 hx (y_ at_169) rfl rfl ?_
              have c26 := (o_Str.keep c22 Kp23 (ninS (o_ng Sf17.lt gg20) nin0) (ninS (o_ng Sf17.lt2 gg20) nin0))
              refine o_virtualH (y := o_m30) (z := o_m30) (b := b20) (argsL := []) (S := []) (W := 0) X23 hx hZ23 hS23 hown23 (k_ 101 rfl) (k_ 102 rfl) (notFace_of_selects (args := #[]) (mvT hZ23 (k_ 104 rfl))) (k_ 104 rfl) (k_ 103 rfl) (by decide) (backOfSH (W := 0) (rmtsn l Z a0 hw [] b20 b4 (0 : Int32) (0 : Int32) t17 ([ca, cb, cc] : List Int32) zC_ T23.heap n0 O24 Fk23 Fb23 Fa23 c26 (o_b rfl) SC_ hC_) hZ23 (k_ 105 rfl) (k_ 36 rfl) (by decide) (by decide) hEL C25.1) rfl hk23 Ex23 (by rw [hml]; rfl) (lenOf o_pd__28_29Ljava_2flang_2fString_3b rfl) rfl (Nat.le_of_eq rfl) (y_ at_171) (by decide) (by decide) (fun T27 L27 v27 k27 X27 hS27 hk27 hZ27 hown27 hQ27 hC27 => ?_)
              obtain ⟨x27, t27, rfl, N27q, Kp27, g_x27, hx27, g_t27, ht27, hne27, Sf27⟩ := hQ27
              have N27 := Fr.app N23 N27q
              have O28 := Old.keep O24 Kp27 all0
              have C29 := CHr.trans C25 (hC27)
              have Sg27 : o_Str Z T27.heap x27 t27 ([ca, cb, cc] : List Int32) := by simpa [o_wr] using Sf27
              show o_G p e below _ T27 (mkF m 174 #[vI p1, vI p2, vI p3, vI p4, vI 0, vI 0, vI 3, vI ca, vI cb, vI cc, vR b4, vR b20, .unset, .unset, .unset] [(.ref x27)])
              refine o_astore X27 hx (y_ at_174) rfl (A' := #[vI p1, vI p2, vI p3, vI p4, vI 0, vI 0, vI 3, vI ca, vI cb, vI cc, vR b4, vR b20, vR x27, .unset, .unset]) rfl ?_
              refine o_iload X27 hx (y_ at_176) rfl ?_
              refine o_iFT (t := 185) X27 hx (y_ at_178) ?_
              refine o_iconst X27 hx (y_ at_185) (x := 0) rfl ?_
              refine o_istore X27 hx (y_ at_186) (A' := #[vI p1, vI p2, vI p3, vI p4, vI 0, vI 0, vI 3, vI ca, vI cb, vI cc, vR b4, vR b20, vR x27, vI 0, .unset]) rfl ?_
              refine o_iload X27 hx (y_ at_188) rfl ?_
              refine o_iload X27 hx (y_ at_190) rfl ?_
              refine o_iadd X27 hx (y_ at_192) ?_
              refine o_valE (z := 3) (by decide) ?_
              refine o_iload X27 hx (y_ at_193) rfl ?_
              refine o_iFT (t := 202) X27 hx (y_ at_195) ?_
              refine o_iconst X27 hx (y_ at_202) (x := 0) rfl ?_
              refine o_iadd X27 hx (y_ at_203) ?_
              refine o_valE (z := 3) (by decide) ?_
              refine o_istore X27 hx (y_ at_204) (A' := #[vI p1, vI p2, vI p3, vI p4, vI 0, vI 0, vI 3, vI ca, vI cb, vI cc, vR b4, vR b20, vR x27, vI 0, vI 3]) rfl ?_
              refine o_aload X27 hx (y_ at_206) rfl rfl ?_
              refine o_vir (y := o_m2) (b := x27) (argsL := []) (S := []) (W := 0) X27 hx hZ27 hown27 (k_ 215 rfl) (k_ 139 rfl) (k_ 141 rfl) (k_ 140 rfl) (backOf (W := 0) (rmlen l Z a0 hw [] x27 t27 ([ca, cb, cc] : List Int32) zC_ T27.heap n0 O28 Sg27 SC_ hC_) hZ27 (k_ 142 rfl) (k_ 6 rfl) (by decide) (by decide)) rfl Sg27.1 hml (lenOf o_pd__28_29I rfl) (y_ at_208) (fun T30 L30 v30 X30 hQ30 => ?_)
              obtain ⟨rfl, N30q, hh30⟩ := hQ30
              have N30 := Fr.app N27 N30q
              show o_G p e below _ T30 (mkF m 211 #[vI p1, vI p2, vI p3, vI p4, vI 0, vI 0, vI 3, vI ca, vI cb, vI cc, vR b4, vR b20, vR x27, vI 0, vI 3] [(.int (Int32.ofNat ([ca, cb, cc] : List Int32).length))])
              refine o_valE (z := 3) rfl ?_
              refine o_iload X30 hx (y_ at_211) rfl ?_
              refine o_iCT (t := 218) X30 hx (y_ at_213) ?_
              refine o_iload X30 hx (y_ at_218) rfl ?_
              refine o_iFT (t := 236) X30 hx (y_ at_220) ?_
              refine o_iload X30 hx (y_ at_236) rfl ?_
              refine o_iFT (t := 257) X30 hx (y_ at_238) ?_
              refine o_iload X30 hx (y_ at_257) rfl ?_
              refine o_iFF X30 hx (y_ at_259) ?_
              refine o_aload X30 hx (y_ at_262) rfl rfl ?_
              refine o_iload X30 hx (y_ at_264) rfl ?_
              refine o_vir (y := o_m40) (b := x27) (argsL := [(.int 0)]) (S := []) (W := 0) X30 hx hZ27 hown27 (k_ 216 rfl) (k_ 217 rfl) (k_ 219 rfl) (k_ 218 rfl) (o_chB (W := 0) (i := 0) hZ27 hw (k_ 5 rfl) O28 Sg27 SC_ hC_ S_f hfm (o_b rfl) rfl (by decide) (by decide)) hh30 Sg27.1 hml (lenOf o_pd__28I_29C rfl) (y_ at_266) (fun T31 L31 v31 X31 hQ31 => ?_)
              obtain ⟨rfl, rfl, hh31⟩ := hQ31
              have N31 := Fr.app N30 (Fr.nil n0)
              show o_G p e below _ T31 (mkF m 269 #[vI p1, vI p2, vI p3, vI p4, vI 0, vI 0, vI 3, vI ca, vI cb, vI cc, vR b4, vR b20, vR x27, vI 0, vI 3] [(.int ca)])
              refine o_iload X31 hx (y_ at_269) rfl ?_
              refine o_iC (t := 276) X31 hx (y_ at_271) (fun hq => ?_) (fun hq => ?_)
              · have hc271 := o_c_eq.1 hq
                refine o_iload X31 hx (y_ at_276) rfl ?_
                refine o_iconst X31 hx (y_ at_278) (x := 1) rfl ?_
                refine o_iCF X31 hx (y_ at_279) ?_
                refine o_aload X31 hx (y_ at_282) rfl rfl ?_
                refine o_iload X31 hx (y_ at_284) rfl ?_
                refine o_iconst X31 hx (y_ at_286) (x := 1) rfl ?_
                refine o_iadd X31 hx (y_ at_287) ?_
                refine o_valE (z := 1) (by decide) ?_
                refine o_vir (y := o_m40) (b := x27) (argsL := [(.int 1)]) (S := []) (W := 0) X31 hx hZ27 hown27 (k_ 216 rfl) (k_ 217 rfl) (k_ 219 rfl) (k_ 218 rfl) (o_chB (W := 0) (i := 1) hZ27 hw (k_ 5 rfl) O28 Sg27 SC_ hC_ S_f hfm (o_b rfl) rfl (by decide) (by decide)) hh31 Sg27.1 hml (lenOf o_pd__28I_29C rfl) (y_ at_288) (fun T32 L32 v32 X32 hQ32 => ?_)
                obtain ⟨rfl, rfl, hh32⟩ := hQ32
                have N32 := Fr.app N31 (Fr.nil n0)
                show o_G p e below _ T32 (mkF m 291 #[vI p1, vI p2, vI p3, vI p4, vI 0, vI 0, vI 3, vI ca, vI cb, vI cc, vR b4, vR b20, vR x27, vI 0, vI 3] [(.int cb)])
                refine o_iload X32 hx (y_ at_291) rfl ?_
                refine o_iC (t := 298) X32 hx (y_ at_293) (fun hq => ?_) (fun hq => ?_)
                · have hc293 := o_c_eq.1 hq
                  refine o_iload X32 hx (y_ at_298) rfl ?_
                  refine o_iconst X32 hx (y_ at_300) (x := 2) rfl ?_
                  refine o_iCF X32 hx (y_ at_301) ?_
                  refine o_aload X32 hx (y_ at_304) rfl rfl ?_
                  refine o_iload X32 hx (y_ at_306) rfl ?_
                  refine o_iconst X32 hx (y_ at_308) (x := 2) rfl ?_
                  refine o_iadd X32 hx (y_ at_309) ?_
                  refine o_valE (z := 2) (by decide) ?_
                  refine o_vir (y := o_m40) (b := x27) (argsL := [(.int 2)]) (S := []) (W := 0) X32 hx hZ27 hown27 (k_ 216 rfl) (k_ 217 rfl) (k_ 219 rfl) (k_ 218 rfl) (o_chB (W := 0) (i := 2) hZ27 hw (k_ 5 rfl) O28 Sg27 SC_ hC_ S_f hfm (o_b rfl) rfl (by decide) (by decide)) hh32 Sg27.1 hml (lenOf o_pd__28I_29C rfl) (y_ at_310) (fun T33 L33 v33 X33 hQ33 => ?_)
                  obtain ⟨rfl, rfl, hh33⟩ := hQ33
                  have N33 := Fr.app N32 (Fr.nil n0)
                  show o_G p e below _ T33 (mkF m 313 #[vI p1, vI p2, vI p3, vI p4, vI 0, vI 0, vI 3, vI ca, vI cb, vI cc, vR b4, vR b20, vR x27, vI 0, vI 3] [(.int cc)])
                  refine o_iload X33 hx (y_ at_313) rfl ?_
                  refine o_iC (t := 320) X33 hx (y_ at_315) (fun hq => ?_) (fun hq => ?_)
                  · have hc315 := o_c_eq.1 hq
                    refine o_iconst X33 hx (y_ at_320) (x := 1) rfl ?_
                    exact o_retNW X33 hx hS27 (by rw [hh33]; exact hk27) (t := .boolean) hrt hlk (by simp) (y_ at_321) rfl (by decide) (by decide) (o_hQ hh33 ⟨rfl, N33⟩)
                  have hc315 := o_c_eq.2 hq
                  exact absurd rfl hc315
                have hc293 := o_c_eq.2 hq
                exact absurd rfl hc293
              have hc271 := o_c_eq.2 hq
              exact absurd rfl hc271
            have hc99 := o_c_ne.2 hq
            obtain rfl : kl = 2 := hc99
            refine o_new X3 hx hZ hown (k_ 4 rfl) (k_ 5 rfl) (k_ 6 rfl) hh3 (y_ at_102) (by decide) (by decide) (fun T34 h34 b34 X34 e34 gg34 E34 A34 D34 => ?_)
            have g_b34 := o_fresh O0 gg34
            have O34 := Old.ext O0 E34
            have C35 := CHr.trans C0 (CHr.ext E34 C0.1)
            have F34_coder : Fld Z h34 b34 "java/lang/String" "coder" "B" (.int 0) := D34 (Or.inr (k_ 31 rfl)) (ty := .byte) (by decide)
            have F34_value : Fld Z h34 b34 "java/lang/String" "value" "[B" .null := D34 (Or.inr (k_ 33 rfl)) (ty := (.array .byte)) (by decide)
            refine o_dup X34 hx (y_ at_105) rfl ?_
            refine o_iconst X34 hx (y_ at_106) (x := 2) rfl ?_
            refine o_newA (cap := 2) X34 hx hZ (k_ 7 rfl) e34 (y_ at_107) (by decide) (by decide) (by decide) (by decide) (by decide) (fun T36 h36 k36 b36 X36 e36 gg36 E36 A36 => ?_)
            have g_b36 := o_fresh O34 gg36
            have O36 := Old.ext O34 E36
            have C37 := CHr.trans C35 (CHr.ext E36 C35.1)
            have V36 : Arv Z h36 b36 k36 .char (2 : Int32) [(.int 0), (.int 0)] (.int 0) := A36.pad (pad_rep [] (.int 0) 2)
            refine o_dup X36 hx (y_ at_109) rfl ?_
            refine o_iconst X36 hx (y_ at_110) (x := 0) rfl ?_
            refine o_iload X36 hx (y_ at_111) rfl ?_
            refine o_stC (i := 0) (z := ca) X36 hx hZ e36 V36 (y_ at_113) ⟨by decide, by decide⟩ rfl (o_b rfl) n_ca (fun T38 h38 X38 e38 W38 V38 => ?_)
            have N38 := Fr.snoc X38 N3 g_b36
            have O38 := Old.wr O36 W38 g_b36
            have C39 := CHr.trans C37 (CHr.wr W38 (Safe.arv hZ.alike V36 (by decide)) C37.1)
            refine o_dup X38 hx (y_ at_114) rfl ?_
            refine o_iconst X38 hx (y_ at_115) (x := 1) rfl ?_
            refine o_iload X38 hx (y_ at_116) rfl ?_
            refine o_stC (i := 1) (z := cb) X38 hx hZ e38 V38 (y_ at_118) ⟨by decide, by decide⟩ rfl (o_b rfl) n_cb (fun T40 h40 X40 e40 W40 V40 => ?_)
            have N40 := Fr.snoc X40 N38 g_b36
            have O40 := Old.wr O38 W40 g_b36
            have C41 := CHr.trans C39 (CHr.wr W40 (Safe.arv hZ.alike V38 (by decide)) C39.1)
            have c42 := (Exa.wr W40 (Exa.wr W38 (Exa.ext E36 A34)))
            have c43 := (Fld.other W40 (Fld.other W38 (Fld.ext E36 F34_value) (Or.inl (o_ng A34.lt gg36))) (Or.inl (o_ng A34.lt gg36)))
            have c44 := (Fld.other W40 (Fld.other W38 (Fld.ext E36 F34_coder) (Or.inl (o_ng A34.lt gg36))) (Or.inl (o_ng A34.lt gg36)))
            refine o_ini (y := o_m39) (b := b34) (argsL := [(.ref b36)]) (S := [(.ref b34)]) (W := 1) rfl X40 hx hZ hown (k_ 8 rfl) (k_ 9 rfl) (k_ 10 rfl) (o_newB (W := 1) (cs := ([ca, cb] : List Int32)) (n := 2) hZ hw (k_ 5 rfl) O40 g_b34 c42 c43 c44 V40 SC_ hC_ rfl rfl (by decide) (by decide) (o_csS ⟨l_ca, u_ca⟩ (o_csS ⟨l_cb, u_cb⟩ o_cs0)) (by decide) (by decide)) e40 hml (lenOf o_pd__28_5bC_29V rfl) (y_ at_119) (fun T45 L45 v45 X45 hQ45 => ?_)
            obtain ⟨rfl, Nq45, Kp45, t45, g_t45, ht45, hne45, Sf45⟩ := hQ45
            have N45 := Fr.app N40 Nq45
            have O46 := Old.keep O40 Kp45 (allS g_b34 all0)
            have C47 := CHr.trans C41 (CHr.keep Kp45 (sfS (o_safeN hZ.alike c42 c43) sf0) C41.1)
            show o_G p e below _ T45 (mkF m 122 #[vI p1, vI p2, vI p3, vI p4, vI 0, vI 0, vI 2, vI ca, vI cb, vI cc, .unset, .unset, .unset, .unset, .unset] [(.ref b34)])
            refine o_astore X45 hx (y_ at_122) rfl (A' := #[vI p1, vI p2, vI p3, vI p4, vI 0, vI 0, vI 2, vI ca, vI cb, vI cc, vR b34, .unset, .unset, .unset, .unset]) rfl ?_
            refine o_gO (t := 154) X45 hx (y_ at_124) ?_
            refine o_new X45 hx hZ hown (k_ 34 rfl) (k_ 35 rfl) (k_ 36 rfl) rfl (y_ at_154) (by decide) (by decide) (fun T48 h48 b48 X48 e48 gg48 E48 A48 D48 => ?_)
            have g_b48 := o_fresh O46 gg48
            have O48 := Old.ext O46 E48
            have C49 := CHr.trans C47 (CHr.ext E48 C47.1)
            have F48_core : Fld Z h48 b48 "org/adviceweft/pointcut/NamePattern" "core" "Ljava/lang/String;" .null := D48 (Or.inr (k_ 96 rfl)) (ty := (.object "java/lang/String")) (by decide)
            have F48_anyBefore : Fld Z h48 b48 "org/adviceweft/pointcut/NamePattern" "anyBefore" "Z" (.int 0) := D48 (Or.inr (k_ 98 rfl)) (ty := .boolean) (by decide)
            have F48_anyAfter : Fld Z h48 b48 "org/adviceweft/pointcut/NamePattern" "anyAfter" "Z" (.int 0) := D48 (Or.inr (k_ 100 rfl)) (ty := .boolean) (by decide)
            refine o_dup X48 hx (y_ at_157) rfl ?_
            refine o_aload X48 hx (y_ at_158) rfl rfl ?_
            refine o_iload X48 hx (y_ at_160) rfl ?_
            refine o_iload X48 hx (y_ at_162) rfl ?_
            have c50 := (o_Str.ext E48 Sf45)
            refine o_initH (y := o_m37) (b := b48) (argsL := [(.ref b34), (.int 0), (.int 0)]) (S := [(.ref b48)]) (W := 1) rfl X48 hx hZ hS0 hown (k_ 37 rfl) (k_ 38 rfl) (k_ 39 rfl) (by decide) (backOfSH (W := 1) (rmct2 l Z a0 hw [] b48 b34 (0 : Int32) (0 : Int32) t45 ca cb zC_ h48 n0 O48 A48 F48_core F48_anyBefore F48_anyAfter g_b48 c50 (o_nostar2 s_ca s_cb) (by decide) (by decide) SC_ hC_) hZ (k_ 39 rfl) (k_ 36 rfl) (by decide) (by decide) hEL C49.1) e48 (Nat.le_trans (Nat.le_trans (Nat.le_trans (Nat.le_trans (Nat.le_trans (Nat.le_trans hk0 E34.1) E36.1) (Keep.of_wr W38).1) (Keep.of_wr W40).1) Kp45.1) E48.1) (by rw [hml]; rfl) (lenOf o_pd__28Ljava_2flang_2fString_3bZZ_29V rfl) rfl (Nat.le_of_eq rfl) (y_ at_164) (by decide) (by decide) (fun T51 L51 v51 k51 X51 hS51 hk51 hZ51 hown51 hQ51 hC51 => ?_)
            obtain ⟨rfl, N51q, Kp51, Ex51, Fk51, Fb51, Fa51⟩ := hQ51
            have N51 := Fr.app N45 N51q
            have O52 := Old.keep O48 Kp51 (allS g_b48 all0)
            have C53 := CHr.trans C49 (hC51)
            show o_G p e below _ T51 (mkF m 167 #[vI p1, vI p2, vI p3, vI p4, vI 0, vI 0, vI 2, vI ca, vI cb, vI cc, vR b34, .unset, .unset, .unset, .unset] [(.ref b48)])
            refine o_astore X51 hx (y_ at_167) rfl (A' := #[vI p1, vI p2, vI p3, vI p4, vI 0, vI 0, vI 2, vI ca, vI cb, vI cc, vR b34, vR b48, .unset, .unset, .unset]) rfl ?_
            refine o_aload X51 hx (y_ at_169) rfl rfl ?_
            have c54 := (o_Str.keep c50 Kp51 (ninS (o_ng Sf45.lt gg48) nin0) (ninS (o_ng Sf45.lt2 gg48) nin0))
            refine o_virtualH (y := o_m30) (z := o_m30) (b := b48) (argsL := []) (S := []) (W := 0) X51 hx hZ51 hS51 hown51 (k_ 101 rfl) (k_ 102 rfl) (notFace_of_selects (args := #[]) (mvT hZ51 (k_ 104 rfl))) (k_ 104 rfl) (k_ 103 rfl) (by decide) (backOfSH (W := 0) (rmtsn l Z a0 hw [] b48 b34 (0 : Int32) (0 : Int32) t45 ([ca, cb] : List Int32) zC_ T51.heap n0 O52 Fk51 Fb51 Fa51 c54 (o_b rfl) SC_ hC_) hZ51 (k_ 105 rfl) (k_ 36 rfl) (by decide) (by decide) hEL C53.1) rfl hk51 Ex51 (by rw [hml]; rfl) (lenOf o_pd__28_29Ljava_2flang_2fString_3b rfl) rfl (Nat.le_of_eq rfl) (y_ at_171) (by decide) (by decide) (fun T55 L55 v55 k55 X55 hS55 hk55 hZ55 hown55 hQ55 hC55 => ?_)
            obtain ⟨x55, t55, rfl, N55q, Kp55, g_x55, hx55, g_t55, ht55, hne55, Sf55⟩ := hQ55
            have N55 := Fr.app N51 N55q
            have O56 := Old.keep O52 Kp55 all0
            have C57 := CHr.trans C53 (hC55)
            have Sg55 : o_Str Z T55.heap x55 t55 ([ca, cb] : List Int32) := by simpa [o_wr] using Sf55
            show o_G p e below _ T55 (mkF m 174 #[vI p1, vI p2, vI p3, vI p4, vI 0, vI 0, vI 2, vI ca, vI cb, vI cc, vR b34, vR b48, .unset, .unset, .unset] [(.ref x55)])
            refine o_astore X55 hx (y_ at_174) rfl (A' := #[vI p1, vI p2, vI p3, vI p4, vI 0, vI 0, vI 2, vI ca, vI cb, vI cc, vR b34, vR b48, vR x55, .unset, .unset]) rfl ?_
            refine o_iload X55 hx (y_ at_176) rfl ?_
            refine o_iFT (t := 185) X55 hx (y_ at_178) ?_
            refine o_iconst X55 hx (y_ at_185) (x := 0) rfl ?_
            refine o_istore X55 hx (y_ at_186) (A' := #[vI p1, vI p2, vI p3, vI p4, vI 0, vI 0, vI 2, vI ca, vI cb, vI cc, vR b34, vR b48, vR x55, vI 0, .unset]) rfl ?_
            refine o_iload X55 hx (y_ at_188) rfl ?_
            refine o_iload X55 hx (y_ at_190) rfl ?_
            refine o_iadd X55 hx (y_ at_192) ?_
            refine o_valE (z := 2) (by decide) ?_
            refine o_iload X55 hx (y_ at_193) rfl ?_
            refine o_iFT (t := 202) X55 hx (y_ at_195) ?_
            refine o_iconst X55 hx (y_ at_202) (x := 0) rfl ?_
            refine o_iadd X55 hx (y_ at_203) ?_
            refine o_valE (z := 2) (by decide) ?_
            refine o_istore X55 hx (y_ at_204) (A' := #[vI p1, vI p2, vI p3, vI p4, vI 0, vI 0, vI 2, vI ca, vI cb, vI cc, vR b34, vR b48, vR x55, vI 0, vI 2]) rfl ?_
            refine o_aload X55 hx (y_ at_206) rfl rfl ?_
            refine o_vir (y := o_m2) (b := x55) (argsL := []) (S := []) (W := 0) X55 hx hZ55 hown55 (k_ 215 rfl) (k_ 139 rfl) (k_ 141 rfl) (k_ 140 rfl) (backOf (W := 0) (rmlen l Z a0 hw [] x55 t55 ([ca, cb] : List Int32) zC_ T55.heap n0 O56 Sg55 SC_ hC_) hZ55 (k_ 142 rfl) (k_ 6 rfl) (by decide) (by decide)) rfl Sg55.1 hml (lenOf o_pd__28_29I rfl) (y_ at_208) (fun T58 L58 v58 X58 hQ58 => ?_)
            obtain ⟨rfl, N58q, hh58⟩ := hQ58
            have N58 := Fr.app N55 N58q
            show o_G p e below _ T58 (mkF m 211 #[vI p1, vI p2, vI p3, vI p4, vI 0, vI 0, vI 2, vI ca, vI cb, vI cc, vR b34, vR b48, vR x55, vI 0, vI 2] [(.int (Int32.ofNat ([ca, cb] : List Int32).length))])
            refine o_valE (z := 2) rfl ?_
            refine o_iload X58 hx (y_ at_211) rfl ?_
            refine o_iCT (t := 218) X58 hx (y_ at_213) ?_
            refine o_iload X58 hx (y_ at_218) rfl ?_
            refine o_iFT (t := 236) X58 hx (y_ at_220) ?_
            refine o_iload X58 hx (y_ at_236) rfl ?_
            refine o_iFT (t := 257) X58 hx (y_ at_238) ?_
            refine o_iload X58 hx (y_ at_257) rfl ?_
            refine o_iFF X58 hx (y_ at_259) ?_
            refine o_aload X58 hx (y_ at_262) rfl rfl ?_
            refine o_iload X58 hx (y_ at_264) rfl ?_
            refine o_vir (y := o_m40) (b := x55) (argsL := [(.int 0)]) (S := []) (W := 0) X58 hx hZ55 hown55 (k_ 216 rfl) (k_ 217 rfl) (k_ 219 rfl) (k_ 218 rfl) (o_chB (W := 0) (i := 0) hZ55 hw (k_ 5 rfl) O56 Sg55 SC_ hC_ S_f hfm (o_b rfl) rfl (by decide) (by decide)) hh58 Sg55.1 hml (lenOf o_pd__28I_29C rfl) (y_ at_266) (fun T59 L59 v59 X59 hQ59 => ?_)
            obtain ⟨rfl, rfl, hh59⟩ := hQ59
            have N59 := Fr.app N58 (Fr.nil n0)
            show o_G p e below _ T59 (mkF m 269 #[vI p1, vI p2, vI p3, vI p4, vI 0, vI 0, vI 2, vI ca, vI cb, vI cc, vR b34, vR b48, vR x55, vI 0, vI 2] [(.int ca)])
            refine o_iload X59 hx (y_ at_269) rfl ?_
            refine o_iC (t := 276) X59 hx (y_ at_271) (fun hq => ?_) (fun hq => ?_)
            · have hc271 := o_c_eq.1 hq
              refine o_iload X59 hx (y_ at_276) rfl ?_
              refine o_iconst X59 hx (y_ at_278) (x := 1) rfl ?_
              refine o_iCF X59 hx (y_ at_279) ?_
              refine o_aload X59 hx (y_ at_282) rfl rfl ?_
              refine o_iload X59 hx (y_ at_284) rfl ?_
              refine o_iconst X59 hx (y_ at_286) (x := 1) rfl ?_
              refine o_iadd X59 hx (y_ at_287) ?_
              refine o_valE (z := 1) (by decide) ?_
              refine o_vir (y := o_m40) (b := x55) (argsL := [(.int 1)]) (S := []) (W := 0) X59 hx hZ55 hown55 (k_ 216 rfl) (k_ 217 rfl) (k_ 219 rfl) (k_ 218 rfl) (o_chB (W := 0) (i := 1) hZ55 hw (k_ 5 rfl) O56 Sg55 SC_ hC_ S_f hfm (o_b rfl) rfl (by decide) (by decide)) hh59 Sg55.1 hml (lenOf o_pd__28I_29C rfl) (y_ at_288) (fun T60 L60 v60 X60 hQ60 => ?_)
              obtain ⟨rfl, rfl, hh60⟩ := hQ60
              have N60 := Fr.app N59 (Fr.nil n0)
              show o_G p e below _ T60 (mkF m 291 #[vI p1, vI p2, vI p3, vI p4, vI 0, vI 0, vI 2, vI ca, vI cb, vI cc, vR b34, vR b48, vR x55, vI 0, vI 2] [(.int cb)])
              refine o_iload X60 hx (y_ at_291) rfl ?_
              refine o_iC (t := 298) X60 hx (y_ at_293) (fun hq => ?_) (fun hq => ?_)
              · have hc293 := o_c_eq.1 hq
                refine o_iload X60 hx (y_ at_298) rfl ?_
                refine o_iconst X60 hx (y_ at_300) (x := 2) rfl ?_
                refine o_iCT (t := 320) X60 hx (y_ at_301) ?_
                refine o_iconst X60 hx (y_ at_320) (x := 1) rfl ?_
                exact o_retNW X60 hx hS55 (by rw [hh60]; exact hk55) (t := .boolean) hrt hlk (by simp) (y_ at_321) rfl (by decide) (by decide) (o_hQ hh60 ⟨rfl, N60⟩)
              have hc293 := o_c_eq.2 hq
              exact absurd rfl hc293
            have hc271 := o_c_eq.2 hq
            exact absurd rfl hc271
          have hc83 := o_c_ne.2 hq
          obtain rfl : kl = 1 := hc83
          refine o_iload X3 hx (y_ at_86) rfl ?_
          refine o_sta (y := o_m15) (argsL := [(.int ca)]) (S := []) (W := 0) X3 hx hZ hown (k_ 233 rfl) (k_ 234 rfl) (k_ 6 rfl) (k_ 235 rfl) (backOf (W := 0) (rmvoc l Z a0 hw [] ca zC_ h0 n0 O0 ⟨l_ca, u_ca⟩ SC_ hC_) hZ (k_ 235 rfl) (k_ 6 rfl) (by decide) (by decide)) hh3 hml (lenOf o_pd__28C_29Ljava_2flang_2fString_3b rfl) (y_ at_88) (fun T61 L61 v61 X61 hQ61 => ?_)
          obtain ⟨x61, t61, rfl, N61q, Kp61, g_x61, hx61, g_t61, ht61, hne61, Sf61⟩ := hQ61
          have N61 := Fr.app N3 N61q
          have O62 := Old.keep O0 Kp61 all0
          have C63 := CHr.trans C0 (CHr.keep Kp61 sf0 C0.1)
          show o_G p e below _ T61 (mkF m 91 #[vI p1, vI p2, vI p3, vI p4, vI 0, vI 0, vI 1, vI ca, vI cb, vI cc, .unset, .unset, .unset, .unset, .unset] [(.ref x61)])
          refine o_astore X61 hx (y_ at_91) rfl (A' := #[vI p1, vI p2, vI p3, vI p4, vI 0, vI 0, vI 1, vI ca, vI cb, vI cc, vR x61, .unset, .unset, .unset, .unset]) rfl ?_
          refine o_gO (t := 154) X61 hx (y_ at_93) ?_
          refine o_new X61 hx hZ hown (k_ 34 rfl) (k_ 35 rfl) (k_ 36 rfl) rfl (y_ at_154) (by decide) (by decide) (fun T64 h64 b64 X64 e64 gg64 E64 A64 D64 => ?_)
          have g_b64 := o_fresh O62 gg64
          have O64 := Old.ext O62 E64
          have C65 := CHr.trans C63 (CHr.ext E64 C63.1)
          have F64_core : Fld Z h64 b64 "org/adviceweft/pointcut/NamePattern" "core" "Ljava/lang/String;" .null := D64 (Or.inr (k_ 96 rfl)) (ty := (.object "java/lang/String")) (by decide)
          have F64_anyBefore : Fld Z h64 b64 "org/adviceweft/pointcut/NamePattern" "anyBefore" "Z" (.int 0) := D64 (Or.inr (k_ 98 rfl)) (ty := .boolean) (by decide)
          have F64_anyAfter : Fld Z h64 b64 "org/adviceweft/pointcut/NamePattern" "anyAfter" "Z" (.int 0) := D64 (Or.inr (k_ 100 rfl)) (ty := .boolean) (by decide)
          refine o_dup X64 hx (y_ at_157) rfl ?_
          refine o_aload X64 hx (y_ at_158) rfl rfl ?_
          refine o_iload X64 hx (y_ at_160) rfl ?_
          refine o_iload X64 hx (y_ at_162) rfl ?_
          have c66 := (o_Str.ext E64 Sf61)
          refine o_initH (y := o_m37) (b := b64) (argsL := [(.ref x61), (.int 0), (.int 0)]) (S := [(.ref b64)]) (W := 1) rfl X64 hx hZ hS0 hown (k_ 37 rfl) (k_ 38 rfl) (k_ 39 rfl) (by decide) (backOfSH (W := 1) (rmct1 l Z a0 hw [] b64 x61 (0 : Int32) (0 : Int32) t61 ca zC_ h64 n0 O64 A64 F64_core F64_anyBefore F64_anyAfter g_b64 c66 (o_nostar1 s_ca) (by decide) (by decide) SC_ hC_) hZ (k_ 39 rfl) (k_ 36 rfl) (by decide) (by decide) hEL C65.1) e64 (Nat.le_trans (Nat.le_trans hk0 Kp61.1) E64.1) (by rw [hml]; rfl) (lenOf o_pd__28Ljava_2flang_2fString_3bZZ_29V rfl) rfl (Nat.le_of_eq rfl) (y_ at_164) (by decide) (by decide) (fun T67 L67 v67 k67 X67 hS67 hk67 hZ67 hown67 hQ67 hC67 => ?_)
          obtain ⟨rfl, N67q, Kp67, Ex67, Fk67, Fb67, Fa67⟩ := hQ67
          have N67 := Fr.app N61 N67q
          have O68 := Old.keep O64 Kp67 (allS g_b64 all0)
          have C69 := CHr.trans C65 (hC67)
          show o_G p e below _ T67 (mkF m 167 #[vI p1, vI p2, vI p3, vI p4, vI 0, vI 0, vI 1, vI ca, vI cb, vI cc, vR x61, .unset, .unset, .unset, .unset] [(.ref b64)])
          refine o_astore X67 hx (y_ at_167) rfl (A' := #[vI p1, vI p2, vI p3, vI p4, vI 0, vI 0, vI 1, vI ca, vI cb, vI cc, vR x61, vR b64, .unset, .unset, .unset]) rfl ?_
          refine o_aload X67 hx (y_ at_169) rfl rfl ?_
          have c70 := (o_Str.keep c66 Kp67 (ninS (o_ng Sf61.lt gg64) nin0) (ninS (o_ng Sf61.lt2 gg64) nin0))
          refine o_virtualH (y := o_m30) (z := o_m30) (b := b64) (argsL := []) (S := []) (W := 0) X67 hx hZ67 hS67 hown67 (k_ 101 rfl) (k_ 102 rfl) (notFace_of_selects (args := #[]) (mvT hZ67 (k_ 104 rfl))) (k_ 104 rfl) (k_ 103 rfl) (by decide) (backOfSH (W := 0) (rmtsn l Z a0 hw [] b64 x61 (0 : Int32) (0 : Int32) t61 ([ca] : List Int32) zC_ T67.heap n0 O68 Fk67 Fb67 Fa67 c70 (o_b rfl) SC_ hC_) hZ67 (k_ 105 rfl) (k_ 36 rfl) (by decide) (by decide) hEL C69.1) rfl hk67 Ex67 (by rw [hml]; rfl) (lenOf o_pd__28_29Ljava_2flang_2fString_3b rfl) rfl (Nat.le_of_eq rfl) (y_ at_171) (by decide) (by decide) (fun T71 L71 v71 k71 X71 hS71 hk71 hZ71 hown71 hQ71 hC71 => ?_)
          obtain ⟨x71, t71, rfl, N71q, Kp71, g_x71, hx71, g_t71, ht71, hne71, Sf71⟩ := hQ71
          have N71 := Fr.app N67 N71q
          have O72 := Old.keep O68 Kp71 all0
          have C73 := CHr.trans C69 (hC71)
          have Sg71 : o_Str Z T71.heap x71 t71 ([ca] : List Int32) := by simpa [o_wr] using Sf71
          show o_G p e below _ T71 (mkF m 174 #[vI p1, vI p2, vI p3, vI p4, vI 0, vI 0, vI 1, vI ca, vI cb, vI cc, vR x61, vR b64, .unset, .unset, .unset] [(.ref x71)])
          refine o_astore X71 hx (y_ at_174) rfl (A' := #[vI p1, vI p2, vI p3, vI p4, vI 0, vI 0, vI 1, vI ca, vI cb, vI cc, vR x61, vR b64, vR x71, .unset, .unset]) rfl ?_
          refine o_iload X71 hx (y_ at_176) rfl ?_
          refine o_iFT (t := 185) X71 hx (y_ at_178) ?_
          refine o_iconst X71 hx (y_ at_185) (x := 0) rfl ?_
          refine o_istore X71 hx (y_ at_186) (A' := #[vI p1, vI p2, vI p3, vI p4, vI 0, vI 0, vI 1, vI ca, vI cb, vI cc, vR x61, vR b64, vR x71, vI 0, .unset]) rfl ?_
          refine o_iload X71 hx (y_ at_188) rfl ?_
          refine o_iload X71 hx (y_ at_190) rfl ?_
          refine o_iadd X71 hx (y_ at_192) ?_
          refine o_valE (z := 1) (by decide) ?_
          refine o_iload X71 hx (y_ at_193) rfl ?_
          refine o_iFT (t := 202) X71 hx (y_ at_195) ?_
          refine o_iconst X71 hx (y_ at_202) (x := 0) rfl ?_
          refine o_iadd X71 hx (y_ at_203) ?_
          refine o_valE (z := 1) (by decide) ?_
          refine o_istore X71 hx (y_ at_204) (A' := #[vI p1, vI p2, vI p3, vI p4, vI 0, vI 0, vI 1, vI ca, vI cb, vI cc, vR x61, vR b64, vR x71, vI 0, vI 1]) rfl ?_
          refine o_aload X71 hx (y_ at_206) rfl rfl ?_
          refine o_vir (y := o_m2) (b := x71) (argsL := []) (S := []) (W := 0) X71 hx hZ71 hown71 (k_ 215 rfl) (k_ 139 rfl) (k_ 141 rfl) (k_ 140 rfl) (backOf (W := 0) (rmlen l Z a0 hw [] x71 t71 ([ca] : List Int32) zC_ T71.heap n0 O72 Sg71 SC_ hC_) hZ71 (k_ 142 rfl) (k_ 6 rfl) (by decide) (by decide)) rfl Sg71.1 hml (lenOf o_pd__28_29I rfl) (y_ at_208) (fun T74 L74 v74 X74 hQ74 => ?_)
          obtain ⟨rfl, N74q, hh74⟩ := hQ74
          have N74 := Fr.app N71 N74q
          show o_G p e below _ T74 (mkF m 211 #[vI p1, vI p2, vI p3, vI p4, vI 0, vI 0, vI 1, vI ca, vI cb, vI cc, vR x61, vR b64, vR x71, vI 0, vI 1] [(.int (Int32.ofNat ([ca] : List Int32).length))])
          refine o_valE (z := 1) rfl ?_
          refine o_iload X74 hx (y_ at_211) rfl ?_
          refine o_iCT (t := 218) X74 hx (y_ at_213) ?_
          refine o_iload X74 hx (y_ at_218) rfl ?_
          refine o_iFT (t := 236) X74 hx (y_ at_220) ?_
          refine o_iload X74 hx (y_ at_236) rfl ?_
          refine o_iFT (t := 257) X74 hx (y_ at_238) ?_
          refine o_iload X74 hx (y_ at_257) rfl ?_
          refine o_iFF X74 hx (y_ at_259) ?_
          refine o_aload X74 hx (y_ at_262) rfl rfl ?_
          refine o_iload X74 hx (y_ at_264) rfl ?_
          refine o_vir (y := o_m40) (b := x71) (argsL := [(.int 0)]) (S := []) (W := 0) X74 hx hZ71 hown71 (k_ 216 rfl) (k_ 217 rfl) (k_ 219 rfl) (k_ 218 rfl) (o_chB (W := 0) (i := 0) hZ71 hw (k_ 5 rfl) O72 Sg71 SC_ hC_ S_f hfm (o_b rfl) rfl (by decide) (by decide)) hh74 Sg71.1 hml (lenOf o_pd__28I_29C rfl) (y_ at_266) (fun T75 L75 v75 X75 hQ75 => ?_)
          obtain ⟨rfl, rfl, hh75⟩ := hQ75
          have N75 := Fr.app N74 (Fr.nil n0)
          show o_G p e below _ T75 (mkF m 269 #[vI p1, vI p2, vI p3, vI p4, vI 0, vI 0, vI 1, vI ca, vI cb, vI cc, vR x61, vR b64, vR x71, vI 0, vI 1] [(.int ca)])
          refine o_iload X75 hx (y_ at_269) rfl ?_
          refine o_iC (t := 276) X75 hx (y_ at_271) (fun hq => ?_) (fun hq => ?_)
          · have hc271 := o_c_eq.1 hq
            refine o_iload X75 hx (y_ at_276) rfl ?_
            refine o_iconst X75 hx (y_ at_278) (x := 1) rfl ?_
            refine o_iCT (t := 298) X75 hx (y_ at_279) ?_
            refine o_iload X75 hx (y_ at_298) rfl ?_
            refine o_iconst X75 hx (y_ at_300) (x := 2) rfl ?_
            refine o_iCT (t := 320) X75 hx (y_ at_301) ?_
            refine o_iconst X75 hx (y_ at_320) (x := 1) rfl ?_
            exact o_retNW X75 hx hS71 (by rw [hh75]; exact hk71) (t := .boolean) hrt hlk (by simp) (y_ at_321) rfl (by decide) (by decide) (o_hQ hh75 ⟨rfl, N75⟩)
          have hc271 := o_c_eq.2 hq
          exact absurd rfl hc271
        have hc70 := o_h_ne.2 hq
        exact absurd hc70 hc53
      have hc53 := o_h_ne.2 hq
      obtain rfl : kl = 0 := hc53
      refine o_iload X3 hx (y_ at_56) rfl ?_
      refine o_iFT (t := 66) X3 hx (y_ at_58) ?_
      refine o_iconst X3 hx (y_ at_66) (x := 1) rfl ?_
      exact o_retNW X3 hx hS0 (by rw [hh3]; exact hk0) (t := .boolean) hrt hlk (by simp) (y_ at_67) rfl (by decide) (by decide) (o_hQ hh3 ⟨rfl, N3⟩)
    have hc16 := o_h_eq.2 hq
    refine o_iconst X0 hx (y_ at_19) (x := 1) rfl ?_
    refine o_gO (t := 24) X0 hx (y_ at_20) ?_
    refine o_istore X0 hx (y_ at_24) (A' := #[vI p1, vI p2, vI p3, vI p4, vI 0, vI 1, .unset, .unset, .unset, .unset, .unset, .unset, .unset, .unset, .unset]) rfl ?_
    refine o_iloadN X0 hx (y_ at_26) rfl ?_
    refine o_iconst X0 hx (y_ at_27) (x := 2) rfl ?_
    refine o_iushr X0 hx (y_ at_28) ?_
    refine o_iconst X0 hx (y_ at_29) (x := 3) rfl ?_
    refine o_iand X0 hx (y_ at_30) ?_
    have hkl := o_and3 (XT.ushr p1 (2 : Int32))
    generalize (XT.ushr p1 (2 : Int32)) &&& (3 : Int32) = kl at hkl ⊢
    refine o_istore X0 hx (y_ at_31) (A' := #[vI p1, vI p2, vI p3, vI p4, vI 0, vI 1, vI kl, .unset, .unset, .unset, .unset, .unset, .unset, .unset, .unset]) rfl ?_
    refine o_iloadN X0 hx (y_ at_33) rfl ?_
    refine o_sta (y := o_m11) (argsL := [(.int p2)]) (S := []) (W := 0) X0 hx hZ hown (k_ 0 rfl) (k_ 1 rfl) (k_ 2 rfl) (k_ 3 rfl) (backOf (W := 0) (rmcch l Z a0 hw [] p2 h0 n0 O0) hZ (k_ 3 rfl) (k_ 2 rfl) (by decide) (by decide)) e0 hml (lenOf o_pd__28I_29C rfl) (y_ at_34) (fun T76 L76 v76 X76 hQ76 => ?_)
    obtain ⟨rfl, N76q, hh76⟩ := hQ76
    have N76 := Fr.app N0 N76q
    show o_G p e below _ T76 (mkF m 37 #[vI p1, vI p2, vI p3, vI p4, vI 0, vI 1, vI kl, .unset, .unset, .unset, .unset, .unset, .unset, .unset, .unset] [(.int (o_core p2))])
    obtain ⟨ca, e_ca, n_ca, l_ca, u_ca, s_ca⟩ := o_coreP p2
    rw [e_ca]
    refine o_istore X76 hx (y_ at_37) (A' := #[vI p1, vI p2, vI p3, vI p4, vI 0, vI 1, vI kl, vI ca, .unset, .unset, .unset, .unset, .unset, .unset, .unset]) rfl ?_
    refine o_iloadN X76 hx (y_ at_39) rfl ?_
    refine o_sta (y := o_m11) (argsL := [(.int p3)]) (S := []) (W := 0) X76 hx hZ hown (k_ 0 rfl) (k_ 1 rfl) (k_ 2 rfl) (k_ 3 rfl) (backOf (W := 0) (rmcch l Z a0 hw [] p3 h0 n0 O0) hZ (k_ 3 rfl) (k_ 2 rfl) (by decide) (by decide)) hh76 hml (lenOf o_pd__28I_29C rfl) (y_ at_40) (fun T77 L77 v77 X77 hQ77 => ?_)
    obtain ⟨rfl, N77q, hh77⟩ := hQ77
    have N77 := Fr.app N76 N77q
    show o_G p e below _ T77 (mkF m 43 #[vI p1, vI p2, vI p3, vI p4, vI 0, vI 1, vI kl, vI ca, .unset, .unset, .unset, .unset, .unset, .unset, .unset] [(.int (o_core p3))])
    obtain ⟨cb, e_cb, n_cb, l_cb, u_cb, s_cb⟩ := o_coreP p3
    rw [e_cb]
    refine o_istore X77 hx (y_ at_43) (A' := #[vI p1, vI p2, vI p3, vI p4, vI 0, vI 1, vI kl, vI ca, vI cb, .unset, .unset, .unset, .unset, .unset, .unset]) rfl ?_
    refine o_iloadN X77 hx (y_ at_45) rfl ?_
    refine o_sta (y := o_m11) (argsL := [(.int p4)]) (S := []) (W := 0) X77 hx hZ hown (k_ 0 rfl) (k_ 1 rfl) (k_ 2 rfl) (k_ 3 rfl) (backOf (W := 0) (rmcch l Z a0 hw [] p4 h0 n0 O0) hZ (k_ 3 rfl) (k_ 2 rfl) (by decide) (by decide)) hh77 hml (lenOf o_pd__28I_29C rfl) (y_ at_46) (fun T78 L78 v78 X78 hQ78 => ?_)
    obtain ⟨rfl, N78q, hh78⟩ := hQ78
    have N78 := Fr.app N77 N78q
    show o_G p e below _ T78 (mkF m 49 #[vI p1, vI p2, vI p3, vI p4, vI 0, vI 1, vI kl, vI ca, vI cb, .unset, .unset, .unset, .unset, .unset, .unset] [(.int (o_core p4))])
    obtain ⟨cc, e_cc, n_cc, l_cc, u_cc, s_cc⟩ := o_coreP p4
    rw [e_cc]
    refine o_istore X78 hx (y_ at_49) (A' := #[vI p1, vI p2, vI p3, vI p4, vI 0, vI 1, vI kl, vI ca, vI cb, vI cc, .unset, .unset, .unset, .unset, .unset]) rfl ?_
    refine o_iload X78 hx (y_ at_51) rfl ?_
    refine o_iF (t := 68) X78 hx (y_ at_53) (fun hq => ?_) (fun hq => ?_)
    · have hc53 := o_h_ne.1 hq
      refine o_iload X78 hx (y_ at_68) rfl ?_
      refine o_iF (t := 80) X78 hx (y_ at_70) (fun hq => ?_) (fun hq => ?_)
      · have hc70 := o_h_ne.1 hq
        refine o_iload X78 hx (y_ at_80) rfl ?_
        refine o_iconst X78 hx (y_ at_82) (x := 1) rfl ?_
        refine o_iC (t := 96) X78 hx (y_ at_83) (fun hq => ?_) (fun hq => ?_)
        · have hc83 := o_c_ne.1 hq
          refine o_iload X78 hx (y_ at_96) rfl ?_
          refine o_iconst X78 hx (y_ at_98) (x := 2) rfl ?_
          refine o_iC (t := 127) X78 hx (y_ at_99) (fun hq => ?_) (fun hq => ?_)
          · have hc99 := o_c_ne.1 hq
            obtain rfl : kl = 3 := ((hkl.resolve_left hc53).resolve_left hc83).resolve_left hc99
            refine o_new X78 hx hZ hown (k_ 4 rfl) (k_ 5 rfl) (k_ 6 rfl) hh78 (y_ at_127) (by decide) (by decide) (fun T79 h79 b79 X79 e79 gg79 E79 A79 D79 => ?_)
            have g_b79 := o_fresh O0 gg79
            have O79 := Old.ext O0 E79
            have C80 := CHr.trans C0 (CHr.ext E79 C0.1)
            have F79_coder : Fld Z h79 b79 "java/lang/String" "coder" "B" (.int 0) := D79 (Or.inr (k_ 31 rfl)) (ty := .byte) (by decide)
            have F79_value : Fld Z h79 b79 "java/lang/String" "value" "[B" .null := D79 (Or.inr (k_ 33 rfl)) (ty := (.array .byte)) (by decide)
            refine o_dup X79 hx (y_ at_130) rfl ?_
            refine o_iconst X79 hx (y_ at_131) (x := 3) rfl ?_
            refine o_newA (cap := 3) X79 hx hZ (k_ 7 rfl) e79 (y_ at_132) (by decide) (by decide) (by decide) (by decide) (by decide) (fun T81 h81 k81 b81 X81 e81 gg81 E81 A81 => ?_)
            have g_b81 := o_fresh O79 gg81
            have O81 := Old.ext O79 E81
            have C82 := CHr.trans C80 (CHr.ext E81 C80.1)
            have V81 : Arv Z h81 b81 k81 .char (3 : Int32) [(.int 0), (.int 0), (.int 0)] (.int 0) := A81.pad (pad_rep [] (.int 0) 3)
            refine o_dup X81 hx (y_ at_134) rfl ?_
            refine o_iconst X81 hx (y_ at_135) (x := 0) rfl ?_
            refine o_iload X81 hx (y_ at_136) rfl ?_
            refine o_stC (i := 0) (z := ca) X81 hx hZ e81 V81 (y_ at_138) ⟨by decide, by decide⟩ rfl (o_b rfl) n_ca (fun T83 h83 X83 e83 W83 V83 => ?_)
            have N83 := Fr.snoc X83 N78 g_b81
            have O83 := Old.wr O81 W83 g_b81
            have C84 := CHr.trans C82 (CHr.wr W83 (Safe.arv hZ.alike V81 (by decide)) C82.1)
            refine o_dup X83 hx (y_ at_139) rfl ?_
            refine o_iconst X83 hx (y_ at_140) (x := 1) rfl ?_
            refine o_iload X83 hx (y_ at_141) rfl ?_
            refine o_stC (i := 1) (z := cb) X83 hx hZ e83 V83 (y_ at_143) ⟨by decide, by decide⟩ rfl (o_b rfl) n_cb (fun T85 h85 X85 e85 W85 V85 => ?_)
            have N85 := Fr.snoc X85 N83 g_b81
            have O85 := Old.wr O83 W85 g_b81
            have C86 := CHr.trans C84 (CHr.wr W85 (Safe.arv hZ.alike V83 (by decide)) C84.1)
            refine o_dup X85 hx (y_ at_144) rfl ?_
            refine o_iconst X85 hx (y_ at_145) (x := 2) rfl ?_
            refine o_iload X85 hx (y_ at_146) rfl ?_
            refine o_stC (i := 2) (z := cc) X85 hx hZ e85 V85 (y_ at_148) ⟨by decide, by decide⟩ rfl (o_b rfl) n_cc (fun T87 h87 X87 e87 W87 V87 => ?_)
            have N87 := Fr.snoc X87 N85 g_b81
            have O87 := Old.wr O85 W87 g_b81
            have C88 := CHr.trans C86 (CHr.wr W87 (Safe.arv hZ.alike V85 (by decide)) C86.1)
            have c89 := (Exa.wr W87 (Exa.wr W85 (Exa.wr W83 (Exa.ext E81 A79))))
            have c90 := (Fld.other W87 (Fld.other W85 (Fld.other W83 (Fld.ext E81 F79_value) (Or.inl (o_ng A79.lt gg81))) (Or.inl (o_ng A79.lt gg81))) (Or.inl (o_ng A79.lt gg81)))
            have c91 := (Fld.other W87 (Fld.other W85 (Fld.other W83 (Fld.ext E81 F79_coder) (Or.inl (o_ng A79.lt gg81))) (Or.inl (o_ng A79.lt gg81))) (Or.inl (o_ng A79.lt gg81)))
            refine o_ini (y := o_m39) (b := b79) (argsL := [(.ref b81)]) (S := [(.ref b79)]) (W := 1) rfl X87 hx hZ hown (k_ 8 rfl) (k_ 9 rfl) (k_ 10 rfl) (o_newB (W := 1) (cs := ([ca, cb, cc] : List Int32)) (n := 3) hZ hw (k_ 5 rfl) O87 g_b79 c89 c90 c91 V87 SC_ hC_ rfl rfl (by decide) (by decide) (o_csS ⟨l_ca, u_ca⟩ (o_csS ⟨l_cb, u_cb⟩ (o_csS ⟨l_cc, u_cc⟩ o_cs0))) (by decide) (by decide)) e87 hml (lenOf o_pd__28_5bC_29V rfl) (y_ at_149) (fun T92 L92 v92 X92 hQ92 => ?_)
            obtain ⟨rfl, Nq92, Kp92, t92, g_t92, ht92, hne92, Sf92⟩ := hQ92
            have N92 := Fr.app N87 Nq92
            have O93 := Old.keep O87 Kp92 (allS g_b79 all0)
            have C94 := CHr.trans C88 (CHr.keep Kp92 (sfS (o_safeN hZ.alike c89 c90) sf0) C88.1)
            show o_G p e below _ T92 (mkF m 152 #[vI p1, vI p2, vI p3, vI p4, vI 0, vI 1, vI 3, vI ca, vI cb, vI cc, .unset, .unset, .unset, .unset, .unset] [(.ref b79)])
            refine o_astore X92 hx (y_ at_152) rfl (A' := #[vI p1, vI p2, vI p3, vI p4, vI 0, vI 1, vI 3, vI ca, vI cb, vI cc, vR b79, .unset, .unset, .unset, .unset]) rfl ?_
            refine o_new X92 hx hZ hown (k_ 34 rfl) (k_ 35 rfl) (k_ 36 rfl) rfl (y_ at_154) (by decide) (by decide) (fun T95 h95 b95 X95 e95 gg95 E95 A95 D95 => ?_)
            have g_b95 := o_fresh O93 gg95
            have O95 := Old.ext O93 E95
            have C96 := CHr.trans C94 (CHr.ext E95 C94.1)
            have F95_core : Fld Z h95 b95 "org/adviceweft/pointcut/NamePattern" "core" "Ljava/lang/String;" .null := D95 (Or.inr (k_ 96 rfl)) (ty := (.object "java/lang/String")) (by decide)
            have F95_anyBefore : Fld Z h95 b95 "org/adviceweft/pointcut/NamePattern" "anyBefore" "Z" (.int 0) := D95 (Or.inr (k_ 98 rfl)) (ty := .boolean) (by decide)
            have F95_anyAfter : Fld Z h95 b95 "org/adviceweft/pointcut/NamePattern" "anyAfter" "Z" (.int 0) := D95 (Or.inr (k_ 100 rfl)) (ty := .boolean) (by decide)
            refine o_dup X95 hx (y_ at_157) rfl ?_
            refine o_aload X95 hx (y_ at_158) rfl rfl ?_
            refine o_iload X95 hx (y_ at_160) rfl ?_
            refine o_iload X95 hx (y_ at_162) rfl ?_
            have c97 := (o_Str.ext E95 Sf92)
            refine o_initH (y := o_m37) (b := b95) (argsL := [(.ref b79), (.int 0), (.int 1)]) (S := [(.ref b95)]) (W := 1) rfl X95 hx hZ hS0 hown (k_ 37 rfl) (k_ 38 rfl) (k_ 39 rfl) (by decide) (backOfSH (W := 1) (rmct3 l Z a0 hw [] b95 b79 (0 : Int32) (1 : Int32) t92 ca cb cc zC_ h95 n0 O95 A95 F95_core F95_anyBefore F95_anyAfter g_b95 c97 (o_nostar3 s_ca s_cb s_cc) (by decide) (by decide) SC_ hC_) hZ (k_ 39 rfl) (k_ 36 rfl) (by decide) (by decide) hEL C96.1) e95 (Nat.le_trans (Nat.le_trans (Nat.le_trans (Nat.le_trans (Nat.le_trans (Nat.le_trans (Nat.le_trans hk0 E79.1) E81.1) (Keep.of_wr W83).1) (Keep.of_wr W85).1) (Keep.of_wr W87).1) Kp92.1) E95.1) (by rw [hml]; rfl) (lenOf o_pd__28Ljava_2flang_2fString_3bZZ_29V rfl) rfl (Nat.le_of_eq rfl) (y_ at_164) (by decide) (by decide) (fun T98 L98 v98 k98 X98 hS98 hk98 hZ98 hown98 hQ98 hC98 => ?_)
            obtain ⟨rfl, N98q, Kp98, Ex98, Fk98, Fb98, Fa98⟩ := hQ98
            have N98 := Fr.app N92 N98q
            have O99 := Old.keep O95 Kp98 (allS g_b95 all0)
            have C100 := CHr.trans C96 (hC98)
            show o_G p e below _ T98 (mkF m 167 #[vI p1, vI p2, vI p3, vI p4, vI 0, vI 1, vI 3, vI ca, vI cb, vI cc, vR b79, .unset, .unset, .unset, .unset] [(.ref b95)])
            refine o_astore X98 hx (y_ at_167) rfl (A' := #[vI p1, vI p2, vI p3, vI p4, vI 0, vI 1, vI 3, vI ca, vI cb, vI cc, vR b79, vR b95, .unset, .unset, .unset]) rfl ?_
            refine o_aload X98 hx (y_ at_169) rfl rfl ?_
            have c101 := (o_Str.keep c97 Kp98 (ninS (o_ng Sf92.lt gg95) nin0) (ninS (o_ng Sf92.lt2 gg95) nin0))
            refine o_virtualH (y := o_m30) (z := o_m30) (b := b95) (argsL := []) (S := []) (W := 0) X98 hx hZ98 hS98 hown98 (k_ 101 rfl) (k_ 102 rfl) (notFace_of_selects (args := #[]) (mvT hZ98 (k_ 104 rfl))) (k_ 104 rfl) (k_ 103 rfl) (by decide) (backOfSH (W := 0) (rmtsn l Z a0 hw [] b95 b79 (0 : Int32) (1 : Int32) t92 ([ca, cb, cc] : List Int32) zC_ T98.heap n0 O99 Fk98 Fb98 Fa98 c101 (o_b rfl) SC_ hC_) hZ98 (k_ 105 rfl) (k_ 36 rfl) (by decide) (by decide) hEL C100.1) rfl hk98 Ex98 (by rw [hml]; rfl) (lenOf o_pd__28_29Ljava_2flang_2fString_3b rfl) rfl (Nat.le_of_eq rfl) (y_ at_171) (by decide) (by decide) (fun T102 L102 v102 k102 X102 hS102 hk102 hZ102 hown102 hQ102 hC102 => ?_)
            obtain ⟨x102, t102, rfl, N102q, Kp102, g_x102, hx102, g_t102, ht102, hne102, Sf102⟩ := hQ102
            have N102 := Fr.app N98 N102q
            have O103 := Old.keep O99 Kp102 all0
            have C104 := CHr.trans C100 (hC102)
            have Sg102 : o_Str Z T102.heap x102 t102 ([ca, cb, cc, (42 : Int32)] : List Int32) := by simpa [o_wr] using Sf102
            show o_G p e below _ T102 (mkF m 174 #[vI p1, vI p2, vI p3, vI p4, vI 0, vI 1, vI 3, vI ca, vI cb, vI cc, vR b79, vR b95, .unset, .unset, .unset] [(.ref x102)])
            refine o_astore X102 hx (y_ at_174) rfl (A' := #[vI p1, vI p2, vI p3, vI p4, vI 0, vI 1, vI 3, vI ca, vI cb, vI cc, vR b79, vR b95, vR x102, .unset, .unset]) rfl ?_
            refine o_iload X102 hx (y_ at_176) rfl ?_
            refine o_iFT (t := 185) X102 hx (y_ at_178) ?_
            refine o_iconst X102 hx (y_ at_185) (x := 0) rfl ?_
            refine o_istore X102 hx (y_ at_186) (A' := #[vI p1, vI p2, vI p3, vI p4, vI 0, vI 1, vI 3, vI ca, vI cb, vI cc, vR b79, vR b95, vR x102, vI 0, .unset]) rfl ?_
            refine o_iload X102 hx (y_ at_188) rfl ?_
            refine o_iload X102 hx (y_ at_190) rfl ?_
            refine o_iadd X102 hx (y_ at_192) ?_
            refine o_valE (z := 3) (by decide) ?_
            refine o_iload X102 hx (y_ at_193) rfl ?_
            refine o_iFF X102 hx (y_ at_195) ?_
            refine o_iconst X102 hx (y_ at_198) (x := 1) rfl ?_
            refine o_gO (t := 203) X102 hx (y_ at_199) ?_
            refine o_iadd X102 hx (y_ at_203) ?_
            refine o_valE (z := 4) (by decide) ?_
            refine o_istore X102 hx (y_ at_204) (A' := #[vI p1, vI p2, vI p3, vI p4, vI 0, vI 1, vI 3, vI ca, vI cb, vI cc, vR b79, vR b95, vR x102, vI 0, vI 4]) rfl ?_
            refine o_aload X102 hx (y_ at_206) rfl rfl ?_
            refine o_vir (y := o_m2) (b := x102) (argsL := []) (S := []) (W := 0) X102 hx hZ102 hown102 (k_ 215 rfl) (k_ 139 rfl) (k_ 141 rfl) (k_ 140 rfl) (backOf (W := 0) (rmlen l Z a0 hw [] x102 t102 ([ca, cb, cc, (42 : Int32)] : List Int32) zC_ T102.heap n0 O103 Sg102 SC_ hC_) hZ102 (k_ 142 rfl) (k_ 6 rfl) (by decide) (by decide)) rfl Sg102.1 hml (lenOf o_pd__28_29I rfl) (y_ at_208) (fun T105 L105 v105 X105 hQ105 => ?_)
            obtain ⟨rfl, N105q, hh105⟩ := hQ105
            have N105 := Fr.app N102 N105q
            show o_G p e below _ T105 (mkF m 211 #[vI p1, vI p2, vI p3, vI p4, vI 0, vI 1, vI 3, vI ca, vI cb, vI cc, vR b79, vR b95, vR x102, vI 0, vI 4] [(.int (Int32.ofNat ([ca, cb, cc, (42 : Int32)] : List Int32).length))])
            refine o_valE (z := 4) rfl ?_
            refine o_iload X105 hx (y_ at_211) rfl ?_
            refine o_iCT (t := 218) X105 hx (y_ at_213) ?_
            refine o_iload X105 hx (y_ at_218) rfl ?_
            refine o_iFT (t := 236) X105 hx (y_ at_220) ?_
            refine o_iload X105 hx (y_ at_236) rfl ?_
            refine o_iFF X105 hx (y_ at_238) ?_
            refine o_aload X105 hx (y_ at_241) rfl rfl ?_
            refine o_iload X105 hx (y_ at_243) rfl ?_
            refine o_iconst X105 hx (y_ at_245) (x := 1) rfl ?_
            refine o_isub X105 hx (y_ at_246) ?_
            refine o_valE (z := 3) (by decide) ?_
            refine o_vir (y := o_m40) (b := x102) (argsL := [(.int 3)]) (S := []) (W := 0) X105 hx hZ102 hown102 (k_ 216 rfl) (k_ 217 rfl) (k_ 219 rfl) (k_ 218 rfl) (o_chB (W := 0) (i := 3) hZ102 hw (k_ 5 rfl) O103 Sg102 SC_ hC_ S_f hfm (o_b rfl) rfl (by decide) (by decide)) hh105 Sg102.1 hml (lenOf o_pd__28I_29C rfl) (y_ at_247) (fun T106 L106 v106 X106 hQ106 => ?_)
            obtain ⟨rfl, rfl, hh106⟩ := hQ106
            have N106 := Fr.app N105 (Fr.nil n0)
            show o_G p e below _ T106 (mkF m 250 #[vI p1, vI p2, vI p3, vI p4, vI 0, vI 1, vI 3, vI ca, vI cb, vI cc, vR b79, vR b95, vR x102, vI 0, vI 4] [(.int 42)])
            refine o_bipush X106 hx (y_ at_250) (x := 42) rfl ?_
            refine o_iCT (t := 257) X106 hx (y_ at_252) ?_
            refine o_iload X106 hx (y_ at_257) rfl ?_
            refine o_iFF X106 hx (y_ at_259) ?_
            refine o_aload X106 hx (y_ at_262) rfl rfl ?_
            refine o_iload X106 hx (y_ at_264) rfl ?_
            refine o_vir (y := o_m40) (b := x102) (argsL := [(.int 0)]) (S := []) (W := 0) X106 hx hZ102 hown102 (k_ 216 rfl) (k_ 217 rfl) (k_ 219 rfl) (k_ 218 rfl) (o_chB (W := 0) (i := 0) hZ102 hw (k_ 5 rfl) O103 Sg102 SC_ hC_ S_f hfm (o_b rfl) rfl (by decide) (by decide)) hh106 Sg102.1 hml (lenOf o_pd__28I_29C rfl) (y_ at_266) (fun T107 L107 v107 X107 hQ107 => ?_)
            obtain ⟨rfl, rfl, hh107⟩ := hQ107
            have N107 := Fr.app N106 (Fr.nil n0)
            show o_G p e below _ T107 (mkF m 269 #[vI p1, vI p2, vI p3, vI p4, vI 0, vI 1, vI 3, vI ca, vI cb, vI cc, vR b79, vR b95, vR x102, vI 0, vI 4] [(.int ca)])
            refine o_iload X107 hx (y_ at_269) rfl ?_
            refine o_iC (t := 276) X107 hx (y_ at_271) (fun hq => ?_) (fun hq => ?_)
            · have hc271 := o_c_eq.1 hq
              refine o_iload X107 hx (y_ at_276) rfl ?_
              refine o_iconst X107 hx (y_ at_278) (x := 1) rfl ?_
              refine o_iCF X107 hx (y_ at_279) ?_
              refine o_aload X107 hx (y_ at_282) rfl rfl ?_
              refine o_iload X107 hx (y_ at_284) rfl ?_
              refine o_iconst X107 hx (y_ at_286) (x := 1) rfl ?_
              refine o_iadd X107 hx (y_ at_287) ?_
              refine o_valE (z := 1) (by decide) ?_
              refine o_vir (y := o_m40) (b := x102) (argsL := [(.int 1)]) (S := []) (W := 0) X107 hx hZ102 hown102 (k_ 216 rfl) (k_ 217 rfl) (k_ 219 rfl) (k_ 218 rfl) (o_chB (W := 0) (i := 1) hZ102 hw (k_ 5 rfl) O103 Sg102 SC_ hC_ S_f hfm (o_b rfl) rfl (by decide) (by decide)) hh107 Sg102.1 hml (lenOf o_pd__28I_29C rfl) (y_ at_288) (fun T108 L108 v108 X108 hQ108 => ?_)
              obtain ⟨rfl, rfl, hh108⟩ := hQ108
              have N108 := Fr.app N107 (Fr.nil n0)
              show o_G p e below _ T108 (mkF m 291 #[vI p1, vI p2, vI p3, vI p4, vI 0, vI 1, vI 3, vI ca, vI cb, vI cc, vR b79, vR b95, vR x102, vI 0, vI 4] [(.int cb)])
              refine o_iload X108 hx (y_ at_291) rfl ?_
              refine o_iC (t := 298) X108 hx (y_ at_293) (fun hq => ?_) (fun hq => ?_)
              · have hc293 := o_c_eq.1 hq
                refine o_iload X108 hx (y_ at_298) rfl ?_
                refine o_iconst X108 hx (y_ at_300) (x := 2) rfl ?_
                refine o_iCF X108 hx (y_ at_301) ?_
                refine o_aload X108 hx (y_ at_304) rfl rfl ?_
                refine o_iload X108 hx (y_ at_306) rfl ?_
                refine o_iconst X108 hx (y_ at_308) (x := 2) rfl ?_
                refine o_iadd X108 hx (y_ at_309) ?_
                refine o_valE (z := 2) (by decide) ?_
                refine o_vir (y := o_m40) (b := x102) (argsL := [(.int 2)]) (S := []) (W := 0) X108 hx hZ102 hown102 (k_ 216 rfl) (k_ 217 rfl) (k_ 219 rfl) (k_ 218 rfl) (o_chB (W := 0) (i := 2) hZ102 hw (k_ 5 rfl) O103 Sg102 SC_ hC_ S_f hfm (o_b rfl) rfl (by decide) (by decide)) hh108 Sg102.1 hml (lenOf o_pd__28I_29C rfl) (y_ at_310) (fun T109 L109 v109 X109 hQ109 => ?_)
                obtain ⟨rfl, rfl, hh109⟩ := hQ109
                have N109 := Fr.app N108 (Fr.nil n0)
                show o_G p e below _ T109 (mkF m 313 #[vI p1, vI p2, vI p3, vI p4, vI 0, vI 1, vI 3, vI ca, vI cb, vI cc, vR b79, vR b95, vR x102, vI 0, vI 4] [(.int cc)])
                refine o_iload X109 hx (y_ at_313) rfl ?_
                refine o_iC (t := 320) X109 hx (y_ at_315) (fun hq => ?_) (fun hq => ?_)
                · have hc315 := o_c_eq.1 hq
                  refine o_iconst X109 hx (y_ at_320) (x := 1) rfl ?_
                  exact o_retNW X109 hx hS102 (by rw [hh109]; exact hk102) (t := .boolean) hrt hlk (by simp) (y_ at_321) rfl (by decide) (by decide) (o_hQ hh109 ⟨rfl, N109⟩)
                have hc315 := o_c_eq.2 hq
                exact absurd rfl hc315
              have hc293 := o_c_eq.2 hq
              exact absurd rfl hc293
            have hc271 := o_c_eq.2 hq
            exact absurd rfl hc271
          have hc99 := o_c_ne.2 hq
          obtain rfl : kl = 2 := hc99
          refine o_new X78 hx hZ hown (k_ 4 rfl) (k_ 5 rfl) (k_ 6 rfl) hh78 (y_ at_102) (by decide) (by decide) (fun T110 h110 b110 X110 e110 gg110 E110 A110 D110 => ?_)
          have g_b110 := o_fresh O0 gg110
          have O110 := Old.ext O0 E110
          have C111 := CHr.trans C0 (CHr.ext E110 C0.1)
          have F110_coder : Fld Z h110 b110 "java/lang/String" "coder" "B" (.int 0) := D110 (Or.inr (k_ 31 rfl)) (ty := .byte) (by decide)
          have F110_value : Fld Z h110 b110 "java/lang/String" "value" "[B" .null := D110 (Or.inr (k_ 33 rfl)) (ty := (.array .byte)) (by decide)
          refine o_dup X110 hx (y_ at_105) rfl ?_
          refine o_iconst X110 hx (y_ at_106) (x := 2) rfl ?_
          refine o_newA (cap := 2) X110 hx hZ (k_ 7 rfl) e110 (y_ at_107) (by decide) (by decide) (by decide) (by decide) (by decide) (fun T112 h112 k112 b112 X112 e112 gg112 E112 A112 => ?_)
          have g_b112 := o_fresh O110 gg112
          have O112 := Old.ext O110 E112
          have C113 := CHr.trans C111 (CHr.ext E112 C111.1)
          have V112 : Arv Z h112 b112 k112 .char (2 : Int32) [(.int 0), (.int 0)] (.int 0) := A112.pad (pad_rep [] (.int 0) 2)
          refine o_dup X112 hx (y_ at_109) rfl ?_
          refine o_iconst X112 hx (y_ at_110) (x := 0) rfl ?_
          refine o_iload X112 hx (y_ at_111) rfl ?_
          refine o_stC (i := 0) (z := ca) X112 hx hZ e112 V112 (y_ at_113) ⟨by decide, by decide⟩ rfl (o_b rfl) n_ca (fun T114 h114 X114 e114 W114 V114 => ?_)
          have N114 := Fr.snoc X114 N78 g_b112
          have O114 := Old.wr O112 W114 g_b112
          have C115 := CHr.trans C113 (CHr.wr W114 (Safe.arv hZ.alike V112 (by decide)) C113.1)
          refine o_dup X114 hx (y_ at_114) rfl ?_
          refine o_iconst X114 hx (y_ at_115) (x := 1) rfl ?_
          refine o_iload X114 hx (y_ at_116) rfl ?_
          refine o_stC (i := 1) (z := cb) X114 hx hZ e114 V114 (y_ at_118) ⟨by decide, by decide⟩ rfl (o_b rfl) n_cb (fun T116 h116 X116 e116 W116 V116 => ?_)
          have N116 := Fr.snoc X116 N114 g_b112
          have O116 := Old.wr O114 W116 g_b112
          have C117 := CHr.trans C115 (CHr.wr W116 (Safe.arv hZ.alike V114 (by decide)) C115.1)
          have c118 := (Exa.wr W116 (Exa.wr W114 (Exa.ext E112 A110)))
          have c119 := (Fld.other W116 (Fld.other W114 (Fld.ext E112 F110_value) (Or.inl (o_ng A110.lt gg112))) (Or.inl (o_ng A110.lt gg112)))
          have c120 := (Fld.other W116 (Fld.other W114 (Fld.ext E112 F110_coder) (Or.inl (o_ng A110.lt gg112))) (Or.inl (o_ng A110.lt gg112)))
          refine o_ini (y := o_m39) (b := b110) (argsL := [(.ref b112)]) (S := [(.ref b110)]) (W := 1) rfl X116 hx hZ hown (k_ 8 rfl) (k_ 9 rfl) (k_ 10 rfl) (o_newB (W := 1) (cs := ([ca, cb] : List Int32)) (n := 2) hZ hw (k_ 5 rfl) O116 g_b110 c118 c119 c120 V116 SC_ hC_ rfl rfl (by decide) (by decide) (o_csS ⟨l_ca, u_ca⟩ (o_csS ⟨l_cb, u_cb⟩ o_cs0)) (by decide) (by decide)) e116 hml (lenOf o_pd__28_5bC_29V rfl) (y_ at_119) (fun T121 L121 v121 X121 hQ121 => ?_)
          obtain ⟨rfl, Nq121, Kp121, t121, g_t121, ht121, hne121, Sf121⟩ := hQ121
          have N121 := Fr.app N116 Nq121
          have O122 := Old.keep O116 Kp121 (allS g_b110 all0)
          have C123 := CHr.trans C117 (CHr.keep Kp121 (sfS (o_safeN hZ.alike c118 c119) sf0) C117.1)
          show o_G p e below _ T121 (mkF m 122 #[vI p1, vI p2, vI p3, vI p4, vI 0, vI 1, vI 2, vI ca, vI cb, vI cc, .unset, .unset, .unset, .unset, .unset] [(.ref b110)])
          refine o_astore X121 hx (y_ at_122) rfl (A' := #[vI p1, vI p2, vI p3, vI p4, vI 0, vI 1, vI 2, vI ca, vI cb, vI cc, vR b110, .unset, .unset, .unset, .unset]) rfl ?_
          refine o_gO (t := 154) X121 hx (y_ at_124) ?_
          refine o_new X121 hx hZ hown (k_ 34 rfl) (k_ 35 rfl) (k_ 36 rfl) rfl (y_ at_154) (by decide) (by decide) (fun T124 h124 b124 X124 e124 gg124 E124 A124 D124 => ?_)
          have g_b124 := o_fresh O122 gg124
          have O124 := Old.ext O122 E124
          have C125 := CHr.trans C123 (CHr.ext E124 C123.1)
          have F124_core : Fld Z h124 b124 "org/adviceweft/pointcut/NamePattern" "core" "Ljava/lang/String;" .null := D124 (Or.inr (k_ 96 rfl)) (ty := (.object "java/lang/String")) (by decide)
          have F124_anyBefore : Fld Z h124 b124 "org/adviceweft/pointcut/NamePattern" "anyBefore" "Z" (.int 0) := D124 (Or.inr (k_ 98 rfl)) (ty := .boolean) (by decide)
          have F124_anyAfter : Fld Z h124 b124 "org/adviceweft/pointcut/NamePattern" "anyAfter" "Z" (.int 0) := D124 (Or.inr (k_ 100 rfl)) (ty := .boolean) (by decide)
          refine o_dup X124 hx (y_ at_157) rfl ?_
          refine o_aload X124 hx (y_ at_158) rfl rfl ?_
          refine o_iload X124 hx (y_ at_160) rfl ?_
          refine o_iload X124 hx (y_ at_162) rfl ?_
          have c126 := (o_Str.ext E124 Sf121)
          refine o_initH (y := o_m37) (b := b124) (argsL := [(.ref b110), (.int 0), (.int 1)]) (S := [(.ref b124)]) (W := 1) rfl X124 hx hZ hS0 hown (k_ 37 rfl) (k_ 38 rfl) (k_ 39 rfl) (by decide) (backOfSH (W := 1) (rmct2 l Z a0 hw [] b124 b110 (0 : Int32) (1 : Int32) t121 ca cb zC_ h124 n0 O124 A124 F124_core F124_anyBefore F124_anyAfter g_b124 c126 (o_nostar2 s_ca s_cb) (by decide) (by decide) SC_ hC_) hZ (k_ 39 rfl) (k_ 36 rfl) (by decide) (by decide) hEL C125.1) e124 (Nat.le_trans (Nat.le_trans (Nat.le_trans (Nat.le_trans (Nat.le_trans (Nat.le_trans hk0 E110.1) E112.1) (Keep.of_wr W114).1) (Keep.of_wr W116).1) Kp121.1) E124.1) (by rw [hml]; rfl) (lenOf o_pd__28Ljava_2flang_2fString_3bZZ_29V rfl) rfl (Nat.le_of_eq rfl) (y_ at_164) (by decide) (by decide) (fun T127 L127 v127 k127 X127 hS127 hk127 hZ127 hown127 hQ127 hC127 => ?_)
          obtain ⟨rfl, N127q, Kp127, Ex127, Fk127, Fb127, Fa127⟩ := hQ127
          have N127 := Fr.app N121 N127q
          have O128 := Old.keep O124 Kp127 (allS g_b124 all0)
          have C129 := CHr.trans C125 (hC127)
          show o_G p e below _ T127 (mkF m 167 #[vI p1, vI p2, vI p3, vI p4, vI 0, vI 1, vI 2, vI ca, vI cb, vI cc, vR b110, .unset, .unset, .unset, .unset] [(.ref b124)])
          refine o_astore X127 hx (y_ at_167) rfl (A' := #[vI p1, vI p2, vI p3, vI p4, vI 0, vI 1, vI 2, vI ca, vI cb, vI cc, vR b110, vR b124, .unset, .unset, .unset]) rfl ?_
          refine o_aload X127 hx (y_ at_169) rfl rfl ?_
          have c130 := (o_Str.keep c126 Kp127 (ninS (o_ng Sf121.lt gg124) nin0) (ninS (o_ng Sf121.lt2 gg124) nin0))
          refine o_virtualH (y := o_m30) (z := o_m30) (b := b124) (argsL := []) (S := []) (W := 0) X127 hx hZ127 hS127 hown127 (k_ 101 rfl) (k_ 102 rfl) (notFace_of_selects (args := #[]) (mvT hZ127 (k_ 104 rfl))) (k_ 104 rfl) (k_ 103 rfl) (by decide) (backOfSH (W := 0) (rmtsn l Z a0 hw [] b124 b110 (0 : Int32) (1 : Int32) t121 ([ca, cb] : List Int32) zC_ T127.heap n0 O128 Fk127 Fb127 Fa127 c130 (o_b rfl) SC_ hC_) hZ127 (k_ 105 rfl) (k_ 36 rfl) (by decide) (by decide) hEL C129.1) rfl hk127 Ex127 (by rw [hml]; rfl) (lenOf o_pd__28_29Ljava_2flang_2fString_3b rfl) rfl (Nat.le_of_eq rfl) (y_ at_171) (by decide) (by decide) (fun T131 L131 v131 k131 X131 hS131 hk131 hZ131 hown131 hQ131 hC131 => ?_)
          obtain ⟨x131, t131, rfl, N131q, Kp131, g_x131, hx131, g_t131, ht131, hne131, Sf131⟩ := hQ131
          have N131 := Fr.app N127 N131q
          have O132 := Old.keep O128 Kp131 all0
          have C133 := CHr.trans C129 (hC131)
          have Sg131 : o_Str Z T131.heap x131 t131 ([ca, cb, (42 : Int32)] : List Int32) := by simpa [o_wr] using Sf131
          show o_G p e below _ T131 (mkF m 174 #[vI p1, vI p2, vI p3, vI p4, vI 0, vI 1, vI 2, vI ca, vI cb, vI cc, vR b110, vR b124, .unset, .unset, .unset] [(.ref x131)])
          refine o_astore X131 hx (y_ at_174) rfl (A' := #[vI p1, vI p2, vI p3, vI p4, vI 0, vI 1, vI 2, vI ca, vI cb, vI cc, vR b110, vR b124, vR x131, .unset, .unset]) rfl ?_
          refine o_iload X131 hx (y_ at_176) rfl ?_
          refine o_iFT (t := 185) X131 hx (y_ at_178) ?_
          refine o_iconst X131 hx (y_ at_185) (x := 0) rfl ?_
          refine o_istore X131 hx (y_ at_186) (A' := #[vI p1, vI p2, vI p3, vI p4, vI 0, vI 1, vI 2, vI ca, vI cb, vI cc, vR b110, vR b124, vR x131, vI 0, .unset]) rfl ?_
          refine o_iload X131 hx (y_ at_188) rfl ?_
          refine o_iload X131 hx (y_ at_190) rfl ?_
          refine o_iadd X131 hx (y_ at_192) ?_
          refine o_valE (z := 2) (by decide) ?_
          refine o_iload X131 hx (y_ at_193) rfl ?_
          refine o_iFF X131 hx (y_ at_195) ?_
          refine o_iconst X131 hx (y_ at_198) (x := 1) rfl ?_
          refine o_gO (t := 203) X131 hx (y_ at_199) ?_
          refine o_iadd X131 hx (y_ at_203) ?_
          refine o_valE (z := 3) (by decide) ?_
          refine o_istore X131 hx (y_ at_204) (A' := #[vI p1, vI p2, vI p3, vI p4, vI 0, vI 1, vI 2, vI ca, vI cb, vI cc, vR b110, vR b124, vR x131, vI 0, vI 3]) rfl ?_
          refine o_aload X131 hx (y_ at_206) rfl rfl ?_
          refine o_vir (y := o_m2) (b := x131) (argsL := []) (S := []) (W := 0) X131 hx hZ131 hown131 (k_ 215 rfl) (k_ 139 rfl) (k_ 141 rfl) (k_ 140 rfl) (backOf (W := 0) (rmlen l Z a0 hw [] x131 t131 ([ca, cb, (42 : Int32)] : List Int32) zC_ T131.heap n0 O132 Sg131 SC_ hC_) hZ131 (k_ 142 rfl) (k_ 6 rfl) (by decide) (by decide)) rfl Sg131.1 hml (lenOf o_pd__28_29I rfl) (y_ at_208) (fun T134 L134 v134 X134 hQ134 => ?_)
          obtain ⟨rfl, N134q, hh134⟩ := hQ134
          have N134 := Fr.app N131 N134q
          show o_G p e below _ T134 (mkF m 211 #[vI p1, vI p2, vI p3, vI p4, vI 0, vI 1, vI 2, vI ca, vI cb, vI cc, vR b110, vR b124, vR x131, vI 0, vI 3] [(.int (Int32.ofNat ([ca, cb, (42 : Int32)] : List Int32).length))])
          refine o_valE (z := 3) rfl ?_
          refine o_iload X134 hx (y_ at_211) rfl ?_
          refine o_iCT (t := 218) X134 hx (y_ at_213) ?_
          refine o_iload X134 hx (y_ at_218) rfl ?_
          refine o_iFT (t := 236) X134 hx (y_ at_220) ?_
          refine o_iload X134 hx (y_ at_236) rfl ?_
          refine o_iFF X134 hx (y_ at_238) ?_
          refine o_aload X134 hx (y_ at_241) rfl rfl ?_
          refine o_iload X134 hx (y_ at_243) rfl ?_
          refine o_iconst X134 hx (y_ at_245) (x := 1) rfl ?_
          refine o_isub X134 hx (y_ at_246) ?_
          refine o_valE (z := 2) (by decide) ?_
          refine o_vir (y := o_m40) (b := x131) (argsL := [(.int 2)]) (S := []) (W := 0) X134 hx hZ131 hown131 (k_ 216 rfl) (k_ 217 rfl) (k_ 219 rfl) (k_ 218 rfl) (o_chB (W := 0) (i := 2) hZ131 hw (k_ 5 rfl) O132 Sg131 SC_ hC_ S_f hfm (o_b rfl) rfl (by decide) (by decide)) hh134 Sg131.1 hml (lenOf o_pd__28I_29C rfl) (y_ at_247) (fun T135 L135 v135 X135 hQ135 => ?_)
          obtain ⟨rfl, rfl, hh135⟩ := hQ135
          have N135 := Fr.app N134 (Fr.nil n0)
          show o_G p e below _ T135 (mkF m 250 #[vI p1, vI p2, vI p3, vI p4, vI 0, vI 1, vI 2, vI ca, vI cb, vI cc, vR b110, vR b124, vR x131, vI 0, vI 3] [(.int 42)])
          refine o_bipush X135 hx (y_ at_250) (x := 42) rfl ?_
          refine o_iCT (t := 257) X135 hx (y_ at_252) ?_
          refine o_iload X135 hx (y_ at_257) rfl ?_
          refine o_iFF X135 hx (y_ at_259) ?_
          refine o_aload X135 hx (y_ at_262) rfl rfl ?_
          refine o_iload X135 hx (y_ at_264) rfl ?_
          refine o_vir (y := o_m40) (b := x131) (argsL := [(.int 0)]) (S := []) (W := 0) X135 hx hZ131 hown131 (k_ 216 rfl) (k_ 217 rfl) (k_ 219 rfl) (k_ 218 rfl) (o_chB (W := 0) (i := 0) hZ131 hw (k_ 5 rfl) O132 Sg131 SC_ hC_ S_f hfm (o_b rfl) rfl (by decide) (by decide)) hh135 Sg131.1 hml (lenOf o_pd__28I_29C rfl) (y_ at_266) (fun T136 L136 v136 X136 hQ136 => ?_)
          obtain ⟨rfl, rfl, hh136⟩ := hQ136
          have N136 := Fr.app N135 (Fr.nil n0)
          show o_G p e below _ T136 (mkF m 269 #[vI p1, vI p2, vI p3, vI p4, vI 0, vI 1, vI 2, vI ca, vI cb, vI cc, vR b110, vR b124, vR x131, vI 0, vI 3] [(.int ca)])
          refine o_iload X136 hx (y_ at_269) rfl ?_
          refine o_iC (t := 276) X136 hx (y_ at_271) (fun hq => ?_) (fun hq => ?_)
          · have hc271 := o_c_eq.1 hq
            refine o_iload X136 hx (y_ at_276) rfl ?_
            refine o_iconst X136 hx (y_ at_278) (x := 1) rfl ?_
            refine o_iCF X136 hx (y_ at_279) ?_
            refine o_aload X136 hx (y_ at_282) rfl rfl ?_
            refine o_iload X136 hx (y_ at_284) rfl ?_
            refine o_iconst X136 hx (y_ at_286) (x := 1) rfl ?_
            refine o_iadd X136 hx (y_ at_287) ?_
            refine o_valE (z := 1) (by decide) ?_
            refine o_vir (y := o_m40) (b := x131) (argsL := [(.int 1)]) (S := []) (W := 0) X136 hx hZ131 hown131 (k_ 216 rfl) (k_ 217 rfl) (k_ 219 rfl) (k_ 218 rfl) (o_chB (W := 0) (i := 1) hZ131 hw (k_ 5 rfl) O132 Sg131 SC_ hC_ S_f hfm (o_b rfl) rfl (by decide) (by decide)) hh136 Sg131.1 hml (lenOf o_pd__28I_29C rfl) (y_ at_288) (fun T137 L137 v137 X137 hQ137 => ?_)
            obtain ⟨rfl, rfl, hh137⟩ := hQ137
            have N137 := Fr.app N136 (Fr.nil n0)
            show o_G p e below _ T137 (mkF m 291 #[vI p1, vI p2, vI p3, vI p4, vI 0, vI 1, vI 2, vI ca, vI cb, vI cc, vR b110, vR b124, vR x131, vI 0, vI 3] [(.int cb)])
            refine o_iload X137 hx (y_ at_291) rfl ?_
            refine o_iC (t := 298) X137 hx (y_ at_293) (fun hq => ?_) (fun hq => ?_)
            · have hc293 := o_c_eq.1 hq
              refine o_iload X137 hx (y_ at_298) rfl ?_
              refine o_iconst X137 hx (y_ at_300) (x := 2) rfl ?_
              refine o_iCT (t := 320) X137 hx (y_ at_301) ?_
              refine o_iconst X137 hx (y_ at_320) (x := 1) rfl ?_
              exact o_retNW X137 hx hS131 (by rw [hh137]; exact hk131) (t := .boolean) hrt hlk (by simp) (y_ at_321) rfl (by decide) (by decide) (o_hQ hh137 ⟨rfl, N137⟩)
            have hc293 := o_c_eq.2 hq
            exact absurd rfl hc293
          have hc271 := o_c_eq.2 hq
          exact absurd rfl hc271
        have hc83 := o_c_ne.2 hq
        obtain rfl : kl = 1 := hc83
        refine o_iload X78 hx (y_ at_86) rfl ?_
        refine o_sta (y := o_m15) (argsL := [(.int ca)]) (S := []) (W := 0) X78 hx hZ hown (k_ 233 rfl) (k_ 234 rfl) (k_ 6 rfl) (k_ 235 rfl) (backOf (W := 0) (rmvoc l Z a0 hw [] ca zC_ h0 n0 O0 ⟨l_ca, u_ca⟩ SC_ hC_) hZ (k_ 235 rfl) (k_ 6 rfl) (by decide) (by decide)) hh78 hml (lenOf o_pd__28C_29Ljava_2flang_2fString_3b rfl) (y_ at_88) (fun T138 L138 v138 X138 hQ138 => ?_)
        obtain ⟨x138, t138, rfl, N138q, Kp138, g_x138, hx138, g_t138, ht138, hne138, Sf138⟩ := hQ138
        have N138 := Fr.app N78 N138q
        have O139 := Old.keep O0 Kp138 all0
        have C140 := CHr.trans C0 (CHr.keep Kp138 sf0 C0.1)
        show o_G p e below _ T138 (mkF m 91 #[vI p1, vI p2, vI p3, vI p4, vI 0, vI 1, vI 1, vI ca, vI cb, vI cc, .unset, .unset, .unset, .unset, .unset] [(.ref x138)])
        refine o_astore X138 hx (y_ at_91) rfl (A' := #[vI p1, vI p2, vI p3, vI p4, vI 0, vI 1, vI 1, vI ca, vI cb, vI cc, vR x138, .unset, .unset, .unset, .unset]) rfl ?_
        refine o_gO (t := 154) X138 hx (y_ at_93) ?_
        refine o_new X138 hx hZ hown (k_ 34 rfl) (k_ 35 rfl) (k_ 36 rfl) rfl (y_ at_154) (by decide) (by decide) (fun T141 h141 b141 X141 e141 gg141 E141 A141 D141 => ?_)
        have g_b141 := o_fresh O139 gg141
        have O141 := Old.ext O139 E141
        have C142 := CHr.trans C140 (CHr.ext E141 C140.1)
        have F141_core : Fld Z h141 b141 "org/adviceweft/pointcut/NamePattern" "core" "Ljava/lang/String;" .null := D141 (Or.inr (k_ 96 rfl)) (ty := (.object "java/lang/String")) (by decide)
        have F141_anyBefore : Fld Z h141 b141 "org/adviceweft/pointcut/NamePattern" "anyBefore" "Z" (.int 0) := D141 (Or.inr (k_ 98 rfl)) (ty := .boolean) (by decide)
        have F141_anyAfter : Fld Z h141 b141 "org/adviceweft/pointcut/NamePattern" "anyAfter" "Z" (.int 0) := D141 (Or.inr (k_ 100 rfl)) (ty := .boolean) (by decide)
        refine o_dup X141 hx (y_ at_157) rfl ?_
        refine o_aload X141 hx (y_ at_158) rfl rfl ?_
        refine o_iload X141 hx (y_ at_160) rfl ?_
        refine o_iload X141 hx (y_ at_162) rfl ?_
        have c143 := (o_Str.ext E141 Sf138)
        refine o_initH (y := o_m37) (b := b141) (argsL := [(.ref x138), (.int 0), (.int 1)]) (S := [(.ref b141)]) (W := 1) rfl X141 hx hZ hS0 hown (k_ 37 rfl) (k_ 38 rfl) (k_ 39 rfl) (by decide) (backOfSH (W := 1) (rmct1 l Z a0 hw [] b141 x138 (0 : Int32) (1 : Int32) t138 ca zC_ h141 n0 O141 A141 F141_core F141_anyBefore F141_anyAfter g_b141 c143 (o_nostar1 s_ca) (by decide) (by decide) SC_ hC_) hZ (k_ 39 rfl) (k_ 36 rfl) (by decide) (by decide) hEL C142.1) e141 (Nat.le_trans (Nat.le_trans hk0 Kp138.1) E141.1) (by rw [hml]; rfl) (lenOf o_pd__28Ljava_2flang_2fString_3bZZ_29V rfl) rfl (Nat.le_of_eq rfl) (y_ at_164) (by decide) (by decide) (fun T144 L144 v144 k144 X144 hS144 hk144 hZ144 hown144 hQ144 hC144 => ?_)
        obtain ⟨rfl, N144q, Kp144, Ex144, Fk144, Fb144, Fa144⟩ := hQ144
        have N144 := Fr.app N138 N144q
        have O145 := Old.keep O141 Kp144 (allS g_b141 all0)
        have C146 := CHr.trans C142 (hC144)
        show o_G p e below _ T144 (mkF m 167 #[vI p1, vI p2, vI p3, vI p4, vI 0, vI 1, vI 1, vI ca, vI cb, vI cc, vR x138, .unset, .unset, .unset, .unset] [(.ref b141)])
        refine o_astore X144 hx (y_ at_167) rfl (A' := #[vI p1, vI p2, vI p3, vI p4, vI 0, vI 1, vI 1, vI ca, vI cb, vI cc, vR x138, vR b141, .unset, .unset, .unset]) rfl ?_
        refine o_aload X144 hx (y_ at_169) rfl rfl ?_
        have c147 := (o_Str.keep c143 Kp144 (ninS (o_ng Sf138.lt gg141) nin0) (ninS (o_ng Sf138.lt2 gg141) nin0))
        refine o_virtualH (y := o_m30) (z := o_m30) (b := b141) (argsL := []) (S := []) (W := 0) X144 hx hZ144 hS144 hown144 (k_ 101 rfl) (k_ 102 rfl) (notFace_of_selects (args := #[]) (mvT hZ144 (k_ 104 rfl))) (k_ 104 rfl) (k_ 103 rfl) (by decide) (backOfSH (W := 0) (rmtsn l Z a0 hw [] b141 x138 (0 : Int32) (1 : Int32) t138 ([ca] : List Int32) zC_ T144.heap n0 O145 Fk144 Fb144 Fa144 c147 (o_b rfl) SC_ hC_) hZ144 (k_ 105 rfl) (k_ 36 rfl) (by decide) (by decide) hEL C146.1) rfl hk144 Ex144 (by rw [hml]; rfl) (lenOf o_pd__28_29Ljava_2flang_2fString_3b rfl) rfl (Nat.le_of_eq rfl) (y_ at_171) (by decide) (by decide) (fun T148 L148 v148 k148 X148 hS148 hk148 hZ148 hown148 hQ148 hC148 => ?_)
        obtain ⟨x148, t148, rfl, N148q, Kp148, g_x148, hx148, g_t148, ht148, hne148, Sf148⟩ := hQ148
        have N148 := Fr.app N144 N148q
        have O149 := Old.keep O145 Kp148 all0
        have C150 := CHr.trans C146 (hC148)
        have Sg148 : o_Str Z T148.heap x148 t148 ([ca, (42 : Int32)] : List Int32) := by simpa [o_wr] using Sf148
        show o_G p e below _ T148 (mkF m 174 #[vI p1, vI p2, vI p3, vI p4, vI 0, vI 1, vI 1, vI ca, vI cb, vI cc, vR x138, vR b141, .unset, .unset, .unset] [(.ref x148)])
        refine o_astore X148 hx (y_ at_174) rfl (A' := #[vI p1, vI p2, vI p3, vI p4, vI 0, vI 1, vI 1, vI ca, vI cb, vI cc, vR x138, vR b141, vR x148, .unset, .unset]) rfl ?_
        refine o_iload X148 hx (y_ at_176) rfl ?_
        refine o_iFT (t := 185) X148 hx (y_ at_178) ?_
        refine o_iconst X148 hx (y_ at_185) (x := 0) rfl ?_
        refine o_istore X148 hx (y_ at_186) (A' := #[vI p1, vI p2, vI p3, vI p4, vI 0, vI 1, vI 1, vI ca, vI cb, vI cc, vR x138, vR b141, vR x148, vI 0, .unset]) rfl ?_
        refine o_iload X148 hx (y_ at_188) rfl ?_
        refine o_iload X148 hx (y_ at_190) rfl ?_
        refine o_iadd X148 hx (y_ at_192) ?_
        refine o_valE (z := 1) (by decide) ?_
        refine o_iload X148 hx (y_ at_193) rfl ?_
        refine o_iFF X148 hx (y_ at_195) ?_
        refine o_iconst X148 hx (y_ at_198) (x := 1) rfl ?_
        refine o_gO (t := 203) X148 hx (y_ at_199) ?_
        refine o_iadd X148 hx (y_ at_203) ?_
        refine o_valE (z := 2) (by decide) ?_
        refine o_istore X148 hx (y_ at_204) (A' := #[vI p1, vI p2, vI p3, vI p4, vI 0, vI 1, vI 1, vI ca, vI cb, vI cc, vR x138, vR b141, vR x148, vI 0, vI 2]) rfl ?_
        refine o_aload X148 hx (y_ at_206) rfl rfl ?_
        refine o_vir (y := o_m2) (b := x148) (argsL := []) (S := []) (W := 0) X148 hx hZ148 hown148 (k_ 215 rfl) (k_ 139 rfl) (k_ 141 rfl) (k_ 140 rfl) (backOf (W := 0) (rmlen l Z a0 hw [] x148 t148 ([ca, (42 : Int32)] : List Int32) zC_ T148.heap n0 O149 Sg148 SC_ hC_) hZ148 (k_ 142 rfl) (k_ 6 rfl) (by decide) (by decide)) rfl Sg148.1 hml (lenOf o_pd__28_29I rfl) (y_ at_208) (fun T151 L151 v151 X151 hQ151 => ?_)
        obtain ⟨rfl, N151q, hh151⟩ := hQ151
        have N151 := Fr.app N148 N151q
        show o_G p e below _ T151 (mkF m 211 #[vI p1, vI p2, vI p3, vI p4, vI 0, vI 1, vI 1, vI ca, vI cb, vI cc, vR x138, vR b141, vR x148, vI 0, vI 2] [(.int (Int32.ofNat ([ca, (42 : Int32)] : List Int32).length))])
        refine o_valE (z := 2) rfl ?_
        refine o_iload X151 hx (y_ at_211) rfl ?_
        refine o_iCT (t := 218) X151 hx (y_ at_213) ?_
        refine o_iload X151 hx (y_ at_218) rfl ?_
        refine o_iFT (t := 236) X151 hx (y_ at_220) ?_
        refine o_iload X151 hx (y_ at_236) rfl ?_
        refine o_iFF X151 hx (y_ at_238) ?_
        refine o_aload X151 hx (y_ at_241) rfl rfl ?_
        refine o_iload X151 hx (y_ at_243) rfl ?_
        refine o_iconst X151 hx (y_ at_245) (x := 1) rfl ?_
        refine o_isub X151 hx (y_ at_246) ?_
        refine o_valE (z := 1) (by decide) ?_
        refine o_vir (y := o_m40) (b := x148) (argsL := [(.int 1)]) (S := []) (W := 0) X151 hx hZ148 hown148 (k_ 216 rfl) (k_ 217 rfl) (k_ 219 rfl) (k_ 218 rfl) (o_chB (W := 0) (i := 1) hZ148 hw (k_ 5 rfl) O149 Sg148 SC_ hC_ S_f hfm (o_b rfl) rfl (by decide) (by decide)) hh151 Sg148.1 hml (lenOf o_pd__28I_29C rfl) (y_ at_247) (fun T152 L152 v152 X152 hQ152 => ?_)
        obtain ⟨rfl, rfl, hh152⟩ := hQ152
        have N152 := Fr.app N151 (Fr.nil n0)
        show o_G p e below _ T152 (mkF m 250 #[vI p1, vI p2, vI p3, vI p4, vI 0, vI 1, vI 1, vI ca, vI cb, vI cc, vR x138, vR b141, vR x148, vI 0, vI 2] [(.int 42)])
        refine o_bipush X152 hx (y_ at_250) (x := 42) rfl ?_
        refine o_iCT (t := 257) X152 hx (y_ at_252) ?_
        refine o_iload X152 hx (y_ at_257) rfl ?_
        refine o_iFF X152 hx (y_ at_259) ?_
        refine o_aload X152 hx (y_ at_262) rfl rfl ?_
        refine o_iload X152 hx (y_ at_264) rfl ?_
        refine o_vir (y := o_m40) (b := x148) (argsL := [(.int 0)]) (S := []) (W := 0) X152 hx hZ148 hown148 (k_ 216 rfl) (k_ 217 rfl) (k_ 219 rfl) (k_ 218 rfl) (o_chB (W := 0) (i := 0) hZ148 hw (k_ 5 rfl) O149 Sg148 SC_ hC_ S_f hfm (o_b rfl) rfl (by decide) (by decide)) hh152 Sg148.1 hml (lenOf o_pd__28I_29C rfl) (y_ at_266) (fun T153 L153 v153 X153 hQ153 => ?_)
        obtain ⟨rfl, rfl, hh153⟩ := hQ153
        have N153 := Fr.app N152 (Fr.nil n0)
        show o_G p e below _ T153 (mkF m 269 #[vI p1, vI p2, vI p3, vI p4, vI 0, vI 1, vI 1, vI ca, vI cb, vI cc, vR x138, vR b141, vR x148, vI 0, vI 2] [(.int ca)])
        refine o_iload X153 hx (y_ at_269) rfl ?_
        refine o_iC (t := 276) X153 hx (y_ at_271) (fun hq => ?_) (fun hq => ?_)
        · have hc271 := o_c_eq.1 hq
          refine o_iload X153 hx (y_ at_276) rfl ?_
          refine o_iconst X153 hx (y_ at_278) (x := 1) rfl ?_
          refine o_iCT (t := 298) X153 hx (y_ at_279) ?_
          refine o_iload X153 hx (y_ at_298) rfl ?_
          refine o_iconst X153 hx (y_ at_300) (x := 2) rfl ?_
          refine o_iCT (t := 320) X153 hx (y_ at_301) ?_
          refine o_iconst X153 hx (y_ at_320) (x := 1) rfl ?_
          exact o_retNW X153 hx hS148 (by rw [hh153]; exact hk148) (t := .boolean) hrt hlk (by simp) (y_ at_321) rfl (by decide) (by decide) (o_hQ hh153 ⟨rfl, N153⟩)
        have hc271 := o_c_eq.2 hq
        exact absurd rfl hc271
      have hc70 := o_h_ne.2 hq
      exact absurd hc70 hc53
    have hc53 := o_h_ne.2 hq
    obtain rfl : kl = 0 := hc53
    refine o_iload X78 hx (y_ at_56) rfl ?_
    refine o_iFT (t := 66) X78 hx (y_ at_58) ?_
    refine o_iconst X78 hx (y_ at_66) (x := 1) rfl ?_
    exact o_retNW X78 hx hS0 (by rw [hh78]; exact hk0) (t := .boolean) hrt hlk (by simp) (y_ at_67) rfl (by decide) (by decide) (o_hQ hh78 ⟨rfl, N78⟩)
  have hc3 := o_h_eq.2 hq
  refine o_iconst X0 hx (y_ at_6) (x := 1) rfl ?_
  refine o_gO (t := 11) X0 hx (y_ at_7) ?_
  refine o_istore X0 hx (y_ at_11) (A' := #[vI p1, vI p2, vI p3, vI p4, vI 1, .unset, .unset, .unset, .unset, .unset, .unset, .unset, .unset, .unset, .unset]) rfl ?_
  refine o_iloadN X0 hx (y_ at_13) rfl ?_
  refine o_iconst X0 hx (y_ at_14) (x := 2) rfl ?_
  refine o_iand X0 hx (y_ at_15) ?_
  refine o_iF (t := 23) X0 hx (y_ at_16) (fun hq => ?_) (fun hq => ?_)
  · have hc16 := o_h_eq.1 hq
    refine o_iconst X0 hx (y_ at_23) (x := 0) rfl ?_
    refine o_istore X0 hx (y_ at_24) (A' := #[vI p1, vI p2, vI p3, vI p4, vI 1, vI 0, .unset, .unset, .unset, .unset, .unset, .unset, .unset, .unset, .unset]) rfl ?_
    refine o_iloadN X0 hx (y_ at_26) rfl ?_
    refine o_iconst X0 hx (y_ at_27) (x := 2) rfl ?_
    refine o_iushr X0 hx (y_ at_28) ?_
    refine o_iconst X0 hx (y_ at_29) (x := 3) rfl ?_
    refine o_iand X0 hx (y_ at_30) ?_
    have hkl := o_and3 (XT.ushr p1 (2 : Int32))
    generalize (XT.ushr p1 (2 : Int32)) &&& (3 : Int32) = kl at hkl ⊢
    refine o_istore X0 hx (y_ at_31) (A' := #[vI p1, vI p2, vI p3, vI p4, vI 1, vI 0, vI kl, .unset, .unset, .unset, .unset, .unset, .unset, .unset, .unset]) rfl ?_
    refine o_iloadN X0 hx (y_ at_33) rfl ?_
    refine o_sta (y := o_m11) (argsL := [(.int p2)]) (S := []) (W := 0) X0 hx hZ hown (k_ 0 rfl) (k_ 1 rfl) (k_ 2 rfl) (k_ 3 rfl) (backOf (W := 0) (rmcch l Z a0 hw [] p2 h0 n0 O0) hZ (k_ 3 rfl) (k_ 2 rfl) (by decide) (by decide)) e0 hml (lenOf o_pd__28I_29C rfl) (y_ at_34) (fun T154 L154 v154 X154 hQ154 => ?_)
    obtain ⟨rfl, N154q, hh154⟩ := hQ154
    have N154 := Fr.app N0 N154q
    show o_G p e below _ T154 (mkF m 37 #[vI p1, vI p2, vI p3, vI p4, vI 1, vI 0, vI kl, .unset, .unset, .unset, .unset, .unset, .unset, .unset, .unset] [(.int (o_core p2))])
    obtain ⟨ca, e_ca, n_ca, l_ca, u_ca, s_ca⟩ := o_coreP p2
    rw [e_ca]
    refine o_istore X154 hx (y_ at_37) (A' := #[vI p1, vI p2, vI p3, vI p4, vI 1, vI 0, vI kl, vI ca, .unset, .unset, .unset, .unset, .unset, .unset, .unset]) rfl ?_
    refine o_iloadN X154 hx (y_ at_39) rfl ?_
    refine o_sta (y := o_m11) (argsL := [(.int p3)]) (S := []) (W := 0) X154 hx hZ hown (k_ 0 rfl) (k_ 1 rfl) (k_ 2 rfl) (k_ 3 rfl) (backOf (W := 0) (rmcch l Z a0 hw [] p3 h0 n0 O0) hZ (k_ 3 rfl) (k_ 2 rfl) (by decide) (by decide)) hh154 hml (lenOf o_pd__28I_29C rfl) (y_ at_40) (fun T155 L155 v155 X155 hQ155 => ?_)
    obtain ⟨rfl, N155q, hh155⟩ := hQ155
    have N155 := Fr.app N154 N155q
    show o_G p e below _ T155 (mkF m 43 #[vI p1, vI p2, vI p3, vI p4, vI 1, vI 0, vI kl, vI ca, .unset, .unset, .unset, .unset, .unset, .unset, .unset] [(.int (o_core p3))])
    obtain ⟨cb, e_cb, n_cb, l_cb, u_cb, s_cb⟩ := o_coreP p3
    rw [e_cb]
    refine o_istore X155 hx (y_ at_43) (A' := #[vI p1, vI p2, vI p3, vI p4, vI 1, vI 0, vI kl, vI ca, vI cb, .unset, .unset, .unset, .unset, .unset, .unset]) rfl ?_
    refine o_iloadN X155 hx (y_ at_45) rfl ?_
    refine o_sta (y := o_m11) (argsL := [(.int p4)]) (S := []) (W := 0) X155 hx hZ hown (k_ 0 rfl) (k_ 1 rfl) (k_ 2 rfl) (k_ 3 rfl) (backOf (W := 0) (rmcch l Z a0 hw [] p4 h0 n0 O0) hZ (k_ 3 rfl) (k_ 2 rfl) (by decide) (by decide)) hh155 hml (lenOf o_pd__28I_29C rfl) (y_ at_46) (fun T156 L156 v156 X156 hQ156 => ?_)
    obtain ⟨rfl, N156q, hh156⟩ := hQ156
    have N156 := Fr.app N155 N156q
    show o_G p e below _ T156 (mkF m 49 #[vI p1, vI p2, vI p3, vI p4, vI 1, vI 0, vI kl, vI ca, vI cb, .unset, .unset, .unset, .unset, .unset, .unset] [(.int (o_core p4))])
    obtain ⟨cc, e_cc, n_cc, l_cc, u_cc, s_cc⟩ := o_coreP p4
    rw [e_cc]
    refine o_istore X156 hx (y_ at_49) (A' := #[vI p1, vI p2, vI p3, vI p4, vI 1, vI 0, vI kl, vI ca, vI cb, vI cc, .unset, .unset, .unset, .unset, .unset]) rfl ?_
    refine o_iload X156 hx (y_ at_51) rfl ?_
    refine o_iF (t := 68) X156 hx (y_ at_53) (fun hq => ?_) (fun hq => ?_)
    · have hc53 := o_h_ne.1 hq
      refine o_iload X156 hx (y_ at_68) rfl ?_
      refine o_iF (t := 80) X156 hx (y_ at_70) (fun hq => ?_) (fun hq => ?_)
      · have hc70 := o_h_ne.1 hq
        refine o_iload X156 hx (y_ at_80) rfl ?_
        refine o_iconst X156 hx (y_ at_82) (x := 1) rfl ?_
        refine o_iC (t := 96) X156 hx (y_ at_83) (fun hq => ?_) (fun hq => ?_)
        · have hc83 := o_c_ne.1 hq
          refine o_iload X156 hx (y_ at_96) rfl ?_
          refine o_iconst X156 hx (y_ at_98) (x := 2) rfl ?_
          refine o_iC (t := 127) X156 hx (y_ at_99) (fun hq => ?_) (fun hq => ?_)
          · have hc99 := o_c_ne.1 hq
            obtain rfl : kl = 3 := ((hkl.resolve_left hc53).resolve_left hc83).resolve_left hc99
            refine o_new X156 hx hZ hown (k_ 4 rfl) (k_ 5 rfl) (k_ 6 rfl) hh156 (y_ at_127) (by decide) (by decide) (fun T157 h157 b157 X157 e157 gg157 E157 A157 D157 => ?_)
            have g_b157 := o_fresh O0 gg157
            have O157 := Old.ext O0 E157
            have C158 := CHr.trans C0 (CHr.ext E157 C0.1)
            have F157_coder : Fld Z h157 b157 "java/lang/String" "coder" "B" (.int 0) := D157 (Or.inr (k_ 31 rfl)) (ty := .byte) (by decide)
            have F157_value : Fld Z h157 b157 "java/lang/String" "value" "[B" .null := D157 (Or.inr (k_ 33 rfl)) (ty := (.array .byte)) (by decide)
            refine o_dup X157 hx (y_ at_130) rfl ?_
            refine o_iconst X157 hx (y_ at_131) (x := 3) rfl ?_
            refine o_newA (cap := 3) X157 hx hZ (k_ 7 rfl) e157 (y_ at_132) (by decide) (by decide) (by decide) (by decide) (by decide) (fun T159 h159 k159 b159 X159 e159 gg159 E159 A159 => ?_)
            have g_b159 := o_fresh O157 gg159
            have O159 := Old.ext O157 E159
            have C160 := CHr.trans C158 (CHr.ext E159 C158.1)
            have V159 : Arv Z h159 b159 k159 .char (3 : Int32) [(.int 0), (.int 0), (.int 0)] (.int 0) := A159.pad (pad_rep [] (.int 0) 3)
            refine o_dup X159 hx (y_ at_134) rfl ?_
            refine o_iconst X159 hx (y_ at_135) (x := 0) rfl ?_
            refine o_iload X159 hx (y_ at_136) rfl ?_
            refine o_stC (i := 0) (z := ca) X159 hx hZ e159 V159 (y_ at_138) ⟨by decide, by decide⟩ rfl (o_b rfl) n_ca (fun T161 h161 X161 e161 W161 V161 => ?_)
            have N161 := Fr.snoc X161 N156 g_b159
            have O161 := Old.wr O159 W161 g_b159
            have C162 := CHr.trans C160 (CHr.wr W161 (Safe.arv hZ.alike V159 (by decide)) C160.1)
            refine o_dup X161 hx (y_ at_139) rfl ?_
            refine o_iconst X161 hx (y_ at_140) (x := 1) rfl ?_
            refine o_iload X161 hx (y_ at_141) rfl ?_
            refine o_stC (i := 1) (z := cb) X161 hx hZ e161 V161 (y_ at_143) ⟨by decide, by decide⟩ rfl (o_b rfl) n_cb (fun T163 h163 X163 e163 W163 V163 => ?_)
            have N163 := Fr.snoc X163 N161 g_b159
            have O163 := Old.wr O161 W163 g_b159
            have C164 := CHr.trans C162 (CHr.wr W163 (Safe.arv hZ.alike V161 (by decide)) C162.1)
            refine o_dup X163 hx (y_ at_144) rfl ?_
            refine o_iconst X163 hx (y_ at_145) (x := 2) rfl ?_
            refine o_iload X163 hx (y_ at_146) rfl ?_
            refine o_stC (i := 2) (z := cc) X163 hx hZ e163 V163 (y_ at_148) ⟨by decide, by decide⟩ rfl (o_b rfl) n_cc (fun T165 h165 X165 e165 W165 V165 => ?_)
            have N165 := Fr.snoc X165 N163 g_b159
            have O165 := Old.wr O163 W165 g_b159
            have C166 := CHr.trans C164 (CHr.wr W165 (Safe.arv hZ.alike V163 (by decide)) C164.1)
            have c167 := (Exa.wr W165 (Exa.wr W163 (Exa.wr W161 (Exa.ext E159 A157))))
            have c168 := (Fld.other W165 (Fld.other W163 (Fld.other W161 (Fld.ext E159 F157_value) (Or.inl (o_ng A157.lt gg159))) (Or.inl (o_ng A157.lt gg159))) (Or.inl (o_ng A157.lt gg159)))
            have c169 := (Fld.other W165 (Fld.other W163 (Fld.other W161 (Fld.ext E159 F157_coder) (Or.inl (o_ng A157.lt gg159))) (Or.inl (o_ng A157.lt gg159))) (Or.inl (o_ng A157.lt gg159)))
            refine o_ini (y := o_m39) (b := b157) (argsL := [(.ref b159)]) (S := [(.ref b157)]) (W := 1) rfl X165 hx hZ hown (k_ 8 rfl) (k_ 9 rfl) (k_ 10 rfl) (o_newB (W := 1) (cs := ([ca, cb, cc] : List Int32)) (n := 3) hZ hw (k_ 5 rfl) O165 g_b157 c167 c168 c169 V165 SC_ hC_ rfl rfl (by decide) (by decide) (o_csS ⟨l_ca, u_ca⟩ (o_csS ⟨l_cb, u_cb⟩ (o_csS ⟨l_cc, u_cc⟩ o_cs0))) (by decide) (by decide)) e165 hml (lenOf o_pd__28_5bC_29V rfl) (y_ at_149) (fun T170 L170 v170 X170 hQ170 => ?_)
            obtain ⟨rfl, Nq170, Kp170, t170, g_t170, ht170, hne170, Sf170⟩ := hQ170
            have N170 := Fr.app N165 Nq170
            have O171 := Old.keep O165 Kp170 (allS g_b157 all0)
            have C172 := CHr.trans C166 (CHr.keep Kp170 (sfS (o_safeN hZ.alike c167 c168) sf0) C166.1)
            show o_G p e below _ T170 (mkF m 152 #[vI p1, vI p2, vI p3, vI p4, vI 1, vI 0, vI 3, vI ca, vI cb, vI cc, .unset, .unset, .unset, .unset, .unset] [(.ref b157)])
            refine o_astore X170 hx (y_ at_152) rfl (A' := #[vI p1, vI p2, vI p3, vI p4, vI 1, vI 0, vI 3, vI ca, vI cb, vI cc, vR b157, .unset, .unset, .unset, .unset]) rfl ?_
            refine o_new X170 hx hZ hown (k_ 34 rfl) (k_ 35 rfl) (k_ 36 rfl) rfl (y_ at_154) (by decide) (by decide) (fun T173 h173 b173 X173 e173 gg173 E173 A173 D173 => ?_)
            have g_b173 := o_fresh O171 gg173
            have O173 := Old.ext O171 E173
            have C174 := CHr.trans C172 (CHr.ext E173 C172.1)
            have F173_core : Fld Z h173 b173 "org/adviceweft/pointcut/NamePattern" "core" "Ljava/lang/String;" .null := D173 (Or.inr (k_ 96 rfl)) (ty := (.object "java/lang/String")) (by decide)
            have F173_anyBefore : Fld Z h173 b173 "org/adviceweft/pointcut/NamePattern" "anyBefore" "Z" (.int 0) := D173 (Or.inr (k_ 98 rfl)) (ty := .boolean) (by decide)
            have F173_anyAfter : Fld Z h173 b173 "org/adviceweft/pointcut/NamePattern" "anyAfter" "Z" (.int 0) := D173 (Or.inr (k_ 100 rfl)) (ty := .boolean) (by decide)
            refine o_dup X173 hx (y_ at_157) rfl ?_
            refine o_aload X173 hx (y_ at_158) rfl rfl ?_
            refine o_iload X173 hx (y_ at_160) rfl ?_
            refine o_iload X173 hx (y_ at_162) rfl ?_
            have c175 := (o_Str.ext E173 Sf170)
            refine o_initH (y := o_m37) (b := b173) (argsL := [(.ref b157), (.int 1), (.int 0)]) (S := [(.ref b173)]) (W := 1) rfl X173 hx hZ hS0 hown (k_ 37 rfl) (k_ 38 rfl) (k_ 39 rfl) (by decide) (backOfSH (W := 1) (rmct3 l Z a0 hw [] b173 b157 (1 : Int32) (0 : Int32) t170 ca cb cc zC_ h173 n0 O173 A173 F173_core F173_anyBefore F173_anyAfter g_b173 c175 (o_nostar3 s_ca s_cb s_cc) (by decide) (by decide) SC_ hC_) hZ (k_ 39 rfl) (k_ 36 rfl) (by decide) (by decide) hEL C174.1) e173 (Nat.le_trans (Nat.le_trans (Nat.le_trans (Nat.le_trans (Nat.le_trans (Nat.le_trans (Nat.le_trans hk0 E157.1) E159.1) (Keep.of_wr W161).1) (Keep.of_wr W163).1) (Keep.of_wr W165).1) Kp170.1) E173.1) (by rw [hml]; rfl) (lenOf o_pd__28Ljava_2flang_2fString_3bZZ_29V rfl) rfl (Nat.le_of_eq rfl) (y_ at_164) (by decide) (by decide) (fun T176 L176 v176 k176 X176 hS176 hk176 hZ176 hown176 hQ176 hC176 => ?_)
            obtain ⟨rfl, N176q, Kp176, Ex176, Fk176, Fb176, Fa176⟩ := hQ176
            have N176 := Fr.app N170 N176q
            have O177 := Old.keep O173 Kp176 (allS g_b173 all0)
            have C178 := CHr.trans C174 (hC176)
            show o_G p e below _ T176 (mkF m 167 #[vI p1, vI p2, vI p3, vI p4, vI 1, vI 0, vI 3, vI ca, vI cb, vI cc, vR b157, .unset, .unset, .unset, .unset] [(.ref b173)])
            refine o_astore X176 hx (y_ at_167) rfl (A' := #[vI p1, vI p2, vI p3, vI p4, vI 1, vI 0, vI 3, vI ca, vI cb, vI cc, vR b157, vR b173, .unset, .unset, .unset]) rfl ?_
            refine o_aload X176 hx (y_ at_169) rfl rfl ?_
            have c179 := (o_Str.keep c175 Kp176 (ninS (o_ng Sf170.lt gg173) nin0) (ninS (o_ng Sf170.lt2 gg173) nin0))
            refine o_virtualH (y := o_m30) (z := o_m30) (b := b173) (argsL := []) (S := []) (W := 0) X176 hx hZ176 hS176 hown176 (k_ 101 rfl) (k_ 102 rfl) (notFace_of_selects (args := #[]) (mvT hZ176 (k_ 104 rfl))) (k_ 104 rfl) (k_ 103 rfl) (by decide) (backOfSH (W := 0) (rmtsn l Z a0 hw [] b173 b157 (1 : Int32) (0 : Int32) t170 ([ca, cb, cc] : List Int32) zC_ T176.heap n0 O177 Fk176 Fb176 Fa176 c179 (o_b rfl) SC_ hC_) hZ176 (k_ 105 rfl) (k_ 36 rfl) (by decide) (by decide) hEL C178.1) rfl hk176 Ex176 (by rw [hml]; rfl) (lenOf o_pd__28_29Ljava_2flang_2fString_3b rfl) rfl (Nat.le_of_eq rfl) (y_ at_171) (by decide) (by decide) (fun T180 L180 v180 k180 X180 hS180 hk180 hZ180 hown180 hQ180 hC180 => ?_)
            obtain ⟨x180, t180, rfl, N180q, Kp180, g_x180, hx180, g_t180, ht180, hne180, Sf180⟩ := hQ180
            have N180 := Fr.app N176 N180q
            have O181 := Old.keep O177 Kp180 all0
            have C182 := CHr.trans C178 (hC180)
            have Sg180 : o_Str Z T180.heap x180 t180 ([(42 : Int32), ca, cb, cc] : List Int32) := by simpa [o_wr] using Sf180
            show o_G p e below _ T180 (mkF m 174 #[vI p1, vI p2, vI p3, vI p4, vI 1, vI 0, vI 3, vI ca, vI cb, vI cc, vR b157, vR b173, .unset, .unset, .unset] [(.ref x180)])
            refine o_astore X180 hx (y_ at_174) rfl (A' := #[vI p1, vI p2, vI p3, vI p4, vI 1, vI 0, vI 3, vI ca, vI cb, vI cc, vR b157, vR b173, vR x180, .unset, .unset]) rfl ?_
            refine o_iload X180 hx (y_ at_176) rfl ?_
            refine o_iFF X180 hx (y_ at_178) ?_
            refine o_iconst X180 hx (y_ at_181) (x := 1) rfl ?_
            refine o_gO (t := 186) X180 hx (y_ at_182) ?_
            refine o_istore X180 hx (y_ at_186) (A' := #[vI p1, vI p2, vI p3, vI p4, vI 1, vI 0, vI 3, vI ca, vI cb, vI cc, vR b157, vR b173, vR x180, vI 1, .unset]) rfl ?_
            refine o_iload X180 hx (y_ at_188) rfl ?_
            refine o_iload X180 hx (y_ at_190) rfl ?_
            refine o_iadd X180 hx (y_ at_192) ?_
            refine o_valE (z := 4) (by decide) ?_
            refine o_iload X180 hx (y_ at_193) rfl ?_
            refine o_iFT (t := 202) X180 hx (y_ at_195) ?_
            refine o_iconst X180 hx (y_ at_202) (x := 0) rfl ?_
            refine o_iadd X180 hx (y_ at_203) ?_
            refine o_valE (z := 4) (by decide) ?_
            refine o_istore X180 hx (y_ at_204) (A' := #[vI p1, vI p2, vI p3, vI p4, vI 1, vI 0, vI 3, vI ca, vI cb, vI cc, vR b157, vR b173, vR x180, vI 1, vI 4]) rfl ?_
            refine o_aload X180 hx (y_ at_206) rfl rfl ?_
            refine o_vir (y := o_m2) (b := x180) (argsL := []) (S := []) (W := 0) X180 hx hZ180 hown180 (k_ 215 rfl) (k_ 139 rfl) (k_ 141 rfl) (k_ 140 rfl) (backOf (W := 0) (rmlen l Z a0 hw [] x180 t180 ([(42 : Int32), ca, cb, cc] : List Int32) zC_ T180.heap n0 O181 Sg180 SC_ hC_) hZ180 (k_ 142 rfl) (k_ 6 rfl) (by decide) (by decide)) rfl Sg180.1 hml (lenOf o_pd__28_29I rfl) (y_ at_208) (fun T183 L183 v183 X183 hQ183 => ?_)
            obtain ⟨rfl, N183q, hh183⟩ := hQ183
            have N183 := Fr.app N180 N183q
            show o_G p e below _ T183 (mkF m 211 #[vI p1, vI p2, vI p3, vI p4, vI 1, vI 0, vI 3, vI ca, vI cb, vI cc, vR b157, vR b173, vR x180, vI 1, vI 4] [(.int (Int32.ofNat ([(42 : Int32), ca, cb, cc] : List Int32).length))])
            refine o_valE (z := 4) rfl ?_
            refine o_iload X183 hx (y_ at_211) rfl ?_
            refine o_iCT (t := 218) X183 hx (y_ at_213) ?_
            refine o_iload X183 hx (y_ at_218) rfl ?_
            refine o_iFF X183 hx (y_ at_220) ?_
            refine o_aload X183 hx (y_ at_223) rfl rfl ?_
            refine o_iconst X183 hx (y_ at_225) (x := 0) rfl ?_
            refine o_vir (y := o_m40) (b := x180) (argsL := [(.int 0)]) (S := []) (W := 0) X183 hx hZ180 hown180 (k_ 216 rfl) (k_ 217 rfl) (k_ 219 rfl) (k_ 218 rfl) (o_chB (W := 0) (i := 0) hZ180 hw (k_ 5 rfl) O181 Sg180 SC_ hC_ S_f hfm (o_b rfl) rfl (by decide) (by decide)) hh183 Sg180.1 hml (lenOf o_pd__28I_29C rfl) (y_ at_226) (fun T184 L184 v184 X184 hQ184 => ?_)
            obtain ⟨rfl, rfl, hh184⟩ := hQ184
            have N184 := Fr.app N183 (Fr.nil n0)
            show o_G p e below _ T184 (mkF m 229 #[vI p1, vI p2, vI p3, vI p4, vI 1, vI 0, vI 3, vI ca, vI cb, vI cc, vR b157, vR b173, vR x180, vI 1, vI 4] [(.int 42)])
            refine o_bipush X184 hx (y_ at_229) (x := 42) rfl ?_
            refine o_iCT (t := 236) X184 hx (y_ at_231) ?_
            refine o_iload X184 hx (y_ at_236) rfl ?_
            refine o_iFT (t := 257) X184 hx (y_ at_238) ?_
            refine o_iload X184 hx (y_ at_257) rfl ?_
            refine o_iFF X184 hx (y_ at_259) ?_
            refine o_aload X184 hx (y_ at_262) rfl rfl ?_
            refine o_iload X184 hx (y_ at_264) rfl ?_
            refine o_vir (y := o_m40) (b := x180) (argsL := [(.int 1)]) (S := []) (W := 0) X184 hx hZ180 hown180 (k_ 216 rfl) (k_ 217 rfl) (k_ 219 rfl) (k_ 218 rfl) (o_chB (W := 0) (i := 1) hZ180 hw (k_ 5 rfl) O181 Sg180 SC_ hC_ S_f hfm (o_b rfl) rfl (by decide) (by decide)) hh184 Sg180.1 hml (lenOf o_pd__28I_29C rfl) (y_ at_266) (fun T185 L185 v185 X185 hQ185 => ?_)
            obtain ⟨rfl, rfl, hh185⟩ := hQ185
            have N185 := Fr.app N184 (Fr.nil n0)
            show o_G p e below _ T185 (mkF m 269 #[vI p1, vI p2, vI p3, vI p4, vI 1, vI 0, vI 3, vI ca, vI cb, vI cc, vR b157, vR b173, vR x180, vI 1, vI 4] [(.int ca)])
            refine o_iload X185 hx (y_ at_269) rfl ?_
            refine o_iC (t := 276) X185 hx (y_ at_271) (fun hq => ?_) (fun hq => ?_)
            · have hc271 := o_c_eq.1 hq
              refine o_iload X185 hx (y_ at_276) rfl ?_
              refine o_iconst X185 hx (y_ at_278) (x := 1) rfl ?_
              refine o_iCF X185 hx (y_ at_279) ?_
              refine o_aload X185 hx (y_ at_282) rfl rfl ?_
              refine o_iload X185 hx (y_ at_284) rfl ?_
              refine o_iconst X185 hx (y_ at_286) (x := 1) rfl ?_
              refine o_iadd X185 hx (y_ at_287) ?_
              refine o_valE (z := 2) (by decide) ?_
              refine o_vir (y := o_m40) (b := x180) (argsL := [(.int 2)]) (S := []) (W := 0) X185 hx hZ180 hown180 (k_ 216 rfl) (k_ 217 rfl) (k_ 219 rfl) (k_ 218 rfl) (o_chB (W := 0) (i := 2) hZ180 hw (k_ 5 rfl) O181 Sg180 SC_ hC_ S_f hfm (o_b rfl) rfl (by decide) (by decide)) hh185 Sg180.1 hml (lenOf o_pd__28I_29C rfl) (y_ at_288) (fun T186 L186 v186 X186 hQ186 => ?_)
              obtain ⟨rfl, rfl, hh186⟩ := hQ186
              have N186 := Fr.app N185 (Fr.nil n0)
              show o_G p e below _ T186 (mkF m 291 #[vI p1, vI p2, vI p3, vI p4, vI 1, vI 0, vI 3, vI ca, vI cb, vI cc, vR b157, vR b173, vR x180, vI 1, vI 4] [(.int cb)])
              refine o_iload X186 hx (y_ at_291) rfl ?_
              refine o_iC (t := 298) X186 hx (y_ at_293) (fun hq => ?_) (fun hq => ?_)
              · have hc293 := o_c_eq.1 hq
                refine o_iload X186 hx (y_ at_298) rfl ?_
                refine o_iconst X186 hx (y_ at_300) (x := 2) rfl ?_
                refine o_iCF X186 hx (y_ at_301) ?_
                refine o_aload X186 hx (y_ at_304) rfl rfl ?_
                refine o_iload X186 hx (y_ at_306) rfl ?_
                refine o_iconst X186 hx (y_ at_308) (x := 2) rfl ?_
                refine o_iadd X186 hx (y_ at_309) ?_
                refine o_valE (z := 3) (by decide) ?_
                refine o_vir (y := o_m40) (b := x180) (argsL := [(.int 3)]) (S := []) (W := 0) X186 hx hZ180 hown180 (k_ 216 rfl) (k_ 217 rfl) (k_ 219 rfl) (k_ 218 rfl) (o_chB (W := 0) (i := 3) hZ180 hw (k_ 5 rfl) O181 Sg180 SC_ hC_ S_f hfm (o_b rfl) rfl (by decide) (by decide)) hh186 Sg180.1 hml (lenOf o_pd__28I_29C rfl) (y_ at_310) (fun T187 L187 v187 X187 hQ187 => ?_)
                obtain ⟨rfl, rfl, hh187⟩ := hQ187
                have N187 := Fr.app N186 (Fr.nil n0)
                show o_G p e below _ T187 (mkF m 313 #[vI p1, vI p2, vI p3, vI p4, vI 1, vI 0, vI 3, vI ca, vI cb, vI cc, vR b157, vR b173, vR x180, vI 1, vI 4] [(.int cc)])
                refine o_iload X187 hx (y_ at_313) rfl ?_
                refine o_iC (t := 320) X187 hx (y_ at_315) (fun hq => ?_) (fun hq => ?_)
                · have hc315 := o_c_eq.1 hq
                  refine o_iconst X187 hx (y_ at_320) (x := 1) rfl ?_
                  exact o_retNW X187 hx hS180 (by rw [hh187]; exact hk180) (t := .boolean) hrt hlk (by simp) (y_ at_321) rfl (by decide) (by decide) (o_hQ hh187 ⟨rfl, N187⟩)
                have hc315 := o_c_eq.2 hq
                exact absurd rfl hc315
              have hc293 := o_c_eq.2 hq
              exact absurd rfl hc293
            have hc271 := o_c_eq.2 hq
            exact absurd rfl hc271
          have hc99 := o_c_ne.2 hq
          obtain rfl : kl = 2 := hc99
          refine o_new X156 hx hZ hown (k_ 4 rfl) (k_ 5 rfl) (k_ 6 rfl) hh156 (y_ at_102) (by decide) (by decide) (fun T188 h188 b188 X188 e188 gg188 E188 A188 D188 => ?_)
          have g_b188 := o_fresh O0 gg188
          have O188 := Old.ext O0 E188
          have C189 := CHr.trans C0 (CHr.ext E188 C0.1)
          have F188_coder : Fld Z h188 b188 "java/lang/String" "coder" "B" (.int 0) := D188 (Or.inr (k_ 31 rfl)) (ty := .byte) (by decide)
          have F188_value : Fld Z h188 b188 "java/lang/String" "value" "[B" .null := D188 (Or.inr (k_ 33 rfl)) (ty := (.array .byte)) (by decide)
          refine o_dup X188 hx (y_ at_105) rfl ?_
          refine o_iconst X188 hx (y_ at_106) (x := 2) rfl ?_
          refine o_newA (cap := 2) X188 hx hZ (k_ 7 rfl) e188 (y_ at_107) (by decide) (by decide) (by decide) (by decide) (by decide) (fun T190 h190 k190 b190 X190 e190 gg190 E190 A190 => ?_)
          have g_b190 := o_fresh O188 gg190
          have O190 := Old.ext O188 E190
          have C191 := CHr.trans C189 (CHr.ext E190 C189.1)
          have V190 : Arv Z h190 b190 k190 .char (2 : Int32) [(.int 0), (.int 0)] (.int 0) := A190.pad (pad_rep [] (.int 0) 2)
          refine o_dup X190 hx (y_ at_109) rfl ?_
          refine o_iconst X190 hx (y_ at_110) (x := 0) rfl ?_
          refine o_iload X190 hx (y_ at_111) rfl ?_
          refine o_stC (i := 0) (z := ca) X190 hx hZ e190 V190 (y_ at_113) ⟨by decide, by decide⟩ rfl (o_b rfl) n_ca (fun T192 h192 X192 e192 W192 V192 => ?_)
          have N192 := Fr.snoc X192 N156 g_b190
          have O192 := Old.wr O190 W192 g_b190
          have C193 := CHr.trans C191 (CHr.wr W192 (Safe.arv hZ.alike V190 (by decide)) C191.1)
          refine o_dup X192 hx (y_ at_114) rfl ?_
          refine o_iconst X192 hx (y_ at_115) (x := 1) rfl ?_
          refine o_iload X192 hx (y_ at_116) rfl ?_
          refine o_stC (i := 1) (z := cb) X192 hx hZ e192 V192 (y_ at_118) ⟨by decide, by decide⟩ rfl (o_b rfl) n_cb (fun T194 h194 X194 e194 W194 V194 => ?_)
          have N194 := Fr.snoc X194 N192 g_b190
          have O194 := Old.wr O192 W194 g_b190
          have C195 := CHr.trans C193 (CHr.wr W194 (Safe.arv hZ.alike V192 (by decide)) C193.1)
          have c196 := (Exa.wr W194 (Exa.wr W192 (Exa.ext E190 A188)))
          have c197 := (Fld.other W194 (Fld.other W192 (Fld.ext E190 F188_value) (Or.inl (o_ng A188.lt gg190))) (Or.inl (o_ng A188.lt gg190)))
          have c198 := (Fld.other W194 (Fld.other W192 (Fld.ext E190 F188_coder) (Or.inl (o_ng A188.lt gg190))) (Or.inl (o_ng A188.lt gg190)))
          refine o_ini (y := o_m39) (b := b188) (argsL := [(.ref b190)]) (S := [(.ref b188)]) (W := 1) rfl X194 hx hZ hown (k_ 8 rfl) (k_ 9 rfl) (k_ 10 rfl) (o_newB (W := 1) (cs := ([ca, cb] : List Int32)) (n := 2) hZ hw (k_ 5 rfl) O194 g_b188 c196 c197 c198 V194 SC_ hC_ rfl rfl (by decide) (by decide) (o_csS ⟨l_ca, u_ca⟩ (o_csS ⟨l_cb, u_cb⟩ o_cs0)) (by decide) (by decide)) e194 hml (lenOf o_pd__28_5bC_29V rfl) (y_ at_119) (fun T199 L199 v199 X199 hQ199 => ?_)
          obtain ⟨rfl, Nq199, Kp199, t199, g_t199, ht199, hne199, Sf199⟩ := hQ199
          have N199 := Fr.app N194 Nq199
          have O200 := Old.keep O194 Kp199 (allS g_b188 all0)
          have C201 := CHr.trans C195 (CHr.keep Kp199 (sfS (o_safeN hZ.alike c196 c197) sf0) C195.1)
          show o_G p e below _ T199 (mkF m 122 #[vI p1, vI p2, vI p3, vI p4, vI 1, vI 0, vI 2, vI ca, vI cb, vI cc, .unset, .unset, .unset, .unset, .unset] [(.ref b188)])
          refine o_astore X199 hx (y_ at_122) rfl (A' := #[vI p1, vI p2, vI p3, vI p4, vI 1, vI 0, vI 2, vI ca, vI cb, vI cc, vR b188, .unset, .unset, .unset, .unset]) rfl ?_
          refine o_gO (t := 154) X199 hx (y_ at_124) ?_
          refine o_new X199 hx hZ hown (k_ 34 rfl) (k_ 35 rfl) (k_ 36 rfl) rfl (y_ at_154) (by decide) (by decide) (fun T202 h202 b202 X202 e202 gg202 E202 A202 D202 => ?_)
          have g_b202 := o_fresh O200 gg202
          have O202 := Old.ext O200 E202
          have C203 := CHr.trans C201 (CHr.ext E202 C201.1)
          have F202_core : Fld Z h202 b202 "org/adviceweft/pointcut/NamePattern" "core" "Ljava/lang/String;" .null := D202 (Or.inr (k_ 96 rfl)) (ty := (.object "java/lang/String")) (by decide)
          have F202_anyBefore : Fld Z h202 b202 "org/adviceweft/pointcut/NamePattern" "anyBefore" "Z" (.int 0) := D202 (Or.inr (k_ 98 rfl)) (ty := .boolean) (by decide)
          have F202_anyAfter : Fld Z h202 b202 "org/adviceweft/pointcut/NamePattern" "anyAfter" "Z" (.int 0) := D202 (Or.inr (k_ 100 rfl)) (ty := .boolean) (by decide)
          refine o_dup X202 hx (y_ at_157) rfl ?_
          refine o_aload X202 hx (y_ at_158) rfl rfl ?_
          refine o_iload X202 hx (y_ at_160) rfl ?_
          refine o_iload X202 hx (y_ at_162) rfl ?_
          have c204 := (o_Str.ext E202 Sf199)
          refine o_initH (y := o_m37) (b := b202) (argsL := [(.ref b188), (.int 1), (.int 0)]) (S := [(.ref b202)]) (W := 1) rfl X202 hx hZ hS0 hown (k_ 37 rfl) (k_ 38 rfl) (k_ 39 rfl) (by decide) (backOfSH (W := 1) (rmct2 l Z a0 hw [] b202 b188 (1 : Int32) (0 : Int32) t199 ca cb zC_ h202 n0 O202 A202 F202_core F202_anyBefore F202_anyAfter g_b202 c204 (o_nostar2 s_ca s_cb) (by decide) (by decide) SC_ hC_) hZ (k_ 39 rfl) (k_ 36 rfl) (by decide) (by decide) hEL C203.1) e202 (Nat.le_trans (Nat.le_trans (Nat.le_trans (Nat.le_trans (Nat.le_trans (Nat.le_trans hk0 E188.1) E190.1) (Keep.of_wr W192).1) (Keep.of_wr W194).1) Kp199.1) E202.1) (by rw [hml]; rfl) (lenOf o_pd__28Ljava_2flang_2fString_3bZZ_29V rfl) rfl (Nat.le_of_eq rfl) (y_ at_164) (by decide) (by decide) (fun T205 L205 v205 k205 X205 hS205 hk205 hZ205 hown205 hQ205 hC205 => ?_)
          obtain ⟨rfl, N205q, Kp205, Ex205, Fk205, Fb205, Fa205⟩ := hQ205
          have N205 := Fr.app N199 N205q
          have O206 := Old.keep O202 Kp205 (allS g_b202 all0)
          have C207 := CHr.trans C203 (hC205)
          show o_G p e below _ T205 (mkF m 167 #[vI p1, vI p2, vI p3, vI p4, vI 1, vI 0, vI 2, vI ca, vI cb, vI cc, vR b188, .unset, .unset, .unset, .unset] [(.ref b202)])
          refine o_astore X205 hx (y_ at_167) rfl (A' := #[vI p1, vI p2, vI p3, vI p4, vI 1, vI 0, vI 2, vI ca, vI cb, vI cc, vR b188, vR b202, .unset, .unset, .unset]) rfl ?_
          refine o_aload X205 hx (y_ at_169) rfl rfl ?_
          have c208 := (o_Str.keep c204 Kp205 (ninS (o_ng Sf199.lt gg202) nin0) (ninS (o_ng Sf199.lt2 gg202) nin0))
          refine o_virtualH (y := o_m30) (z := o_m30) (b := b202) (argsL := []) (S := []) (W := 0) X205 hx hZ205 hS205 hown205 (k_ 101 rfl) (k_ 102 rfl) (notFace_of_selects (args := #[]) (mvT hZ205 (k_ 104 rfl))) (k_ 104 rfl) (k_ 103 rfl) (by decide) (backOfSH (W := 0) (rmtsn l Z a0 hw [] b202 b188 (1 : Int32) (0 : Int32) t199 ([ca, cb] : List Int32) zC_ T205.heap n0 O206 Fk205 Fb205 Fa205 c208 (o_b rfl) SC_ hC_) hZ205 (k_ 105 rfl) (k_ 36 rfl) (by decide) (by decide) hEL C207.1) rfl hk205 Ex205 (by rw [hml]; rfl) (lenOf o_pd__28_29Ljava_2flang_2fString_3b rfl) rfl (Nat.le_of_eq rfl) (y_ at_171) (by decide) (by decide) (fun T209 L209 v209 k209 X209 hS209 hk209 hZ209 hown209 hQ209 hC209 => ?_)
          obtain ⟨x209, t209, rfl, N209q, Kp209, g_x209, hx209, g_t209, ht209, hne209, Sf209⟩ := hQ209
          have N209 := Fr.app N205 N209q
          have O210 := Old.keep O206 Kp209 all0
          have C211 := CHr.trans C207 (hC209)
          have Sg209 : o_Str Z T209.heap x209 t209 ([(42 : Int32), ca, cb] : List Int32) := by simpa [o_wr] using Sf209
          show o_G p e below _ T209 (mkF m 174 #[vI p1, vI p2, vI p3, vI p4, vI 1, vI 0, vI 2, vI ca, vI cb, vI cc, vR b188, vR b202, .unset, .unset, .unset] [(.ref x209)])
          refine o_astore X209 hx (y_ at_174) rfl (A' := #[vI p1, vI p2, vI p3, vI p4, vI 1, vI 0, vI 2, vI ca, vI cb, vI cc, vR b188, vR b202, vR x209, .unset, .unset]) rfl ?_
          refine o_iload X209 hx (y_ at_176) rfl ?_
          refine o_iFF X209 hx (y_ at_178) ?_
          refine o_iconst X209 hx (y_ at_181) (x := 1) rfl ?_
          refine o_gO (t := 186) X209 hx (y_ at_182) ?_
          refine o_istore X209 hx (y_ at_186) (A' := #[vI p1, vI p2, vI p3, vI p4, vI 1, vI 0, vI 2, vI ca, vI cb, vI cc, vR b188, vR b202, vR x209, vI 1, .unset]) rfl ?_
          refine o_iload X209 hx (y_ at_188) rfl ?_
          refine o_iload X209 hx (y_ at_190) rfl ?_
          refine o_iadd X209 hx (y_ at_192) ?_
          refine o_valE (z := 3) (by decide) ?_
          refine o_iload X209 hx (y_ at_193) rfl ?_
          refine o_iFT (t := 202) X209 hx (y_ at_195) ?_
          refine o_iconst X209 hx (y_ at_202) (x := 0) rfl ?_
          refine o_iadd X209 hx (y_ at_203) ?_
          refine o_valE (z := 3) (by decide) ?_
          refine o_istore X209 hx (y_ at_204) (A' := #[vI p1, vI p2, vI p3, vI p4, vI 1, vI 0, vI 2, vI ca, vI cb, vI cc, vR b188, vR b202, vR x209, vI 1, vI 3]) rfl ?_
          refine o_aload X209 hx (y_ at_206) rfl rfl ?_
          refine o_vir (y := o_m2) (b := x209) (argsL := []) (S := []) (W := 0) X209 hx hZ209 hown209 (k_ 215 rfl) (k_ 139 rfl) (k_ 141 rfl) (k_ 140 rfl) (backOf (W := 0) (rmlen l Z a0 hw [] x209 t209 ([(42 : Int32), ca, cb] : List Int32) zC_ T209.heap n0 O210 Sg209 SC_ hC_) hZ209 (k_ 142 rfl) (k_ 6 rfl) (by decide) (by decide)) rfl Sg209.1 hml (lenOf o_pd__28_29I rfl) (y_ at_208) (fun T212 L212 v212 X212 hQ212 => ?_)
          obtain ⟨rfl, N212q, hh212⟩ := hQ212
          have N212 := Fr.app N209 N212q
          show o_G p e below _ T212 (mkF m 211 #[vI p1, vI p2, vI p3, vI p4, vI 1, vI 0, vI 2, vI ca, vI cb, vI cc, vR b188, vR b202, vR x209, vI 1, vI 3] [(.int (Int32.ofNat ([(42 : Int32), ca, cb] : List Int32).length))])
          refine o_valE (z := 3) rfl ?_
          refine o_iload X212 hx (y_ at_211) rfl ?_
          refine o_iCT (t := 218) X212 hx (y_ at_213) ?_
          refine o_iload X212 hx (y_ at_218) rfl ?_
          refine o_iFF X212 hx (y_ at_220) ?_
          refine o_aload X212 hx (y_ at_223) rfl rfl ?_
          refine o_iconst X212 hx (y_ at_225) (x := 0) rfl ?_
          refine o_vir (y := o_m40) (b := x209) (argsL := [(.int 0)]) (S := []) (W := 0) X212 hx hZ209 hown209 (k_ 216 rfl) (k_ 217 rfl) (k_ 219 rfl) (k_ 218 rfl) (o_chB (W := 0) (i := 0) hZ209 hw (k_ 5 rfl) O210 Sg209 SC_ hC_ S_f hfm (o_b rfl) rfl (by decide) (by decide)) hh212 Sg209.1 hml (lenOf o_pd__28I_29C rfl) (y_ at_226) (fun T213 L213 v213 X213 hQ213 => ?_)
          obtain ⟨rfl, rfl, hh213⟩ := hQ213
          have N213 := Fr.app N212 (Fr.nil n0)
          show o_G p e below _ T213 (mkF m 229 #[vI p1, vI p2, vI p3, vI p4, vI 1, vI 0, vI 2, vI ca, vI cb, vI cc, vR b188, vR b202, vR x209, vI 1, vI 3] [(.int 42)])
          refine o_bipush X213 hx (y_ at_229) (x := 42) rfl ?_
          refine o_iCT (t := 236) X213 hx (y_ at_231) ?_
          refine o_iload X213 hx (y_ at_236) rfl ?_
          refine o_iFT (t := 257) X213 hx (y_ at_238) ?_
          refine o_iload X213 hx (y_ at_257) rfl ?_
          refine o_iFF X213 hx (y_ at_259) ?_
          refine o_aload X213 hx (y_ at_262) rfl rfl ?_
          refine o_iload X213 hx (y_ at_264) rfl ?_
          refine o_vir (y := o_m40) (b := x209) (argsL := [(.int 1)]) (S := []) (W := 0) X213 hx hZ209 hown209 (k_ 216 rfl) (k_ 217 rfl) (k_ 219 rfl) (k_ 218 rfl) (o_chB (W := 0) (i := 1) hZ209 hw (k_ 5 rfl) O210 Sg209 SC_ hC_ S_f hfm (o_b rfl) rfl (by decide) (by decide)) hh213 Sg209.1 hml (lenOf o_pd__28I_29C rfl) (y_ at_266) (fun T214 L214 v214 X214 hQ214 => ?_)
          obtain ⟨rfl, rfl, hh214⟩ := hQ214
          have N214 := Fr.app N213 (Fr.nil n0)
          show o_G p e below _ T214 (mkF m 269 #[vI p1, vI p2, vI p3, vI p4, vI 1, vI 0, vI 2, vI ca, vI cb, vI cc, vR b188, vR b202, vR x209, vI 1, vI 3] [(.int ca)])
          refine o_iload X214 hx (y_ at_269) rfl ?_
          refine o_iC (t := 276) X214 hx (y_ at_271) (fun hq => ?_) (fun hq => ?_)
          · have hc271 := o_c_eq.1 hq
            refine o_iload X214 hx (y_ at_276) rfl ?_
            refine o_iconst X214 hx (y_ at_278) (x := 1) rfl ?_
            refine o_iCF X214 hx (y_ at_279) ?_
            refine o_aload X214 hx (y_ at_282) rfl rfl ?_
            refine o_iload X214 hx (y_ at_284) rfl ?_
            refine o_iconst X214 hx (y_ at_286) (x := 1) rfl ?_
            refine o_iadd X214 hx (y_ at_287) ?_
            refine o_valE (z := 2) (by decide) ?_
            refine o_vir (y := o_m40) (b := x209) (argsL := [(.int 2)]) (S := []) (W := 0) X214 hx hZ209 hown209 (k_ 216 rfl) (k_ 217 rfl) (k_ 219 rfl) (k_ 218 rfl) (o_chB (W := 0) (i := 2) hZ209 hw (k_ 5 rfl) O210 Sg209 SC_ hC_ S_f hfm (o_b rfl) rfl (by decide) (by decide)) hh214 Sg209.1 hml (lenOf o_pd__28I_29C rfl) (y_ at_288) (fun T215 L215 v215 X215 hQ215 => ?_)
            obtain ⟨rfl, rfl, hh215⟩ := hQ215
            have N215 := Fr.app N214 (Fr.nil n0)
            show o_G p e below _ T215 (mkF m 291 #[vI p1, vI p2, vI p3, vI p4, vI 1, vI 0, vI 2, vI ca, vI cb, vI cc, vR b188, vR b202, vR x209, vI 1, vI 3] [(.int cb)])
            refine o_iload X215 hx (y_ at_291) rfl ?_
            refine o_iC (t := 298) X215 hx (y_ at_293) (fun hq => ?_) (fun hq => ?_)
            · have hc293 := o_c_eq.1 hq
              refine o_iload X215 hx (y_ at_298) rfl ?_
              refine o_iconst X215 hx (y_ at_300) (x := 2) rfl ?_
              refine o_iCT (t := 320) X215 hx (y_ at_301) ?_
              refine o_iconst X215 hx (y_ at_320) (x := 1) rfl ?_
              exact o_retNW X215 hx hS209 (by rw [hh215]; exact hk209) (t := .boolean) hrt hlk (by simp) (y_ at_321) rfl (by decide) (by decide) (o_hQ hh215 ⟨rfl, N215⟩)
            have hc293 := o_c_eq.2 hq
            exact absurd rfl hc293
          have hc271 := o_c_eq.2 hq
          exact absurd rfl hc271
        have hc83 := o_c_ne.2 hq
        obtain rfl : kl = 1 := hc83
        refine o_iload X156 hx (y_ at_86) rfl ?_
        refine o_sta (y := o_m15) (argsL := [(.int ca)]) (S := []) (W := 0) X156 hx hZ hown (k_ 233 rfl) (k_ 234 rfl) (k_ 6 rfl) (k_ 235 rfl) (backOf (W := 0) (rmvoc l Z a0 hw [] ca zC_ h0 n0 O0 ⟨l_ca, u_ca⟩ SC_ hC_) hZ (k_ 235 rfl) (k_ 6 rfl) (by decide) (by decide)) hh156 hml (lenOf o_pd__28C_29Ljava_2flang_2fString_3b rfl) (y_ at_88) (fun T216 L216 v216 X216 hQ216 => ?_)
        obtain ⟨x216, t216, rfl, N216q, Kp216, g_x216, hx216, g_t216, ht216, hne216, Sf216⟩ := hQ216
        have N216 := Fr.app N156 N216q
        have O217 := Old.keep O0 Kp216 all0
        have C218 := CHr.trans C0 (CHr.keep Kp216 sf0 C0.1)
        show o_G p e below _ T216 (mkF m 91 #[vI p1, vI p2, vI p3, vI p4, vI 1, vI 0, vI 1, vI ca, vI cb, vI cc, .unset, .unset, .unset, .unset, .unset] [(.ref x216)])
        refine o_astore X216 hx (y_ at_91) rfl (A' := #[vI p1, vI p2, vI p3, vI p4, vI 1, vI 0, vI 1, vI ca, vI cb, vI cc, vR x216, .unset, .unset, .unset, .unset]) rfl ?_
        refine o_gO (t := 154) X216 hx (y_ at_93) ?_
        refine o_new X216 hx hZ hown (k_ 34 rfl) (k_ 35 rfl) (k_ 36 rfl) rfl (y_ at_154) (by decide) (by decide) (fun T219 h219 b219 X219 e219 gg219 E219 A219 D219 => ?_)
        have g_b219 := o_fresh O217 gg219
        have O219 := Old.ext O217 E219
        have C220 := CHr.trans C218 (CHr.ext E219 C218.1)
        have F219_core : Fld Z h219 b219 "org/adviceweft/pointcut/NamePattern" "core" "Ljava/lang/String;" .null := D219 (Or.inr (k_ 96 rfl)) (ty := (.object "java/lang/String")) (by decide)
        have F219_anyBefore : Fld Z h219 b219 "org/adviceweft/pointcut/NamePattern" "anyBefore" "Z" (.int 0) := D219 (Or.inr (k_ 98 rfl)) (ty := .boolean) (by decide)
        have F219_anyAfter : Fld Z h219 b219 "org/adviceweft/pointcut/NamePattern" "anyAfter" "Z" (.int 0) := D219 (Or.inr (k_ 100 rfl)) (ty := .boolean) (by decide)
        refine o_dup X219 hx (y_ at_157) rfl ?_
        refine o_aload X219 hx (y_ at_158) rfl rfl ?_
        refine o_iload X219 hx (y_ at_160) rfl ?_
        refine o_iload X219 hx (y_ at_162) rfl ?_
        have c221 := (o_Str.ext E219 Sf216)
        refine o_initH (y := o_m37) (b := b219) (argsL := [(.ref x216), (.int 1), (.int 0)]) (S := [(.ref b219)]) (W := 1) rfl X219 hx hZ hS0 hown (k_ 37 rfl) (k_ 38 rfl) (k_ 39 rfl) (by decide) (backOfSH (W := 1) (rmct1 l Z a0 hw [] b219 x216 (1 : Int32) (0 : Int32) t216 ca zC_ h219 n0 O219 A219 F219_core F219_anyBefore F219_anyAfter g_b219 c221 (o_nostar1 s_ca) (by decide) (by decide) SC_ hC_) hZ (k_ 39 rfl) (k_ 36 rfl) (by decide) (by decide) hEL C220.1) e219 (Nat.le_trans (Nat.le_trans hk0 Kp216.1) E219.1) (by rw [hml]; rfl) (lenOf o_pd__28Ljava_2flang_2fString_3bZZ_29V rfl) rfl (Nat.le_of_eq rfl) (y_ at_164) (by decide) (by decide) (fun T222 L222 v222 k222 X222 hS222 hk222 hZ222 hown222 hQ222 hC222 => ?_)
        obtain ⟨rfl, N222q, Kp222, Ex222, Fk222, Fb222, Fa222⟩ := hQ222
        have N222 := Fr.app N216 N222q
        have O223 := Old.keep O219 Kp222 (allS g_b219 all0)
        have C224 := CHr.trans C220 (hC222)
        show o_G p e below _ T222 (mkF m 167 #[vI p1, vI p2, vI p3, vI p4, vI 1, vI 0, vI 1, vI ca, vI cb, vI cc, vR x216, .unset, .unset, .unset, .unset] [(.ref b219)])
        refine o_astore X222 hx (y_ at_167) rfl (A' := #[vI p1, vI p2, vI p3, vI p4, vI 1, vI 0, vI 1, vI ca, vI cb, vI cc, vR x216, vR b219, .unset, .unset, .unset]) rfl ?_
        refine o_aload X222 hx (y_ at_169) rfl rfl ?_
        have c225 := (o_Str.keep c221 Kp222 (ninS (o_ng Sf216.lt gg219) nin0) (ninS (o_ng Sf216.lt2 gg219) nin0))
        refine o_virtualH (y := o_m30) (z := o_m30) (b := b219) (argsL := []) (S := []) (W := 0) X222 hx hZ222 hS222 hown222 (k_ 101 rfl) (k_ 102 rfl) (notFace_of_selects (args := #[]) (mvT hZ222 (k_ 104 rfl))) (k_ 104 rfl) (k_ 103 rfl) (by decide) (backOfSH (W := 0) (rmtsn l Z a0 hw [] b219 x216 (1 : Int32) (0 : Int32) t216 ([ca] : List Int32) zC_ T222.heap n0 O223 Fk222 Fb222 Fa222 c225 (o_b rfl) SC_ hC_) hZ222 (k_ 105 rfl) (k_ 36 rfl) (by decide) (by decide) hEL C224.1) rfl hk222 Ex222 (by rw [hml]; rfl) (lenOf o_pd__28_29Ljava_2flang_2fString_3b rfl) rfl (Nat.le_of_eq rfl) (y_ at_171) (by decide) (by decide) (fun T226 L226 v226 k226 X226 hS226 hk226 hZ226 hown226 hQ226 hC226 => ?_)
        obtain ⟨x226, t226, rfl, N226q, Kp226, g_x226, hx226, g_t226, ht226, hne226, Sf226⟩ := hQ226
        have N226 := Fr.app N222 N226q
        have O227 := Old.keep O223 Kp226 all0
        have C228 := CHr.trans C224 (hC226)
        have Sg226 : o_Str Z T226.heap x226 t226 ([(42 : Int32), ca] : List Int32) := by simpa [o_wr] using Sf226
        show o_G p e below _ T226 (mkF m 174 #[vI p1, vI p2, vI p3, vI p4, vI 1, vI 0, vI 1, vI ca, vI cb, vI cc, vR x216, vR b219, .unset, .unset, .unset] [(.ref x226)])
        refine o_astore X226 hx (y_ at_174) rfl (A' := #[vI p1, vI p2, vI p3, vI p4, vI 1, vI 0, vI 1, vI ca, vI cb, vI cc, vR x216, vR b219, vR x226, .unset, .unset]) rfl ?_
        refine o_iload X226 hx (y_ at_176) rfl ?_
        refine o_iFF X226 hx (y_ at_178) ?_
        refine o_iconst X226 hx (y_ at_181) (x := 1) rfl ?_
        refine o_gO (t := 186) X226 hx (y_ at_182) ?_
        refine o_istore X226 hx (y_ at_186) (A' := #[vI p1, vI p2, vI p3, vI p4, vI 1, vI 0, vI 1, vI ca, vI cb, vI cc, vR x216, vR b219, vR x226, vI 1, .unset]) rfl ?_
        refine o_iload X226 hx (y_ at_188) rfl ?_
        refine o_iload X226 hx (y_ at_190) rfl ?_
        refine o_iadd X226 hx (y_ at_192) ?_
        refine o_valE (z := 2) (by decide) ?_
        refine o_iload X226 hx (y_ at_193) rfl ?_
        refine o_iFT (t := 202) X226 hx (y_ at_195) ?_
        refine o_iconst X226 hx (y_ at_202) (x := 0) rfl ?_
        refine o_iadd X226 hx (y_ at_203) ?_
        refine o_valE (z := 2) (by decide) ?_
        refine o_istore X226 hx (y_ at_204) (A' := #[vI p1, vI p2, vI p3, vI p4, vI 1, vI 0, vI 1, vI ca, vI cb, vI cc, vR x216, vR b219, vR x226, vI 1, vI 2]) rfl ?_
        refine o_aload X226 hx (y_ at_206) rfl rfl ?_
        refine o_vir (y := o_m2) (b := x226) (argsL := []) (S := []) (W := 0) X226 hx hZ226 hown226 (k_ 215 rfl) (k_ 139 rfl) (k_ 141 rfl) (k_ 140 rfl) (backOf (W := 0) (rmlen l Z a0 hw [] x226 t226 ([(42 : Int32), ca] : List Int32) zC_ T226.heap n0 O227 Sg226 SC_ hC_) hZ226 (k_ 142 rfl) (k_ 6 rfl) (by decide) (by decide)) rfl Sg226.1 hml (lenOf o_pd__28_29I rfl) (y_ at_208) (fun T229 L229 v229 X229 hQ229 => ?_)
        obtain ⟨rfl, N229q, hh229⟩ := hQ229
        have N229 := Fr.app N226 N229q
        show o_G p e below _ T229 (mkF m 211 #[vI p1, vI p2, vI p3, vI p4, vI 1, vI 0, vI 1, vI ca, vI cb, vI cc, vR x216, vR b219, vR x226, vI 1, vI 2] [(.int (Int32.ofNat ([(42 : Int32), ca] : List Int32).length))])
        refine o_valE (z := 2) rfl ?_
        refine o_iload X229 hx (y_ at_211) rfl ?_
        refine o_iCT (t := 218) X229 hx (y_ at_213) ?_
        refine o_iload X229 hx (y_ at_218) rfl ?_
        refine o_iFF X229 hx (y_ at_220) ?_
        refine o_aload X229 hx (y_ at_223) rfl rfl ?_
        refine o_iconst X229 hx (y_ at_225) (x := 0) rfl ?_
        refine o_vir (y := o_m40) (b := x226) (argsL := [(.int 0)]) (S := []) (W := 0) X229 hx hZ226 hown226 (k_ 216 rfl) (k_ 217 rfl) (k_ 219 rfl) (k_ 218 rfl) (o_chB (W := 0) (i := 0) hZ226 hw (k_ 5 rfl) O227 Sg226 SC_ hC_ S_f hfm (o_b rfl) rfl (by decide) (by decide)) hh229 Sg226.1 hml (lenOf o_pd__28I_29C rfl) (y_ at_226) (fun T230 L230 v230 X230 hQ230 => ?_)
        obtain ⟨rfl, rfl, hh230⟩ := hQ230
        have N230 := Fr.app N229 (Fr.nil n0)
        show o_G p e below _ T230 (mkF m 229 #[vI p1, vI p2, vI p3, vI p4, vI 1, vI 0, vI 1, vI ca, vI cb, vI cc, vR x216, vR b219, vR x226, vI 1, vI 2] [(.int 42)])
        refine o_bipush X230 hx (y_ at_229) (x := 42) rfl ?_
        refine o_iCT (t := 236) X230 hx (y_ at_231) ?_
        refine o_iload X230 hx (y_ at_236) rfl ?_
        refine o_iFT (t := 257) X230 hx (y_ at_238) ?_
        refine o_iload X230 hx (y_ at_257) rfl ?_
        refine o_iFF X230 hx (y_ at_259) ?_
        refine o_aload X230 hx (y_ at_262) rfl rfl ?_
        refine o_iload X230 hx (y_ at_264) rfl ?_
        refine o_vir (y := o_m40) (b := x226) (argsL := [(.int 1)]) (S := []) (W := 0) X230 hx hZ226 hown226 (k_ 216 rfl) (k_ 217 rfl) (k_ 219 rfl) (k_ 218 rfl) (o_chB (W := 0) (i := 1) hZ226 hw (k_ 5 rfl) O227 Sg226 SC_ hC_ S_f hfm (o_b rfl) rfl (by decide) (by decide)) hh230 Sg226.1 hml (lenOf o_pd__28I_29C rfl) (y_ at_266) (fun T231 L231 v231 X231 hQ231 => ?_)
        obtain ⟨rfl, rfl, hh231⟩ := hQ231
        have N231 := Fr.app N230 (Fr.nil n0)
        show o_G p e below _ T231 (mkF m 269 #[vI p1, vI p2, vI p3, vI p4, vI 1, vI 0, vI 1, vI ca, vI cb, vI cc, vR x216, vR b219, vR x226, vI 1, vI 2] [(.int ca)])
        refine o_iload X231 hx (y_ at_269) rfl ?_
        refine o_iC (t := 276) X231 hx (y_ at_271) (fun hq => ?_) (fun hq => ?_)
        · have hc271 := o_c_eq.1 hq
          refine o_iload X231 hx (y_ at_276) rfl ?_
          refine o_iconst X231 hx (y_ at_278) (x := 1) rfl ?_
          refine o_iCT (t := 298) X231 hx (y_ at_279) ?_
          refine o_iload X231 hx (y_ at_298) rfl ?_
          refine o_iconst X231 hx (y_ at_300) (x := 2) rfl ?_
          refine o_iCT (t := 320) X231 hx (y_ at_301) ?_
          refine o_iconst X231 hx (y_ at_320) (x := 1) rfl ?_
          exact o_retNW X231 hx hS226 (by rw [hh231]; exact hk226) (t := .boolean) hrt hlk (by simp) (y_ at_321) rfl (by decide) (by decide) (o_hQ hh231 ⟨rfl, N231⟩)
        have hc271 := o_c_eq.2 hq
        exact absurd rfl hc271
      have hc70 := o_h_ne.2 hq
      exact absurd hc70 hc53
    have hc53 := o_h_ne.2 hq
    obtain rfl : kl = 0 := hc53
    refine o_iload X156 hx (y_ at_56) rfl ?_
    refine o_iFF X156 hx (y_ at_58) ?_
    refine o_iload X156 hx (y_ at_61) rfl ?_
    refine o_iFT (t := 68) X156 hx (y_ at_63) ?_
    refine o_iload X156 hx (y_ at_68) rfl ?_
    refine o_iFF X156 hx (y_ at_70) ?_
    refine o_ldcH (n := 0) (vs := []) (z := 0) X156 hx hZ hown (k_ 232 rfl) (fun d hd => hw d (o_strat d hd)) hh156 hS0 hk0 hEL (by decide) C0.1 ⟨by decide, by decide⟩ (by decide) (by decide) (y_ at_73) (by decide) (by decide) (by decide) (by decide) (fun a232 b232 kb232 T232 k232 X232 E232 hS232 hk232 hZ232 hown232 Ex232 Co232 Va232 Av232 hC232 Li232 Sa232 => ?_)
    have O232 := Old.ext O0 E232
    have C233 := CHr.trans C0 (hC232)
    show o_G p e below _ T232 (mkF m 75 #[vI p1, vI p2, vI p3, vI p4, vI 1, vI 0, vI 0, vI ca, vI cb, vI cc, .unset, .unset, .unset, .unset, .unset] [(.ref a232)])
    have Ss232 : o_Str Z T232.heap a232 b232 ([] : List Int32) := ⟨Ex232, Co232, Va232, ⟨_, Av232⟩, by decide, by decide⟩
    refine o_astore X232 hx (y_ at_75) rfl (A' := #[vI p1, vI p2, vI p3, vI p4, vI 1, vI 0, vI 0, vI ca, vI cb, vI cc, vR a232, .unset, .unset, .unset, .unset]) rfl ?_
    refine o_gO (t := 154) X232 hx (y_ at_77) ?_
    refine o_new X232 hx hZ232 hown232 (k_ 34 rfl) (k_ 35 rfl) (k_ 36 rfl) rfl (y_ at_154) (by decide) (by decide) (fun T234 h234 b234 X234 e234 gg234 E234 A234 D234 => ?_)
    have g_b234 := o_fresh O232 gg234
    have O234 := Old.ext O232 E234
    have C235 := CHr.trans C233 (CHr.ext E234 C233.1)
    have F234_core : Fld Z h234 b234 "org/adviceweft/pointcut/NamePattern" "core" "Ljava/lang/String;" .null := D234 (Or.inr (k_ 96 rfl)) (ty := (.object "java/lang/String")) (by decide)
    have F234_anyBefore : Fld Z h234 b234 "org/adviceweft/pointcut/NamePattern" "anyBefore" "Z" (.int 0) := D234 (Or.inr (k_ 98 rfl)) (ty := .boolean) (by decide)
    have F234_anyAfter : Fld Z h234 b234 "org/adviceweft/pointcut/NamePattern" "anyAfter" "Z" (.int 0) := D234 (Or.inr (k_ 100 rfl)) (ty := .boolean) (by decide)
    refine o_dup X234 hx (y_ at_157) rfl ?_
    refine o_aload X234 hx (y_ at_158) rfl rfl ?_
    refine o_iload X234 hx (y_ at_160) rfl ?_
    refine o_iload X234 hx (y_ at_162) rfl ?_
    have c236 := (o_Str.ext E234 Ss232)
    refine o_initH (y := o_m37) (b := b234) (argsL := [(.ref a232), (.int 1), (.int 0)]) (S := [(.ref b234)]) (W := 1) rfl X234 hx hZ232 hS232 hown232 (k_ 37 rfl) (k_ 38 rfl) (k_ 39 rfl) (by decide) (backOfSH (W := 1) (rmct0 l Z a0 hw [] b234 a232 b232  zC_ h234 n0 O234 A234 F234_core F234_anyBefore F234_anyAfter g_b234 c236 (by decide) SC_ hC_) hZ232 (k_ 39 rfl) (k_ 36 rfl) (by decide) (by decide) hEL C235.1) e234 (Nat.le_trans hk232 E234.1) (by rw [hml]; rfl) (lenOf o_pd__28Ljava_2flang_2fString_3bZZ_29V rfl) rfl (Nat.le_of_eq rfl) (y_ at_164) (by decide) (by decide) (fun T237 L237 v237 k237 X237 hS237 hk237 hZ237 hown237 hQ237 hC237 => ?_)
    obtain ⟨rfl, N237q, Kp237, Ex237, Fk237, Fb237, Fa237⟩ := hQ237
    have N237 := Fr.app N156 N237q
    have O238 := Old.keep O234 Kp237 (allS g_b234 all0)
    have C239 := CHr.trans C235 (hC237)
    show o_G p e below _ T237 (mkF m 167 #[vI p1, vI p2, vI p3, vI p4, vI 1, vI 0, vI 0, vI ca, vI cb, vI cc, vR a232, .unset, .unset, .unset, .unset] [(.ref b234)])
    refine o_astore X237 hx (y_ at_167) rfl (A' := #[vI p1, vI p2, vI p3, vI p4, vI 1, vI 0, vI 0, vI ca, vI cb, vI cc, vR a232, vR b234, .unset, .unset, .unset]) rfl ?_
    refine o_aload X237 hx (y_ at_169) rfl rfl ?_
    have c240 := (o_Str.keep c236 Kp237 (ninS (o_ng Ex232.lt gg234) nin0) (ninS (o_ng Av232.lt gg234) nin0))
    refine o_virtualH (y := o_m30) (z := o_m30) (b := b234) (argsL := []) (S := []) (W := 0) X237 hx hZ237 hS237 hown237 (k_ 101 rfl) (k_ 102 rfl) (notFace_of_selects (args := #[]) (mvT hZ237 (k_ 104 rfl))) (k_ 104 rfl) (k_ 103 rfl) (by decide) (backOfSH (W := 0) (rmtsn l Z a0 hw [] b234 a232 (1 : Int32) (0 : Int32) b232 ([] : List Int32) zC_ T237.heap n0 O238 Fk237 Fb237 Fa237 c240 (o_b rfl) SC_ hC_) hZ237 (k_ 105 rfl) (k_ 36 rfl) (by decide) (by decide) hEL C239.1) rfl hk237 Ex237 (by rw [hml]; rfl) (lenOf o_pd__28_29Ljava_2flang_2fString_3b rfl) rfl (Nat.le_of_eq rfl) (y_ at_171) (by decide) (by decide) (fun T241 L241 v241 k241 X241 hS241 hk241 hZ241 hown241 hQ241 hC241 => ?_)
    obtain ⟨x241, t241, rfl, N241q, Kp241, g_x241, hx241, g_t241, ht241, hne241, Sf241⟩ := hQ241
    have N241 := Fr.app N237 N241q
    have O242 := Old.keep O238 Kp241 all0
    have C243 := CHr.trans C239 (hC241)
    have Sg241 : o_Str Z T241.heap x241 t241 ([(42 : Int32)] : List Int32) := by simpa [o_wr] using Sf241
    show o_G p e below _ T241 (mkF m 174 #[vI p1, vI p2, vI p3, vI p4, vI 1, vI 0, vI 0, vI ca, vI cb, vI cc, vR a232, vR b234, .unset, .unset, .unset] [(.ref x241)])
    refine o_astore X241 hx (y_ at_174) rfl (A' := #[vI p1, vI p2, vI p3, vI p4, vI 1, vI 0, vI 0, vI ca, vI cb, vI cc, vR a232, vR b234, vR x241, .unset, .unset]) rfl ?_
    refine o_iload X241 hx (y_ at_176) rfl ?_
    refine o_iFF X241 hx (y_ at_178) ?_
    refine o_iconst X241 hx (y_ at_181) (x := 1) rfl ?_
    refine o_gO (t := 186) X241 hx (y_ at_182) ?_
    refine o_istore X241 hx (y_ at_186) (A' := #[vI p1, vI p2, vI p3, vI p4, vI 1, vI 0, vI 0, vI ca, vI cb, vI cc, vR a232, vR b234, vR x241, vI 1, .unset]) rfl ?_
    refine o_iload X241 hx (y_ at_188) rfl ?_
    refine o_iload X241 hx (y_ at_190) rfl ?_
    refine o_iadd X241 hx (y_ at_192) ?_
    refine o_valE (z := 1) (by decide) ?_
    refine o_iload X241 hx (y_ at_193) rfl ?_
    refine o_iFT (t := 202) X241 hx (y_ at_195) ?_
    refine o_iconst X241 hx (y_ at_202) (x := 0) rfl ?_
    refine o_iadd X241 hx (y_ at_203) ?_
    refine o_valE (z := 1) (by decide) ?_
    refine o_istore X241 hx (y_ at_204) (A' := #[vI p1, vI p2, vI p3, vI p4, vI 1, vI 0, vI 0, vI ca, vI cb, vI cc, vR a232, vR b234, vR x241, vI 1, vI 1]) rfl ?_
    refine o_aload X241 hx (y_ at_206) rfl rfl ?_
    refine o_vir (y := o_m2) (b := x241) (argsL := []) (S := []) (W := 0) X241 hx hZ241 hown241 (k_ 215 rfl) (k_ 139 rfl) (k_ 141 rfl) (k_ 140 rfl) (backOf (W := 0) (rmlen l Z a0 hw [] x241 t241 ([(42 : Int32)] : List Int32) zC_ T241.heap n0 O242 Sg241 SC_ hC_) hZ241 (k_ 142 rfl) (k_ 6 rfl) (by decide) (by decide)) rfl Sg241.1 hml (lenOf o_pd__28_29I rfl) (y_ at_208) (fun T244 L244 v244 X244 hQ244 => ?_)
    obtain ⟨rfl, N244q, hh244⟩ := hQ244
    have N244 := Fr.app N241 N244q
    show o_G p e below _ T244 (mkF m 211 #[vI p1, vI p2, vI p3, vI p4, vI 1, vI 0, vI 0, vI ca, vI cb, vI cc, vR a232, vR b234, vR x241, vI 1, vI 1] [(.int (Int32.ofNat ([(42 : Int32)] : List Int32).length))])
    refine o_valE (z := 1) rfl ?_
    refine o_iload X244 hx (y_ at_211) rfl ?_
    refine o_iCT (t := 218) X244 hx (y_ at_213) ?_
    refine o_iload X244 hx (y_ at_218) rfl ?_
    refine o_iFF X244 hx (y_ at_220) ?_
    refine o_aload X244 hx (y_ at_223) rfl rfl ?_
    refine o_iconst X244 hx (y_ at_225) (x := 0) rfl ?_
    refine o_vir (y := o_m40) (b := x241) (argsL := [(.int 0)]) (S := []) (W := 0) X244 hx hZ241 hown241 (k_ 216 rfl) (k_ 217 rfl) (k_ 219 rfl) (k_ 218 rfl) (o_chB (W := 0) (i := 0) hZ241 hw (k_ 5 rfl) O242 Sg241 SC_ hC_ S_f hfm (o_b rfl) rfl (by decide) (by decide)) hh244 Sg241.1 hml (lenOf o_pd__28I_29C rfl) (y_ at_226) (fun T245 L245 v245 X245 hQ245 => ?_)
    obtain ⟨rfl, rfl, hh245⟩ := hQ245
    have N245 := Fr.app N244 (Fr.nil n0)
    show o_G p e below _ T245 (mkF m 229 #[vI p1, vI p2, vI p3, vI p4, vI 1, vI 0, vI 0, vI ca, vI cb, vI cc, vR a232, vR b234, vR x241, vI 1, vI 1] [(.int 42)])
    refine o_bipush X245 hx (y_ at_229) (x := 42) rfl ?_
    refine o_iCT (t := 236) X245 hx (y_ at_231) ?_
    refine o_iload X245 hx (y_ at_236) rfl ?_
    refine o_iFT (t := 257) X245 hx (y_ at_238) ?_
    refine o_iload X245 hx (y_ at_257) rfl ?_
    refine o_iFT (t := 276) X245 hx (y_ at_259) ?_
    refine o_iload X245 hx (y_ at_276) rfl ?_
    refine o_iconst X245 hx (y_ at_278) (x := 1) rfl ?_
    refine o_iCT (t := 298) X245 hx (y_ at_279) ?_
    refine o_iload X245 hx (y_ at_298) rfl ?_
    refine o_iconst X245 hx (y_ at_300) (x := 2) rfl ?_
    refine o_iCT (t := 320) X245 hx (y_ at_301) ?_
    refine o_iconst X245 hx (y_ at_320) (x := 1) rfl ?_
    exact o_retNW X245 hx hS241 (by rw [hh245]; exact hk241) (t := .boolean) hrt hlk (by simp) (y_ at_321) rfl (by decide) (by decide) (o_hQ hh245 ⟨rfl, N245⟩)
  have hc16 := o_h_eq.2 hq
  refine o_iconst X0 hx (y_ at_19) (x := 1) rfl ?_
  refine o_gO (t := 24) X0 hx (y_ at_20) ?_
  refine o_istore X0 hx (y_ at_24) (A' := #[vI p1, vI p2, vI p3, vI p4, vI 1, vI 1, .unset, .unset, .unset, .unset, .unset, .unset, .unset, .unset, .unset]) rfl ?_
  refine o_iloadN X0 hx (y_ at_26) rfl ?_
  refine o_iconst X0 hx (y_ at_27) (x := 2) rfl ?_
  refine o_iushr X0 hx (y_ at_28) ?_
  refine o_iconst X0 hx (y_ at_29) (x := 3) rfl ?_
  refine o_iand X0 hx (y_ at_30) ?_
  have hkl := o_and3 (XT.ushr p1 (2 : Int32))
  generalize (XT.ushr p1 (2 : Int32)) &&& (3 : Int32) = kl at hkl ⊢
  refine o_istore X0 hx (y_ at_31) (A' := #[vI p1, vI p2, vI p3, vI p4, vI 1, vI 1, vI kl, .unset, .unset, .unset, .unset, .unset, .unset, .unset, .unset]) rfl ?_
  refine o_iloadN X0 hx (y_ at_33) rfl ?_
  refine o_sta (y := o_m11) (argsL := [(.int p2)]) (S := []) (W := 0) X0 hx hZ hown (k_ 0 rfl) (k_ 1 rfl) (k_ 2 rfl) (k_ 3 rfl) (backOf (W := 0) (rmcch l Z a0 hw [] p2 h0 n0 O0) hZ (k_ 3 rfl) (k_ 2 rfl) (by decide) (by decide)) e0 hml (lenOf o_pd__28I_29C rfl) (y_ at_34) (fun T246 L246 v246 X246 hQ246 => ?_)
  obtain ⟨rfl, N246q, hh246⟩ := hQ246
  have N246 := Fr.app N0 N246q
  show o_G p e below _ T246 (mkF m 37 #[vI p1, vI p2, vI p3, vI p4, vI 1, vI 1, vI kl, .unset, .unset, .unset, .unset, .unset, .unset, .unset, .unset] [(.int (o_core p2))])
  obtain ⟨ca, e_ca, n_ca, l_ca, u_ca, s_ca⟩ := o_coreP p2
  rw [e_ca]
  refine o_istore X246 hx (y_ at_37) (A' := #[vI p1, vI p2, vI p3, vI p4, vI 1, vI 1, vI kl, vI ca, .unset, .unset, .unset, .unset, .unset, .unset, .unset]) rfl ?_
  refine o_iloadN X246 hx (y_ at_39) rfl ?_
  refine o_sta (y := o_m11) (argsL := [(.int p3)]) (S := []) (W := 0) X246 hx hZ hown (k_ 0 rfl) (k_ 1 rfl) (k_ 2 rfl) (k_ 3 rfl) (backOf (W := 0) (rmcch l Z a0 hw [] p3 h0 n0 O0) hZ (k_ 3 rfl) (k_ 2 rfl) (by decide) (by decide)) hh246 hml (lenOf o_pd__28I_29C rfl) (y_ at_40) (fun T247 L247 v247 X247 hQ247 => ?_)
  obtain ⟨rfl, N247q, hh247⟩ := hQ247
  have N247 := Fr.app N246 N247q
  show o_G p e below _ T247 (mkF m 43 #[vI p1, vI p2, vI p3, vI p4, vI 1, vI 1, vI kl, vI ca, .unset, .unset, .unset, .unset, .unset, .unset, .unset] [(.int (o_core p3))])
  obtain ⟨cb, e_cb, n_cb, l_cb, u_cb, s_cb⟩ := o_coreP p3
  rw [e_cb]
  refine o_istore X247 hx (y_ at_43) (A' := #[vI p1, vI p2, vI p3, vI p4, vI 1, vI 1, vI kl, vI ca, vI cb, .unset, .unset, .unset, .unset, .unset, .unset]) rfl ?_
  refine o_iloadN X247 hx (y_ at_45) rfl ?_
  refine o_sta (y := o_m11) (argsL := [(.int p4)]) (S := []) (W := 0) X247 hx hZ hown (k_ 0 rfl) (k_ 1 rfl) (k_ 2 rfl) (k_ 3 rfl) (backOf (W := 0) (rmcch l Z a0 hw [] p4 h0 n0 O0) hZ (k_ 3 rfl) (k_ 2 rfl) (by decide) (by decide)) hh247 hml (lenOf o_pd__28I_29C rfl) (y_ at_46) (fun T248 L248 v248 X248 hQ248 => ?_)
  obtain ⟨rfl, N248q, hh248⟩ := hQ248
  have N248 := Fr.app N247 N248q
  show o_G p e below _ T248 (mkF m 49 #[vI p1, vI p2, vI p3, vI p4, vI 1, vI 1, vI kl, vI ca, vI cb, .unset, .unset, .unset, .unset, .unset, .unset] [(.int (o_core p4))])
  obtain ⟨cc, e_cc, n_cc, l_cc, u_cc, s_cc⟩ := o_coreP p4
  rw [e_cc]
  refine o_istore X248 hx (y_ at_49) (A' := #[vI p1, vI p2, vI p3, vI p4, vI 1, vI 1, vI kl, vI ca, vI cb, vI cc, .unset, .unset, .unset, .unset, .unset]) rfl ?_
  refine o_iload X248 hx (y_ at_51) rfl ?_
  refine o_iF (t := 68) X248 hx (y_ at_53) (fun hq => ?_) (fun hq => ?_)
  · have hc53 := o_h_ne.1 hq
    refine o_iload X248 hx (y_ at_68) rfl ?_
    refine o_iF (t := 80) X248 hx (y_ at_70) (fun hq => ?_) (fun hq => ?_)
    · have hc70 := o_h_ne.1 hq
      refine o_iload X248 hx (y_ at_80) rfl ?_
      refine o_iconst X248 hx (y_ at_82) (x := 1) rfl ?_
      refine o_iC (t := 96) X248 hx (y_ at_83) (fun hq => ?_) (fun hq => ?_)
      · have hc83 := o_c_ne.1 hq
        refine o_iload X248 hx (y_ at_96) rfl ?_
        refine o_iconst X248 hx (y_ at_98) (x := 2) rfl ?_
        refine o_iC (t := 127) X248 hx (y_ at_99) (fun hq => ?_) (fun hq => ?_)
        · have hc99 := o_c_ne.1 hq
          obtain rfl : kl = 3 := ((hkl.resolve_left hc53).resolve_left hc83).resolve_left hc99
          refine o_new X248 hx hZ hown (k_ 4 rfl) (k_ 5 rfl) (k_ 6 rfl) hh248 (y_ at_127) (by decide) (by decide) (fun T249 h249 b249 X249 e249 gg249 E249 A249 D249 => ?_)
          have g_b249 := o_fresh O0 gg249
          have O249 := Old.ext O0 E249
          have C250 := CHr.trans C0 (CHr.ext E249 C0.1)
          have F249_coder : Fld Z h249 b249 "java/lang/String" "coder" "B" (.int 0) := D249 (Or.inr (k_ 31 rfl)) (ty := .byte) (by decide)
          have F249_value : Fld Z h249 b249 "java/lang/String" "value" "[B" .null := D249 (Or.inr (k_ 33 rfl)) (ty := (.array .byte)) (by decide)
          refine o_dup X249 hx (y_ at_130) rfl ?_
          refine o_iconst X249 hx (y_ at_131) (x := 3) rfl ?_
          refine o_newA (cap := 3) X249 hx hZ (k_ 7 rfl) e249 (y_ at_132) (by decide) (by decide) (by decide) (by decide) (by decide) (fun T251 h251 k251 b251 X251 e251 gg251 E251 A251 => ?_)
          have g_b251 := o_fresh O249 gg251
          have O251 := Old.ext O249 E251
          have C252 := CHr.trans C250 (CHr.ext E251 C250.1)
          have V251 : Arv Z h251 b251 k251 .char (3 : Int32) [(.int 0), (.int 0), (.int 0)] (.int 0) := A251.pad (pad_rep [] (.int 0) 3)
          refine o_dup X251 hx (y_ at_134) rfl ?_
          refine o_iconst X251 hx (y_ at_135) (x := 0) rfl ?_
          refine o_iload X251 hx (y_ at_136) rfl ?_
          refine o_stC (i := 0) (z := ca) X251 hx hZ e251 V251 (y_ at_138) ⟨by decide, by decide⟩ rfl (o_b rfl) n_ca (fun T253 h253 X253 e253 W253 V253 => ?_)
          have N253 := Fr.snoc X253 N248 g_b251
          have O253 := Old.wr O251 W253 g_b251
          have C254 := CHr.trans C252 (CHr.wr W253 (Safe.arv hZ.alike V251 (by decide)) C252.1)
          refine o_dup X253 hx (y_ at_139) rfl ?_
          refine o_iconst X253 hx (y_ at_140) (x := 1) rfl ?_
          refine o_iload X253 hx (y_ at_141) rfl ?_
          refine o_stC (i := 1) (z := cb) X253 hx hZ e253 V253 (y_ at_143) ⟨by decide, by decide⟩ rfl (o_b rfl) n_cb (fun T255 h255 X255 e255 W255 V255 => ?_)
          have N255 := Fr.snoc X255 N253 g_b251
          have O255 := Old.wr O253 W255 g_b251
          have C256 := CHr.trans C254 (CHr.wr W255 (Safe.arv hZ.alike V253 (by decide)) C254.1)
          refine o_dup X255 hx (y_ at_144) rfl ?_
          refine o_iconst X255 hx (y_ at_145) (x := 2) rfl ?_
          refine o_iload X255 hx (y_ at_146) rfl ?_
          refine o_stC (i := 2) (z := cc) X255 hx hZ e255 V255 (y_ at_148) ⟨by decide, by decide⟩ rfl (o_b rfl) n_cc (fun T257 h257 X257 e257 W257 V257 => ?_)
          have N257 := Fr.snoc X257 N255 g_b251
          have O257 := Old.wr O255 W257 g_b251
          have C258 := CHr.trans C256 (CHr.wr W257 (Safe.arv hZ.alike V255 (by decide)) C256.1)
          have c259 := (Exa.wr W257 (Exa.wr W255 (Exa.wr W253 (Exa.ext E251 A249))))
          have c260 := (Fld.other W257 (Fld.other W255 (Fld.other W253 (Fld.ext E251 F249_value) (Or.inl (o_ng A249.lt gg251))) (Or.inl (o_ng A249.lt gg251))) (Or.inl (o_ng A249.lt gg251)))
          have c261 := (Fld.other W257 (Fld.other W255 (Fld.other W253 (Fld.ext E251 F249_coder) (Or.inl (o_ng A249.lt gg251))) (Or.inl (o_ng A249.lt gg251))) (Or.inl (o_ng A249.lt gg251)))
          refine o_ini (y := o_m39) (b := b249) (argsL := [(.ref b251)]) (S := [(.ref b249)]) (W := 1) rfl X257 hx hZ hown (k_ 8 rfl) (k_ 9 rfl) (k_ 10 rfl) (o_newB (W := 1) (cs := ([ca, cb, cc] : List Int32)) (n := 3) hZ hw (k_ 5 rfl) O257 g_b249 c259 c260 c261 V257 SC_ hC_ rfl rfl (by decide) (by decide) (o_csS ⟨l_ca, u_ca⟩ (o_csS ⟨l_cb, u_cb⟩ (o_csS ⟨l_cc, u_cc⟩ o_cs0))) (by decide) (by decide)) e257 hml (lenOf o_pd__28_5bC_29V rfl) (y_ at_149) (fun T262 L262 v262 X262 hQ262 => ?_)
          obtain ⟨rfl, Nq262, Kp262, t262, g_t262, ht262, hne262, Sf262⟩ := hQ262
          have N262 := Fr.app N257 Nq262
          have O263 := Old.keep O257 Kp262 (allS g_b249 all0)
          have C264 := CHr.trans C258 (CHr.keep Kp262 (sfS (o_safeN hZ.alike c259 c260) sf0) C258.1)
          show o_G p e below _ T262 (mkF m 152 #[vI p1, vI p2, vI p3, vI p4, vI 1, vI 1, vI 3, vI ca, vI cb, vI cc, .unset, .unset, .unset, .unset, .unset] [(.ref b249)])
          refine o_astore X262 hx (y_ at_152) rfl (A' := #[vI p1, vI p2, vI p3, vI p4, vI 1, vI 1, vI 3, vI ca, vI cb, vI cc, vR b249, .unset, .unset, .unset, .unset]) rfl ?_
          refine o_new X262 hx hZ hown (k_ 34 rfl) (k_ 35 rfl) (k_ 36 rfl) rfl (y_ at_154) (by decide) (by decide) (fun T265 h265 b265 X265 e265 gg265 E265 A265 D265 => ?_)
          have g_b265 := o_fresh O263 gg265
          have O265 := Old.ext O263 E265
          have C266 := CHr.trans C264 (CHr.ext E265 C264.1)
          have F265_core : Fld Z h265 b265 "org/adviceweft/pointcut/NamePattern" "core" "Ljava/lang/String;" .null := D265 (Or.inr (k_ 96 rfl)) (ty := (.object "java/lang/String")) (by decide)
          have F265_anyBefore : Fld Z h265 b265 "org/adviceweft/pointcut/NamePattern" "anyBefore" "Z" (.int 0) := D265 (Or.inr (k_ 98 rfl)) (ty := .boolean) (by decide)
          have F265_anyAfter : Fld Z h265 b265 "org/adviceweft/pointcut/NamePattern" "anyAfter" "Z" (.int 0) := D265 (Or.inr (k_ 100 rfl)) (ty := .boolean) (by decide)
          refine o_dup X265 hx (y_ at_157) rfl ?_
          refine o_aload X265 hx (y_ at_158) rfl rfl ?_
          refine o_iload X265 hx (y_ at_160) rfl ?_
          refine o_iload X265 hx (y_ at_162) rfl ?_
          have c267 := (o_Str.ext E265 Sf262)
          refine o_initH (y := o_m37) (b := b265) (argsL := [(.ref b249), (.int 1), (.int 1)]) (S := [(.ref b265)]) (W := 1) rfl X265 hx hZ hS0 hown (k_ 37 rfl) (k_ 38 rfl) (k_ 39 rfl) (by decide) (backOfSH (W := 1) (rmct3 l Z a0 hw [] b265 b249 (1 : Int32) (1 : Int32) t262 ca cb cc zC_ h265 n0 O265 A265 F265_core F265_anyBefore F265_anyAfter g_b265 c267 (o_nostar3 s_ca s_cb s_cc) (by decide) (by decide) SC_ hC_) hZ (k_ 39 rfl) (k_ 36 rfl) (by decide) (by decide) hEL C266.1) e265 (Nat.le_trans (Nat.le_trans (Nat.le_trans (Nat.le_trans (Nat.le_trans (Nat.le_trans (Nat.le_trans hk0 E249.1) E251.1) (Keep.of_wr W253).1) (Keep.of_wr W255).1) (Keep.of_wr W257).1) Kp262.1) E265.1) (by rw [hml]; rfl) (lenOf o_pd__28Ljava_2flang_2fString_3bZZ_29V rfl) rfl (Nat.le_of_eq rfl) (y_ at_164) (by decide) (by decide) (fun T268 L268 v268 k268 X268 hS268 hk268 hZ268 hown268 hQ268 hC268 => ?_)
          obtain ⟨rfl, N268q, Kp268, Ex268, Fk268, Fb268, Fa268⟩ := hQ268
          have N268 := Fr.app N262 N268q
          have O269 := Old.keep O265 Kp268 (allS g_b265 all0)
          have C270 := CHr.trans C266 (hC268)
          show o_G p e below _ T268 (mkF m 167 #[vI p1, vI p2, vI p3, vI p4, vI 1, vI 1, vI 3, vI ca, vI cb, vI cc, vR b249, .unset, .unset, .unset, .unset] [(.ref b265)])
          refine o_astore X268 hx (y_ at_167) rfl (A' := #[vI p1, vI p2, vI p3, vI p4, vI 1, vI 1, vI 3, vI ca, vI cb, vI cc, vR b249, vR b265, .unset, .unset, .unset]) rfl ?_
          refine o_aload X268 hx (y_ at_169) rfl rfl ?_
          have c271 := (o_Str.keep c267 Kp268 (ninS (o_ng Sf262.lt gg265) nin0) (ninS (o_ng Sf262.lt2 gg265) nin0))
          refine o_virtualH (y := o_m30) (z := o_m30) (b := b265) (argsL := []) (S := []) (W := 0) X268 hx hZ268 hS268 hown268 (k_ 101 rfl) (k_ 102 rfl) (notFace_of_selects (args := #[]) (mvT hZ268 (k_ 104 rfl))) (k_ 104 rfl) (k_ 103 rfl) (by decide) (backOfSH (W := 0) (rmtsn l Z a0 hw [] b265 b249 (1 : Int32) (1 : Int32) t262 ([ca, cb, cc] : List Int32) zC_ T268.heap n0 O269 Fk268 Fb268 Fa268 c271 (o_b rfl) SC_ hC_) hZ268 (k_ 105 rfl) (k_ 36 rfl) (by decide) (by decide) hEL C270.1) rfl hk268 Ex268 (by rw [hml]; rfl) (lenOf o_pd__28_29Ljava_2flang_2fString_3b rfl) rfl (Nat.le_of_eq rfl) (y_ at_171) (by decide) (by decide) (fun T272 L272 v272 k272 X272 hS272 hk272 hZ272 hown272 hQ272 hC272 => ?_)
          obtain ⟨x272, t272, rfl, N272q, Kp272, g_x272, hx272, g_t272, ht272, hne272, Sf272⟩ := hQ272
          have N272 := Fr.app N268 N272q
          have O273 := Old.keep O269 Kp272 all0
          have C274 := CHr.trans C270 (hC272)
          have Sg272 : o_Str Z T272.heap x272 t272 ([(42 : Int32), ca, cb, cc, (42 : Int32)] : List Int32) := by simpa [o_wr] using Sf272
          show o_G p e below _ T272 (mkF m 174 #[vI p1, vI p2, vI p3, vI p4, vI 1, vI 1, vI 3, vI ca, vI cb, vI cc, vR b249, vR b265, .unset, .unset, .unset] [(.ref x272)])
          refine o_astore X272 hx (y_ at_174) rfl (A' := #[vI p1, vI p2, vI p3, vI p4, vI 1, vI 1, vI 3, vI ca, vI cb, vI cc, vR b249, vR b265, vR x272, .unset, .unset]) rfl ?_
          refine o_iload X272 hx (y_ at_176) rfl ?_
          refine o_iFF X272 hx (y_ at_178) ?_
          refine o_iconst X272 hx (y_ at_181) (x := 1) rfl ?_
          refine o_gO (t := 186) X272 hx (y_ at_182) ?_
          refine o_istore X272 hx (y_ at_186) (A' := #[vI p1, vI p2, vI p3, vI p4, vI 1, vI 1, vI 3, vI ca, vI cb, vI cc, vR b249, vR b265, vR x272, vI 1, .unset]) rfl ?_
          refine o_iload X272 hx (y_ at_188) rfl ?_
          refine o_iload X272 hx (y_ at_190) rfl ?_
          refine o_iadd X272 hx (y_ at_192) ?_
          refine o_valE (z := 4) (by decide) ?_
          refine o_iload X272 hx (y_ at_193) rfl ?_
          refine o_iFF X272 hx (y_ at_195) ?_
          refine o_iconst X272 hx (y_ at_198) (x := 1) rfl ?_
          refine o_gO (t := 203) X272 hx (y_ at_199) ?_
          refine o_iadd X272 hx (y_ at_203) ?_
          refine o_valE (z := 5) (by decide) ?_
          refine o_istore X272 hx (y_ at_204) (A' := #[vI p1, vI p2, vI p3, vI p4, vI 1, vI 1, vI 3, vI ca, vI cb, vI cc, vR b249, vR b265, vR x272, vI 1, vI 5]) rfl ?_
          refine o_aload X272 hx (y_ at_206) rfl rfl ?_
          refine o_vir (y := o_m2) (b := x272) (argsL := []) (S := []) (W := 0) X272 hx hZ272 hown272 (k_ 215 rfl) (k_ 139 rfl) (k_ 141 rfl) (k_ 140 rfl) (backOf (W := 0) (rmlen l Z a0 hw [] x272 t272 ([(42 : Int32), ca, cb, cc, (42 : Int32)] : List Int32) zC_ T272.heap n0 O273 Sg272 SC_ hC_) hZ272 (k_ 142 rfl) (k_ 6 rfl) (by decide) (by decide)) rfl Sg272.1 hml (lenOf o_pd__28_29I rfl) (y_ at_208) (fun T275 L275 v275 X275 hQ275 => ?_)
          obtain ⟨rfl, N275q, hh275⟩ := hQ275
          have N275 := Fr.app N272 N275q
          show o_G p e below _ T275 (mkF m 211 #[vI p1, vI p2, vI p3, vI p4, vI 1, vI 1, vI 3, vI ca, vI cb, vI cc, vR b249, vR b265, vR x272, vI 1, vI 5] [(.int (Int32.ofNat ([(42 : Int32), ca, cb, cc, (42 : Int32)] : List Int32).length))])
          refine o_valE (z := 5) rfl ?_
          refine o_iload X275 hx (y_ at_211) rfl ?_
          refine o_iCT (t := 218) X275 hx (y_ at_213) ?_
          refine o_iload X275 hx (y_ at_218) rfl ?_
          refine o_iFF X275 hx (y_ at_220) ?_
          refine o_aload X275 hx (y_ at_223) rfl rfl ?_
          refine o_iconst X275 hx (y_ at_225) (x := 0) rfl ?_
          refine o_vir (y := o_m40) (b := x272) (argsL := [(.int 0)]) (S := []) (W := 0) X275 hx hZ272 hown272 (k_ 216 rfl) (k_ 217 rfl) (k_ 219 rfl) (k_ 218 rfl) (o_chB (W := 0) (i := 0) hZ272 hw (k_ 5 rfl) O273 Sg272 SC_ hC_ S_f hfm (o_b rfl) rfl (by decide) (by decide)) hh275 Sg272.1 hml (lenOf o_pd__28I_29C rfl) (y_ at_226) (fun T276 L276 v276 X276 hQ276 => ?_)
          obtain ⟨rfl, rfl, hh276⟩ := hQ276
          have N276 := Fr.app N275 (Fr.nil n0)
          show o_G p e below _ T276 (mkF m 229 #[vI p1, vI p2, vI p3, vI p4, vI 1, vI 1, vI 3, vI ca, vI cb, vI cc, vR b249, vR b265, vR x272, vI 1, vI 5] [(.int 42)])
          refine o_bipush X276 hx (y_ at_229) (x := 42) rfl ?_
          refine o_iCT (t := 236) X276 hx (y_ at_231) ?_
          refine o_iload X276 hx (y_ at_236) rfl ?_
          refine o_iFF X276 hx (y_ at_238) ?_
          refine o_aload X276 hx (y_ at_241) rfl rfl ?_
          refine o_iload X276 hx (y_ at_243) rfl ?_
          refine o_iconst X276 hx (y_ at_245) (x := 1) rfl ?_
          refine o_isub X276 hx (y_ at_246) ?_
          refine o_valE (z := 4) (by decide) ?_
          refine o_vir (y := o_m40) (b := x272) (argsL := [(.int 4)]) (S := []) (W := 0) X276 hx hZ272 hown272 (k_ 216 rfl) (k_ 217 rfl) (k_ 219 rfl) (k_ 218 rfl) (o_chB (W := 0) (i := 4) hZ272 hw (k_ 5 rfl) O273 Sg272 SC_ hC_ S_f hfm (o_b rfl) rfl (by decide) (by decide)) hh276 Sg272.1 hml (lenOf o_pd__28I_29C rfl) (y_ at_247) (fun T277 L277 v277 X277 hQ277 => ?_)
          obtain ⟨rfl, rfl, hh277⟩ := hQ277
          have N277 := Fr.app N276 (Fr.nil n0)
          show o_G p e below _ T277 (mkF m 250 #[vI p1, vI p2, vI p3, vI p4, vI 1, vI 1, vI 3, vI ca, vI cb, vI cc, vR b249, vR b265, vR x272, vI 1, vI 5] [(.int 42)])
          refine o_bipush X277 hx (y_ at_250) (x := 42) rfl ?_
          refine o_iCT (t := 257) X277 hx (y_ at_252) ?_
          refine o_iload X277 hx (y_ at_257) rfl ?_
          refine o_iFF X277 hx (y_ at_259) ?_
          refine o_aload X277 hx (y_ at_262) rfl rfl ?_
          refine o_iload X277 hx (y_ at_264) rfl ?_
          refine o_vir (y := o_m40) (b := x272) (argsL := [(.int 1)]) (S := []) (W := 0) X277 hx hZ272 hown272 (k_ 216 rfl) (k_ 217 rfl) (k_ 219 rfl) (k_ 218 rfl) (o_chB (W := 0) (i := 1) hZ272 hw (k_ 5 rfl) O273 Sg272 SC_ hC_ S_f hfm (o_b rfl) rfl (by decide) (by decide)) hh277 Sg272.1 hml (lenOf o_pd__28I_29C rfl) (y_ at_266) (fun T278 L278 v278 X278 hQ278 => ?_)
          obtain ⟨rfl, rfl, hh278⟩ := hQ278
          have N278 := Fr.app N277 (Fr.nil n0)
          show o_G p e below _ T278 (mkF m 269 #[vI p1, vI p2, vI p3, vI p4, vI 1, vI 1, vI 3, vI ca, vI cb, vI cc, vR b249, vR b265, vR x272, vI 1, vI 5] [(.int ca)])
          refine o_iload X278 hx (y_ at_269) rfl ?_
          refine o_iC (t := 276) X278 hx (y_ at_271) (fun hq => ?_) (fun hq => ?_)
          · have hc271 := o_c_eq.1 hq
            refine o_iload X278 hx (y_ at_276) rfl ?_
            refine o_iconst X278 hx (y_ at_278) (x := 1) rfl ?_
            refine o_iCF X278 hx (y_ at_279) ?_
            refine o_aload X278 hx (y_ at_282) rfl rfl ?_
            refine o_iload X278 hx (y_ at_284) rfl ?_
            refine o_iconst X278 hx (y_ at_286) (x := 1) rfl ?_
            refine o_iadd X278 hx (y_ at_287) ?_
            refine o_valE (z := 2) (by decide) ?_
            refine o_vir (y := o_m40) (b := x272) (argsL := [(.int 2)]) (S := []) (W := 0) X278 hx hZ272 hown272 (k_ 216 rfl) (k_ 217 rfl) (k_ 219 rfl) (k_ 218 rfl) (o_chB (W := 0) (i := 2) hZ272 hw (k_ 5 rfl) O273 Sg272 SC_ hC_ S_f hfm (o_b rfl) rfl (by decide) (by decide)) hh278 Sg272.1 hml (lenOf o_pd__28I_29C rfl) (y_ at_288) (fun T279 L279 v279 X279 hQ279 => ?_)
            obtain ⟨rfl, rfl, hh279⟩ := hQ279
            have N279 := Fr.app N278 (Fr.nil n0)
            show o_G p e below _ T279 (mkF m 291 #[vI p1, vI p2, vI p3, vI p4, vI 1, vI 1, vI 3, vI ca, vI cb, vI cc, vR b249, vR b265, vR x272, vI 1, vI 5] [(.int cb)])
            refine o_iload X279 hx (y_ at_291) rfl ?_
            refine o_iC (t := 298) X279 hx (y_ at_293) (fun hq => ?_) (fun hq => ?_)
            · have hc293 := o_c_eq.1 hq
              refine o_iload X279 hx (y_ at_298) rfl ?_
              refine o_iconst X279 hx (y_ at_300) (x := 2) rfl ?_
              refine o_iCF X279 hx (y_ at_301) ?_
              refine o_aload X279 hx (y_ at_304) rfl rfl ?_
              refine o_iload X279 hx (y_ at_306) rfl ?_
              refine o_iconst X279 hx (y_ at_308) (x := 2) rfl ?_
              refine o_iadd X279 hx (y_ at_309) ?_
              refine o_valE (z := 3) (by decide) ?_
              refine o_vir (y := o_m40) (b := x272) (argsL := [(.int 3)]) (S := []) (W := 0) X279 hx hZ272 hown272 (k_ 216 rfl) (k_ 217 rfl) (k_ 219 rfl) (k_ 218 rfl) (o_chB (W := 0) (i := 3) hZ272 hw (k_ 5 rfl) O273 Sg272 SC_ hC_ S_f hfm (o_b rfl) rfl (by decide) (by decide)) hh279 Sg272.1 hml (lenOf o_pd__28I_29C rfl) (y_ at_310) (fun T280 L280 v280 X280 hQ280 => ?_)
              obtain ⟨rfl, rfl, hh280⟩ := hQ280
              have N280 := Fr.app N279 (Fr.nil n0)
              show o_G p e below _ T280 (mkF m 313 #[vI p1, vI p2, vI p3, vI p4, vI 1, vI 1, vI 3, vI ca, vI cb, vI cc, vR b249, vR b265, vR x272, vI 1, vI 5] [(.int cc)])
              refine o_iload X280 hx (y_ at_313) rfl ?_
              refine o_iC (t := 320) X280 hx (y_ at_315) (fun hq => ?_) (fun hq => ?_)
              · have hc315 := o_c_eq.1 hq
                refine o_iconst X280 hx (y_ at_320) (x := 1) rfl ?_
                exact o_retNW X280 hx hS272 (by rw [hh280]; exact hk272) (t := .boolean) hrt hlk (by simp) (y_ at_321) rfl (by decide) (by decide) (o_hQ hh280 ⟨rfl, N280⟩)
              have hc315 := o_c_eq.2 hq
              exact absurd rfl hc315
            have hc293 := o_c_eq.2 hq
            exact absurd rfl hc293
          have hc271 := o_c_eq.2 hq
          exact absurd rfl hc271
        have hc99 := o_c_ne.2 hq
        obtain rfl : kl = 2 := hc99
        refine o_new X248 hx hZ hown (k_ 4 rfl) (k_ 5 rfl) (k_ 6 rfl) hh248 (y_ at_102) (by decide) (by decide) (fun T281 h281 b281 X281 e281 gg281 E281 A281 D281 => ?_)
        have g_b281 := o_fresh O0 gg281
        have O281 := Old.ext O0 E281
        have C282 := CHr.trans C0 (CHr.ext E281 C0.1)
        have F281_coder : Fld Z h281 b281 "java/lang/String" "coder" "B" (.int 0) := D281 (Or.inr (k_ 31 rfl)) (ty := .byte) (by decide)
        have F281_value : Fld Z h281 b281 "java/lang/String" "value" "[B" .null := D281 (Or.inr (k_ 33 rfl)) (ty := (.array .byte)) (by decide)
        refine o_dup X281 hx (y_ at_105) rfl ?_
        refine o_iconst X281 hx (y_ at_106) (x := 2) rfl ?_
        refine o_newA (cap := 2) X281 hx hZ (k_ 7 rfl) e281 (y_ at_107) (by decide) (by decide) (by decide) (by decide) (by decide) (fun T283 h283 k283 b283 X283 e283 gg283 E283 A283 => ?_)
        have g_b283 := o_fresh O281 gg283
        have O283 := Old.ext O281 E283
        have C284 := CHr.trans C282 (CHr.ext E283 C282.1)
        have V283 : Arv Z h283 b283 k283 .char (2 : Int32) [(.int 0), (.int 0)] (.int 0) := A283.pad (pad_rep [] (.int 0) 2)
        refine o_dup X283 hx (y_ at_109) rfl ?_
        refine o_iconst X283 hx (y_ at_110) (x := 0) rfl ?_
        refine o_iload X283 hx (y_ at_111) rfl ?_
        refine o_stC (i := 0) (z := ca) X283 hx hZ e283 V283 (y_ at_113) ⟨by decide, by decide⟩ rfl (o_b rfl) n_ca (fun T285 h285 X285 e285 W285 V285 => ?_)
        have N285 := Fr.snoc X285 N248 g_b283
        have O285 := Old.wr O283 W285 g_b283
        have C286 := CHr.trans C284 (CHr.wr W285 (Safe.arv hZ.alike V283 (by decide)) C284.1)
        refine o_dup X285 hx (y_ at_114) rfl ?_
        refine o_iconst X285 hx (y_ at_115) (x := 1) rfl ?_
        refine o_iload X285 hx (y_ at_116) rfl ?_
        refine o_stC (i := 1) (z := cb) X285 hx hZ e285 V285 (y_ at_118) ⟨by decide, by decide⟩ rfl (o_b rfl) n_cb (fun T287 h287 X287 e287 W287 V287 => ?_)
        have N287 := Fr.snoc X287 N285 g_b283
        have O287 := Old.wr O285 W287 g_b283
        have C288 := CHr.trans C286 (CHr.wr W287 (Safe.arv hZ.alike V285 (by decide)) C286.1)
        have c289 := (Exa.wr W287 (Exa.wr W285 (Exa.ext E283 A281)))
        have c290 := (Fld.other W287 (Fld.other W285 (Fld.ext E283 F281_value) (Or.inl (o_ng A281.lt gg283))) (Or.inl (o_ng A281.lt gg283)))
        have c291 := (Fld.other W287 (Fld.other W285 (Fld.ext E283 F281_coder) (Or.inl (o_ng A281.lt gg283))) (Or.inl (o_ng A281.lt gg283)))
        refine o_ini (y := o_m39) (b := b281) (argsL := [(.ref b283)]) (S := [(.ref b281)]) (W := 1) rfl X287 hx hZ hown (k_ 8 rfl) (k_ 9 rfl) (k_ 10 rfl) (o_newB (W := 1) (cs := ([ca, cb] : List Int32)) (n := 2) hZ hw (k_ 5 rfl) O287 g_b281 c289 c290 c291 V287 SC_ hC_ rfl rfl (by decide) (by decide) (o_csS ⟨l_ca, u_ca⟩ (o_csS ⟨l_cb, u_cb⟩ o_cs0)) (by decide) (by decide)) e287 hml (lenOf o_pd__28_5bC_29V rfl) (y_ at_119) (fun T292 L292 v292 X292 hQ292 => ?_)
        obtain ⟨rfl, Nq292, Kp292, t292, g_t292, ht292, hne292, Sf292⟩ := hQ292
        have N292 := Fr.app N287 Nq292
        have O293 := Old.keep O287 Kp292 (allS g_b281 all0)
        have C294 := CHr.trans C288 (CHr.keep Kp292 (sfS (o_safeN hZ.alike c289 c290) sf0) C288.1)
        show o_G p e below _ T292 (mkF m 122 #[vI p1, vI p2, vI p3, vI p4, vI 1, vI 1, vI 2, vI ca, vI cb, vI cc, .unset, .unset, .unset, .unset, .unset] [(.ref b281)])
        refine o_astore X292 hx (y_ at_122) rfl (A' := #[vI p1, vI p2, vI p3, vI p4, vI 1, vI 1, vI 2, vI ca, vI cb, vI cc, vR b281, .unset, .unset, .unset, .unset]) rfl ?_
        refine o_gO (t := 154) X292 hx (y_ at_124) ?_
        refine o_new X292 hx hZ hown (k_ 34 rfl) (k_ 35 rfl) (k_ 36 rfl) rfl (y_ at_154) (by decide) (by decide) (fun T295 h295 b295 X295 e295 gg295 E295 A295 D295 => ?_)
        have g_b295 := o_fresh O293 gg295
        have O295 := Old.ext O293 E295
        have C296 := CHr.trans C294 (CHr.ext E295 C294.1)
        have F295_core : Fld Z h295 b295 "org/adviceweft/pointcut/NamePattern" "core" "Ljava/lang/String;" .null := D295 (Or.inr (k_ 96 rfl)) (ty := (.object "java/lang/String")) (by decide)
        have F295_anyBefore : Fld Z h295 b295 "org/adviceweft/pointcut/NamePattern" "anyBefore" "Z" (.int 0) := D295 (Or.inr (k_ 98 rfl)) (ty := .boolean) (by decide)
        have F295_anyAfter : Fld Z h295 b295 "org/adviceweft/pointcut/NamePattern" "anyAfter" "Z" (.int 0) := D295 (Or.inr (k_ 100 rfl)) (ty := .boolean) (by decide)
        refine o_dup X295 hx (y_ at_157) rfl ?_
        refine o_aload X295 hx (y_ at_158) rfl rfl ?_
        refine o_iload X295 hx (y_ at_160) rfl ?_
        refine o_iload X295 hx (y_ at_162) rfl ?_
        have c297 := (o_Str.ext E295 Sf292)
        refine o_initH (y := o_m37) (b := b295) (argsL := [(.ref b281), (.int 1), (.int 1)]) (S := [(.ref b295)]) (W := 1) rfl X295 hx hZ hS0 hown (k_ 37 rfl) (k_ 38 rfl) (k_ 39 rfl) (by decide) (backOfSH (W := 1) (rmct2 l Z a0 hw [] b295 b281 (1 : Int32) (1 : Int32) t292 ca cb zC_ h295 n0 O295 A295 F295_core F295_anyBefore F295_anyAfter g_b295 c297 (o_nostar2 s_ca s_cb) (by decide) (by decide) SC_ hC_) hZ (k_ 39 rfl) (k_ 36 rfl) (by decide) (by decide) hEL C296.1) e295 (Nat.le_trans (Nat.le_trans (Nat.le_trans (Nat.le_trans (Nat.le_trans (Nat.le_trans hk0 E281.1) E283.1) (Keep.of_wr W285).1) (Keep.of_wr W287).1) Kp292.1) E295.1) (by rw [hml]; rfl) (lenOf o_pd__28Ljava_2flang_2fString_3bZZ_29V rfl) rfl (Nat.le_of_eq rfl) (y_ at_164) (by decide) (by decide) (fun T298 L298 v298 k298 X298 hS298 hk298 hZ298 hown298 hQ298 hC298 => ?_)
        obtain ⟨rfl, N298q, Kp298, Ex298, Fk298, Fb298, Fa298⟩ := hQ298
        have N298 := Fr.app N292 N298q
        have O299 := Old.keep O295 Kp298 (allS g_b295 all0)
        have C300 := CHr.trans C296 (hC298)
        show o_G p e below _ T298 (mkF m 167 #[vI p1, vI p2, vI p3, vI p4, vI 1, vI 1, vI 2, vI ca, vI cb, vI cc, vR b281, .unset, .unset, .unset, .unset] [(.ref b295)])
        refine o_astore X298 hx (y_ at_167) rfl (A' := #[vI p1, vI p2, vI p3, vI p4, vI 1, vI 1, vI 2, vI ca, vI cb, vI cc, vR b281, vR b295, .unset, .unset, .unset]) rfl ?_
        refine o_aload X298 hx (y_ at_169) rfl rfl ?_
        have c301 := (o_Str.keep c297 Kp298 (ninS (o_ng Sf292.lt gg295) nin0) (ninS (o_ng Sf292.lt2 gg295) nin0))
        refine o_virtualH (y := o_m30) (z := o_m30) (b := b295) (argsL := []) (S := []) (W := 0) X298 hx hZ298 hS298 hown298 (k_ 101 rfl) (k_ 102 rfl) (notFace_of_selects (args := #[]) (mvT hZ298 (k_ 104 rfl))) (k_ 104 rfl) (k_ 103 rfl) (by decide) (backOfSH (W := 0) (rmtsn l Z a0 hw [] b295 b281 (1 : Int32) (1 : Int32) t292 ([ca, cb] : List Int32) zC_ T298.heap n0 O299 Fk298 Fb298 Fa298 c301 (o_b rfl) SC_ hC_) hZ298 (k_ 105 rfl) (k_ 36 rfl) (by decide) (by decide) hEL C300.1) rfl hk298 Ex298 (by rw [hml]; rfl) (lenOf o_pd__28_29Ljava_2flang_2fString_3b rfl) rfl (Nat.le_of_eq rfl) (y_ at_171) (by decide) (by decide) (fun T302 L302 v302 k302 X302 hS302 hk302 hZ302 hown302 hQ302 hC302 => ?_)
        obtain ⟨x302, t302, rfl, N302q, Kp302, g_x302, hx302, g_t302, ht302, hne302, Sf302⟩ := hQ302
        have N302 := Fr.app N298 N302q
        have O303 := Old.keep O299 Kp302 all0
        have C304 := CHr.trans C300 (hC302)
        have Sg302 : o_Str Z T302.heap x302 t302 ([(42 : Int32), ca, cb, (42 : Int32)] : List Int32) := by simpa [o_wr] using Sf302
        show o_G p e below _ T302 (mkF m 174 #[vI p1, vI p2, vI p3, vI p4, vI 1, vI 1, vI 2, vI ca, vI cb, vI cc, vR b281, vR b295, .unset, .unset, .unset] [(.ref x302)])
        refine o_astore X302 hx (y_ at_174) rfl (A' := #[vI p1, vI p2, vI p3, vI p4, vI 1, vI 1, vI 2, vI ca, vI cb, vI cc, vR b281, vR b295, vR x302, .unset, .unset]) rfl ?_
        refine o_iload X302 hx (y_ at_176) rfl ?_
        refine o_iFF X302 hx (y_ at_178) ?_
        refine o_iconst X302 hx (y_ at_181) (x := 1) rfl ?_
        refine o_gO (t := 186) X302 hx (y_ at_182) ?_
        refine o_istore X302 hx (y_ at_186) (A' := #[vI p1, vI p2, vI p3, vI p4, vI 1, vI 1, vI 2, vI ca, vI cb, vI cc, vR b281, vR b295, vR x302, vI 1, .unset]) rfl ?_
        refine o_iload X302 hx (y_ at_188) rfl ?_
        refine o_iload X302 hx (y_ at_190) rfl ?_
        refine o_iadd X302 hx (y_ at_192) ?_
        refine o_valE (z := 3) (by decide) ?_
        refine o_iload X302 hx (y_ at_193) rfl ?_
        refine o_iFF X302 hx (y_ at_195) ?_
        refine o_iconst X302 hx (y_ at_198) (x := 1) rfl ?_
        refine o_gO (t := 203) X302 hx (y_ at_199) ?_
        refine o_iadd X302 hx (y_ at_203) ?_
        refine o_valE (z := 4) (by decide) ?_
        refine o_istore X302 hx (y_ at_204) (A' := #[vI p1, vI p2, vI p3, vI p4, vI 1, vI 1, vI 2, vI ca, vI cb, vI cc, vR b281, vR b295, vR x302, vI 1, vI 4]) rfl ?_
        refine o_aload X302 hx (y_ at_206) rfl rfl ?_
        refine o_vir (y := o_m2) (b := x302) (argsL := []) (S := []) (W := 0) X302 hx hZ302 hown302 (k_ 215 rfl) (k_ 139 rfl) (k_ 141 rfl) (k_ 140 rfl) (backOf (W := 0) (rmlen l Z a0 hw [] x302 t302 ([(42 : Int32), ca, cb, (42 : Int32)] : List Int32) zC_ T302.heap n0 O303 Sg302 SC_ hC_) hZ302 (k_ 142 rfl) (k_ 6 rfl) (by decide) (by decide)) rfl Sg302.1 hml (lenOf o_pd__28_29I rfl) (y_ at_208) (fun T305 L305 v305 X305 hQ305 => ?_)
        obtain ⟨rfl, N305q, hh305⟩ := hQ305
        have N305 := Fr.app N302 N305q
        show o_G p e below _ T305 (mkF m 211 #[vI p1, vI p2, vI p3, vI p4, vI 1, vI 1, vI 2, vI ca, vI cb, vI cc, vR b281, vR b295, vR x302, vI 1, vI 4] [(.int (Int32.ofNat ([(42 : Int32), ca, cb, (42 : Int32)] : List Int32).length))])
        refine o_valE (z := 4) rfl ?_
        refine o_iload X305 hx (y_ at_211) rfl ?_
        refine o_iCT (t := 218) X305 hx (y_ at_213) ?_
        refine o_iload X305 hx (y_ at_218) rfl ?_
        refine o_iFF X305 hx (y_ at_220) ?_
        refine o_aload X305 hx (y_ at_223) rfl rfl ?_
        refine o_iconst X305 hx (y_ at_225) (x := 0) rfl ?_
        refine o_vir (y := o_m40) (b := x302) (argsL := [(.int 0)]) (S := []) (W := 0) X305 hx hZ302 hown302 (k_ 216 rfl) (k_ 217 rfl) (k_ 219 rfl) (k_ 218 rfl) (o_chB (W := 0) (i := 0) hZ302 hw (k_ 5 rfl) O303 Sg302 SC_ hC_ S_f hfm (o_b rfl) rfl (by decide) (by decide)) hh305 Sg302.1 hml (lenOf o_pd__28I_29C rfl) (y_ at_226) (fun T306 L306 v306 X306 hQ306 => ?_)
        obtain ⟨rfl, rfl, hh306⟩ := hQ306
        have N306 := Fr.app N305 (Fr.nil n0)
        show o_G p e below _ T306 (mkF m 229 #[vI p1, vI p2, vI p3, vI p4, vI 1, vI 1, vI 2, vI ca, vI cb, vI cc, vR b281, vR b295, vR x302, vI 1, vI 4] [(.int 42)])
        refine o_bipush X306 hx (y_ at_229) (x := 42) rfl ?_
        refine o_iCT (t := 236) X306 hx (y_ at_231) ?_
        refine o_iload X306 hx (y_ at_236) rfl ?_
        refine o_iFF X306 hx (y_ at_238) ?_
        refine o_aload X306 hx (y_ at_241) rfl rfl ?_
        refine o_iload X306 hx (y_ at_243) rfl ?_
        refine o_iconst X306 hx (y_ at_245) (x := 1) rfl ?_
        refine o_isub X306 hx (y_ at_246) ?_
        refine o_valE (z := 3) (by decide) ?_
        refine o_vir (y := o_m40) (b := x302) (argsL := [(.int 3)]) (S := []) (W := 0) X306 hx hZ302 hown302 (k_ 216 rfl) (k_ 217 rfl) (k_ 219 rfl) (k_ 218 rfl) (o_chB (W := 0) (i := 3) hZ302 hw (k_ 5 rfl) O303 Sg302 SC_ hC_ S_f hfm (o_b rfl) rfl (by decide) (by decide)) hh306 Sg302.1 hml (lenOf o_pd__28I_29C rfl) (y_ at_247) (fun T307 L307 v307 X307 hQ307 => ?_)
        obtain ⟨rfl, rfl, hh307⟩ := hQ307
        have N307 := Fr.app N306 (Fr.nil n0)
        show o_G p e below _ T307 (mkF m 250 #[vI p1, vI p2, vI p3, vI p4, vI 1, vI 1, vI 2, vI ca, vI cb, vI cc, vR b281, vR b295, vR x302, vI 1, vI 4] [(.int 42)])
        refine o_bipush X307 hx (y_ at_250) (x := 42) rfl ?_
        refine o_iCT (t := 257) X307 hx (y_ at_252) ?_
        refine o_iload X307 hx (y_ at_257) rfl ?_
        refine o_iFF X307 hx (y_ at_259) ?_
        refine o_aload X307 hx (y_ at_262) rfl rfl ?_
        refine o_iload X307 hx (y_ at_264) rfl ?_
        refine o_vir (y := o_m40) (b := x302) (argsL := [(.int 1)]) (S := []) (W := 0) X307 hx hZ302 hown302 (k_ 216 rfl) (k_ 217 rfl) (k_ 219 rfl) (k_ 218 rfl) (o_chB (W := 0) (i := 1) hZ302 hw (k_ 5 rfl) O303 Sg302 SC_ hC_ S_f hfm (o_b rfl) rfl (by decide) (by decide)) hh307 Sg302.1 hml (lenOf o_pd__28I_29C rfl) (y_ at_266) (fun T308 L308 v308 X308 hQ308 => ?_)
        obtain ⟨rfl, rfl, hh308⟩ := hQ308
        have N308 := Fr.app N307 (Fr.nil n0)
        show o_G p e below _ T308 (mkF m 269 #[vI p1, vI p2, vI p3, vI p4, vI 1, vI 1, vI 2, vI ca, vI cb, vI cc, vR b281, vR b295, vR x302, vI 1, vI 4] [(.int ca)])
        refine o_iload X308 hx (y_ at_269) rfl ?_
        refine o_iC (t := 276) X308 hx (y_ at_271) (fun hq => ?_) (fun hq => ?_)
        · have hc271 := o_c_eq.1 hq
          refine o_iload X308 hx (y_ at_276) rfl ?_
          refine o_iconst X308 hx (y_ at_278) (x := 1) rfl ?_
          refine o_iCF X308 hx (y_ at_279) ?_
          refine o_aload X308 hx (y_ at_282) rfl rfl ?_
          refine o_iload X308 hx (y_ at_284) rfl ?_
          refine o_iconst X308 hx (y_ at_286) (x := 1) rfl ?_
          refine o_iadd X308 hx (y_ at_287) ?_
          refine o_valE (z := 2) (by decide) ?_
          refine o_vir (y := o_m40) (b := x302) (argsL := [(.int 2)]) (S := []) (W := 0) X308 hx hZ302 hown302 (k_ 216 rfl) (k_ 217 rfl) (k_ 219 rfl) (k_ 218 rfl) (o_chB (W := 0) (i := 2) hZ302 hw (k_ 5 rfl) O303 Sg302 SC_ hC_ S_f hfm (o_b rfl) rfl (by decide) (by decide)) hh308 Sg302.1 hml (lenOf o_pd__28I_29C rfl) (y_ at_288) (fun T309 L309 v309 X309 hQ309 => ?_)
          obtain ⟨rfl, rfl, hh309⟩ := hQ309
          have N309 := Fr.app N308 (Fr.nil n0)
          show o_G p e below _ T309 (mkF m 291 #[vI p1, vI p2, vI p3, vI p4, vI 1, vI 1, vI 2, vI ca, vI cb, vI cc, vR b281, vR b295, vR x302, vI 1, vI 4] [(.int cb)])
          refine o_iload X309 hx (y_ at_291) rfl ?_
          refine o_iC (t := 298) X309 hx (y_ at_293) (fun hq => ?_) (fun hq => ?_)
          · have hc293 := o_c_eq.1 hq
            refine o_iload X309 hx (y_ at_298) rfl ?_
            refine o_iconst X309 hx (y_ at_300) (x := 2) rfl ?_
            refine o_iCT (t := 320) X309 hx (y_ at_301) ?_
            refine o_iconst X309 hx (y_ at_320) (x := 1) rfl ?_
            exact o_retNW X309 hx hS302 (by rw [hh309]; exact hk302) (t := .boolean) hrt hlk (by simp) (y_ at_321) rfl (by decide) (by decide) (o_hQ hh309 ⟨rfl, N309⟩)
          have hc293 := o_c_eq.2 hq
          exact absurd rfl hc293
        have hc271 := o_c_eq.2 hq
        exact absurd rfl hc271
      have hc83 := o_c_ne.2 hq
      obtain rfl : kl = 1 := hc83
      refine o_iload X248 hx (y_ at_86) rfl ?_
      refine o_sta (y := o_m15) (argsL := [(.int ca)]) (S := []) (W := 0) X248 hx hZ hown (k_ 233 rfl) (k_ 234 rfl) (k_ 6 rfl) (k_ 235 rfl) (backOf (W := 0) (rmvoc l Z a0 hw [] ca zC_ h0 n0 O0 ⟨l_ca, u_ca⟩ SC_ hC_) hZ (k_ 235 rfl) (k_ 6 rfl) (by decide) (by decide)) hh248 hml (lenOf o_pd__28C_29Ljava_2flang_2fString_3b rfl) (y_ at_88) (fun T310 L310 v310 X310 hQ310 => ?_)
      obtain ⟨x310, t310, rfl, N310q, Kp310, g_x310, hx310, g_t310, ht310, hne310, Sf310⟩ := hQ310
      have N310 := Fr.app N248 N310q
      have O311 := Old.keep O0 Kp310 all0
      have C312 := CHr.trans C0 (CHr.keep Kp310 sf0 C0.1)
      show o_G p e below _ T310 (mkF m 91 #[vI p1, vI p2, vI p3, vI p4, vI 1, vI 1, vI 1, vI ca, vI cb, vI cc, .unset, .unset, .unset, .unset, .unset] [(.ref x310)])
      refine o_astore X310 hx (y_ at_91) rfl (A' := #[vI p1, vI p2, vI p3, vI p4, vI 1, vI 1, vI 1, vI ca, vI cb, vI cc, vR x310, .unset, .unset, .unset, .unset]) rfl ?_
      refine o_gO (t := 154) X310 hx (y_ at_93) ?_
      refine o_new X310 hx hZ hown (k_ 34 rfl) (k_ 35 rfl) (k_ 36 rfl) rfl (y_ at_154) (by decide) (by decide) (fun T313 h313 b313 X313 e313 gg313 E313 A313 D313 => ?_)
      have g_b313 := o_fresh O311 gg313
      have O313 := Old.ext O311 E313
      have C314 := CHr.trans C312 (CHr.ext E313 C312.1)
      have F313_core : Fld Z h313 b313 "org/adviceweft/pointcut/NamePattern" "core" "Ljava/lang/String;" .null := D313 (Or.inr (k_ 96 rfl)) (ty := (.object "java/lang/String")) (by decide)
      have F313_anyBefore : Fld Z h313 b313 "org/adviceweft/pointcut/NamePattern" "anyBefore" "Z" (.int 0) := D313 (Or.inr (k_ 98 rfl)) (ty := .boolean) (by decide)
      have F313_anyAfter : Fld Z h313 b313 "org/adviceweft/pointcut/NamePattern" "anyAfter" "Z" (.int 0) := D313 (Or.inr (k_ 100 rfl)) (ty := .boolean) (by decide)
      refine o_dup X313 hx (y_ at_157) rfl ?_
      refine o_aload X313 hx (y_ at_158) rfl rfl ?_
      refine o_iload X313 hx (y_ at_160) rfl ?_
      refine o_iload X313 hx (y_ at_162) rfl ?_
      have c315 := (o_Str.ext E313 Sf310)
      refine o_initH (y := o_m37) (b := b313) (argsL := [(.ref x310), (.int 1), (.int 1)]) (S := [(.ref b313)]) (W := 1) rfl X313 hx hZ hS0 hown (k_ 37 rfl) (k_ 38 rfl) (k_ 39 rfl) (by decide) (backOfSH (W := 1) (rmct1 l Z a0 hw [] b313 x310 (1 : Int32) (1 : Int32) t310 ca zC_ h313 n0 O313 A313 F313_core F313_anyBefore F313_anyAfter g_b313 c315 (o_nostar1 s_ca) (by decide) (by decide) SC_ hC_) hZ (k_ 39 rfl) (k_ 36 rfl) (by decide) (by decide) hEL C314.1) e313 (Nat.le_trans (Nat.le_trans hk0 Kp310.1) E313.1) (by rw [hml]; rfl) (lenOf o_pd__28Ljava_2flang_2fString_3bZZ_29V rfl) rfl (Nat.le_of_eq rfl) (y_ at_164) (by decide) (by decide) (fun T316 L316 v316 k316 X316 hS316 hk316 hZ316 hown316 hQ316 hC316 => ?_)
      obtain ⟨rfl, N316q, Kp316, Ex316, Fk316, Fb316, Fa316⟩ := hQ316
      have N316 := Fr.app N310 N316q
      have O317 := Old.keep O313 Kp316 (allS g_b313 all0)
      have C318 := CHr.trans C314 (hC316)
      show o_G p e below _ T316 (mkF m 167 #[vI p1, vI p2, vI p3, vI p4, vI 1, vI 1, vI 1, vI ca, vI cb, vI cc, vR x310, .unset, .unset, .unset, .unset] [(.ref b313)])
      refine o_astore X316 hx (y_ at_167) rfl (A' := #[vI p1, vI p2, vI p3, vI p4, vI 1, vI 1, vI 1, vI ca, vI cb, vI cc, vR x310, vR b313, .unset, .unset, .unset]) rfl ?_
      refine o_aload X316 hx (y_ at_169) rfl rfl ?_
      have c319 := (o_Str.keep c315 Kp316 (ninS (o_ng Sf310.lt gg313) nin0) (ninS (o_ng Sf310.lt2 gg313) nin0))
      refine o_virtualH (y := o_m30) (z := o_m30) (b := b313) (argsL := []) (S := []) (W := 0) X316 hx hZ316 hS316 hown316 (k_ 101 rfl) (k_ 102 rfl) (notFace_of_selects (args := #[]) (mvT hZ316 (k_ 104 rfl))) (k_ 104 rfl) (k_ 103 rfl) (by decide) (backOfSH (W := 0) (rmtsn l Z a0 hw [] b313 x310 (1 : Int32) (1 : Int32) t310 ([ca] : List Int32) zC_ T316.heap n0 O317 Fk316 Fb316 Fa316 c319 (o_b rfl) SC_ hC_) hZ316 (k_ 105 rfl) (k_ 36 rfl) (by decide) (by decide) hEL C318.1) rfl hk316 Ex316 (by rw [hml]; rfl) (lenOf o_pd__28_29Ljava_2flang_2fString_3b rfl) rfl (Nat.le_of_eq rfl) (y_ at_171) (by decide) (by decide) (fun T320 L320 v320 k320 X320 hS320 hk320 hZ320 hown320 hQ320 hC320 => ?_)
      obtain ⟨x320, t320, rfl, N320q, Kp320, g_x320, hx320, g_t320, ht320, hne320, Sf320⟩ := hQ320
      have N320 := Fr.app N316 N320q
      have O321 := Old.keep O317 Kp320 all0
      have C322 := CHr.trans C318 (hC320)
      have Sg320 : o_Str Z T320.heap x320 t320 ([(42 : Int32), ca, (42 : Int32)] : List Int32) := by simpa [o_wr] using Sf320
      show o_G p e below _ T320 (mkF m 174 #[vI p1, vI p2, vI p3, vI p4, vI 1, vI 1, vI 1, vI ca, vI cb, vI cc, vR x310, vR b313, .unset, .unset, .unset] [(.ref x320)])
      refine o_astore X320 hx (y_ at_174) rfl (A' := #[vI p1, vI p2, vI p3, vI p4, vI 1, vI 1, vI 1, vI ca, vI cb, vI cc, vR x310, vR b313, vR x320, .unset, .unset]) rfl ?_
      refine o_iload X320 hx (y_ at_176) rfl ?_
      refine o_iFF X320 hx (y_ at_178) ?_
      refine o_iconst X320 hx (y_ at_181) (x := 1) rfl ?_
      refine o_gO (t := 186) X320 hx (y_ at_182) ?_
      refine o_istore X320 hx (y_ at_186) (A' := #[vI p1, vI p2, vI p3, vI p4, vI 1, vI 1, vI 1, vI ca, vI cb, vI cc, vR x310, vR b313, vR x320, vI 1, .unset]) rfl ?_
      refine o_iload X320 hx (y_ at_188) rfl ?_
      refine o_iload X320 hx (y_ at_190) rfl ?_
      refine o_iadd X320 hx (y_ at_192) ?_
      refine o_valE (z := 2) (by decide) ?_
      refine o_iload X320 hx (y_ at_193) rfl ?_
      refine o_iFF X320 hx (y_ at_195) ?_
      refine o_iconst X320 hx (y_ at_198) (x := 1) rfl ?_
      refine o_gO (t := 203) X320 hx (y_ at_199) ?_
      refine o_iadd X320 hx (y_ at_203) ?_
      refine o_valE (z := 3) (by decide) ?_
      refine o_istore X320 hx (y_ at_204) (A' := #[vI p1, vI p2, vI p3, vI p4, vI 1, vI 1, vI 1, vI ca, vI cb, vI cc, vR x310, vR b313, vR x320, vI 1, vI 3]) rfl ?_
      refine o_aload X320 hx (y_ at_206) rfl rfl ?_
      refine o_vir (y := o_m2) (b := x320) (argsL := []) (S := []) (W := 0) X320 hx hZ320 hown320 (k_ 215 rfl) (k_ 139 rfl) (k_ 141 rfl) (k_ 140 rfl) (backOf (W := 0) (rmlen l Z a0 hw [] x320 t320 ([(42 : Int32), ca, (42 : Int32)] : List Int32) zC_ T320.heap n0 O321 Sg320 SC_ hC_) hZ320 (k_ 142 rfl) (k_ 6 rfl) (by decide) (by decide)) rfl Sg320.1 hml (lenOf o_pd__28_29I rfl) (y_ at_208) (fun T323 L323 v323 X323 hQ323 => ?_)
      obtain ⟨rfl, N323q, hh323⟩ := hQ323
      have N323 := Fr.app N320 N323q
      show o_G p e below _ T323 (mkF m 211 #[vI p1, vI p2, vI p3, vI p4, vI 1, vI 1, vI 1, vI ca, vI cb, vI cc, vR x310, vR b313, vR x320, vI 1, vI 3] [(.int (Int32.ofNat ([(42 : Int32), ca, (42 : Int32)] : List Int32).length))])
      refine o_valE (z := 3) rfl ?_
      refine o_iload X323 hx (y_ at_211) rfl ?_
      refine o_iCT (t := 218) X323 hx (y_ at_213) ?_
      refine o_iload X323 hx (y_ at_218) rfl ?_
      refine o_iFF X323 hx (y_ at_220) ?_
      refine o_aload X323 hx (y_ at_223) rfl rfl ?_
      refine o_iconst X323 hx (y_ at_225) (x := 0) rfl ?_
      refine o_vir (y := o_m40) (b := x320) (argsL := [(.int 0)]) (S := []) (W := 0) X323 hx hZ320 hown320 (k_ 216 rfl) (k_ 217 rfl) (k_ 219 rfl) (k_ 218 rfl) (o_chB (W := 0) (i := 0) hZ320 hw (k_ 5 rfl) O321 Sg320 SC_ hC_ S_f hfm (o_b rfl) rfl (by decide) (by decide)) hh323 Sg320.1 hml (lenOf o_pd__28I_29C rfl) (y_ at_226) (fun T324 L324 v324 X324 hQ324 => ?_)
      obtain ⟨rfl, rfl, hh324⟩ := hQ324
      have N324 := Fr.app N323 (Fr.nil n0)
      show o_G p e below _ T324 (mkF m 229 #[vI p1, vI p2, vI p3, vI p4, vI 1, vI 1, vI 1, vI ca, vI cb, vI cc, vR x310, vR b313, vR x320, vI 1, vI 3] [(.int 42)])
      refine o_bipush X324 hx (y_ at_229) (x := 42) rfl ?_
      refine o_iCT (t := 236) X324 hx (y_ at_231) ?_
      refine o_iload X324 hx (y_ at_236) rfl ?_
      refine o_iFF X324 hx (y_ at_238) ?_
      refine o_aload X324 hx (y_ at_241) rfl rfl ?_
      refine o_iload X324 hx (y_ at_243) rfl ?_
      refine o_iconst X324 hx (y_ at_245) (x := 1) rfl ?_
      refine o_isub X324 hx (y_ at_246) ?_
      refine o_valE (z := 2) (by decide) ?_
      refine o_vir (y := o_m40) (b := x320) (argsL := [(.int 2)]) (S := []) (W := 0) X324 hx hZ320 hown320 (k_ 216 rfl) (k_ 217 rfl) (k_ 219 rfl) (k_ 218 rfl) (o_chB (W := 0) (i := 2) hZ320 hw (k_ 5 rfl) O321 Sg320 SC_ hC_ S_f hfm (o_b rfl) rfl (by decide) (by decide)) hh324 Sg320.1 hml (lenOf o_pd__28I_29C rfl) (y_ at_247) (fun T325 L325 v325 X325 hQ325 => ?_)
      obtain ⟨rfl, rfl, hh325⟩ := hQ325
      have N325 := Fr.app N324 (Fr.nil n0)
      show o_G p e below _ T325 (mkF m 250 #[vI p1, vI p2, vI p3, vI p4, vI 1, vI 1, vI 1, vI ca, vI cb, vI cc, vR x310, vR b313, vR x320, vI 1, vI 3] [(.int 42)])
      refine o_bipush X325 hx (y_ at_250) (x := 42) rfl ?_
      refine o_iCT (t := 257) X325 hx (y_ at_252) ?_
      refine o_iload X325 hx (y_ at_257) rfl ?_
      refine o_iFF X325 hx (y_ at_259) ?_
      refine o_aload X325 hx (y_ at_262) rfl rfl ?_
      refine o_iload X325 hx (y_ at_264) rfl ?_
      refine o_vir (y := o_m40) (b := x320) (argsL := [(.int 1)]) (S := []) (W := 0) X325 hx hZ320 hown320 (k_ 216 rfl) (k_ 217 rfl) (k_ 219 rfl) (k_ 218 rfl) (o_chB (W := 0) (i := 1) hZ320 hw (k_ 5 rfl) O321 Sg320 SC_ hC_ S_f hfm (o_b rfl) rfl (by decide) (by decide)) hh325 Sg320.1 hml (lenOf o_pd__28I_29C rfl) (y_ at_266) (fun T326 L326 v326 X326 hQ326 => ?_)
      obtain ⟨rfl, rfl, hh326⟩ := hQ326
      have N326 := Fr.app N325 (Fr.nil n0)
      show o_G p e below _ T326 (mkF m 269 #[vI p1, vI p2, vI p3, vI p4, vI 1, vI 1, vI 1, vI ca, vI cb, vI cc, vR x310, vR b313, vR x320, vI 1, vI 3] [(.int ca)])
      refine o_iload X326 hx (y_ at_269) rfl ?_
      refine o_iC (t := 276) X326 hx (y_ at_271) (fun hq => ?_) (fun hq => ?_)
      · have hc271 := o_c_eq.1 hq
        refine o_iload X326 hx (y_ at_276) rfl ?_
        refine o_iconst X326 hx (y_ at_278) (x := 1) rfl ?_
        refine o_iCT (t := 298) X326 hx (y_ at_279) ?_
        refine o_iload X326 hx (y_ at_298) rfl ?_
        refine o_iconst X326 hx (y_ at_300) (x := 2) rfl ?_
        refine o_iCT (t := 320) X326 hx (y_ at_301) ?_
        refine o_iconst X326 hx (y_ at_320) (x := 1) rfl ?_
        exact o_retNW X326 hx hS320 (by rw [hh326]; exact hk320) (t := .boolean) hrt hlk (by simp) (y_ at_321) rfl (by decide) (by decide) (o_hQ hh326 ⟨rfl, N326⟩)
      have hc271 := o_c_eq.2 hq
      exact absurd rfl hc271
    have hc70 := o_h_ne.2 hq
    exact absurd hc70 hc53
  have hc53 := o_h_ne.2 hq
  obtain rfl : kl = 0 := hc53
  refine o_iload X248 hx (y_ at_56) rfl ?_
  refine o_iFF X248 hx (y_ at_58) ?_
  refine o_iload X248 hx (y_ at_61) rfl ?_
  refine o_iFF X248 hx (y_ at_63) ?_
  refine o_iconst X248 hx (y_ at_66) (x := 1) rfl ?_
  exact o_retNW X248 hx hS0 (by rw [hh248]; exact hk0) (t := .boolean) hrt hlk (by simp) (y_ at_67) rfl (by decide) (by decide) (o_hQ hh248 ⟨rfl, N248⟩)
set_option maxRecDepth 65536 in
set_option maxHeartbeats 40000000 in
theorem comes_1 {Post : Tables → Env → Array Value → State → Outcome → State → Prop} (hpost : ∀ tb e args s v u, (limb_1_1.after args s (.returned v) u = true ∧ limb_1_2.after args s (.returned v) u = true) → ReturnedEndW s (.returned v) u (Jvm.fieldLocs frame_1_writes args s ++ Jvm.arrayLocs frame_1_arrays args s ++ Jvm.staticLocs frame_1_statics s) 32 4288 → Post tb e args s (.returned v) u) :
    ArmFor flags0 classFile x code maxLocals ret World_1 tables_1 room_1 Calls_1 rest_1 Pre_1 Post := by
  intro l hfl _ _ p e ha hc hk s m args below hf hA hF happ hP
  obtain ⟨hcalls, hrest, hpre⟩ := hP
  obtain ⟨-, -, -, hnamed, -, -, -, hat⟩ := (Spec.applies_iff hf).mp happ
  obtain ⟨hg, hn⟩ := and_e (Cond.before_iff.mp (show (Jvm.Cond.and given_1 narrow_1).before args s = true from hpre))
  obtain ⟨hg0, hgr0⟩ := and_e hg
  obtain ⟨hg1, hgr1⟩ := and_e hgr0
  obtain ⟨hg2, hgr2⟩ := and_e hgr1
  obtain ⟨hg3, hgr3⟩ := and_e hgr2
  have hg4 := hgr3
  obtain ⟨w0, w1, w2, w3, rfl⟩ : ∃ w0 w1 w2 w3 : Value, args = #[w0, w1, w2, w3] := by
    have hs : args.size = 4 := by simpa [Cond.value, given_1] using hg0
    obtain ⟨L⟩ := args
    match L, hs with
    | [w0, w1, w2, w3], _ => exact ⟨w0, w1, w2, w3, rfl⟩
  have hw := fun d (hd : d ∈ tables_1) => atoms_spec (ws := Jvm.Cond.code x code maxLocals ret :: tables_1) hat d (List.mem_cons_of_mem _ hd)
  obtain ⟨hsets, hown0⟩ := atoms_of _ (rest_1_c_eq ▸ (show rest_1_c.before _ s = true from hrest))
  obtain ⟨i0, ei0⟩ := is_v hg1
  obtain rfl : w0 = (.int i0) := Option.some.inj ei0
  obtain ⟨i1, ei1⟩ := is_v hg2
  obtain rfl : w1 = (.int i1) := Option.some.inj ei1
  obtain ⟨i2, ei2⟩ := is_v hg3
  obtain rfl : w2 = (.int i2) := Option.some.inj ei2
  obtain ⟨i3, ei3⟩ := is_v hg4
  obtain rfl : w3 = (.int i3) := Option.some.inj ei3
  have hn0 := hn
  obtain ⟨zC_, eC_⟩ := is_v (Cond.before_iff.mp (hsets _ (List.mem_of_getElem? (i := 1) rfl)))
  have SC_ := Sta.start eC_ (Or.inl (hsets _ (List.mem_of_getElem? (i := 0) rfl)))
  have hC_ : ¬ zC_ = 0 := o_not_zero (Cond.before_iff.mp (hsets _ (List.mem_of_getElem? (i := 2) rfl))) eC_
  have hCH : CHv s o_EL s.vm s.heap := CHv.start (o_EWs hw) (fun p hp => hcalls.1 p (o_ELsub p hp)) (by exact (hsets _ (List.mem_of_getElem? (i := 2) rfl))) (o_k hw 23 rfl) (o_k hw 5 rfl)
  obtain ⟨fm, efm, hfm⟩ := isR_v (Cond.before_iff.mp (hsets _ (List.mem_of_getElem? (i := 8) rfl)))
  have S_f := Sta.start efm (Or.inl (hsets _ (List.mem_of_getElem? (i := 7) rfl)))
  obtain ⟨n, o, h1, h2, h3, _, L, rfl, ⟨rfl, N⟩, hq⟩ := rm0 l s _ hw tables_1 i0 i1 i2 i3 zC_ fm s.heap s.heap.size (Old.start s) SC_ hC_ S_f hfm p e ha hc hk s m _ below hf ((Spec.applies_iff_loose hf).mp happ).1 ⟨rfl, State.Warmed39.refl s, rfl, hCH⟩ trivial
  refine ⟨n, _, h1, h2, h3, hpost _ _ _ _ _ _ ⟨Cond.after_iff.mpr rfl, Cond.after_iff.mpr (eq_i res_at (Term.int_eval (1)) rfl)⟩ ⟨hq.1, hq.2.1, hq.2.2.1, (hq.2.2.2.sift fun y hy => Or.inr (N y hy)).mono (by decide) (by decide)⟩⟩
theorem main_1_1 : Claimed_1_1 := comes_1 fun _ _ _ _ _ _ h hF => ⟨h.1, hF⟩
theorem main_1_2 : Claimed_1_2 := comes_1 fun _ _ _ _ _ _ h hF => ⟨h.2, hF⟩
end Jvm.Pilot.@@N@@
namespace Jvm.Pilot.@@N@@
open Jvm Jvm.ClassFile Sem Op Lib Jvm.Free Jvm.Stand Jvm.Pilot.@@N@@.Jvm.D
/-! MADE BY PROGRAM (witnessworld.py) out of the Statement's table words and the real class files: 28 classes; the members and pool entries that the words name. The judged class is class 1, her method 2. -/
namespace start1
open Jvm.ClassFile
def u (s : String) : CpInfo := .utf8 (stringToUtf16 s)
/-- a pool by its gaps: so many unusable entries, then the entry; so many at the end -/
def gap : Nat → List CpInfo → List CpInfo
  | 0, r => r
  | n + 1, r => .unusable :: gap n r
def poolList (es : List (Nat × CpInfo)) (last : Nat) : List CpInfo := es.foldr (fun e r => gap e.1 (e.2 :: r)) (gap last [])
def pool (es : List (Nat × CpInfo)) (last : Nat) : Array CpInfo := ⟨poolList es last⟩
def fileOf (pool : Array CpInfo) (this : Nat) (attrs : Array Attribute := #[]) (ms : Array MethodInfo := #[]) (fl : Nat := 33) (sup : Nat := 0) (ifs : Array Nat := #[]) (fds : Array FieldInfo := #[]) : ClassFile where
  minorVersion := 0
  majorVersion := 65
  constantPool := pool
  accessFlags := fl
  thisClass := this
  superClass := sup
  interfaces := ifs
  fields := fds
  methods := ms
  attributes := attrs
def plain (name : String) (sup : Option ClassId) : Class where
  name := name
  kind := .ordinary
  loader := none
  accessFlags := 33
  super := sup
  interfaces := #[]
  cf := none
  fields := #[]
  methods := #[]
  instanceTypes := #[]
  staticTypes := #[]
  resolved := #[]
  callSites := []
  init := .initialized
  statics := none
  mirror := none

def pool0 : Array CpInfo := pool [(5, u "<init>"), (0, u "()V"), (1, .class_ 10), (1, u "java/lang/Object")] 113

def k0c0 : Code := { maxStack := 0, maxLocals := 1, code := object_method_1_code, exceptionTable := #[], attributes := #[] }
def k0m0 : Method := { name := "<init>", desc := "()V", sig := { parameters := [], returnType := none }, accessFlags := 1, code := some k0c0 }
/-- java/lang/Object -/
def k0 : Class := { plain "java/lang/Object" none with
  accessFlags := 33
  interfaces := #[]
  cf := some (fileOf pool0 8 #[] #[{ accessFlags := 1, nameIndex := 5, descriptorIndex := 6, attributes := #[] }] 33 0 #[] #[])
  fields := #[]
  methods := #[k0m0]
  instanceTypes := #[]
  staticTypes := #[]
  resolved := Array.replicate 124 none
  statics := none }

def pool1 : Array CpInfo := pool [(2, .class_ 4), (1, u "java/lang/Object"), (0, u "<init>"), (0, u "()V"), (0, .methodref 8 9), (0, .class_ 10), (0, .nameAndType 11 12), (0, u "org/adviceweft/pointcut/NamePatternToStringPinLaw"), (0, u "ch"), (0, u "(I)C"), (0, .string 14), (0, u ""), (0, .methodref 16 17), (0, .class_ 18), (0, .nameAndType 19 20), (0, u "java/lang/String"), (0, u "valueOf"), (0, u "(C)Ljava/lang/String;"), (0, .methodref 16 22), (0, .nameAndType 5 23), (0, u "([C)V"), (0, .class_ 25), (0, u "org/adviceweft/pointcut/NamePattern"), (0, .methodref 24 27), (0, .nameAndType 5 28), (0, u "(Ljava/lang/String;ZZ)V"), (0, .methodref 24 30), (0, .nameAndType 31 32), (0, u "toString"), (0, u "()Ljava/lang/String;"), (0, .methodref 16 34), (0, .nameAndType 35 36), (0, u "length"), (0, u "()I"), (0, .methodref 16 38), (0, .nameAndType 39 12), (0, u "charAt"), (3, u "law"), (0, u "(IIII)Z")] 2

def k1m0 : Method := { name := "<init>", desc := "()V", sig := { parameters := [], returnType := none }, accessFlags := 1, code := none }
def k1c1 : Code := { maxStack := 2, maxLocals := 2, code := method_2_code, exceptionTable := #[], attributes := #[] }
def k1m1 : Method := { name := "ch", desc := "(I)C", sig := { parameters := [.int], returnType := some .char }, accessFlags := 10, code := some k1c1 }
def k1c2 : Code := { maxStack := 6, maxLocals := 15, code := code, exceptionTable := #[], attributes := #[] }
def k1m2 : Method := { name := "law", desc := "(IIII)Z", sig := { parameters := [.int, .int, .int, .int], returnType := some .boolean }, accessFlags := 9, code := some k1c2 }
/-- org/adviceweft/pointcut/NamePatternToStringPinLaw -/
def k1 : Class := { plain "org/adviceweft/pointcut/NamePatternToStringPinLaw" (some 0) with
  accessFlags := 49
  interfaces := #[]
  cf := some (fileOf pool1 8 #[] #[{ accessFlags := 1, nameIndex := 5, descriptorIndex := 6, attributes := #[] }, { accessFlags := 10, nameIndex := 11, descriptorIndex := 12, attributes := #[] }, { accessFlags := 9, nameIndex := 43, descriptorIndex := 44, attributes := #[] }] 49 2 #[] #[])
  fields := #[]
  methods := #[k1m0, k1m1, k1m2]
  instanceTypes := #[]
  staticTypes := #[]
  resolved := Array.replicate 47 none
  statics := none }

def pool2 : Array CpInfo := pool [(1, .class_ 2), (0, u "java/io/Serializable"), (0, .class_ 4), (0, u "java/lang/Object")] 2

/-- java/io/Serializable -/
def k2 : Class := { plain "java/io/Serializable" (some 0) with
  accessFlags := 1537
  interfaces := #[]
  cf := some (fileOf pool2 1 #[] #[] 1537 3 #[] #[])
  fields := #[]
  methods := #[]
  instanceTypes := #[]
  staticTypes := #[]
  resolved := Array.replicate 7 none
  statics := none }

def pool3 : Array CpInfo := pool [(1, .class_ 2), (0, u "java/lang/Comparable"), (0, .class_ 4), (0, u "java/lang/Object")] 7

/-- java/lang/Comparable -/
def k3 : Class := { plain "java/lang/Comparable" (some 0) with
  accessFlags := 1537
  interfaces := #[]
  cf := some (fileOf pool3 1 #[] #[] 1537 3 #[] #[])
  fields := #[]
  methods := #[]
  instanceTypes := #[]
  staticTypes := #[]
  resolved := Array.replicate 12 none
  statics := none }

def pool4 : Array CpInfo := pool [(2, .class_ 4), (1, u "java/lang/CharSequence"), (42, .class_ 48), (0, u "java/lang/CharSequence$1CodePointIterator"), (10, .class_ 60), (0, u "java/lang/CharSequence$1CharIterator"), (5, .class_ 67), (0, u "java/lang/Object"), (10, u "toString"), (0, u "()Ljava/lang/String;")] 51

def k4m0 : Method := { name := "toString", desc := "()Ljava/lang/String;", sig := { parameters := [], returnType := some (.object "java/lang/String") }, accessFlags := 1025, code := none }
/-- java/lang/CharSequence -/
def k4 : Class := { plain "java/lang/CharSequence" (some 0) with
  accessFlags := 1537
  interfaces := #[]
  cf := some (fileOf pool4 2 #[.nestMembers #[47, 59]] #[{ accessFlags := 1025, nameIndex := 78, descriptorIndex := 79, attributes := #[] }] 1537 66 #[] #[])
  fields := #[]
  methods := #[k4m0]
  instanceTypes := #[]
  staticTypes := #[]
  resolved := Array.replicate 131 none
  statics := none }

def pool5 : Array CpInfo := pool [(1, .class_ 2), (0, u "java/lang/constant/Constable"), (0, .class_ 4), (0, u "java/lang/Object")] 6

/-- java/lang/constant/Constable -/
def k5 : Class := { plain "java/lang/constant/Constable" (some 0) with
  accessFlags := 1537
  interfaces := #[]
  cf := some (fileOf pool5 1 #[] #[] 1537 3 #[] #[])
  fields := #[]
  methods := #[]
  instanceTypes := #[]
  staticTypes := #[]
  resolved := Array.replicate 11 none
  statics := none }

def pool6 : Array CpInfo := pool [(1, .class_ 2), (0, u "java/lang/constant/ConstantDesc"), (0, .class_ 4), (0, u "java/lang/Object")] 32

/-- java/lang/constant/ConstantDesc -/
def k6 : Class := { plain "java/lang/constant/ConstantDesc" (some 0) with
  accessFlags := 1537
  interfaces := #[]
  cf := some (fileOf pool6 1 #[] #[] 1537 3 #[] #[])
  fields := #[]
  methods := #[]
  instanceTypes := #[]
  staticTypes := #[]
  resolved := Array.replicate 37 none
  statics := none }

def pool7 : Array CpInfo := pool [(1, .methodref 2 3), (0, .class_ 4), (0, .nameAndType 5 6), (0, u "java/lang/Object"), (0, u "<init>"), (0, u "()V"), (2, .fieldref 10 11), (0, .class_ 12), (0, .nameAndType 13 14), (0, u "java/lang/String"), (0, u "value"), (0, u "[B"), (0, .fieldref 10 16), (0, .nameAndType 17 18), (0, u "coder"), (0, u "B"), (2, u "hash"), (0, u "I"), (2, u "hashIsZero"), (0, u "Z"), (0, .methodref 10 28), (0, .nameAndType 5 29), (0, u "([CIILjava/lang/Void;)V"), (8, .fieldref 10 39), (0, .nameAndType 40 26), (0, u "COMPACT_STRINGS"), (1, .class_ 44), (1, u "java/lang/StringUTF16"), (0, u "compress"), (1, .methodref 42 48), (0, .nameAndType 49 50), (0, u "coderFromArrayLen"), (0, u "([BI)B"), (2, u "toBytes"), (0, .methodref 55 56), (0, .class_ 57), (0, .nameAndType 58 59), (0, u "java/util/Arrays"), (0, u "copyOfRange"), (0, u "([BII)[B"), (47, .class_ 109), (1, u "java/lang/StringLatin1"), (32, u "()Z"), (34, .methodref 42 178), (0, .nameAndType 45 179), (0, u "([CII)[B"), (13, .class_ 195), (1, u "java/lang/System"), (13, .methodref 10 210), (0, .nameAndType 5 211), (0, u "([BB)V"), (0, .methodref 193 213), (0, .nameAndType 214 215), (0, u "arraycopy"), (0, u "(Ljava/lang/Object;ILjava/lang/Object;II)V"), (118, u "()I"), (0, .methodref 10 336), (0, .nameAndType 17 337), (0, u "()B"), (2, u "()[B"), (22, u "([BI)C"), (5, u "(C)Z"), (21, u "(II)V"), (35, u "(I)C"), (34, .nameAndType 463 464), (0, u "toString"), (0, u "()Ljava/lang/String;"), (24, .methodref 10 490), (0, .nameAndType 5 491), (0, u "(Ljava/lang/AbstractStringBuilder;Ljava/lang/Void;)V"), (0, .methodref 10 493), (0, .nameAndType 494 142), (0, u "isLatin1"), (0, .methodref 107 496), (0, .nameAndType 497 363), (0, u "charAt"), (3, u "checkIndex"), (4, .nameAndType 507 334), (0, u "length"), (24, u "getBytes"), (15, u "(Ljava/lang/CharSequence;)Z"), (0, .methodref 550 506), (0, .class_ 551), (0, u "java/lang/AbstractStringBuilder"), (0, .methodref 550 553), (0, .nameAndType 554 340), (0, u "getValue"), (20, .class_ 576), (0, u "java/lang/CharSequence"), (12, u "([B[B)I"), (9, u "CASE_INSENSITIVE_ORDER"), (0, u "Ljava/util/Comparator;"), (34, u "indexOf"), (11, .methodref 107 648), (0, .nameAndType 635 589), (43, u "isEmpty"), (17, .interfaceMethodref 575 462), (0, .methodref 10 712), (0, .nameAndType 635 713), (0, u "(Ljava/lang/String;)I"), (68, u "valueOf"), (0, u "(C)Ljava/lang/String;"), (37, u "([BIB)V"), (188, u "([C)V"), (4, .methodref 107 1016), (0, .nameAndType 1017 369), (0, u "canEncode"), (0, .methodref 107 1019), (0, .nameAndType 53 1020), (0, u "(C)[B"), (26, .methodref 550 493), (5, .fieldref 1054 1055), (0, .class_ 1056), (0, .nameAndType 1057 1058), (0, u "jdk/internal/util/Preconditions"), (0, u "SIOOBE_FORMATTER"), (0, u "Ljava/util/function/BiFunction;"), (0, .methodref 1054 1060), (0, .nameAndType 501 1061), (0, u "(IILjava/util/function/BiFunction;)I"), (39, u "serialPersistentFields"), (0, u "[Ljava/io/ObjectStreamField;"), (0, .class_ 1104), (0, u "java/lang/String$CaseInsensitiveComparator"), (1, .class_ 1107), (0, u "java/io/Serializable"), (0, .class_ 1109), (0, u "java/lang/Comparable"), (0, .class_ 1111), (0, u "java/lang/constant/Constable"), (0, .class_ 1113), (0, u "java/lang/constant/ConstantDesc"), (2, u "serialVersionUID"), (0, u "J"), (3, u "REPL"), (0, u "C"), (2, u "LATIN1"), (1, u "UTF16"), (105, u "(Ljava/lang/StringBuilder;)V"), (57, u "contains")] 159

def k7m0 : Method := { name := "<init>", desc := "()V", sig := { parameters := [], returnType := none }, accessFlags := 1, code := none }
def k7c1 : Code := { maxStack := 5, maxLocals := 2, code := jdk_42_method_3_code, exceptionTable := #[], attributes := #[] }
def k7m1 : Method := { name := "<init>", desc := "([C)V", sig := { parameters := [(.array .char)], returnType := none }, accessFlags := 1, code := some k7c1 }
def k7c2 : Code := { maxStack := 3, maxLocals := 2, code := jdk_42_method_53_code, exceptionTable := #[], attributes := #[] }
def k7m2 : Method := { name := "<init>", desc := "(Ljava/lang/StringBuilder;)V", sig := { parameters := [(.object "java/lang/StringBuilder")], returnType := none }, accessFlags := 1, code := some k7c2 }
def k7c3 : Code := { maxStack := 2, maxLocals := 1, code := jdk_42_method_54_code, exceptionTable := #[], attributes := #[] }
def k7m3 : Method := { name := "length", desc := "()I", sig := { parameters := [], returnType := some .int }, accessFlags := 1, code := some k7c3 }
def k7c4 : Code := { maxStack := 1, maxLocals := 1, code := jdk_42_method_55_code, exceptionTable := #[], attributes := #[] }
def k7m4 : Method := { name := "isEmpty", desc := "()Z", sig := { parameters := [], returnType := some .boolean }, accessFlags := 1, code := some k7c4 }
def k7c5 : Code := { maxStack := 2, maxLocals := 2, code := jdk_42_method_56_code, exceptionTable := #[], attributes := #[] }
def k7m5 : Method := { name := "charAt", desc := "(I)C", sig := { parameters := [.int], returnType := some .char }, accessFlags := 1, code := some k7c5 }
def k7c6 : Code := { maxStack := 2, maxLocals := 3, code := jdk_42_method_84_code, exceptionTable := #[], attributes := #[] }
def k7m6 : Method := { name := "indexOf", desc := "(Ljava/lang/String;)I", sig := { parameters := [(.object "java/lang/String")], returnType := some .int }, accessFlags := 1, code := some k7c6 }
def k7c7 : Code := { maxStack := 2, maxLocals := 2, code := jdk_42_method_97_code, exceptionTable := #[], attributes := #[] }
def k7m7 : Method := { name := "contains", desc := "(Ljava/lang/CharSequence;)Z", sig := { parameters := [(.object "java/lang/CharSequence")], returnType := some .boolean }, accessFlags := 1, code := some k7c7 }
def k7c8 : Code := { maxStack := 1, maxLocals := 1, code := jdk_42_method_126_code, exceptionTable := #[], attributes := #[] }
def k7m8 : Method := { name := "toString", desc := "()Ljava/lang/String;", sig := { parameters := [], returnType := some (.object "java/lang/String") }, accessFlags := 1, code := some k7c8 }
def k7c9 : Code := { maxStack := 4, maxLocals := 1, code := jdk_42_method_139_code, exceptionTable := #[], attributes := #[] }
def k7m9 : Method := { name := "valueOf", desc := "(C)Ljava/lang/String;", sig := { parameters := [.char], returnType := some (.object "java/lang/String") }, accessFlags := 9, code := some k7c9 }
def k7c10 : Code := { maxStack := 5, maxLocals := 4, code := jdk_42_method_147_code, exceptionTable := #[], attributes := #[] }
def k7m10 : Method := { name := "getBytes", desc := "([BIB)V", sig := { parameters := [(.array .byte), .int, .byte], returnType := none }, accessFlags := 0, code := some k7c10 }
def k7c11 : Code := { maxStack := 4, maxLocals := 6, code := jdk_42_method_149_code, exceptionTable := #[], attributes := #[] }
def k7m11 : Method := { name := "<init>", desc := "([CIILjava/lang/Void;)V", sig := { parameters := [(.array .char), .int, .int, (.object "java/lang/Void")], returnType := none }, accessFlags := 2, code := some k7c11 }
def k7c12 : Code := { maxStack := 5, maxLocals := 5, code := jdk_42_method_150_code, exceptionTable := #[], attributes := #[] }
def k7m12 : Method := { name := "<init>", desc := "(Ljava/lang/AbstractStringBuilder;Ljava/lang/Void;)V", sig := { parameters := [(.object "java/lang/AbstractStringBuilder"), (.object "java/lang/Void")], returnType := none }, accessFlags := 0, code := some k7c12 }
def k7c13 : Code := { maxStack := 2, maxLocals := 3, code := jdk_42_method_151_code, exceptionTable := #[], attributes := #[] }
def k7m13 : Method := { name := "<init>", desc := "([BB)V", sig := { parameters := [(.array .byte), .byte], returnType := none }, accessFlags := 0, code := some k7c13 }
def k7c14 : Code := { maxStack := 1, maxLocals := 1, code := jdk_42_method_152_code, exceptionTable := #[], attributes := #[] }
def k7m14 : Method := { name := "coder", desc := "()B", sig := { parameters := [], returnType := some .byte }, accessFlags := 0, code := some k7c14 }
def k7c15 : Code := { maxStack := 1, maxLocals := 1, code := jdk_42_method_154_code, exceptionTable := #[], attributes := #[] }
def k7m15 : Method := { name := "isLatin1", desc := "()Z", sig := { parameters := [], returnType := some .boolean }, accessFlags := 0, code := some k7c15 }
def k7c16 : Code := { maxStack := 3, maxLocals := 2, code := jdk_42_method_155_code, exceptionTable := #[], attributes := #[] }
def k7m16 : Method := { name := "checkIndex", desc := "(II)V", sig := { parameters := [.int, .int], returnType := none }, accessFlags := 8, code := some k7c16 }
/-- java/lang/String -/
def k7 : Class := { plain "java/lang/String" (some 0) with
  accessFlags := 49
  interfaces := #[2, 3, 4, 5, 6]
  cf := some (fileOf pool7 10 #[.nestMembers #[1103]] #[{ accessFlags := 1, nameIndex := 5, descriptorIndex := 6, attributes := #[] }, { accessFlags := 1, nameIndex := 5, descriptorIndex := 1010, attributes := #[] }, { accessFlags := 1, nameIndex := 5, descriptorIndex := 1233, attributes := #[] }, { accessFlags := 1, nameIndex := 507, descriptorIndex := 334, attributes := #[] }, { accessFlags := 1, nameIndex := 692, descriptorIndex := 142, attributes := #[] }, { accessFlags := 1, nameIndex := 497, descriptorIndex := 427, attributes := #[] }, { accessFlags := 1, nameIndex := 635, descriptorIndex := 713, attributes := #[] }, { accessFlags := 1, nameIndex := 1291, descriptorIndex := 548, attributes := #[] }, { accessFlags := 1, nameIndex := 463, descriptorIndex := 464, attributes := #[] }, { accessFlags := 9, nameIndex := 782, descriptorIndex := 783, attributes := #[] }, { accessFlags := 0, nameIndex := 532, descriptorIndex := 821, attributes := #[] }, { accessFlags := 2, nameIndex := 5, descriptorIndex := 29, attributes := #[] }, { accessFlags := 0, nameIndex := 5, descriptorIndex := 491, attributes := #[] }, { accessFlags := 0, nameIndex := 5, descriptorIndex := 211, attributes := #[] }, { accessFlags := 0, nameIndex := 17, descriptorIndex := 337, attributes := #[] }, { accessFlags := 0, nameIndex := 494, descriptorIndex := 142, attributes := #[] }, { accessFlags := 8, nameIndex := 501, descriptorIndex := 391, attributes := #[] }] 49 2 #[1106, 1108, 575, 1110, 1112] #[{ accessFlags := 18, nameIndex := 13, descriptorIndex := 14, attributes := #[] }, { accessFlags := 18, nameIndex := 17, descriptorIndex := 18, attributes := #[] }, { accessFlags := 2, nameIndex := 21, descriptorIndex := 22, attributes := #[] }, { accessFlags := 2, nameIndex := 25, descriptorIndex := 26, attributes := #[] }, { accessFlags := 26, nameIndex := 1116, descriptorIndex := 1117, attributes := #[] }, { accessFlags := 24, nameIndex := 40, descriptorIndex := 26, attributes := #[] }, { accessFlags := 26, nameIndex := 1101, descriptorIndex := 1102, attributes := #[] }, { accessFlags := 26, nameIndex := 1121, descriptorIndex := 1122, attributes := #[] }, { accessFlags := 25, nameIndex := 599, descriptorIndex := 600, attributes := #[] }, { accessFlags := 24, nameIndex := 1125, descriptorIndex := 18, attributes := #[] }, { accessFlags := 24, nameIndex := 1127, descriptorIndex := 18, attributes := #[] }])
  fields := #[{ name := "value", type := (.array .byte), accessFlags := 18, slot := 0, constantValue := 0 }, { name := "coder", type := .byte, accessFlags := 18, slot := 1, constantValue := 0 }, { name := "hash", type := .int, accessFlags := 2, slot := 2, constantValue := 0 }, { name := "hashIsZero", type := .boolean, accessFlags := 2, slot := 3, constantValue := 0 }, { name := "serialVersionUID", type := .long, accessFlags := 26, slot := 0, constantValue := 0 }, { name := "COMPACT_STRINGS", type := .boolean, accessFlags := 24, slot := 1, constantValue := 0 }, { name := "serialPersistentFields", type := (.array (.object "java/io/ObjectStreamField")), accessFlags := 26, slot := 2, constantValue := 0 }, { name := "REPL", type := .char, accessFlags := 26, slot := 3, constantValue := 0 }, { name := "CASE_INSENSITIVE_ORDER", type := (.object "java/util/Comparator"), accessFlags := 25, slot := 4, constantValue := 0 }, { name := "LATIN1", type := .byte, accessFlags := 24, slot := 5, constantValue := 0 }, { name := "UTF16", type := .byte, accessFlags := 24, slot := 6, constantValue := 0 }]
  methods := #[k7m0, k7m1, k7m2, k7m3, k7m4, k7m5, k7m6, k7m7, k7m8, k7m9, k7m10, k7m11, k7m12, k7m13, k7m14, k7m15, k7m16]
  instanceTypes := #[(.array .byte), .byte, .int, .boolean]
  staticTypes := #[.long, .boolean, (.array (.object "java/io/ObjectStreamField")), .char, (.object "java/util/Comparator"), .byte, .byte]
  resolved := Array.replicate 1451 none
  statics := some 0 }

def pool8 : Array CpInfo := pool [(6, .class_ 8), (1, u "java/lang/Object"), (0, u "<init>"), (0, u "()V"), (1, .class_ 14), (1, u "java/lang/StringUTF16"), (31, u "$assertionsDisabled"), (0, u "Z"), (13, u "HI_BYTE_SHIFT"), (0, u "I"), (2, u "LO_BYTE_SHIFT"), (49, .methodref 12 116), (0, .nameAndType 117 118), (0, u "compress"), (0, u "([CI[BII)I"), (3, u "([CII)[B"), (138, u "coderFromArrayLen"), (0, u "([BI)B"), (106, .class_ 371), (1, u "java/lang/StringUTF16$LinesSpliterator"), (58, u "MAX_LENGTH"), (196, .class_ 628), (0, u "java/lang/StringUTF16$CodePointsSpliterator"), (0, .class_ 630), (0, u "java/lang/StringUTF16$CharsSpliterator")] 4

def k8m0 : Method := { name := "<init>", desc := "()V", sig := { parameters := [], returnType := none }, accessFlags := 0, code := none }
def k8c1 : Code := { maxStack := 2, maxLocals := 2, code := jdk_52_method_15_code, exceptionTable := #[], attributes := #[] }
def k8m1 : Method := { name := "coderFromArrayLen", desc := "([BI)B", sig := { parameters := [(.array .byte), .int], returnType := some .byte }, accessFlags := 8, code := some k8c1 }
def k8c2 : Code := { maxStack := 5, maxLocals := 6, code := jdk_52_method_16_code, exceptionTable := #[], attributes := #[] }
def k8m2 : Method := { name := "compress", desc := "([CII)[B", sig := { parameters := [(.array .char), .int, .int], returnType := some (.array .byte) }, accessFlags := 9, code := some k8c2 }
def k8c3 : Code := { maxStack := 3, maxLocals := 7, code := jdk_52_method_21_code, exceptionTable := #[], attributes := #[] }
def k8m3 : Method := { name := "compress", desc := "([CI[BII)I", sig := { parameters := [(.array .char), .int, (.array .byte), .int, .int], returnType := some .int }, accessFlags := 9, code := some k8c3 }
/-- java/lang/StringUTF16 -/
def k8 : Class := { plain "java/lang/StringUTF16" (some 0) with
  accessFlags := 48
  interfaces := #[]
  cf := some (fileOf pool8 12 #[.nestMembers #[627, 629, 369]] #[{ accessFlags := 0, nameIndex := 9, descriptorIndex := 10, attributes := #[] }, { accessFlags := 8, nameIndex := 261, descriptorIndex := 262, attributes := #[] }, { accessFlags := 9, nameIndex := 117, descriptorIndex := 122, attributes := #[] }, { accessFlags := 9, nameIndex := 117, descriptorIndex := 118, attributes := #[] }] 48 6 #[] #[{ accessFlags := 26, nameIndex := 61, descriptorIndex := 62, attributes := #[] }, { accessFlags := 26, nameIndex := 65, descriptorIndex := 62, attributes := #[] }, { accessFlags := 24, nameIndex := 430, descriptorIndex := 62, attributes := #[] }, { accessFlags := 4120, nameIndex := 46, descriptorIndex := 47, attributes := #[] }])
  fields := #[{ name := "HI_BYTE_SHIFT", type := .int, accessFlags := 26, slot := 0, constantValue := 0 }, { name := "LO_BYTE_SHIFT", type := .int, accessFlags := 26, slot := 1, constantValue := 0 }, { name := "MAX_LENGTH", type := .int, accessFlags := 24, slot := 2, constantValue := 0 }, { name := "$assertionsDisabled", type := .boolean, accessFlags := 4120, slot := 3, constantValue := 0 }]
  methods := #[k8m0, k8m1, k8m2, k8m3]
  instanceTypes := #[]
  staticTypes := #[.int, .int, .int, .boolean]
  resolved := Array.replicate 635 none
  statics := none }

def pool9 : Array CpInfo := pool [(1, .methodref 2 3), (0, .class_ 4), (0, .nameAndType 5 6), (0, u "java/lang/Object"), (0, u "<init>"), (0, u "()V"), (0, .class_ 8), (0, u "java/lang/Record")] 13

def k9c0 : Code := { maxStack := 1, maxLocals := 1, code := jdk_30_method_1_code, exceptionTable := #[], attributes := #[] }
def k9m0 : Method := { name := "<init>", desc := "()V", sig := { parameters := [], returnType := none }, accessFlags := 4, code := some k9c0 }
/-- java/lang/Record -/
def k9 : Class := { plain "java/lang/Record" (some 0) with
  accessFlags := 1057
  interfaces := #[]
  cf := some (fileOf pool9 7 #[] #[{ accessFlags := 4, nameIndex := 5, descriptorIndex := 6, attributes := #[] }] 1057 2 #[] #[])
  fields := #[]
  methods := #[k9m0]
  instanceTypes := #[]
  staticTypes := #[]
  resolved := Array.replicate 22 none
  statics := none }

def pool10 : Array CpInfo := pool [(1, .methodref 2 3), (0, .class_ 4), (0, .nameAndType 5 6), (0, u "java/lang/Record"), (0, u "<init>"), (0, u "()V"), (0, .string 8), (0, u "core"), (0, .methodref 10 11), (0, .class_ 12), (0, .nameAndType 13 14), (0, u "java/util/Objects"), (0, u "requireNonNull"), (0, u "(Ljava/lang/Object;Ljava/lang/String;)Ljava/lang/Object;"), (0, .class_ 16), (0, u "org/adviceweft/pointcut/NamePattern"), (0, .string 18), (0, u "*"), (0, .methodref 20 21), (0, .class_ 22), (0, .nameAndType 23 24), (0, u "java/lang/String"), (0, u "contains"), (0, u "(Ljava/lang/CharSequence;)Z"), (0, .methodref 20 26), (0, .nameAndType 27 28), (0, u "isEmpty"), (0, u "()Z"), (2, .class_ 32), (0, u "java/lang/StringBuilder"), (0, .methodref 31 3), (2, .methodref 31 37), (0, .nameAndType 38 39), (0, u "append"), (0, u "(Ljava/lang/String;)Ljava/lang/StringBuilder;"), (0, .methodref 15 41), (0, .nameAndType 42 43), (0, u "written"), (0, u "(Ljava/lang/String;ZZ)Ljava/lang/String;"), (2, .methodref 31 47), (0, .nameAndType 48 49), (0, u "toString"), (0, u "()Ljava/lang/String;"), (3, .fieldref 15 54), (0, .nameAndType 8 55), (0, u "Ljava/lang/String;"), (0, .fieldref 15 57), (0, .nameAndType 58 59), (0, u "anyBefore"), (0, u "Z"), (0, .fieldref 15 61), (0, .nameAndType 62 59), (0, u "anyAfter"), (6, .string 70), (0, u ""), (2, u "(Ljava/lang/String;ZZ)V"), (22, u "STAR")] 30

def k10c0 : Code := { maxStack := 6, maxLocals := 4, code := prog_8_method_1_code, exceptionTable := #[], attributes := #[] }
def k10m0 : Method := { name := "<init>", desc := "(Ljava/lang/String;ZZ)V", sig := { parameters := [(.object "java/lang/String"), .boolean, .boolean], returnType := none }, accessFlags := 1, code := some k10c0 }
def k10c1 : Code := { maxStack := 3, maxLocals := 1, code := prog_8_method_4_code, exceptionTable := #[], attributes := #[] }
def k10m1 : Method := { name := "toString", desc := "()Ljava/lang/String;", sig := { parameters := [], returnType := some (.object "java/lang/String") }, accessFlags := 1, code := some k10c1 }
def k10c2 : Code := { maxStack := 2, maxLocals := 3, code := prog_8_method_5_code, exceptionTable := #[], attributes := #[] }
def k10m2 : Method := { name := "written", desc := "(Ljava/lang/String;ZZ)Ljava/lang/String;", sig := { parameters := [(.object "java/lang/String"), .boolean, .boolean], returnType := some (.object "java/lang/String") }, accessFlags := 10, code := some k10c2 }
/-- org/adviceweft/pointcut/NamePattern -/
def k10 : Class := { plain "org/adviceweft/pointcut/NamePattern" (some 9) with
  accessFlags := 49
  interfaces := #[]
  cf := some (fileOf pool10 15 #[] #[{ accessFlags := 1, nameIndex := 5, descriptorIndex := 73, attributes := #[] }, { accessFlags := 1, nameIndex := 48, descriptorIndex := 49, attributes := #[] }, { accessFlags := 10, nameIndex := 42, descriptorIndex := 43, attributes := #[] }] 49 2 #[] #[{ accessFlags := 18, nameIndex := 8, descriptorIndex := 55, attributes := #[] }, { accessFlags := 18, nameIndex := 58, descriptorIndex := 59, attributes := #[] }, { accessFlags := 18, nameIndex := 62, descriptorIndex := 59, attributes := #[] }, { accessFlags := 26, nameIndex := 96, descriptorIndex := 55, attributes := #[] }])
  fields := #[{ name := "core", type := (.object "java/lang/String"), accessFlags := 18, slot := 0, constantValue := 0 }, { name := "anyBefore", type := .boolean, accessFlags := 18, slot := 1, constantValue := 0 }, { name := "anyAfter", type := .boolean, accessFlags := 18, slot := 2, constantValue := 0 }, { name := "STAR", type := (.object "java/lang/String"), accessFlags := 26, slot := 0, constantValue := 0 }]
  methods := #[k10m0, k10m1, k10m2]
  instanceTypes := #[(.object "java/lang/String"), .boolean, .boolean]
  staticTypes := #[(.object "java/lang/String")]
  resolved := Array.replicate 127 none
  statics := none }

def pool11 : Array CpInfo := pool [(2, .class_ 4), (1, u "java/lang/Object"), (0, u "<init>"), (0, u "()V"), (35, .class_ 44), (1, u "java/util/Objects"), (0, u "requireNonNull"), (48, u "(Ljava/lang/Object;Ljava/lang/String;)Ljava/lang/Object;")] 89

def k11m0 : Method := { name := "<init>", desc := "()V", sig := { parameters := [], returnType := none }, accessFlags := 2, code := none }
def k11c1 : Code := { maxStack := 3, maxLocals := 2, code := jdk_31_method_11_code, exceptionTable := #[], attributes := #[] }
def k11m1 : Method := { name := "requireNonNull", desc := "(Ljava/lang/Object;Ljava/lang/String;)Ljava/lang/Object;", sig := { parameters := [(.object "java/lang/Object"), (.object "java/lang/String")], returnType := some (.object "java/lang/Object") }, accessFlags := 9, code := some k11c1 }
/-- java/util/Objects -/
def k11 : Class := { plain "java/util/Objects" (some 0) with
  accessFlags := 49
  interfaces := #[]
  cf := some (fileOf pool11 42 #[] #[{ accessFlags := 2, nameIndex := 5, descriptorIndex := 6, attributes := #[] }, { accessFlags := 9, nameIndex := 45, descriptorIndex := 94, attributes := #[] }] 49 2 #[] #[])
  fields := #[]
  methods := #[k11m0, k11m1]
  instanceTypes := #[]
  staticTypes := #[]
  resolved := Array.replicate 184 none
  statics := none }

def pool12 : Array CpInfo := pool [(1, .class_ 2), (0, u "java/lang/String"), (1, .class_ 6), (1, u "java/lang/Object"), (0, u "<init>"), (0, u "()V"), (0, .methodref 1 10), (0, .nameAndType 11 12), (0, u "checkIndex"), (0, u "(II)V"), (1, .class_ 16), (1, u "java/lang/StringLatin1"), (36, u "([BI)C"), (36, u "canEncode"), (8, .methodref 14 100), (0, .nameAndType 101 102), (0, u "indexOf"), (0, u "([BI[BII)I"), (2, u "(C)Z"), (15, u "$assertionsDisabled"), (0, u "Z"), (98, .class_ 223), (1, u "java/lang/StringLatin1$LinesSpliterator"), (28, u "charAt"), (34, u "([B[B)I"), (92, u "toBytes"), (1, u "(C)[B"), (7, .class_ 391), (0, u "java/lang/StringLatin1$CharsSpliterator")] 3

def k12m0 : Method := { name := "<init>", desc := "()V", sig := { parameters := [], returnType := none }, accessFlags := 0, code := none }
def k12c1 : Code := { maxStack := 2, maxLocals := 2, code := jdk_43_method_2_code, exceptionTable := #[], attributes := #[] }
def k12m1 : Method := { name := "charAt", desc := "([BI)C", sig := { parameters := [(.array .byte), .int], returnType := some .char }, accessFlags := 9, code := some k12c1 }
def k12c2 : Code := { maxStack := 2, maxLocals := 1, code := jdk_43_method_3_code, exceptionTable := #[], attributes := #[] }
def k12m2 : Method := { name := "canEncode", desc := "(C)Z", sig := { parameters := [.char], returnType := some .boolean }, accessFlags := 9, code := some k12c2 }
def k12c3 : Code := { maxStack := 5, maxLocals := 2, code := jdk_43_method_24_code, exceptionTable := #[], attributes := #[] }
def k12m3 : Method := { name := "indexOf", desc := "([B[B)I", sig := { parameters := [(.array .byte), (.array .byte)], returnType := some .int }, accessFlags := 9, code := some k12c3 }
def k12c4 : Code := { maxStack := 3, maxLocals := 11, code := jdk_43_method_25_code, exceptionTable := #[], attributes := #[] }
def k12m4 : Method := { name := "indexOf", desc := "([BI[BII)I", sig := { parameters := [(.array .byte), .int, (.array .byte), .int, .int], returnType := some .int }, accessFlags := 9, code := some k12c4 }
def k12c5 : Code := { maxStack := 4, maxLocals := 1, code := jdk_43_method_46_code, exceptionTable := #[], attributes := #[] }
def k12m5 : Method := { name := "toBytes", desc := "(C)[B", sig := { parameters := [.char], returnType := some (.array .byte) }, accessFlags := 9, code := some k12c5 }
/-- java/lang/StringLatin1 -/
def k12 : Class := { plain "java/lang/StringLatin1" (some 0) with
  accessFlags := 48
  interfaces := #[]
  cf := some (fileOf pool12 14 #[.nestMembers #[390, 221]] #[{ accessFlags := 0, nameIndex := 7, descriptorIndex := 8, attributes := #[] }, { accessFlags := 9, nameIndex := 252, descriptorIndex := 53, attributes := #[] }, { accessFlags := 9, nameIndex := 90, descriptorIndex := 105, attributes := #[] }, { accessFlags := 9, nameIndex := 101, descriptorIndex := 287, attributes := #[] }, { accessFlags := 9, nameIndex := 101, descriptorIndex := 102, attributes := #[] }, { accessFlags := 9, nameIndex := 380, descriptorIndex := 382, attributes := #[] }] 48 4 #[] #[{ accessFlags := 4120, nameIndex := 121, descriptorIndex := 122, attributes := #[] }])
  fields := #[{ name := "$assertionsDisabled", type := .boolean, accessFlags := 4120, slot := 0, constantValue := 0 }]
  methods := #[k12m0, k12m1, k12m2, k12m3, k12m4, k12m5]
  instanceTypes := #[]
  staticTypes := #[.boolean]
  resolved := Array.replicate 395 none
  statics := none }

def pool13 : Array CpInfo := pool [(1, .class_ 2), (0, u "java/lang/Appendable"), (0, .class_ 4), (0, u "java/lang/Object")] 9

/-- java/lang/Appendable -/
def k13 : Class := { plain "java/lang/Appendable" (some 0) with
  accessFlags := 1537
  interfaces := #[]
  cf := some (fileOf pool13 1 #[] #[] 1537 3 #[] #[])
  fields := #[]
  methods := #[]
  instanceTypes := #[]
  staticTypes := #[]
  resolved := Array.replicate 14 none
  statics := none }

def pool14 : Array CpInfo := pool [(1, .class_ 2), (0, u "java/lang/String"), (0, .methodref 4 5), (0, .class_ 6), (0, .nameAndType 7 8), (0, u "java/lang/Object"), (0, u "<init>"), (0, u "()V"), (1, .class_ 12), (1, u "java/lang/AbstractStringBuilder"), (0, u "EMPTYVALUE"), (0, u "[B"), (0, .fieldref 10 16), (0, .nameAndType 17 14), (0, u "value"), (0, .fieldref 1 19), (0, .nameAndType 20 21), (0, u "COMPACT_STRINGS"), (0, u "Z"), (0, .fieldref 10 23), (0, .nameAndType 24 25), (0, u "coder"), (0, u "B"), (6, .methodref 1 33), (0, .nameAndType 34 35), (0, u "length"), (0, u "()I"), (4, .methodref 1 41), (0, .nameAndType 24 42), (0, u "()B"), (2, u "append"), (0, u "(Ljava/lang/String;)Ljava/lang/AbstractStringBuilder;"), (1, .class_ 49), (0, u "java/lang/CharSequence"), (19, u "(Ljava/lang/String;)V"), (5, u "maybeLatin1"), (3, .fieldref 10 80), (0, .nameAndType 81 82), (0, u "count"), (0, u "I"), (2, u "isLatin1"), (0, u "()Z"), (13, .methodref 10 101), (0, .nameAndType 102 103), (0, u "ensureCapacityInternal"), (0, u "(I)V"), (104, .methodref 10 209), (0, .nameAndType 210 211), (0, u "putStringAt"), (0, u "(ILjava/lang/String;)V"), (5, u "inflateIfNeededFor"), (2, .nameAndType 221 222), (0, u "getBytes"), (0, u "([BIB)V"), (174, .methodref 10 398), (0, .nameAndType 217 69), (0, .methodref 1 220), (3, u "()[B"), (40, .class_ 445), (0, u "java/lang/Appendable"), (106, u "getValue")] 56

def k14m0 : Method := { name := "<init>", desc := "()V", sig := { parameters := [], returnType := none }, accessFlags := 0, code := none }
def k14c1 : Code := { maxStack := 2, maxLocals := 2, code := jdk_68_method_2_code, exceptionTable := #[], attributes := #[] }
def k14m1 : Method := { name := "<init>", desc := "(I)V", sig := { parameters := [.int], returnType := none }, accessFlags := 0, code := some k14c1 }
def k14c2 : Code := { maxStack := 1, maxLocals := 1, code := jdk_68_method_6_code, exceptionTable := #[], attributes := #[] }
def k14m2 : Method := { name := "length", desc := "()I", sig := { parameters := [], returnType := some .int }, accessFlags := 1, code := some k14c2 }
def k14c3 : Code := { maxStack := 4, maxLocals := 3, code := jdk_68_method_9_code, exceptionTable := #[], attributes := #[] }
def k14m3 : Method := { name := "ensureCapacityInternal", desc := "(I)V", sig := { parameters := [.int], returnType := none }, accessFlags := 2, code := some k14c3 }
def k14c4 : Code := { maxStack := 3, maxLocals := 3, code := jdk_68_method_22_code, exceptionTable := #[], attributes := #[] }
def k14m4 : Method := { name := "append", desc := "(Ljava/lang/String;)Ljava/lang/AbstractStringBuilder;", sig := { parameters := [(.object "java/lang/String")], returnType := some (.object "java/lang/AbstractStringBuilder") }, accessFlags := 1, code := some k14c4 }
def k14c5 : Code := { maxStack := 1, maxLocals := 1, code := jdk_68_method_64_code, exceptionTable := #[], attributes := #[] }
def k14m5 : Method := { name := "getValue", desc := "()[B", sig := { parameters := [], returnType := some (.array .byte) }, accessFlags := 16, code := some k14c5 }
def k14c6 : Code := { maxStack := 1, maxLocals := 1, code := jdk_68_method_68_code, exceptionTable := #[], attributes := #[] }
def k14m6 : Method := { name := "isLatin1", desc := "()Z", sig := { parameters := [], returnType := some .boolean }, accessFlags := 16, code := some k14c6 }
def k14c7 : Code := { maxStack := 2, maxLocals := 2, code := jdk_68_method_71_code, exceptionTable := #[], attributes := #[] }
def k14m7 : Method := { name := "inflateIfNeededFor", desc := "(Ljava/lang/String;)V", sig := { parameters := [(.object "java/lang/String")], returnType := none }, accessFlags := 2, code := some k14c7 }
def k14c8 : Code := { maxStack := 4, maxLocals := 3, code := jdk_68_method_73_code, exceptionTable := #[], attributes := #[] }
def k14m8 : Method := { name := "putStringAt", desc := "(ILjava/lang/String;)V", sig := { parameters := [.int, (.object "java/lang/String")], returnType := none }, accessFlags := 2, code := some k14c8 }
/-- java/lang/AbstractStringBuilder -/
def k14 : Class := { plain "java/lang/AbstractStringBuilder" (some 0) with
  accessFlags := 1056
  interfaces := #[13, 4]
  cf := some (fileOf pool14 10 #[] #[{ accessFlags := 0, nameIndex := 7, descriptorIndex := 8, attributes := #[] }, { accessFlags := 0, nameIndex := 7, descriptorIndex := 103, attributes := #[] }, { accessFlags := 1, nameIndex := 34, descriptorIndex := 35, attributes := #[] }, { accessFlags := 2, nameIndex := 102, descriptorIndex := 103, attributes := #[] }, { accessFlags := 1, nameIndex := 45, descriptorIndex := 46, attributes := #[] }, { accessFlags := 16, nameIndex := 552, descriptorIndex := 403, attributes := #[] }, { accessFlags := 16, nameIndex := 85, descriptorIndex := 86, attributes := #[] }, { accessFlags := 2, nameIndex := 217, descriptorIndex := 69, attributes := #[] }, { accessFlags := 2, nameIndex := 210, descriptorIndex := 211, attributes := #[] }] 1056 4 #[444, 48] #[{ accessFlags := 0, nameIndex := 17, descriptorIndex := 14, attributes := #[] }, { accessFlags := 0, nameIndex := 24, descriptorIndex := 25, attributes := #[] }, { accessFlags := 0, nameIndex := 75, descriptorIndex := 21, attributes := #[] }, { accessFlags := 0, nameIndex := 81, descriptorIndex := 82, attributes := #[] }, { accessFlags := 26, nameIndex := 13, descriptorIndex := 14, attributes := #[] }])
  fields := #[{ name := "value", type := (.array .byte), accessFlags := 0, slot := 0, constantValue := 0 }, { name := "coder", type := .byte, accessFlags := 0, slot := 1, constantValue := 0 }, { name := "maybeLatin1", type := .boolean, accessFlags := 0, slot := 2, constantValue := 0 }, { name := "count", type := .int, accessFlags := 0, slot := 3, constantValue := 0 }, { name := "EMPTYVALUE", type := (.array .byte), accessFlags := 26, slot := 0, constantValue := 0 }]
  methods := #[k14m0, k14m1, k14m2, k14m3, k14m4, k14m5, k14m6, k14m7, k14m8]
  instanceTypes := #[(.array .byte), .byte, .boolean, .int]
  staticTypes := #[(.array .byte)]
  resolved := Array.replicate 609 none
  statics := none }

def pool15 : Array CpInfo := pool [(1, .methodref 2 3), (0, .class_ 4), (0, .nameAndType 5 6), (0, u "java/lang/AbstractStringBuilder"), (0, u "<init>"), (0, u "(I)V"), (11, .class_ 20), (1, u "java/lang/String"), (3, .class_ 26), (1, u "java/lang/StringBuilder"), (0, u "append"), (0, u "(Ljava/lang/String;)Ljava/lang/StringBuilder;"), (0, .methodref 2 30), (0, .nameAndType 27 31), (0, u "(Ljava/lang/String;)Ljava/lang/AbstractStringBuilder;"), (105, .methodref 18 138), (0, .nameAndType 5 139), (0, u "(Ljava/lang/StringBuilder;)V"), (5, u "()V"), (10, u "()I"), (186, .methodref 2 344), (0, .nameAndType 345 156), (0, u "length"), (3, .class_ 350), (0, u "java/lang/Appendable"), (0, .class_ 352), (0, u "java/io/Serializable"), (0, .class_ 354), (0, u "java/lang/Comparable"), (0, .class_ 356), (0, u "java/lang/CharSequence"), (0, u "serialVersionUID"), (0, u "J"), (40, u "toString"), (0, u "()Ljava/lang/String;")] 21

def k15c0 : Code := { maxStack := 2, maxLocals := 1, code := jdk_67_method_1_code, exceptionTable := #[], attributes := #[] }
def k15m0 : Method := { name := "<init>", desc := "()V", sig := { parameters := [], returnType := none }, accessFlags := 1, code := some k15c0 }
def k15c1 : Code := { maxStack := 2, maxLocals := 2, code := jdk_67_method_7_code, exceptionTable := #[], attributes := #[] }
def k15m1 : Method := { name := "append", desc := "(Ljava/lang/String;)Ljava/lang/StringBuilder;", sig := { parameters := [(.object "java/lang/String")], returnType := some (.object "java/lang/StringBuilder") }, accessFlags := 1, code := some k15c1 }
def k15c2 : Code := { maxStack := 3, maxLocals := 1, code := jdk_67_method_42_code, exceptionTable := #[], attributes := #[] }
def k15m2 : Method := { name := "toString", desc := "()Ljava/lang/String;", sig := { parameters := [], returnType := some (.object "java/lang/String") }, accessFlags := 1, code := some k15c2 }
def k15c3 : Code := { maxStack := 1, maxLocals := 1, code := jdk_67_method_93_code, exceptionTable := #[], attributes := #[] }
def k15m3 : Method := { name := "length", desc := "()I", sig := { parameters := [], returnType := some .int }, accessFlags := 4161, code := some k15c3 }
/-- java/lang/StringBuilder -/
def k15 : Class := { plain "java/lang/StringBuilder" (some 14) with
  accessFlags := 49
  interfaces := #[13, 2, 3, 4]
  cf := some (fileOf pool15 24 #[] #[{ accessFlags := 1, nameIndex := 5, descriptorIndex := 145, attributes := #[] }, { accessFlags := 1, nameIndex := 27, descriptorIndex := 28, attributes := #[] }, { accessFlags := 1, nameIndex := 399, descriptorIndex := 400, attributes := #[] }, { accessFlags := 4161, nameIndex := 345, descriptorIndex := 156, attributes := #[] }] 49 2 #[349, 351, 353, 355] #[{ accessFlags := 24, nameIndex := 357, descriptorIndex := 358, attributes := #[] }])
  fields := #[{ name := "serialVersionUID", type := .long, accessFlags := 24, slot := 0, constantValue := 0 }]
  methods := #[k15m0, k15m1, k15m2, k15m3]
  instanceTypes := #[(.array .byte), .byte, .boolean, .int]
  staticTypes := #[.long]
  resolved := Array.replicate 422 none
  statics := none }

def pool16 : Array CpInfo := pool [(2, .class_ 4), (1, u "java/lang/Object"), (0, u "<init>"), (0, u "()V"), (1, .class_ 10), (1, u "java/lang/System"), (0, u "allowSecurityManager"), (0, u "I"), (16, u "cons"), (0, u "Ljava/io/Console;"), (77, .class_ 110), (1, u "java/lang/System$CallersHolder"), (43, u "initialErrStream"), (0, u "Ljava/io/PrintStream;"), (19, u "security"), (0, u "Ljava/lang/SecurityManager;"), (31, .class_ 209), (0, u "java/lang/System$1"), (7, u "props"), (0, u "Ljava/util/Properties;"), (2, u "lineSeparator"), (0, u "Ljava/lang/String;"), (96, .class_ 321), (1, u "java/lang/System$LoggerFinder"), (5, .class_ 328), (0, u "java/lang/System$Logger"), (67, u "err"), (2, u "out"), (91, u "notSupportedJnuEncoding"), (15, u "in"), (17, u "initialIn"), (0, u "Ljava/io/InputStream;"), (35, u "bootLayer"), (0, u "Ljava/lang/ModuleLayer;"), (99, .class_ 664), (0, u "java/lang/System$2"), (9, u "NEVER"), (2, u "MAYBE"), (49, u "arraycopy"), (0, u "(Ljava/lang/Object;ILjava/lang/Object;II)V"), (72, .class_ 802), (0, u "java/lang/System$Logger$Level")] 31

def k16m0 : Method := { name := "<init>", desc := "()V", sig := { parameters := [], returnType := none }, accessFlags := 2, code := none }
def k16m1 : Method := { name := "arraycopy", desc := "(Ljava/lang/Object;ILjava/lang/Object;II)V", sig := { parameters := [(.object "java/lang/Object"), .int, (.object "java/lang/Object"), .int, .int], returnType := none }, accessFlags := 265, code := none }
/-- java/lang/System -/
def k16 : Class := { plain "java/lang/System" (some 0) with
  accessFlags := 49
  interfaces := #[]
  cf := some (fileOf pool16 8 #[.nestMembers #[319, 327, 801, 108, 663, 208]] #[{ accessFlags := 2, nameIndex := 5, descriptorIndex := 6, attributes := #[] }, { accessFlags := 265, nameIndex := 727, descriptorIndex := 728, attributes := #[] }] 49 2 #[] #[{ accessFlags := 25, nameIndex := 507, descriptorIndex := 526, attributes := #[] }, { accessFlags := 25, nameIndex := 399, descriptorIndex := 155, attributes := #[] }, { accessFlags := 25, nameIndex := 396, descriptorIndex := 155, attributes := #[] }, { accessFlags := 10, nameIndex := 525, descriptorIndex := 526, attributes := #[] }, { accessFlags := 26, nameIndex := 674, descriptorIndex := 12, attributes := #[] }, { accessFlags := 26, nameIndex := 677, descriptorIndex := 12, attributes := #[] }, { accessFlags := 10, nameIndex := 11, descriptorIndex := 12, attributes := #[] }, { accessFlags := 74, nameIndex := 175, descriptorIndex := 176, attributes := #[] }, { accessFlags := 10, nameIndex := 491, descriptorIndex := 222, attributes := #[] }, { accessFlags := 74, nameIndex := 29, descriptorIndex := 30, attributes := #[] }, { accessFlags := 74, nameIndex := 154, descriptorIndex := 155, attributes := #[] }, { accessFlags := 10, nameIndex := 217, descriptorIndex := 218, attributes := #[] }, { accessFlags := 10, nameIndex := 221, descriptorIndex := 222, attributes := #[] }, { accessFlags := 8, nameIndex := 562, descriptorIndex := 563, attributes := #[] }])
  fields := #[{ name := "in", type := (.object "java/io/InputStream"), accessFlags := 25, slot := 0, constantValue := 0 }, { name := "out", type := (.object "java/io/PrintStream"), accessFlags := 25, slot := 1, constantValue := 0 }, { name := "err", type := (.object "java/io/PrintStream"), accessFlags := 25, slot := 2, constantValue := 0 }, { name := "initialIn", type := (.object "java/io/InputStream"), accessFlags := 10, slot := 3, constantValue := 0 }, { name := "NEVER", type := .int, accessFlags := 26, slot := 4, constantValue := 0 }, { name := "MAYBE", type := .int, accessFlags := 26, slot := 5, constantValue := 0 }, { name := "allowSecurityManager", type := .int, accessFlags := 10, slot := 6, constantValue := 0 }, { name := "security", type := (.object "java/lang/SecurityManager"), accessFlags := 74, slot := 7, constantValue := 0 }, { name := "notSupportedJnuEncoding", type := (.object "java/lang/String"), accessFlags := 10, slot := 8, constantValue := 0 }, { name := "cons", type := (.object "java/io/Console"), accessFlags := 74, slot := 9, constantValue := 0 }, { name := "initialErrStream", type := (.object "java/io/PrintStream"), accessFlags := 74, slot := 10, constantValue := 0 }, { name := "props", type := (.object "java/util/Properties"), accessFlags := 10, slot := 11, constantValue := 0 }, { name := "lineSeparator", type := (.object "java/lang/String"), accessFlags := 10, slot := 12, constantValue := 0 }, { name := "bootLayer", type := (.object "java/lang/ModuleLayer"), accessFlags := 8, slot := 13, constantValue := 0 }]
  methods := #[k16m0, k16m1]
  instanceTypes := #[]
  staticTypes := #[(.object "java/io/InputStream"), (.object "java/io/PrintStream"), (.object "java/io/PrintStream"), (.object "java/io/InputStream"), .int, .int, .int, (.object "java/lang/SecurityManager"), (.object "java/lang/String"), (.object "java/io/Console"), (.object "java/io/PrintStream"), (.object "java/util/Properties"), (.object "java/lang/String"), (.object "java/lang/ModuleLayer")]
  resolved := Array.replicate 834 none
  statics := none }

def pool17 : Array CpInfo := pool [(2, .class_ 4), (1, u "java/lang/Object"), (0, u "<init>"), (0, u "()V"), (7, .class_ 16), (1, u "java/util/Arrays"), (57, .class_ 76), (1, u "java/util/Arrays$NaturalOrder"), (36, .class_ 115), (1, u "java/util/Arrays$LegacyMergeSort"), (1, u "Z"), (21, u "copyOfRange"), (10, .methodref 151 152), (0, .class_ 153), (0, .nameAndType 154 155), (0, u "java/lang/System"), (0, u "arraycopy"), (0, u "(Ljava/lang/Object;ILjava/lang/Object;II)V"), (148, .methodref 305 306), (0, .class_ 307), (0, .nameAndType 308 309), (0, u "java/lang/Math"), (0, u "min"), (0, u "(II)I"), (29, .methodref 14 340), (0, .nameAndType 341 342), (0, u "copyOfRangeByte"), (0, u "([BII)[B"), (0, .methodref 14 344), (0, .nameAndType 345 346), (0, u "checkLength"), (0, u "(II)V"), (28, .class_ 376), (0, u "java/util/Arrays$ArrayList"), (68, u "$assertionsDisabled"), (269, u "MIN_ARRAY_SORT_GRAN"), (0, u "I"), (2, u "INSERTIONSORT_THRESHOLD"), (255, .class_ 976), (0, u "java/util/Arrays$ArrayItr")] 52

def k17m0 : Method := { name := "<init>", desc := "()V", sig := { parameters := [], returnType := none }, accessFlags := 2, code := none }
def k17c1 : Code := { maxStack := 4, maxLocals := 2, code := jdk_65_method_131_code, exceptionTable := #[], attributes := #[] }
def k17m1 : Method := { name := "checkLength", desc := "(II)V", sig := { parameters := [.int, .int], returnType := none }, accessFlags := 10, code := some k17c1 }
def k17c2 : Code := { maxStack := 3, maxLocals := 3, code := jdk_65_method_132_code, exceptionTable := #[], attributes := #[] }
def k17m2 : Method := { name := "copyOfRange", desc := "([BII)[B", sig := { parameters := [(.array .byte), .int, .int], returnType := some (.array .byte) }, accessFlags := 9, code := some k17c2 }
def k17c3 : Code := { maxStack := 6, maxLocals := 5, code := jdk_65_method_133_code, exceptionTable := #[], attributes := #[] }
def k17m3 : Method := { name := "copyOfRangeByte", desc := "([BII)[B", sig := { parameters := [(.array .byte), .int, .int], returnType := some (.array .byte) }, accessFlags := 10, code := some k17c3 }
/-- java/util/Arrays -/
def k17 : Class := { plain "java/util/Arrays" (some 0) with
  accessFlags := 49
  interfaces := #[]
  cf := some (fileOf pool17 14 #[.nestMembers #[975, 375, 113, 74]] #[{ accessFlags := 2, nameIndex := 5, descriptorIndex := 6, attributes := #[] }, { accessFlags := 10, nameIndex := 345, descriptorIndex := 346, attributes := #[] }, { accessFlags := 9, nameIndex := 139, descriptorIndex := 342, attributes := #[] }, { accessFlags := 10, nameIndex := 341, descriptorIndex := 342, attributes := #[] }] 49 2 #[] #[{ accessFlags := 26, nameIndex := 715, descriptorIndex := 716, attributes := #[] }, { accessFlags := 26, nameIndex := 719, descriptorIndex := 716, attributes := #[] }, { accessFlags := 4120, nameIndex := 445, descriptorIndex := 117, attributes := #[] }])
  fields := #[{ name := "MIN_ARRAY_SORT_GRAN", type := .int, accessFlags := 26, slot := 0, constantValue := 0 }, { name := "INSERTIONSORT_THRESHOLD", type := .int, accessFlags := 26, slot := 1, constantValue := 0 }, { name := "$assertionsDisabled", type := .boolean, accessFlags := 4120, slot := 2, constantValue := 0 }]
  methods := #[k17m0, k17m1, k17m2, k17m3]
  instanceTypes := #[]
  staticTypes := #[.int, .int, .boolean]
  resolved := Array.replicate 1029 none
  statics := none }

def pool18 : Array CpInfo := pool [(1, .class_ 2), (0, u "java/lang/Math"), (1, .class_ 6), (1, u "java/lang/Object"), (0, u "<init>"), (0, u "()V"), (89, .class_ 100), (1, u "java/lang/Math$RandomNumberGeneratorHolder"), (71, u "negativeZeroFloatBits"), (0, u "J"), (2, u "negativeZeroDoubleBits"), (24, u "min"), (43, u "$assertionsDisabled"), (0, u "Z"), (88, u "(II)I"), (2, u "twoToTheDoubleScaleDown"), (0, u "D"), (4, u "twoToTheDoubleScaleUp"), (9, u "E"), (3, u "PI"), (2, u "TAU"), (2, u "DEGREES_TO_RADIANS"), (0, u "RADIANS_TO_DEGREES")] 94

def k18m0 : Method := { name := "<init>", desc := "()V", sig := { parameters := [], returnType := none }, accessFlags := 2, code := none }
def k18c1 : Code := { maxStack := 2, maxLocals := 2, code := jdk_29_method_69_code, exceptionTable := #[], attributes := #[] }
def k18m1 : Method := { name := "min", desc := "(II)I", sig := { parameters := [.int, .int], returnType := some .int }, accessFlags := 9, code := some k18c1 }
/-- java/lang/Math -/
def k18 : Class := { plain "java/lang/Math" (some 0) with
  accessFlags := 49
  interfaces := #[]
  cf := some (fileOf pool18 1 #[.nestMembers #[98]] #[{ accessFlags := 2, nameIndex := 7, descriptorIndex := 8, attributes := #[] }, { accessFlags := 9, nameIndex := 201, descriptorIndex := 335, attributes := #[] }] 49 4 #[] #[{ accessFlags := 25, nameIndex := 354, descriptorIndex := 339, attributes := #[] }, { accessFlags := 25, nameIndex := 358, descriptorIndex := 339, attributes := #[] }, { accessFlags := 25, nameIndex := 361, descriptorIndex := 339, attributes := #[] }, { accessFlags := 26, nameIndex := 364, descriptorIndex := 339, attributes := #[] }, { accessFlags := 26, nameIndex := 365, descriptorIndex := 339, attributes := #[] }, { accessFlags := 26, nameIndex := 172, descriptorIndex := 173, attributes := #[] }, { accessFlags := 26, nameIndex := 176, descriptorIndex := 173, attributes := #[] }, { accessFlags := 8, nameIndex := 344, descriptorIndex := 339, attributes := #[] }, { accessFlags := 8, nameIndex := 338, descriptorIndex := 339, attributes := #[] }, { accessFlags := 4120, nameIndex := 245, descriptorIndex := 246, attributes := #[] }])
  fields := #[{ name := "E", type := .double, accessFlags := 25, slot := 0, constantValue := 0 }, { name := "PI", type := .double, accessFlags := 25, slot := 1, constantValue := 0 }, { name := "TAU", type := .double, accessFlags := 25, slot := 2, constantValue := 0 }, { name := "DEGREES_TO_RADIANS", type := .double, accessFlags := 26, slot := 3, constantValue := 0 }, { name := "RADIANS_TO_DEGREES", type := .double, accessFlags := 26, slot := 4, constantValue := 0 }, { name := "negativeZeroFloatBits", type := .long, accessFlags := 26, slot := 5, constantValue := 0 }, { name := "negativeZeroDoubleBits", type := .long, accessFlags := 26, slot := 6, constantValue := 0 }, { name := "twoToTheDoubleScaleUp", type := .double, accessFlags := 8, slot := 7, constantValue := 0 }, { name := "twoToTheDoubleScaleDown", type := .double, accessFlags := 8, slot := 8, constantValue := 0 }, { name := "$assertionsDisabled", type := .boolean, accessFlags := 4120, slot := 9, constantValue := 0 }]
  methods := #[k18m0, k18m1]
  instanceTypes := #[]
  staticTypes := #[.double, .double, .double, .double, .double, .long, .long, .double, .double, .boolean]
  resolved := Array.replicate 460 none
  statics := none }

def pool19 : Array CpInfo := pool [(2, .class_ 4), (1, u "java/lang/Object"), (0, u "<init>"), (0, u "()V"), (17, .class_ 26), (1, u "jdk/internal/util/Preconditions"), (6, u "checkIndex"), (21, .class_ 56), (0, u "jdk/internal/util/Preconditions$4"), (57, .class_ 115), (0, u "jdk/internal/util/Preconditions$1"), (7, u "SIOOBE_FORMATTER"), (0, u "Ljava/util/function/BiFunction;"), (0, .class_ 126), (0, u "jdk/internal/util/Preconditions$2"), (3, u "AIOOBE_FORMATTER"), (0, .class_ 132), (0, u "jdk/internal/util/Preconditions$3"), (3, u "IOOBE_FORMATTER"), (41, u "(IILjava/util/function/BiFunction;)I")] 15

def k19m0 : Method := { name := "<init>", desc := "()V", sig := { parameters := [], returnType := none }, accessFlags := 1, code := none }
def k19c1 : Code := { maxStack := 3, maxLocals := 3, code := jdk_41_method_11_code, exceptionTable := #[], attributes := #[] }
def k19m1 : Method := { name := "checkIndex", desc := "(IILjava/util/function/BiFunction;)I", sig := { parameters := [.int, .int, (.object "java/util/function/BiFunction")], returnType := some .int }, accessFlags := 9, code := some k19c1 }
/-- jdk/internal/util/Preconditions -/
def k19 : Class := { plain "jdk/internal/util/Preconditions" (some 0) with
  accessFlags := 33
  interfaces := #[]
  cf := some (fileOf pool19 24 #[.nestMembers #[55, 131, 125, 114]] #[{ accessFlags := 1, nameIndex := 5, descriptorIndex := 6, attributes := #[] }, { accessFlags := 9, nameIndex := 33, descriptorIndex := 178, attributes := #[] }] 33 2 #[] #[{ accessFlags := 25, nameIndex := 123, descriptorIndex := 124, attributes := #[] }, { accessFlags := 25, nameIndex := 130, descriptorIndex := 124, attributes := #[] }, { accessFlags := 25, nameIndex := 136, descriptorIndex := 124, attributes := #[] }])
  fields := #[{ name := "SIOOBE_FORMATTER", type := (.object "java/util/function/BiFunction"), accessFlags := 25, slot := 0, constantValue := 0 }, { name := "AIOOBE_FORMATTER", type := (.object "java/util/function/BiFunction"), accessFlags := 25, slot := 1, constantValue := 0 }, { name := "IOOBE_FORMATTER", type := (.object "java/util/function/BiFunction"), accessFlags := 25, slot := 2, constantValue := 0 }]
  methods := #[k19m0, k19m1]
  instanceTypes := #[]
  staticTypes := #[(.object "java/util/function/BiFunction"), (.object "java/util/function/BiFunction"), (.object "java/util/function/BiFunction")]
  resolved := Array.replicate 194 none
  statics := some 1 }

def pool20 : Array CpInfo := pool [(9, u "<init>"), (6, .class_ 18), (1, u "java/lang/Object"), (0, u "()V"), (1, .class_ 23), (1, u "jdk/internal/util/ArraysSupport"), (0, u "LOG2_ARRAY_LONG_INDEX_SCALE"), (0, u "I"), (2, u "U"), (0, u "Ljdk/internal/misc/Unsafe;"), (8, u "BIG_ENDIAN"), (0, u "Z"), (8, u "LOG2_BYTE_BIT_SIZE"), (4, u "LOG2_ARRAY_INT_INDEX_SCALE"), (54, u "JLA"), (0, u "Ljdk/internal/access/JavaLangAccess;"), (11, u "LOG2_ARRAY_BOOLEAN_INDEX_SCALE"), (9, u "LOG2_ARRAY_BYTE_INDEX_SCALE"), (5, u "LOG2_ARRAY_CHAR_INDEX_SCALE"), (5, u "LOG2_ARRAY_SHORT_INDEX_SCALE"), (18, u "LOG2_ARRAY_FLOAT_INDEX_SCALE"), (24, u "LOG2_ARRAY_DOUBLE_INDEX_SCALE"), (89, u "T_BOOLEAN"), (2, u "T_CHAR"), (1, u "T_FLOAT"), (1, u "T_DOUBLE"), (1, u "T_BYTE"), (1, u "T_SHORT"), (1, u "T_INT"), (1, u "T_LONG"), (1, u "SOFT_MAX_ARRAY_LENGTH")] 83

def k20m0 : Method := { name := "<init>", desc := "()V", sig := { parameters := [], returnType := none }, accessFlags := 2, code := none }
/-- jdk/internal/util/ArraysSupport -/
def k20 : Class := { plain "jdk/internal/util/ArraysSupport" (some 0) with
  accessFlags := 33
  interfaces := #[]
  cf := some (fileOf pool20 21 #[] #[{ accessFlags := 2, nameIndex := 9, descriptorIndex := 19, attributes := #[] }] 33 16 #[] #[{ accessFlags := 24, nameIndex := 28, descriptorIndex := 29, attributes := #[] }, { accessFlags := 26, nameIndex := 38, descriptorIndex := 39, attributes := #[] }, { accessFlags := 25, nameIndex := 121, descriptorIndex := 25, attributes := #[] }, { accessFlags := 25, nameIndex := 131, descriptorIndex := 25, attributes := #[] }, { accessFlags := 25, nameIndex := 137, descriptorIndex := 25, attributes := #[] }, { accessFlags := 25, nameIndex := 143, descriptorIndex := 25, attributes := #[] }, { accessFlags := 25, nameIndex := 53, descriptorIndex := 25, attributes := #[] }, { accessFlags := 25, nameIndex := 24, descriptorIndex := 25, attributes := #[] }, { accessFlags := 25, nameIndex := 162, descriptorIndex := 25, attributes := #[] }, { accessFlags := 25, nameIndex := 187, descriptorIndex := 25, attributes := #[] }, { accessFlags := 26, nameIndex := 48, descriptorIndex := 25, attributes := #[] }, { accessFlags := 25, nameIndex := 277, descriptorIndex := 25, attributes := #[] }, { accessFlags := 25, nameIndex := 280, descriptorIndex := 25, attributes := #[] }, { accessFlags := 25, nameIndex := 282, descriptorIndex := 25, attributes := #[] }, { accessFlags := 25, nameIndex := 284, descriptorIndex := 25, attributes := #[] }, { accessFlags := 25, nameIndex := 286, descriptorIndex := 25, attributes := #[] }, { accessFlags := 25, nameIndex := 288, descriptorIndex := 25, attributes := #[] }, { accessFlags := 25, nameIndex := 290, descriptorIndex := 25, attributes := #[] }, { accessFlags := 25, nameIndex := 292, descriptorIndex := 25, attributes := #[] }, { accessFlags := 26, nameIndex := 108, descriptorIndex := 109, attributes := #[] }, { accessFlags := 25, nameIndex := 294, descriptorIndex := 25, attributes := #[] }])
  fields := #[{ name := "U", type := (.object "jdk/internal/misc/Unsafe"), accessFlags := 24, slot := 0, constantValue := 0 }, { name := "BIG_ENDIAN", type := .boolean, accessFlags := 26, slot := 1, constantValue := 0 }, { name := "LOG2_ARRAY_BOOLEAN_INDEX_SCALE", type := .int, accessFlags := 25, slot := 2, constantValue := 0 }, { name := "LOG2_ARRAY_BYTE_INDEX_SCALE", type := .int, accessFlags := 25, slot := 3, constantValue := 0 }, { name := "LOG2_ARRAY_CHAR_INDEX_SCALE", type := .int, accessFlags := 25, slot := 4, constantValue := 0 }, { name := "LOG2_ARRAY_SHORT_INDEX_SCALE", type := .int, accessFlags := 25, slot := 5, constantValue := 0 }, { name := "LOG2_ARRAY_INT_INDEX_SCALE", type := .int, accessFlags := 25, slot := 6, constantValue := 0 }, { name := "LOG2_ARRAY_LONG_INDEX_SCALE", type := .int, accessFlags := 25, slot := 7, constantValue := 0 }, { name := "LOG2_ARRAY_FLOAT_INDEX_SCALE", type := .int, accessFlags := 25, slot := 8, constantValue := 0 }, { name := "LOG2_ARRAY_DOUBLE_INDEX_SCALE", type := .int, accessFlags := 25, slot := 9, constantValue := 0 }, { name := "LOG2_BYTE_BIT_SIZE", type := .int, accessFlags := 26, slot := 10, constantValue := 0 }, { name := "T_BOOLEAN", type := .int, accessFlags := 25, slot := 11, constantValue := 0 }, { name := "T_CHAR", type := .int, accessFlags := 25, slot := 12, constantValue := 0 }, { name := "T_FLOAT", type := .int, accessFlags := 25, slot := 13, constantValue := 0 }, { name := "T_DOUBLE", type := .int, accessFlags := 25, slot := 14, constantValue := 0 }, { name := "T_BYTE", type := .int, accessFlags := 25, slot := 15, constantValue := 0 }, { name := "T_SHORT", type := .int, accessFlags := 25, slot := 16, constantValue := 0 }, { name := "T_INT", type := .int, accessFlags := 25, slot := 17, constantValue := 0 }, { name := "T_LONG", type := .int, accessFlags := 25, slot := 18, constantValue := 0 }, { name := "JLA", type := (.object "jdk/internal/access/JavaLangAccess"), accessFlags := 26, slot := 19, constantValue := 0 }, { name := "SOFT_MAX_ARRAY_LENGTH", type := .int, accessFlags := 25, slot := 20, constantValue := 0 }]
  methods := #[k20m0]
  instanceTypes := #[]
  staticTypes := #[(.object "jdk/internal/misc/Unsafe"), .boolean, .int, .int, .int, .int, .int, .int, .int, .int, .int, .int, .int, .int, .int, .int, .int, .int, .int, (.object "jdk/internal/access/JavaLangAccess"), .int]
  resolved := Array.replicate 378 none
  statics := none }

def pool21 : Array CpInfo := pool [(1, u "java/lang/Cloneable"), (0, .class_ 1), (0, u "java/lang/Object"), (0, .class_ 3)] 3

/-- java/lang/Cloneable -/
def k21 : Class := { plain "java/lang/Cloneable" (some 0) with
  accessFlags := 1537
  interfaces := #[]
  cf := some (fileOf pool21 2 #[] #[] 1537 4 #[] #[])
  fields := #[]
  methods := #[]
  instanceTypes := #[]
  staticTypes := #[]
  resolved := Array.replicate 8 none
  statics := none }

/-- the primitive byte -/
def k22 : Class := { plain "byte" none with kind := .primitive 'B', accessFlags := 0x411 }
/-- [B -/
def k23 : Class := { plain "[B" (some 0) with kind := .array 22 .byte, interfaces := #[21, 2], accessFlags := 1041 }

/-- the primitive char -/
def k24 : Class := { plain "char" none with kind := .primitive 'C', accessFlags := 0x411 }
/-- [C -/
def k25 : Class := { plain "[C" (some 0) with kind := .array 24 .char, interfaces := #[21, 2], accessFlags := 1041 }

/-- the primitive int -/
def k26 : Class := { plain "int" none with kind := .primitive 'I', accessFlags := 0x411 }
/-- [I -/
def k27 : Class := { plain "[I" (some 0) with kind := .array 26 .int, interfaces := #[21, 2], accessFlags := 1041 }

def heap : Heap := #[{ cls := 7, slots := #[.long 0, .int 1, .null, .int 0, .null, .int 0, .int 0], vm := .statics 7 },
  { cls := 19, slots := #[.null, .null, .null], vm := .statics 19 }]
def classes : Array Class := #[k0, k1, k2, k3, k4, k5, k6, k7, k8, k9, k10, k11, k12, k13, k14, k15, k16, k17, k18, k19, k20, k21, k22, k23, k24, k25, k26, k27]
def interned : List (Array UInt16 × Addr) := []
def slotsUsed : Nat := 10
def theMethod : MethodId := ⟨1, 2⟩
def args0 : Array Value := #[.int 5, .int 6, .int 7, .int 8]
def aboutOver (below : List Frame) : State where
  vm := { classes := classes, interned := interned.toArray }
  heap := heap
  slotsUsed := slotsUsed
  threads := #[{ frames := .invoking theMethod args0 :: below }]
def below0 : List Frame := [.native { method := ⟨0, 0⟩, args := #[] }]
def about1 : State := aboutOver below0
def p0 : Program := .bare "" "" ""
def e0 : Env := launch0.env 0 0 0
theorem w_frames : about1.frames = Frame.invoking theMethod args0 :: below0 := rfl
set_option maxRecDepth 65536 in
theorem w_args : argsFit about1.vm theMethod args0 = true := by decide +kernel
set_option maxRecDepth 65536 in
theorem w_heap : heapFits about1 = true := by decide +kernel
set_option maxRecDepth 65536 in
theorem w_runnable : about1.curStatus? = some .runnable := by decide +kernel
set_option maxRecDepth 65536 in
theorem w_alone : about1.alone = true := by decide +kernel
set_option maxRecDepth 65536 in
theorem w_named : about1.methodNamed? x = some theMethod := by decide +kernel
set_option maxRecDepth 65536 in
theorem w_hears : about1.hears theMethod below0 = true := by decide +kernel
set_option maxRecDepth 65536 in
theorem w_ripe : about1.ripe theMethod args0 below0 = true := by decide +kernel
theorem w_running : about1.status = .running := rfl
set_option maxRecDepth 65536 in
theorem w_room : about1.hasRoom e0.platform room_1 = true :=
  launch0.hasRoom_least _ room_1 (by decide +kernel) (by decide +kernel) (by decide +kernel) (by decide +kernel) (by decide +kernel) (by decide +kernel)
theorem allAtoms_all (ts : List Jvm.Cond) (a : Array Jvm.Value) (st : Jvm.State) : (allAtoms ts).before a st = ts.all (fun c => c.before a st) := by
  induction ts with
  | nil => rfl
  | cons c t ih =>
    show (Jvm.Cond.and c (allAtoms t)).before a st = _
    rw [Jvm.Cond.before_and, ih, List.all_cons]
def words1 : List Jvm.Cond := Jvm.Cond.code x code maxLocals ret :: tables_1
/-- a 'code' word, met by the world's own term for the bytes: nothing is compared byte by byte -/
theorem code_word {y : MethodName} {bytes : ByteArray} {mx : Nat} {rt : Option FieldType} {a : Array Value} {s : State} {m : MethodId} {meth : Method} {c : Code} (h1 : s.methodNamed? y = some m) (h2 : s.vm.method? m = some meth) (h3 : meth.code = some c) (h4 : c.code = bytes)
    (h5 : (c.maxLocals == mx && c.exceptionTable.isEmpty && decide (c.maxStack ≤ mostOperands) && decide (meth.sig.returnType = rt) && !meth.locks && decide (parseMethodDescriptor y.desc = some meth.sig)) = true) : (Jvm.Cond.code y bytes mx rt).before a s = true := by
  simp only [Bool.and_eq_true, beq_iff_eq, Bool.not_eq_true', decide_eq_true_eq] at h5
  obtain ⟨⟨⟨⟨⟨g1, g2⟩, g3⟩, g4⟩, g5⟩, g6⟩ := h5
  simp [Cond.before, Cond.holds, Cond.value, h1, h2, h3, h4, g1, g2, g3, g4, g5, g6]
def isCode : Jvm.Cond → Bool
  | .code _ _ _ _ => true
  | _ => false
theorem all_split {L : List Jvm.Cond} {P : Jvm.Cond → Bool} (h1 : L.all (fun c => isCode c || P c) = true) (h2 : ∀ c ∈ L.filter isCode, P c = true) : L.all P = true := by
  refine List.all_eq_true.mpr fun c hc => ?_
  have h := List.all_eq_true.mp h1 c hc
  rcases Bool.eq_false_or_eq_true (isCode c) with hi | hi
  · exact h2 c (List.mem_filter.mpr ⟨hc, hi⟩)
  · simpa [hi] using h
set_option maxRecDepth 65536 in
theorem w_c0 : (Jvm.Cond.code x code maxLocals ret).before args0 about1 = true := code_word (m := ⟨1, 2⟩) (meth := k1m2) (c := k1c2) (by decide +kernel) rfl rfl rfl (by decide +kernel)
set_option maxRecDepth 65536 in
theorem w_c1 : (Jvm.Cond.code ({ cls := "org/adviceweft/pointcut/NamePatternToStringPinLaw", name := "ch", desc := "(I)C" } : Jvm.MethodName) method_2_code (2 : Nat) (Option.some Jvm.ClassFile.FieldType.char)).before args0 about1 = true := code_word (m := ⟨1, 1⟩) (meth := k1m1) (c := k1c1) (by decide +kernel) rfl rfl rfl (by decide +kernel)
set_option maxRecDepth 65536 in
theorem w_c2 : (Jvm.Cond.code ({ cls := "java/lang/String", name := "<init>", desc := "([C)V" } : Jvm.MethodName) jdk_42_method_3_code (2 : Nat) (Option.none : Option Jvm.ClassFile.FieldType)).before args0 about1 = true := code_word (m := ⟨7, 1⟩) (meth := k7m1) (c := k7c1) (by decide +kernel) rfl rfl rfl (by decide +kernel)
set_option maxRecDepth 65536 in
theorem w_c3 : (Jvm.Cond.code ({ cls := "java/lang/String", name := "<init>", desc := "([CIILjava/lang/Void;)V" } : Jvm.MethodName) jdk_42_method_149_code (6 : Nat) (Option.none : Option Jvm.ClassFile.FieldType)).before args0 about1 = true := code_word (m := ⟨7, 11⟩) (meth := k7m11) (c := k7c11) (by decide +kernel) rfl rfl rfl (by decide +kernel)
set_option maxRecDepth 65536 in
theorem w_c4 : (Jvm.Cond.code ({ cls := "java/lang/Object", name := "<init>", desc := "()V" } : Jvm.MethodName) object_method_1_code (1 : Nat) (Option.none : Option Jvm.ClassFile.FieldType)).before args0 about1 = true := code_word (m := ⟨0, 0⟩) (meth := k0m0) (c := k0c0) (by decide +kernel) rfl rfl rfl (by decide +kernel)
set_option maxRecDepth 65536 in
theorem w_c5 : (Jvm.Cond.code ({ cls := "java/lang/StringUTF16", name := "compress", desc := "([CII)[B" } : Jvm.MethodName) jdk_52_method_16_code (6 : Nat) (Option.some (Jvm.ClassFile.FieldType.array Jvm.ClassFile.FieldType.byte))).before args0 about1 = true := code_word (m := ⟨8, 2⟩) (meth := k8m2) (c := k8c2) (by decide +kernel) rfl rfl rfl (by decide +kernel)
set_option maxRecDepth 65536 in
theorem w_c6 : (Jvm.Cond.code ({ cls := "java/lang/StringUTF16", name := "compress", desc := "([CI[BII)I" } : Jvm.MethodName) jdk_52_method_21_code (7 : Nat) (Option.some Jvm.ClassFile.FieldType.int)).before args0 about1 = true := code_word (m := ⟨8, 3⟩) (meth := k8m3) (c := k8c3) (by decide +kernel) rfl rfl rfl (by decide +kernel)
set_option maxRecDepth 65536 in
theorem w_c7 : (Jvm.Cond.code ({ cls := "java/lang/StringUTF16", name := "coderFromArrayLen", desc := "([BI)B" } : Jvm.MethodName) jdk_52_method_15_code (2 : Nat) (Option.some Jvm.ClassFile.FieldType.byte)).before args0 about1 = true := code_word (m := ⟨8, 1⟩) (meth := k8m1) (c := k8c1) (by decide +kernel) rfl rfl rfl (by decide +kernel)
set_option maxRecDepth 65536 in
theorem w_c8 : (Jvm.Cond.code ({ cls := "org/adviceweft/pointcut/NamePattern", name := "<init>", desc := "(Ljava/lang/String;ZZ)V" } : Jvm.MethodName) prog_8_method_1_code (4 : Nat) (Option.none : Option Jvm.ClassFile.FieldType)).before args0 about1 = true := code_word (m := ⟨10, 0⟩) (meth := k10m0) (c := k10c0) (by decide +kernel) rfl rfl rfl (by decide +kernel)
set_option maxRecDepth 65536 in
theorem w_c9 : (Jvm.Cond.code ({ cls := "java/lang/Record", name := "<init>", desc := "()V" } : Jvm.MethodName) jdk_30_method_1_code (1 : Nat) (Option.none : Option Jvm.ClassFile.FieldType)).before args0 about1 = true := code_word (m := ⟨9, 0⟩) (meth := k9m0) (c := k9c0) (by decide +kernel) rfl rfl rfl (by decide +kernel)
set_option maxRecDepth 65536 in
theorem w_c10 : (Jvm.Cond.code ({ cls := "java/util/Objects", name := "requireNonNull", desc := "(Ljava/lang/Object;Ljava/lang/String;)Ljava/lang/Object;" } : Jvm.MethodName) jdk_31_method_11_code (2 : Nat) (Option.some (Jvm.ClassFile.FieldType.object "java/lang/Object"))).before args0 about1 = true := code_word (m := ⟨11, 1⟩) (meth := k11m1) (c := k11c1) (by decide +kernel) rfl rfl rfl (by decide +kernel)
set_option maxRecDepth 65536 in
theorem w_c11 : (Jvm.Cond.code ({ cls := "java/lang/String", name := "contains", desc := "(Ljava/lang/CharSequence;)Z" } : Jvm.MethodName) jdk_42_method_97_code (2 : Nat) (Option.some Jvm.ClassFile.FieldType.boolean)).before args0 about1 = true := code_word (m := ⟨7, 7⟩) (meth := k7m7) (c := k7c7) (by decide +kernel) rfl rfl rfl (by decide +kernel)
set_option maxRecDepth 65536 in
theorem w_c12 : (Jvm.Cond.code ({ cls := "java/lang/String", name := "toString", desc := "()Ljava/lang/String;" } : Jvm.MethodName) jdk_42_method_126_code (1 : Nat) (Option.some (Jvm.ClassFile.FieldType.object "java/lang/String"))).before args0 about1 = true := code_word (m := ⟨7, 8⟩) (meth := k7m8) (c := k7c8) (by decide +kernel) rfl rfl rfl (by decide +kernel)
set_option maxRecDepth 65536 in
theorem w_c13 : (Jvm.Cond.code ({ cls := "java/lang/String", name := "indexOf", desc := "(Ljava/lang/String;)I" } : Jvm.MethodName) jdk_42_method_84_code (3 : Nat) (Option.some Jvm.ClassFile.FieldType.int)).before args0 about1 = true := code_word (m := ⟨7, 6⟩) (meth := k7m6) (c := k7c6) (by decide +kernel) rfl rfl rfl (by decide +kernel)
set_option maxRecDepth 65536 in
theorem w_c14 : (Jvm.Cond.code ({ cls := "java/lang/String", name := "coder", desc := "()B" } : Jvm.MethodName) jdk_42_method_152_code (1 : Nat) (Option.some Jvm.ClassFile.FieldType.byte)).before args0 about1 = true := code_word (m := ⟨7, 14⟩) (meth := k7m14) (c := k7c14) (by decide +kernel) rfl rfl rfl (by decide +kernel)
set_option maxRecDepth 65536 in
theorem w_c15 : (Jvm.Cond.code ({ cls := "java/lang/String", name := "isLatin1", desc := "()Z" } : Jvm.MethodName) jdk_42_method_154_code (1 : Nat) (Option.some Jvm.ClassFile.FieldType.boolean)).before args0 about1 = true := code_word (m := ⟨7, 15⟩) (meth := k7m15) (c := k7c15) (by decide +kernel) rfl rfl rfl (by decide +kernel)
set_option maxRecDepth 65536 in
theorem w_c16 : (Jvm.Cond.code ({ cls := "java/lang/StringLatin1", name := "indexOf", desc := "([B[B)I" } : Jvm.MethodName) jdk_43_method_24_code (2 : Nat) (Option.some Jvm.ClassFile.FieldType.int)).before args0 about1 = true := code_word (m := ⟨12, 3⟩) (meth := k12m3) (c := k12c3) (by decide +kernel) rfl rfl rfl (by decide +kernel)
set_option maxRecDepth 65536 in
theorem w_c17 : (Jvm.Cond.code ({ cls := "java/lang/StringLatin1", name := "indexOf", desc := "([BI[BII)I" } : Jvm.MethodName) jdk_43_method_25_code (11 : Nat) (Option.some Jvm.ClassFile.FieldType.int)).before args0 about1 = true := code_word (m := ⟨12, 4⟩) (meth := k12m4) (c := k12c4) (by decide +kernel) rfl rfl rfl (by decide +kernel)
set_option maxRecDepth 65536 in
theorem w_c18 : (Jvm.Cond.code ({ cls := "java/lang/String", name := "isEmpty", desc := "()Z" } : Jvm.MethodName) jdk_42_method_55_code (1 : Nat) (Option.some Jvm.ClassFile.FieldType.boolean)).before args0 about1 = true := code_word (m := ⟨7, 4⟩) (meth := k7m4) (c := k7c4) (by decide +kernel) rfl rfl rfl (by decide +kernel)
set_option maxRecDepth 65536 in
theorem w_c19 : (Jvm.Cond.code ({ cls := "org/adviceweft/pointcut/NamePattern", name := "toString", desc := "()Ljava/lang/String;" } : Jvm.MethodName) prog_8_method_4_code (1 : Nat) (Option.some (Jvm.ClassFile.FieldType.object "java/lang/String"))).before args0 about1 = true := code_word (m := ⟨10, 1⟩) (meth := k10m1) (c := k10c1) (by decide +kernel) rfl rfl rfl (by decide +kernel)
set_option maxRecDepth 65536 in
theorem w_c20 : (Jvm.Cond.code ({ cls := "org/adviceweft/pointcut/NamePattern", name := "written", desc := "(Ljava/lang/String;ZZ)Ljava/lang/String;" } : Jvm.MethodName) prog_8_method_5_code (3 : Nat) (Option.some (Jvm.ClassFile.FieldType.object "java/lang/String"))).before args0 about1 = true := code_word (m := ⟨10, 2⟩) (meth := k10m2) (c := k10c2) (by decide +kernel) rfl rfl rfl (by decide +kernel)
set_option maxRecDepth 65536 in
theorem w_c21 : (Jvm.Cond.code ({ cls := "java/lang/StringBuilder", name := "<init>", desc := "()V" } : Jvm.MethodName) jdk_67_method_1_code (1 : Nat) (Option.none : Option Jvm.ClassFile.FieldType)).before args0 about1 = true := code_word (m := ⟨15, 0⟩) (meth := k15m0) (c := k15c0) (by decide +kernel) rfl rfl rfl (by decide +kernel)
set_option maxRecDepth 65536 in
theorem w_c22 : (Jvm.Cond.code ({ cls := "java/lang/AbstractStringBuilder", name := "<init>", desc := "(I)V" } : Jvm.MethodName) jdk_68_method_2_code (2 : Nat) (Option.none : Option Jvm.ClassFile.FieldType)).before args0 about1 = true := code_word (m := ⟨14, 1⟩) (meth := k14m1) (c := k14c1) (by decide +kernel) rfl rfl rfl (by decide +kernel)
set_option maxRecDepth 65536 in
theorem w_c23 : (Jvm.Cond.code ({ cls := "java/lang/StringBuilder", name := "append", desc := "(Ljava/lang/String;)Ljava/lang/StringBuilder;" } : Jvm.MethodName) jdk_67_method_7_code (2 : Nat) (Option.some (Jvm.ClassFile.FieldType.object "java/lang/StringBuilder"))).before args0 about1 = true := code_word (m := ⟨15, 1⟩) (meth := k15m1) (c := k15c1) (by decide +kernel) rfl rfl rfl (by decide +kernel)
set_option maxRecDepth 65536 in
theorem w_c24 : (Jvm.Cond.code ({ cls := "java/lang/AbstractStringBuilder", name := "append", desc := "(Ljava/lang/String;)Ljava/lang/AbstractStringBuilder;" } : Jvm.MethodName) jdk_68_method_22_code (3 : Nat) (Option.some (Jvm.ClassFile.FieldType.object "java/lang/AbstractStringBuilder"))).before args0 about1 = true := code_word (m := ⟨14, 4⟩) (meth := k14m4) (c := k14c4) (by decide +kernel) rfl rfl rfl (by decide +kernel)
set_option maxRecDepth 65536 in
theorem w_c25 : (Jvm.Cond.code ({ cls := "java/lang/String", name := "length", desc := "()I" } : Jvm.MethodName) jdk_42_method_54_code (1 : Nat) (Option.some Jvm.ClassFile.FieldType.int)).before args0 about1 = true := code_word (m := ⟨7, 3⟩) (meth := k7m3) (c := k7c3) (by decide +kernel) rfl rfl rfl (by decide +kernel)
set_option maxRecDepth 65536 in
theorem w_c26 : (Jvm.Cond.code ({ cls := "java/lang/AbstractStringBuilder", name := "ensureCapacityInternal", desc := "(I)V" } : Jvm.MethodName) jdk_68_method_9_code (3 : Nat) (Option.none : Option Jvm.ClassFile.FieldType)).before args0 about1 = true := code_word (m := ⟨14, 3⟩) (meth := k14m3) (c := k14c3) (by decide +kernel) rfl rfl rfl (by decide +kernel)
set_option maxRecDepth 65536 in
theorem w_c27 : (Jvm.Cond.code ({ cls := "java/lang/AbstractStringBuilder", name := "putStringAt", desc := "(ILjava/lang/String;)V" } : Jvm.MethodName) jdk_68_method_73_code (3 : Nat) (Option.none : Option Jvm.ClassFile.FieldType)).before args0 about1 = true := code_word (m := ⟨14, 8⟩) (meth := k14m8) (c := k14c8) (by decide +kernel) rfl rfl rfl (by decide +kernel)
set_option maxRecDepth 65536 in
theorem w_c28 : (Jvm.Cond.code ({ cls := "java/lang/AbstractStringBuilder", name := "inflateIfNeededFor", desc := "(Ljava/lang/String;)V" } : Jvm.MethodName) jdk_68_method_71_code (2 : Nat) (Option.none : Option Jvm.ClassFile.FieldType)).before args0 about1 = true := code_word (m := ⟨14, 7⟩) (meth := k14m7) (c := k14c7) (by decide +kernel) rfl rfl rfl (by decide +kernel)
set_option maxRecDepth 65536 in
theorem w_c29 : (Jvm.Cond.code ({ cls := "java/lang/String", name := "getBytes", desc := "([BIB)V" } : Jvm.MethodName) jdk_42_method_147_code (4 : Nat) (Option.none : Option Jvm.ClassFile.FieldType)).before args0 about1 = true := code_word (m := ⟨7, 10⟩) (meth := k7m10) (c := k7c10) (by decide +kernel) rfl rfl rfl (by decide +kernel)
set_option maxRecDepth 65536 in
theorem w_c30 : (Jvm.Cond.code ({ cls := "java/lang/StringBuilder", name := "toString", desc := "()Ljava/lang/String;" } : Jvm.MethodName) jdk_67_method_42_code (1 : Nat) (Option.some (Jvm.ClassFile.FieldType.object "java/lang/String"))).before args0 about1 = true := code_word (m := ⟨15, 2⟩) (meth := k15m2) (c := k15c2) (by decide +kernel) rfl rfl rfl (by decide +kernel)
set_option maxRecDepth 65536 in
theorem w_c31 : (Jvm.Cond.code ({ cls := "java/lang/String", name := "<init>", desc := "(Ljava/lang/StringBuilder;)V" } : Jvm.MethodName) jdk_42_method_53_code (2 : Nat) (Option.none : Option Jvm.ClassFile.FieldType)).before args0 about1 = true := code_word (m := ⟨7, 2⟩) (meth := k7m2) (c := k7c2) (by decide +kernel) rfl rfl rfl (by decide +kernel)
set_option maxRecDepth 65536 in
theorem w_c32 : (Jvm.Cond.code ({ cls := "java/lang/String", name := "<init>", desc := "(Ljava/lang/AbstractStringBuilder;Ljava/lang/Void;)V" } : Jvm.MethodName) jdk_42_method_150_code (5 : Nat) (Option.none : Option Jvm.ClassFile.FieldType)).before args0 about1 = true := code_word (m := ⟨7, 12⟩) (meth := k7m12) (c := k7c12) (by decide +kernel) rfl rfl rfl (by decide +kernel)
set_option maxRecDepth 65536 in
theorem w_c33 : (Jvm.Cond.code ({ cls := "java/lang/AbstractStringBuilder", name := "getValue", desc := "()[B" } : Jvm.MethodName) jdk_68_method_64_code (1 : Nat) (Option.some (Jvm.ClassFile.FieldType.array Jvm.ClassFile.FieldType.byte))).before args0 about1 = true := code_word (m := ⟨14, 5⟩) (meth := k14m5) (c := k14c5) (by decide +kernel) rfl rfl rfl (by decide +kernel)
set_option maxRecDepth 65536 in
theorem w_c34 : (Jvm.Cond.code ({ cls := "java/lang/StringBuilder", name := "length", desc := "()I" } : Jvm.MethodName) jdk_67_method_93_code (1 : Nat) (Option.some Jvm.ClassFile.FieldType.int)).before args0 about1 = true := code_word (m := ⟨15, 3⟩) (meth := k15m3) (c := k15c3) (by decide +kernel) rfl rfl rfl (by decide +kernel)
set_option maxRecDepth 65536 in
theorem w_c35 : (Jvm.Cond.code ({ cls := "java/lang/AbstractStringBuilder", name := "length", desc := "()I" } : Jvm.MethodName) jdk_68_method_6_code (1 : Nat) (Option.some Jvm.ClassFile.FieldType.int)).before args0 about1 = true := code_word (m := ⟨14, 2⟩) (meth := k14m2) (c := k14c2) (by decide +kernel) rfl rfl rfl (by decide +kernel)
set_option maxRecDepth 65536 in
theorem w_c36 : (Jvm.Cond.code ({ cls := "java/lang/AbstractStringBuilder", name := "isLatin1", desc := "()Z" } : Jvm.MethodName) jdk_68_method_68_code (1 : Nat) (Option.some Jvm.ClassFile.FieldType.boolean)).before args0 about1 = true := code_word (m := ⟨14, 6⟩) (meth := k14m6) (c := k14c6) (by decide +kernel) rfl rfl rfl (by decide +kernel)
set_option maxRecDepth 65536 in
theorem w_c37 : (Jvm.Cond.code ({ cls := "java/util/Arrays", name := "copyOfRange", desc := "([BII)[B" } : Jvm.MethodName) jdk_65_method_132_code (3 : Nat) (Option.some (Jvm.ClassFile.FieldType.array Jvm.ClassFile.FieldType.byte))).before args0 about1 = true := code_word (m := ⟨17, 2⟩) (meth := k17m2) (c := k17c2) (by decide +kernel) rfl rfl rfl (by decide +kernel)
set_option maxRecDepth 65536 in
theorem w_c38 : (Jvm.Cond.code ({ cls := "java/util/Arrays", name := "copyOfRangeByte", desc := "([BII)[B" } : Jvm.MethodName) jdk_65_method_133_code (5 : Nat) (Option.some (Jvm.ClassFile.FieldType.array Jvm.ClassFile.FieldType.byte))).before args0 about1 = true := code_word (m := ⟨17, 3⟩) (meth := k17m3) (c := k17c3) (by decide +kernel) rfl rfl rfl (by decide +kernel)
set_option maxRecDepth 65536 in
theorem w_c39 : (Jvm.Cond.code ({ cls := "java/util/Arrays", name := "checkLength", desc := "(II)V" } : Jvm.MethodName) jdk_65_method_131_code (2 : Nat) (Option.none : Option Jvm.ClassFile.FieldType)).before args0 about1 = true := code_word (m := ⟨17, 1⟩) (meth := k17m1) (c := k17c1) (by decide +kernel) rfl rfl rfl (by decide +kernel)
set_option maxRecDepth 65536 in
theorem w_c40 : (Jvm.Cond.code ({ cls := "java/lang/Math", name := "min", desc := "(II)I" } : Jvm.MethodName) jdk_29_method_69_code (2 : Nat) (Option.some Jvm.ClassFile.FieldType.int)).before args0 about1 = true := code_word (m := ⟨18, 1⟩) (meth := k18m1) (c := k18c1) (by decide +kernel) rfl rfl rfl (by decide +kernel)
set_option maxRecDepth 65536 in
theorem w_c41 : (Jvm.Cond.code ({ cls := "java/lang/String", name := "charAt", desc := "(I)C" } : Jvm.MethodName) jdk_42_method_56_code (2 : Nat) (Option.some Jvm.ClassFile.FieldType.char)).before args0 about1 = true := code_word (m := ⟨7, 5⟩) (meth := k7m5) (c := k7c5) (by decide +kernel) rfl rfl rfl (by decide +kernel)
set_option maxRecDepth 65536 in
theorem w_c42 : (Jvm.Cond.code ({ cls := "java/lang/StringLatin1", name := "charAt", desc := "([BI)C" } : Jvm.MethodName) jdk_43_method_2_code (2 : Nat) (Option.some Jvm.ClassFile.FieldType.char)).before args0 about1 = true := code_word (m := ⟨12, 1⟩) (meth := k12m1) (c := k12c1) (by decide +kernel) rfl rfl rfl (by decide +kernel)
set_option maxRecDepth 65536 in
theorem w_c43 : (Jvm.Cond.code ({ cls := "java/lang/String", name := "checkIndex", desc := "(II)V" } : Jvm.MethodName) jdk_42_method_155_code (2 : Nat) (Option.none : Option Jvm.ClassFile.FieldType)).before args0 about1 = true := code_word (m := ⟨7, 16⟩) (meth := k7m16) (c := k7c16) (by decide +kernel) rfl rfl rfl (by decide +kernel)
set_option maxRecDepth 65536 in
theorem w_c44 : (Jvm.Cond.code ({ cls := "jdk/internal/util/Preconditions", name := "checkIndex", desc := "(IILjava/util/function/BiFunction;)I" } : Jvm.MethodName) jdk_41_method_11_code (3 : Nat) (Option.some Jvm.ClassFile.FieldType.int)).before args0 about1 = true := code_word (m := ⟨19, 1⟩) (meth := k19m1) (c := k19c1) (by decide +kernel) rfl rfl rfl (by decide +kernel)
set_option maxRecDepth 65536 in
theorem w_c45 : (Jvm.Cond.code ({ cls := "java/lang/String", name := "valueOf", desc := "(C)Ljava/lang/String;" } : Jvm.MethodName) jdk_42_method_139_code (1 : Nat) (Option.some (Jvm.ClassFile.FieldType.object "java/lang/String"))).before args0 about1 = true := code_word (m := ⟨7, 9⟩) (meth := k7m9) (c := k7c9) (by decide +kernel) rfl rfl rfl (by decide +kernel)
set_option maxRecDepth 65536 in
theorem w_c46 : (Jvm.Cond.code ({ cls := "java/lang/StringLatin1", name := "canEncode", desc := "(C)Z" } : Jvm.MethodName) jdk_43_method_3_code (1 : Nat) (Option.some Jvm.ClassFile.FieldType.boolean)).before args0 about1 = true := code_word (m := ⟨12, 2⟩) (meth := k12m2) (c := k12c2) (by decide +kernel) rfl rfl rfl (by decide +kernel)
set_option maxRecDepth 65536 in
theorem w_c47 : (Jvm.Cond.code ({ cls := "java/lang/StringLatin1", name := "toBytes", desc := "(C)[B" } : Jvm.MethodName) jdk_43_method_46_code (1 : Nat) (Option.some (Jvm.ClassFile.FieldType.array Jvm.ClassFile.FieldType.byte))).before args0 about1 = true := code_word (m := ⟨12, 5⟩) (meth := k12m5) (c := k12c5) (by decide +kernel) rfl rfl rfl (by decide +kernel)
set_option maxRecDepth 65536 in
theorem w_c48 : (Jvm.Cond.code ({ cls := "java/lang/String", name := "<init>", desc := "([BB)V" } : Jvm.MethodName) jdk_42_method_151_code (3 : Nat) (Option.none : Option Jvm.ClassFile.FieldType)).before args0 about1 = true := code_word (m := ⟨7, 13⟩) (meth := k7m13) (c := k7c13) (by decide +kernel) rfl rfl rfl (by decide +kernel)
def codes1 : List Jvm.Cond := [Jvm.Cond.code x code maxLocals ret, Jvm.Cond.code ({ cls := "org/adviceweft/pointcut/NamePatternToStringPinLaw", name := "ch", desc := "(I)C" } : Jvm.MethodName) method_2_code (2 : Nat) (Option.some Jvm.ClassFile.FieldType.char), Jvm.Cond.code ({ cls := "java/lang/String", name := "<init>", desc := "([C)V" } : Jvm.MethodName) jdk_42_method_3_code (2 : Nat) (Option.none : Option Jvm.ClassFile.FieldType), Jvm.Cond.code ({ cls := "java/lang/String", name := "<init>", desc := "([CIILjava/lang/Void;)V" } : Jvm.MethodName) jdk_42_method_149_code (6 : Nat) (Option.none : Option Jvm.ClassFile.FieldType), Jvm.Cond.code ({ cls := "java/lang/Object", name := "<init>", desc := "()V" } : Jvm.MethodName) object_method_1_code (1 : Nat) (Option.none : Option Jvm.ClassFile.FieldType), Jvm.Cond.code ({ cls := "java/lang/StringUTF16", name := "compress", desc := "([CII)[B" } : Jvm.MethodName) jdk_52_method_16_code (6 : Nat) (Option.some (Jvm.ClassFile.FieldType.array Jvm.ClassFile.FieldType.byte)), Jvm.Cond.code ({ cls := "java/lang/StringUTF16", name := "compress", desc := "([CI[BII)I" } : Jvm.MethodName) jdk_52_method_21_code (7 : Nat) (Option.some Jvm.ClassFile.FieldType.int), Jvm.Cond.code ({ cls := "java/lang/StringUTF16", name := "coderFromArrayLen", desc := "([BI)B" } : Jvm.MethodName) jdk_52_method_15_code (2 : Nat) (Option.some Jvm.ClassFile.FieldType.byte), Jvm.Cond.code ({ cls := "org/adviceweft/pointcut/NamePattern", name := "<init>", desc := "(Ljava/lang/String;ZZ)V" } : Jvm.MethodName) prog_8_method_1_code (4 : Nat) (Option.none : Option Jvm.ClassFile.FieldType), Jvm.Cond.code ({ cls := "java/lang/Record", name := "<init>", desc := "()V" } : Jvm.MethodName) jdk_30_method_1_code (1 : Nat) (Option.none : Option Jvm.ClassFile.FieldType), Jvm.Cond.code ({ cls := "java/util/Objects", name := "requireNonNull", desc := "(Ljava/lang/Object;Ljava/lang/String;)Ljava/lang/Object;" } : Jvm.MethodName) jdk_31_method_11_code (2 : Nat) (Option.some (Jvm.ClassFile.FieldType.object "java/lang/Object")), Jvm.Cond.code ({ cls := "java/lang/String", name := "contains", desc := "(Ljava/lang/CharSequence;)Z" } : Jvm.MethodName) jdk_42_method_97_code (2 : Nat) (Option.some Jvm.ClassFile.FieldType.boolean), Jvm.Cond.code ({ cls := "java/lang/String", name := "toString", desc := "()Ljava/lang/String;" } : Jvm.MethodName) jdk_42_method_126_code (1 : Nat) (Option.some (Jvm.ClassFile.FieldType.object "java/lang/String")), Jvm.Cond.code ({ cls := "java/lang/String", name := "indexOf", desc := "(Ljava/lang/String;)I" } : Jvm.MethodName) jdk_42_method_84_code (3 : Nat) (Option.some Jvm.ClassFile.FieldType.int), Jvm.Cond.code ({ cls := "java/lang/String", name := "coder", desc := "()B" } : Jvm.MethodName) jdk_42_method_152_code (1 : Nat) (Option.some Jvm.ClassFile.FieldType.byte), Jvm.Cond.code ({ cls := "java/lang/String", name := "isLatin1", desc := "()Z" } : Jvm.MethodName) jdk_42_method_154_code (1 : Nat) (Option.some Jvm.ClassFile.FieldType.boolean), Jvm.Cond.code ({ cls := "java/lang/StringLatin1", name := "indexOf", desc := "([B[B)I" } : Jvm.MethodName) jdk_43_method_24_code (2 : Nat) (Option.some Jvm.ClassFile.FieldType.int), Jvm.Cond.code ({ cls := "java/lang/StringLatin1", name := "indexOf", desc := "([BI[BII)I" } : Jvm.MethodName) jdk_43_method_25_code (11 : Nat) (Option.some Jvm.ClassFile.FieldType.int), Jvm.Cond.code ({ cls := "java/lang/String", name := "isEmpty", desc := "()Z" } : Jvm.MethodName) jdk_42_method_55_code (1 : Nat) (Option.some Jvm.ClassFile.FieldType.boolean), Jvm.Cond.code ({ cls := "org/adviceweft/pointcut/NamePattern", name := "toString", desc := "()Ljava/lang/String;" } : Jvm.MethodName) prog_8_method_4_code (1 : Nat) (Option.some (Jvm.ClassFile.FieldType.object "java/lang/String")), Jvm.Cond.code ({ cls := "org/adviceweft/pointcut/NamePattern", name := "written", desc := "(Ljava/lang/String;ZZ)Ljava/lang/String;" } : Jvm.MethodName) prog_8_method_5_code (3 : Nat) (Option.some (Jvm.ClassFile.FieldType.object "java/lang/String")), Jvm.Cond.code ({ cls := "java/lang/StringBuilder", name := "<init>", desc := "()V" } : Jvm.MethodName) jdk_67_method_1_code (1 : Nat) (Option.none : Option Jvm.ClassFile.FieldType), Jvm.Cond.code ({ cls := "java/lang/AbstractStringBuilder", name := "<init>", desc := "(I)V" } : Jvm.MethodName) jdk_68_method_2_code (2 : Nat) (Option.none : Option Jvm.ClassFile.FieldType), Jvm.Cond.code ({ cls := "java/lang/StringBuilder", name := "append", desc := "(Ljava/lang/String;)Ljava/lang/StringBuilder;" } : Jvm.MethodName) jdk_67_method_7_code (2 : Nat) (Option.some (Jvm.ClassFile.FieldType.object "java/lang/StringBuilder")), Jvm.Cond.code ({ cls := "java/lang/AbstractStringBuilder", name := "append", desc := "(Ljava/lang/String;)Ljava/lang/AbstractStringBuilder;" } : Jvm.MethodName) jdk_68_method_22_code (3 : Nat) (Option.some (Jvm.ClassFile.FieldType.object "java/lang/AbstractStringBuilder")), Jvm.Cond.code ({ cls := "java/lang/String", name := "length", desc := "()I" } : Jvm.MethodName) jdk_42_method_54_code (1 : Nat) (Option.some Jvm.ClassFile.FieldType.int), Jvm.Cond.code ({ cls := "java/lang/AbstractStringBuilder", name := "ensureCapacityInternal", desc := "(I)V" } : Jvm.MethodName) jdk_68_method_9_code (3 : Nat) (Option.none : Option Jvm.ClassFile.FieldType), Jvm.Cond.code ({ cls := "java/lang/AbstractStringBuilder", name := "putStringAt", desc := "(ILjava/lang/String;)V" } : Jvm.MethodName) jdk_68_method_73_code (3 : Nat) (Option.none : Option Jvm.ClassFile.FieldType), Jvm.Cond.code ({ cls := "java/lang/AbstractStringBuilder", name := "inflateIfNeededFor", desc := "(Ljava/lang/String;)V" } : Jvm.MethodName) jdk_68_method_71_code (2 : Nat) (Option.none : Option Jvm.ClassFile.FieldType), Jvm.Cond.code ({ cls := "java/lang/String", name := "getBytes", desc := "([BIB)V" } : Jvm.MethodName) jdk_42_method_147_code (4 : Nat) (Option.none : Option Jvm.ClassFile.FieldType), Jvm.Cond.code ({ cls := "java/lang/StringBuilder", name := "toString", desc := "()Ljava/lang/String;" } : Jvm.MethodName) jdk_67_method_42_code (1 : Nat) (Option.some (Jvm.ClassFile.FieldType.object "java/lang/String")), Jvm.Cond.code ({ cls := "java/lang/String", name := "<init>", desc := "(Ljava/lang/StringBuilder;)V" } : Jvm.MethodName) jdk_42_method_53_code (2 : Nat) (Option.none : Option Jvm.ClassFile.FieldType), Jvm.Cond.code ({ cls := "java/lang/String", name := "<init>", desc := "(Ljava/lang/AbstractStringBuilder;Ljava/lang/Void;)V" } : Jvm.MethodName) jdk_42_method_150_code (5 : Nat) (Option.none : Option Jvm.ClassFile.FieldType), Jvm.Cond.code ({ cls := "java/lang/AbstractStringBuilder", name := "getValue", desc := "()[B" } : Jvm.MethodName) jdk_68_method_64_code (1 : Nat) (Option.some (Jvm.ClassFile.FieldType.array Jvm.ClassFile.FieldType.byte)), Jvm.Cond.code ({ cls := "java/lang/StringBuilder", name := "length", desc := "()I" } : Jvm.MethodName) jdk_67_method_93_code (1 : Nat) (Option.some Jvm.ClassFile.FieldType.int), Jvm.Cond.code ({ cls := "java/lang/AbstractStringBuilder", name := "length", desc := "()I" } : Jvm.MethodName) jdk_68_method_6_code (1 : Nat) (Option.some Jvm.ClassFile.FieldType.int), Jvm.Cond.code ({ cls := "java/lang/AbstractStringBuilder", name := "isLatin1", desc := "()Z" } : Jvm.MethodName) jdk_68_method_68_code (1 : Nat) (Option.some Jvm.ClassFile.FieldType.boolean), Jvm.Cond.code ({ cls := "java/util/Arrays", name := "copyOfRange", desc := "([BII)[B" } : Jvm.MethodName) jdk_65_method_132_code (3 : Nat) (Option.some (Jvm.ClassFile.FieldType.array Jvm.ClassFile.FieldType.byte)), Jvm.Cond.code ({ cls := "java/util/Arrays", name := "copyOfRangeByte", desc := "([BII)[B" } : Jvm.MethodName) jdk_65_method_133_code (5 : Nat) (Option.some (Jvm.ClassFile.FieldType.array Jvm.ClassFile.FieldType.byte)), Jvm.Cond.code ({ cls := "java/util/Arrays", name := "checkLength", desc := "(II)V" } : Jvm.MethodName) jdk_65_method_131_code (2 : Nat) (Option.none : Option Jvm.ClassFile.FieldType), Jvm.Cond.code ({ cls := "java/lang/Math", name := "min", desc := "(II)I" } : Jvm.MethodName) jdk_29_method_69_code (2 : Nat) (Option.some Jvm.ClassFile.FieldType.int), Jvm.Cond.code ({ cls := "java/lang/String", name := "charAt", desc := "(I)C" } : Jvm.MethodName) jdk_42_method_56_code (2 : Nat) (Option.some Jvm.ClassFile.FieldType.char), Jvm.Cond.code ({ cls := "java/lang/StringLatin1", name := "charAt", desc := "([BI)C" } : Jvm.MethodName) jdk_43_method_2_code (2 : Nat) (Option.some Jvm.ClassFile.FieldType.char), Jvm.Cond.code ({ cls := "java/lang/String", name := "checkIndex", desc := "(II)V" } : Jvm.MethodName) jdk_42_method_155_code (2 : Nat) (Option.none : Option Jvm.ClassFile.FieldType), Jvm.Cond.code ({ cls := "jdk/internal/util/Preconditions", name := "checkIndex", desc := "(IILjava/util/function/BiFunction;)I" } : Jvm.MethodName) jdk_41_method_11_code (3 : Nat) (Option.some Jvm.ClassFile.FieldType.int), Jvm.Cond.code ({ cls := "java/lang/String", name := "valueOf", desc := "(C)Ljava/lang/String;" } : Jvm.MethodName) jdk_42_method_139_code (1 : Nat) (Option.some (Jvm.ClassFile.FieldType.object "java/lang/String")), Jvm.Cond.code ({ cls := "java/lang/StringLatin1", name := "canEncode", desc := "(C)Z" } : Jvm.MethodName) jdk_43_method_3_code (1 : Nat) (Option.some Jvm.ClassFile.FieldType.boolean), Jvm.Cond.code ({ cls := "java/lang/StringLatin1", name := "toBytes", desc := "(C)[B" } : Jvm.MethodName) jdk_43_method_46_code (1 : Nat) (Option.some (Jvm.ClassFile.FieldType.array Jvm.ClassFile.FieldType.byte)), Jvm.Cond.code ({ cls := "java/lang/String", name := "<init>", desc := "([BB)V" } : Jvm.MethodName) jdk_42_method_151_code (3 : Nat) (Option.none : Option Jvm.ClassFile.FieldType)]
set_option maxRecDepth 65536 in
theorem codes_eq : words1.filter isCode = codes1 := rfl
theorem w_codes : ∀ c ∈ words1.filter isCode, c.before args0 about1 = true := by
  rw [codes_eq]
  intro c hc
  simp only [codes1, List.mem_cons, List.not_mem_nil, or_false] at hc
  rcases hc with rfl | rfl | rfl | rfl | rfl | rfl | rfl | rfl | rfl | rfl | rfl | rfl | rfl | rfl | rfl | rfl | rfl | rfl | rfl | rfl | rfl | rfl | rfl | rfl | rfl | rfl | rfl | rfl | rfl | rfl | rfl | rfl | rfl | rfl | rfl | rfl | rfl | rfl | rfl | rfl | rfl | rfl | rfl | rfl | rfl | rfl | rfl | rfl | rfl
  · exact w_c0
  · exact w_c1
  · exact w_c2
  · exact w_c3
  · exact w_c4
  · exact w_c5
  · exact w_c6
  · exact w_c7
  · exact w_c8
  · exact w_c9
  · exact w_c10
  · exact w_c11
  · exact w_c12
  · exact w_c13
  · exact w_c14
  · exact w_c15
  · exact w_c16
  · exact w_c17
  · exact w_c18
  · exact w_c19
  · exact w_c20
  · exact w_c21
  · exact w_c22
  · exact w_c23
  · exact w_c24
  · exact w_c25
  · exact w_c26
  · exact w_c27
  · exact w_c28
  · exact w_c29
  · exact w_c30
  · exact w_c31
  · exact w_c32
  · exact w_c33
  · exact w_c34
  · exact w_c35
  · exact w_c36
  · exact w_c37
  · exact w_c38
  · exact w_c39
  · exact w_c40
  · exact w_c41
  · exact w_c42
  · exact w_c43
  · exact w_c44
  · exact w_c45
  · exact w_c46
  · exact w_c47
  · exact w_c48
set_option maxRecDepth 65536 in
theorem w_t1 : (words1.take 24).all (fun c => isCode c || c.before args0 about1) = true := by decide +kernel
set_option maxRecDepth 65536 in
theorem w_t2 : ((words1.drop 24).take 24).all (fun c => isCode c || c.before args0 about1) = true := by decide +kernel
set_option maxRecDepth 65536 in
theorem w_t3 : (((words1.drop 24).drop 24).take 24).all (fun c => isCode c || c.before args0 about1) = true := by decide +kernel
set_option maxRecDepth 65536 in
theorem w_t4 : ((((words1.drop 24).drop 24).drop 24).take 24).all (fun c => isCode c || c.before args0 about1) = true := by decide +kernel
set_option maxRecDepth 65536 in
theorem w_t5 : (((((words1.drop 24).drop 24).drop 24).drop 24).take 24).all (fun c => isCode c || c.before args0 about1) = true := by decide +kernel
set_option maxRecDepth 65536 in
theorem w_t6 : ((((((words1.drop 24).drop 24).drop 24).drop 24).drop 24).take 24).all (fun c => isCode c || c.before args0 about1) = true := by decide +kernel
set_option maxRecDepth 65536 in
theorem w_t7 : (((((((words1.drop 24).drop 24).drop 24).drop 24).drop 24).drop 24).take 24).all (fun c => isCode c || c.before args0 about1) = true := by decide +kernel
set_option maxRecDepth 65536 in
theorem w_t8 : ((((((((words1.drop 24).drop 24).drop 24).drop 24).drop 24).drop 24).drop 24).take 24).all (fun c => isCode c || c.before args0 about1) = true := by decide +kernel
set_option maxRecDepth 65536 in
theorem w_t9 : (((((((((words1.drop 24).drop 24).drop 24).drop 24).drop 24).drop 24).drop 24).drop 24).take 24).all (fun c => isCode c || c.before args0 about1) = true := by decide +kernel
set_option maxRecDepth 65536 in
theorem w_t10 : ((((((((((words1.drop 24).drop 24).drop 24).drop 24).drop 24).drop 24).drop 24).drop 24).drop 24).take 24).all (fun c => isCode c || c.before args0 about1) = true := by decide +kernel
set_option maxRecDepth 65536 in
theorem w_t11 : ((((((((((words1.drop 24).drop 24).drop 24).drop 24).drop 24).drop 24).drop 24).drop 24).drop 24).drop 24).all (fun c => isCode c || c.before args0 about1) = true := by decide +kernel
theorem w_tables : (allAtoms (Jvm.Cond.code x code maxLocals ret :: tables_1)).before args0 about1 = true := by
  rw [allAtoms_all]
  show words1.all (fun c => c.before args0 about1) = true
  refine all_split ?_ w_codes
  rw [← List.take_append_drop 24 words1, List.all_append, w_t1, ← List.take_append_drop 24 (words1.drop 24), List.all_append, w_t2, ← List.take_append_drop 24 ((words1.drop 24).drop 24), List.all_append, w_t3, ← List.take_append_drop 24 (((words1.drop 24).drop 24).drop 24), List.all_append, w_t4, ← List.take_append_drop 24 ((((words1.drop 24).drop 24).drop 24).drop 24), List.all_append, w_t5, ← List.take_append_drop 24 (((((words1.drop 24).drop 24).drop 24).drop 24).drop 24), List.all_append, w_t6, ← List.take_append_drop 24 ((((((words1.drop 24).drop 24).drop 24).drop 24).drop 24).drop 24), List.all_append, w_t7, ← List.take_append_drop 24 (((((((words1.drop 24).drop 24).drop 24).drop 24).drop 24).drop 24).drop 24), List.all_append, w_t8, ← List.take_append_drop 24 ((((((((words1.drop 24).drop 24).drop 24).drop 24).drop 24).drop 24).drop 24).drop 24), List.all_append, w_t9, ← List.take_append_drop 24 (((((((((words1.drop 24).drop 24).drop 24).drop 24).drop 24).drop 24).drop 24).drop 24).drop 24), List.all_append, w_t10, w_t11]
  rfl
set_option maxRecDepth 65536 in
theorem w_rest : rest_1_c.before args0 about1 = true := by decide +kernel
set_option maxRecDepth 65536 in
theorem w_case : (Jvm.Cond.and given_1 narrow_1).before args0 about1 = true := by decide +kernel
set_option maxRecDepth 65536 in
theorem w_consts : constsHeld consts_1 about1 := Jvm.Lit.constsHeldB_iff.mp (by decide +kernel)
theorem w_applies : (headSpec (Jvm.Cond.code x code maxLocals ret :: tables_1) room_1).applies x e0.platform about1 = true :=
  (Spec.applies_iff w_frames).mpr ⟨w_running, w_runnable, w_alone, w_named, w_hears, w_ripe, w_room, w_tables⟩
theorem atStart : AtStart classFile x code maxLocals ret World_1 tables_1 room_1 Calls_1 rest_1 Pre_1 launch0 p0 e0 about1 theMethod args0 below0 :=
  ⟨lists_1, trivial, launch0.admits_env _ _ _, launch0.least_env, fairChoices_fair.cas, fairChoices_fair.clock, w_frames, w_args, w_heap, w_applies, ⟨w_consts, trivial⟩, w_rest, w_case⟩
end start1
theorem witness_1 : WitnessClaimed_1 := ⟨start1.p0, start1.e0, start1.about1, start1.theMethod, start1.args0, start1.below0, start1.atStart⟩
end Jvm.Pilot.@@N@@
