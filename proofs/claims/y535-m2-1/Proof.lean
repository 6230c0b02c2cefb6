import JvmDerived
import JvmDerived.Pilot.@@N@@Statement
import JvmDerived.Pilot.@@N@@Code
set_option linter.unusedVariables false
set_option linter.unusedSimpArgs false
@@BLOCK:NumsL.lean.txt@@
namespace Jvm.RoadKit
open Sem ClassFile Op Lib Jvm.Stand Jvm.Free Jvm.LawKit
section Own
variable {p : Program} {l : Launch} {e : Env} {R : Room} {s : State} {m : MethodId} {args : Array Value} {below : List Frame} {meth : Method} {c : Code} {T T' : State} {locs : List Loc} {cells slots : Nat} {K : State → Outcome → Prop} {g g' : JFrame} {A A' : Array Slot} {S : List Value} {q : Nat} {x y : Int32} {v w : Value} {Z : State} {a0 : Array Value} {h : Heap}
theorem o_mask255 (x : Int32) : (x &&& 255).toInt = x.toInt % 256 := Jvm.Kit.i32_mask x 255 (k := 8) (by decide) (by decide)
/-- from T with the frame g the body comes to an end of which K is true -/
def o_G (p : Program) (e : Env) (below : List Frame) (K : State → Outcome → Prop) (T : State) (g : JFrame) : Prop := ∃ s₂ o, Steps p.tables e below (T.setTop g) s₂ ∧ s₂.status = .running ∧ Ended s₂ below o ∧ K s₂ o
def o_E (s : State) (Q : Option Value → Heap → List Loc → Prop) (C N : Nat) (t : State) (o : Outcome) : Prop := ∃ v L, o = .returned v ∧ Q v t.heap L ∧ FrameEnd s o t L C N
theorem o_st (h : ∀ t, Steps p.tables e below (T'.setTop g') t → Steps p.tables e below (T.setTop g) t) (k : o_G p e below K T' g') : o_G p e below K T g := by
  obtain ⟨a, b, c, d⟩ := k; exact ⟨a, b, h _ c, d⟩
theorem o_tr (h : Steps p.tables e below (T.setTop g) (T'.setTop g')) (k : o_G p e below K T' g') : o_G p e below K T g := by
  obtain ⟨a, b, c, d⟩ := k; exact ⟨a, b, h.trans c, d⟩
theorem o_up {C N : Nat} (X : Stand p l e R s m args below meth c T locs cells slots) (h1 : cells ≤ C) (h2 : slots ≤ N) : Stand p l e R s m args below meth c T locs C N := { X with same := X.same.mono h1 h2 }
theorem o_iload (X : Stand p l e R s m args below meth c T locs cells slots) (hx : p.tables.exec = Jvm.exec) {k : Nat} (hd : decode c.code q = .ok (.iload k, 2)) (hl : A[k]? = some (.val (.int x))) (kk : o_G p e below K T (mkF m (q + 2) A (.int x :: S))) : o_G p e below K T (mkF m q A S) := o_st (fun _ z => XS.iload X.here hx rfl hd hl z) kk
theorem o_iloadN (X : Stand p l e R s m args below meth c T locs cells slots) (hx : p.tables.exec = Jvm.exec) {k : Fin 4} (hd : decode c.code q = .ok (.iload_n k, 1)) (hl : A[k.val]? = some (.val (.int x))) (kk : o_G p e below K T (mkF m (q + 1) A (.int x :: S))) : o_G p e below K T (mkF m q A S) := o_st (fun _ z => XS.iloadN X.here hx rfl hd hl z) kk
theorem o_aload (X : Stand p l e R s m args below meth c T locs cells slots) (hx : p.tables.exec = Jvm.exec) {k : Nat} (hd : decode c.code q = .ok (.aload k, 2)) (hl : A[k]? = some (.val v)) (hv : v.isRef = true) (kk : o_G p e below K T (mkF m (q + 2) A (v :: S))) : o_G p e below K T (mkF m q A S) := o_st (fun _ z => XS.aload X.here hx rfl hd hl hv z) kk
theorem o_aloadN (X : Stand p l e R s m args below meth c T locs cells slots) (hx : p.tables.exec = Jvm.exec) {k : Fin 4} (hd : decode c.code q = .ok (.aload_n k, 1)) (hl : A[k.val]? = some (.val v)) (hv : v.isRef = true) (kk : o_G p e below K T (mkF m (q + 1) A (v :: S))) : o_G p e below K T (mkF m q A S) := o_st (fun _ z => XS.aloadN X.here hx rfl hd hl hv z) kk
theorem o_istore (X : Stand p l e R s m args below meth c T locs cells slots) (hx : p.tables.exec = Jvm.exec) {k : Nat} (hd : decode c.code q = .ok (.istore k, 2)) (hl : storeLocals A k (.int x) = some A') (kk : o_G p e below K T (mkF m (q + 2) A' S)) : o_G p e below K T (mkF m q A (.int x :: S)) := o_st (fun _ z => XS.istore X.here hx rfl hd rfl hl z) kk
theorem o_istoreN (X : Stand p l e R s m args below meth c T locs cells slots) (hx : p.tables.exec = Jvm.exec) {k : Fin 4} (hd : decode c.code q = .ok (.istore_n k, 1)) (hl : storeLocals A k.val (.int x) = some A') (kk : o_G p e below K T (mkF m (q + 1) A' S)) : o_G p e below K T (mkF m q A (.int x :: S)) := o_st (fun _ z => XS.istoreN X.here hx rfl hd rfl hl z) kk
theorem o_astore (X : Stand p l e R s m args below meth c T locs cells slots) (hx : p.tables.exec = Jvm.exec) {k : Nat} (hd : decode c.code q = .ok (.astore k, 2)) (hv : v.isRef = true) (hl : storeLocals A k v = some A') (kk : o_G p e below K T (mkF m (q + 2) A' S)) : o_G p e below K T (mkF m q A (v :: S)) := o_st (fun _ z => XS.astore X.here hx rfl hd rfl hv hl z) kk
theorem o_astoreN (X : Stand p l e R s m args below meth c T locs cells slots) (hx : p.tables.exec = Jvm.exec) {k : Fin 4} (hd : decode c.code q = .ok (.astore_n k, 1)) (hv : v.isRef = true) (hl : storeLocals A k.val v = some A') (kk : o_G p e below K T (mkF m (q + 1) A' S)) : o_G p e below K T (mkF m q A (v :: S)) := o_st (fun _ z => XS.astoreN X.here hx rfl hd rfl hv hl z) kk
theorem o_iconst (X : Stand p l e R s m args below meth c T locs cells slots) (hx : p.tables.exec = Jvm.exec) {i : Int} (hd : decode c.code q = .ok (.iconst i, 1)) (hv : Int32.ofInt i = x) (kk : o_G p e below K T (mkF m (q + 1) A (.int x :: S))) : o_G p e below K T (mkF m q A S) := o_st (fun _ z => XS.iconst X.here hx rfl hd z) (hv ▸ kk)
theorem o_bipush (X : Stand p l e R s m args below meth c T locs cells slots) (hx : p.tables.exec = Jvm.exec) {i : Int} (hd : decode c.code q = .ok (.bipush i, 2)) (hv : (Int8.ofInt i).toInt32 = x) (kk : o_G p e below K T (mkF m (q + 2) A (.int x :: S))) : o_G p e below K T (mkF m q A S) := o_st (fun _ z => XS.bipush X.here hx rfl hd z) (hv ▸ kk)
theorem o_sipush (X : Stand p l e R s m args below meth c T locs cells slots) (hx : p.tables.exec = Jvm.exec) {i : Int} (hd : decode c.code q = .ok (.sipush i, 3)) (hv : (Int16.ofInt i).toInt32 = x) (kk : o_G p e below K T (mkF m (q + 3) A (.int x :: S))) : o_G p e below K T (mkF m q A S) := o_st (fun _ z => XS.sipush X.here hx rfl hd z) (hv ▸ kk)
theorem o_anull (X : Stand p l e R s m args below meth c T locs cells slots) (hx : p.tables.exec = Jvm.exec) (hd : decode c.code q = .ok (.aconst_null, 1)) (kk : o_G p e below K T (mkF m (q + 1) A (.null :: S))) : o_G p e below K T (mkF m q A S) := o_st (fun _ z => XS.aconstNull X.here hx rfl hd z) kk
theorem o_iadd (X : Stand p l e R s m args below meth c T locs cells slots) (hx : p.tables.exec = Jvm.exec) (hd : decode c.code q = .ok (.iadd, 1)) (kk : o_G p e below K T (mkF m (q + 1) A (.int (x + y) :: S))) : o_G p e below K T (mkF m q A (.int y :: .int x :: S)) := o_st (fun _ z => XS.iadd X.here hx rfl hd rfl z) kk
theorem o_isub (X : Stand p l e R s m args below meth c T locs cells slots) (hx : p.tables.exec = Jvm.exec) (hd : decode c.code q = .ok (.isub, 1)) (kk : o_G p e below K T (mkF m (q + 1) A (.int (x - y) :: S))) : o_G p e below K T (mkF m q A (.int y :: .int x :: S)) := o_st (fun _ z => XS.isub X.here hx rfl hd rfl z) kk
theorem o_imul (X : Stand p l e R s m args below meth c T locs cells slots) (hx : p.tables.exec = Jvm.exec) (hd : decode c.code q = .ok (.imul, 1)) (kk : o_G p e below K T (mkF m (q + 1) A (.int (x * y) :: S))) : o_G p e below K T (mkF m q A (.int y :: .int x :: S)) := o_st (fun _ z => XS.imul X.here hx rfl hd rfl z) kk
theorem o_iand (X : Stand p l e R s m args below meth c T locs cells slots) (hx : p.tables.exec = Jvm.exec) (hd : decode c.code q = .ok (.iand, 1)) (kk : o_G p e below K T (mkF m (q + 1) A (.int (x &&& y) :: S))) : o_G p e below K T (mkF m q A (.int y :: .int x :: S)) := o_st (fun _ z => XS.iand X.here hx rfl hd rfl z) kk
theorem o_ior (X : Stand p l e R s m args below meth c T locs cells slots) (hx : p.tables.exec = Jvm.exec) (hd : decode c.code q = .ok (.ior, 1)) (kk : o_G p e below K T (mkF m (q + 1) A (.int (x ||| y) :: S))) : o_G p e below K T (mkF m q A (.int y :: .int x :: S)) := o_st (fun _ z => XT.ior X.here hx rfl hd rfl z) kk
theorem o_ixor (X : Stand p l e R s m args below meth c T locs cells slots) (hx : p.tables.exec = Jvm.exec) (hd : decode c.code q = .ok (.ixor, 1)) (kk : o_G p e below K T (mkF m (q + 1) A (.int (x ^^^ y) :: S))) : o_G p e below K T (mkF m q A (.int y :: .int x :: S)) := o_st (fun _ z => XT.ixor X.here hx rfl hd rfl z) kk
theorem o_irem (X : Stand p l e R s m args below meth c T locs cells slots) (hx : p.tables.exec = Jvm.exec) (hd : decode c.code q = .ok (.irem, 1)) (hy : y ≠ 0) (kk : o_G p e below K T (mkF m (q + 1) A (.int (x % y) :: S))) : o_G p e below K T (mkF m q A (.int y :: .int x :: S)) := o_st (fun _ z => iremM (g := mkF m q A (.int y :: .int x :: S)) X hx rfl hd rfl hy z) kk
theorem o_iushr (X : Stand p l e R s m args below meth c T locs cells slots) (hx : p.tables.exec = Jvm.exec) (hd : decode c.code q = .ok (.iushr, 1)) (kk : o_G p e below K T (mkF m (q + 1) A (.int (XT.ushr x y) :: S))) : o_G p e below K T (mkF m q A (.int y :: .int x :: S)) := o_st (fun _ z => XT.iushr X.here hx rfl hd rfl z) kk
theorem o_ishl (X : Stand p l e R s m args below meth c T locs cells slots) (hx : p.tables.exec = Jvm.exec) (hd : decode c.code q = .ok (.ishl, 1)) (kk : o_G p e below K T (mkF m (q + 1) A (.int (x <<< (y &&& 31)) :: S))) : o_G p e below K T (mkF m q A (.int y :: .int x :: S)) := o_st (fun _ z => XT.ishl X.here hx rfl hd rfl z) kk
theorem o_ishr (X : Stand p l e R s m args below meth c T locs cells slots) (hx : p.tables.exec = Jvm.exec) (hd : decode c.code q = .ok (.ishr, 1)) (kk : o_G p e below K T (mkF m (q + 1) A (.int (x >>> (y &&& 31)) :: S))) : o_G p e below K T (mkF m q A (.int y :: .int x :: S)) := o_st (fun _ z => XT.ishr X.here hx rfl hd rfl z) kk
theorem o_i2b (X : Stand p l e R s m args below meth c T locs cells slots) (hx : p.tables.exec = Jvm.exec) (hd : decode c.code q = .ok (.i2b, 1)) (kk : o_G p e below K T (mkF m (q + 1) A (.int x.toInt8.toInt32 :: S))) : o_G p e below K T (mkF m q A (.int x :: S)) := o_st (fun _ z => XT.i2b X.here hx rfl hd rfl z) kk
theorem o_i2c (X : Stand p l e R s m args below meth c T locs cells slots) (hx : p.tables.exec = Jvm.exec) (hd : decode c.code q = .ok (.i2c, 1)) (kk : o_G p e below K T (mkF m (q + 1) A (.int x.toUInt32.toUInt16.toUInt32.toInt32 :: S))) : o_G p e below K T (mkF m q A (.int x :: S)) := o_st (fun _ z => XT.i2c X.here hx rfl hd rfl z) kk
theorem o_iinc (X : Stand p l e R s m args below meth c T locs cells slots) (hx : p.tables.exec = Jvm.exec) {k : Nat} {cst : Int} (hd : decode c.code q = .ok (.iinc k cst, 3)) (hv : Int32.ofInt cst = y) (hl : A[k]? = some (.val (.int x))) (hs : storeLocals A k (.int (x + y)) = some A') (kk : o_G p e below K T (mkF m (q + 3) A' S)) : o_G p e below K T (mkF m q A S) := o_st (fun _ z => XS.iinc X.here hx rfl hd hl (hv ▸ hs) z) kk
theorem o_dup (X : Stand p l e R s m args below meth c T locs cells slots) (hx : p.tables.exec = Jvm.exec) (hd : decode c.code q = .ok (.dup, 1)) (hc : v.category = 1) (kk : o_G p e below K T (mkF m (q + 1) A (v :: v :: S))) : o_G p e below K T (mkF m q A (v :: S)) := o_st (fun _ z => XS.dup X.here hx rfl hd rfl hc z) kk
theorem o_dupX1 (X : Stand p l e R s m args below meth c T locs cells slots) (hx : p.tables.exec = Jvm.exec) (hd : decode c.code q = .ok (.dup_x1, 1)) (hc : v.category = 1) (hc' : w.category = 1) (kk : o_G p e below K T (mkF m (q + 1) A (v :: w :: v :: S))) : o_G p e below K T (mkF m q A (v :: w :: S)) := o_st (fun _ z => XT.dupX1 X.here hx rfl hd rfl hc hc' z) kk
theorem o_dup2 (X : Stand p l e R s m args below meth c T locs cells slots) (hx : p.tables.exec = Jvm.exec) (hd : decode c.code q = .ok (.dup2, 1)) (hc : v.category = 1) (hc' : w.category = 1) (kk : o_G p e below K T (mkF m (q + 1) A (v :: w :: v :: w :: S))) : o_G p e below K T (mkF m q A (v :: w :: S)) := o_st (fun _ z => XT.dup2 X.here hx rfl hd rfl hc hc' z) kk
theorem o_pop (X : Stand p l e R s m args below meth c T locs cells slots) (hx : p.tables.exec = Jvm.exec) (hd : decode c.code q = .ok (.pop, 1)) (hc : v.category = 1) (kk : o_G p e below K T (mkF m (q + 1) A S)) : o_G p e below K T (mkF m q A (v :: S)) := o_st (fun _ z => XT.pop X.here hx rfl hd rfl hc z) kk
theorem o_goto (X : Stand p l e R s m args below meth c T locs cells slots) (hx : p.tables.exec = Jvm.exec) {o : Int} {t : Nat} (hd : decode c.code q = .ok (.goto o, 3)) (ho : 0 ≤ (q : Int) + o) (ht : ((q : Int) + o).toNat = t) (kk : o_G p e below K T (mkF m t A S)) : o_G p e below K T (mkF m q A S) := o_st (fun _ z => XS.goto X.here hx rfl (pc0 := q) rfl hd ho ht z) kk
theorem o_if (X : Stand p l e R s m args below meth c T locs cells slots) (hx : p.tables.exec = Jvm.exec) {cd : ClassFile.Cond} {o : Int} {t : Nat} (hd : decode c.code q = .ok (.ifCond cd o, 3)) (ho : 0 ≤ (q : Int) + o) (ht : ((q : Int) + o).toNat = t) (kT : ifCond.holds cd x = true → o_G p e below K T (mkF m t A S)) (kF : ifCond.holds cd x = false → o_G p e below K T (mkF m (q + 3) A S)) : o_G p e below K T (mkF m q A (.int x :: S)) := by
  cases hc : ifCond.holds cd x with
  | true => exact o_st (fun _ z => XS.ifYes X.here hx rfl (pc0 := q) rfl hd rfl hc ho ht z) (kT hc)
  | false => exact o_st (fun _ z => XS.ifNo X.here hx rfl hd rfl hc z) (kF hc)
theorem o_icmp (X : Stand p l e R s m args below meth c T locs cells slots) (hx : p.tables.exec = Jvm.exec) {cd : ClassFile.Cond} {o : Int} {t : Nat} (hd : decode c.code q = .ok (.if_icmp cd o, 3)) (ho : 0 ≤ (q : Int) + o) (ht : ((q : Int) + o).toNat = t) (kT : if_icmp.holds cd x y = true → o_G p e below K T (mkF m t A S)) (kF : if_icmp.holds cd x y = false → o_G p e below K T (mkF m (q + 3) A S)) : o_G p e below K T (mkF m q A (.int y :: .int x :: S)) := by
  cases hc : if_icmp.holds cd x y with
  | true => exact o_st (fun _ z => XS.icmpYes X.here hx rfl (pc0 := q) rfl hd rfl hc ho ht z) (kT hc)
  | false => exact o_st (fun _ z => XS.icmpNo X.here hx rfl hd rfl hc z) (kF hc)
theorem o_h_eq : (ifCond.holds .eq x = true → x = 0) ∧ (ifCond.holds .eq x = false → ¬ x = 0) := by simp [ifCond.holds]
theorem o_h_ne : (ifCond.holds .ne x = true → ¬ x = 0) ∧ (ifCond.holds .ne x = false → x = 0) := by simp [ifCond.holds]
theorem o_h_lt : (ifCond.holds .lt x = true → x < 0) ∧ (ifCond.holds .lt x = false → ¬ x < 0) := by simp [ifCond.holds]
theorem o_h_ge : (ifCond.holds .ge x = true → ¬ x < 0) ∧ (ifCond.holds .ge x = false → x < 0) := by simp [ifCond.holds, ← Int32.not_lt]
theorem o_h_gt : (ifCond.holds .gt x = true → 0 < x) ∧ (ifCond.holds .gt x = false → ¬ 0 < x) := by simp [ifCond.holds]
theorem o_h_le : (ifCond.holds .le x = true → ¬ 0 < x) ∧ (ifCond.holds .le x = false → 0 < x) := by simp [ifCond.holds, ← Int32.not_lt]
theorem o_c_eq : (if_icmp.holds .eq x y = true → x = y) ∧ (if_icmp.holds .eq x y = false → ¬ x = y) := by simp [if_icmp.holds]
theorem o_c_ne : (if_icmp.holds .ne x y = true → ¬ x = y) ∧ (if_icmp.holds .ne x y = false → x = y) := by simp [if_icmp.holds]
theorem o_c_lt : (if_icmp.holds .lt x y = true → x < y) ∧ (if_icmp.holds .lt x y = false → ¬ x < y) := by simp [if_icmp.holds]
theorem o_c_ge : (if_icmp.holds .ge x y = true → ¬ x < y) ∧ (if_icmp.holds .ge x y = false → x < y) := by simp [if_icmp.holds, ← Int32.not_lt]
theorem o_c_gt : (if_icmp.holds .gt x y = true → y < x) ∧ (if_icmp.holds .gt x y = false → ¬ y < x) := by simp [if_icmp.holds]
theorem o_c_le : (if_icmp.holds .le x y = true → ¬ y < x) ∧ (if_icmp.holds .le x y = false → y < x) := by simp [if_icmp.holds, ← Int32.not_lt]
theorem o_acmp (X : Stand p l e R s m args below meth c T locs cells slots) (hx : p.tables.exec = Jvm.exec) {cd : ACond} {o : Int} {t : Nat} (h1 : v.isRef = true) (h2 : w.isRef = true) (hd : decode c.code q = .ok (.if_acmp cd o, 3)) (ho : 0 ≤ (q : Int) + o) (ht : ((q : Int) + o).toNat = t) (kY : v = w → o_G p e below K T (mkF m (if acV cd true = true then t else q + 3) A S)) (kN : ¬ v = w → o_G p e below K T (mkF m (if acV cd false = true then t else q + 3) A S)) : o_G p e below K T (mkF m q A (w :: v :: S)) := by
  by_cases hq : v = w
  · exact o_st (fun _ z => acmp (g := mkF m q A (w :: v :: S)) X hx rfl h1 h2 (pc0 := q) rfl hd rfl (decide_eq_true hq) ho (by rw [ht]) z) (kY hq)
  · exact o_st (fun _ z => acmp (g := mkF m q A (w :: v :: S)) X hx rfl h1 h2 (pc0 := q) rfl hd rfl (decide_eq_false hq) ho (by rw [ht]) z) (kN hq)
theorem o_nullY (X : Stand p l e R s m args below meth c T locs cells slots) (hx : p.tables.exec = Jvm.exec) {o : Int} {t : Nat} (hd : decode c.code q = .ok (.ifnull o, 3)) (ho : 0 ≤ (q : Int) + o) (ht : ((q : Int) + o).toNat = t) (kk : o_G p e below K T (mkF m t A S)) : o_G p e below K T (mkF m q A (.null :: S)) := o_st (fun _ z => XS.ifnullYes X.here hx rfl (pc0 := q) rfl hd rfl ho ht z) kk
theorem o_nullN {b : Addr} (X : Stand p l e R s m args below meth c T locs cells slots) (hx : p.tables.exec = Jvm.exec) {o : Int} (hd : decode c.code q = .ok (.ifnull o, 3)) (kk : o_G p e below K T (mkF m (q + 3) A S)) : o_G p e below K T (mkF m q A (.ref b :: S)) := o_st (fun _ z => XS.ifnullNo X.here hx rfl hd rfl z) kk
theorem o_nonnullY {b : Addr} (X : Stand p l e R s m args below meth c T locs cells slots) (hx : p.tables.exec = Jvm.exec) {o : Int} {t : Nat} (hd : decode c.code q = .ok (.ifnonnull o, 3)) (ho : 0 ≤ (q : Int) + o) (ht : ((q : Int) + o).toNat = t) (kk : o_G p e below K T (mkF m t A S)) : o_G p e below K T (mkF m q A (.ref b :: S)) := o_st (fun _ z => XT.ifnonnullYes X.here hx rfl (pc0 := q) rfl hd rfl ho ht z) kk
theorem o_nonnullN (X : Stand p l e R s m args below meth c T locs cells slots) (hx : p.tables.exec = Jvm.exec) {o : Int} (hd : decode c.code q = .ok (.ifnonnull o, 3)) (kk : o_G p e below K T (mkF m (q + 3) A S)) : o_G p e below K T (mkF m q A (.null :: S)) := o_st (fun _ z => XT.ifnonnullNo X.here hx rfl hd rfl z) kk
theorem o_fitR {ty : FieldType} (ht : ty.isReference = true) (hv : v.isRef = true) : fits ty v = true := by
  rcases ref_cases hv with rfl | ⟨a, rfl⟩ <;> cases ty <;> simp_all [fits, FieldType.isReference]
theorem o_chr (x : Int32) : ∃ c : Int32, c = x &&& 255 ∧ (x &&& 255).toUInt32.toUInt16.toUInt32.toInt32 = c ∧ nar .char c = c ∧ ¬ c < 0 ∧ ¬ (255 : Int32) < c := by
  have h1 : (x &&& 255).toInt = x.toInt % 256 := by
    have := Jvm.RoadKit.o_mask255 x
    exact this
  refine ⟨x &&& 255, rfl, i2c_mask x, i2c_mask x, ?_, ?_⟩
  · rw [Int32.lt_iff_toInt_lt, h1]; show ¬ _ < (0 : Int); omega
  · rw [Int32.lt_iff_toInt_lt, h1]; show ¬ (255 : Int) < _; omega
theorem o_join {α : Type} {P : α → Prop} {F : α → JFrame} (X : Stand p l e R s m args below meth c T locs cells slots) (eT : T.heap = h) (kJ : ∀ T', Stand p l e R s m args below meth c T' locs cells slots → T'.heap = h → ∀ a, P a → o_G p e below K T' (F a)) (kB : (∀ T', Stand p l e R s m args below meth c T' locs cells slots → T'.heap = h → ∀ a, P a → o_G p e below K T' (F a)) → o_G p e below K T g) : o_G p e below K T g := kB kJ
theorem o_notInst {C Kn : String} {n : Nat} (w : (Cond.superclass C "java/lang/Object").before a0 Z = true) (w0 : (Cond.noSuperclass "java/lang/Object").before a0 Z = true) (wi : (Cond.instantiable Kn n).before a0 Z = true) (h1 : C ≠ Kn) (h2 : "java/lang/Object" ≠ Kn) : ∃ c t, Z.vm.findClass C = some c ∧ Z.vm.findClass Kn = some t ∧ Z.vm.assignable c t = false := by
  obtain ⟨t, kt, g0, g2, g5, g7, -⟩ := Cond.instantiable_spec wi
  obtain ⟨c, h0⟩ := found_sup w
  obtain ⟨p, k, kp, e1, e2, e3, e4, e5, -, e7⟩ := Cond.superclass_spec h0 w
  obtain ⟨o, ko, o1, o2, o3, -, -⟩ := Cond.noSuperclass_spec w0
  cases o1.symm.trans e1
  have ne := ids_ne h0 g0 h1
  have ne2 := ids_ne o1 g0 h2
  have n3 : ∀ fuel, Z.vm.isSubclassAux fuel c t = false := fun fuel => by
    cases fuel with
    | zero => rfl
    | succ f =>
      cases f with
      | zero => simp [Vm.isSubclassAux, ne, e2, e4]
      | succ f => simp [Vm.isSubclassAux, ne, e2, e4, ne2, o2, o3]
  have g8 : kt.isInterface = false := by
    cases hi : kt.isInterface with
    | false => rfl
    | true => rw [hi] at g7; simp at g7
  refine ⟨c, t, h0, g0, ?_⟩
  show Z.vm.assignableAux (255 + 1) c t = false
  simp [Vm.assignableAux, ne, e2, g2, e5, g5, g8, Vm.isSubclass, n3]
/-! the ends of a body -/
section Ends
variable {Q : Option Value → Heap → List Loc → Prop} {C N : Nat}
theorem o_retN {t : FieldType} (X : Stand p l e R s m args below meth c T locs cells slots) (hx : p.tables.exec = Jvm.exec) (hret : meth.sig.returnType = some t) (hlocks : meth.locks = false) (ht : t = .boolean ∨ t = .byte ∨ t = .char ∨ t = .short) (hd : decode c.code q = .ok (.ireturn, 1)) (hn : nar t x = x) (hc : cells ≤ C) (hs : slots ≤ N) (hQ : Q (some (.int x)) T.heap locs) : o_G p e below (o_E s Q C N) T (mkF m q A (.int x :: S)) := by
  obtain ⟨fs, hr, hrun, hended, hW, hsame⟩ := X.leave (v := some (.int (nar t x))) (fun h => by rw [hret] at h; cases h) hlocks
  refine ⟨_, _, retN X hx hret ht hd hr, hrun, hended, _, _, rfl, ?_, ⟨_, rfl⟩, hW, hsame.mono hc hs⟩
  rw [hn]; exact hQ
theorem o_retI (X : Stand p l e R s m args below meth c T locs cells slots) (hx : p.tables.exec = Jvm.exec) (hret : meth.sig.returnType = some .int) (hlocks : meth.locks = false) (hd : decode c.code q = .ok (.ireturn, 1)) (hc : cells ≤ C) (hs : slots ≤ N) (hQ : Q (some (.int x)) T.heap locs) : o_G p e below (o_E s Q C N) T (mkF m q A (.int x :: S)) := by
  obtain ⟨fs, hr, hrun, hended, hW, hsame⟩ := X.leave (v := some (.int x)) (fun h => by rw [hret] at h; cases h) hlocks
  exact ⟨_, _, retOut X hx hret rfl (Or.inl ⟨rfl, Or.inl rfl, _, rfl⟩) hd hr, hrun, hended, _, _, rfl, hQ, ⟨_, rfl⟩, hW, hsame.mono hc hs⟩
theorem o_retA {t : FieldType} (X : Stand p l e R s m args below meth c T locs cells slots) (hx : p.tables.exec = Jvm.exec) (hret : meth.sig.returnType = some t) (hlocks : meth.locks = false) (ht : t.isReference = true) (hv : v.isRef = true) (hn : narrow t v = v) (hd : decode c.code q = .ok (.areturn, 1)) (hc : cells ≤ C) (hs : slots ≤ N) (hQ : Q (some v) T.heap locs) : o_G p e below (o_E s Q C N) T (mkF m q A (v :: S)) := by
  obtain ⟨fs, hr, hrun, hended, hW, hsame⟩ := X.leave (v := some v) (fun h => by rw [hret] at h; cases h) hlocks
  exact ⟨_, _, retOut X hx hret hn (Or.inr (Or.inr (Or.inr (Or.inr ⟨rfl, ht, hv⟩)))) hd hr, hrun, hended, _, _, rfl, hQ, ⟨_, rfl⟩, hW, hsame.mono hc hs⟩
theorem o_retV (X : Stand p l e R s m args below meth c T locs cells slots) (hx : p.tables.exec = Jvm.exec) (hret : meth.sig.returnType = none) (hlocks : meth.locks = false) (hd : decode c.code q = .ok (.return_, 1)) (hc : cells ≤ C) (hs : slots ≤ N) (hQ : Q none T.heap locs) : o_G p e below (o_E s Q C N) T (mkF m q A []) := by
  obtain ⟨fs, hr, hrun, hended, hW, hsame⟩ := X.leave (v := none) (fun _ => rfl) hlocks
  exact ⟨_, _, X.returnOut hx hret hd hr, hrun, hended, _, _, rfl, hQ, ⟨_, rfl⟩, hW, hsame.mono hc hs⟩
end Ends
/-! calls, by what pays them -/
section Calls
variable {Q : Option Value → Heap → List Loc → Prop} {kc ks W : Nat} {own C : String} {index : Nat} {z y : MethodName} {argsL St : List Value} {b : Addr}
theorem o_static {bytes : ByteArray} {maxL : Nat} {ret : Option FieldType} {y : MethodName} (X : Stand p l e R s m args below meth c T locs cells slots) (hx : p.tables.exec = Jvm.exec) (hZ : Z.Warmed39 s.vm) (hown : s.vm.findClass own = some m.cls) (w1 : (Cond.methodLink own index y).before a0 Z = true) (w2 : (Cond.static y).before a0 Z = true) (w3 : (Cond.initialized y.cls).before a0 Z = true) (w4 : (Cond.code y bytes maxL ret).before a0 Z = true) (hy : y.cls ≠ "java/lang/invoke/MethodHandle" ∧ y.cls ≠ "java/lang/invoke/VarHandle")
    (hK : Back l R p e below s args y 3 W (fun P a => a = argsL.toArray ∧ P.U.heap = h ∧ P.cells + kc ≤ R.cells ∧ P.slots + ks ≤ R.slots) (fun P _ v B => ∃ L, Q v B.U.heap L ∧ B.locs = P.locs ++ L ∧ B.cells = P.cells + kc ∧ B.slots = P.slots + ks))
    (eT : T.heap = h) (hsz : A.size = c.maxLocals) (hlen : ∀ sig, parseMethodDescriptor y.desc = some sig → argsL.length = sig.parameters.length) (hst : St = argsL.reverse ++ S) (hW : (S.map fun v => v.category).sum ≤ W) (hd : decode c.code q = .ok (.invokestatic index, 3)) (hc : cells + kc ≤ R.cells) (hs : slots + ks ≤ R.slots)
    (kk : ∀ T' L v, Stand p l e R s m args below meth c T' (locs ++ L) (cells + kc) (slots + ks) → Q v T'.heap L → o_G p e below K T' (mkF m (q + 3) A (v.toList ++ S))) : o_G p e below K T (mkF m q A St) := by
  subst hst
  obtain ⟨v, _, ⟨T', L', k', n'⟩, -, X', ⟨L, hQ, l1, l2, l3⟩, st⟩ := Jvm.LawKit.callS X hx hown (mvT hZ w1) (mvT hZ w2) (mvT hZ w3) (mvT hZ w4) hy hK (g := mkF m q A (argsL.reverse ++ S)) rfl hsz hlen rfl (by show 2 * 0 + _ ≤ _; omega) hd (fun _ _ => ⟨rfl, eT, hc, hs⟩)
  dsimp only [Pt.U, Pt.locs, Pt.cells, Pt.slots] at X' l1 l2 l3 st hQ
  subst l1 l2 l3
  exact o_st st (kk _ _ _ X' hQ)
theorem o_init {bytes : ByteArray} {maxL : Nat} {y : MethodName} (hy1 : y.name = "<init>") (X : Stand p l e R s m args below meth c T locs cells slots) (hx : p.tables.exec = Jvm.exec) (hZ : Z.Warmed39 s.vm) (hown : s.vm.findClass own = some m.cls) (w1 : (Cond.methodLink own index y).before a0 Z = true) (w2 : (Cond.instanceMethod y).before a0 Z = true) (w4 : (Cond.code y bytes maxL none).before a0 Z = true) (hy : y.cls ≠ "java/lang/invoke/MethodHandle" ∧ y.cls ≠ "java/lang/invoke/VarHandle")
    (hK : Back l R p e below s args y 3 W (fun P a => a = (Value.ref b :: argsL).toArray ∧ P.U.heap = h ∧ P.cells + kc ≤ R.cells ∧ P.slots + ks ≤ R.slots) (fun P _ v B => ∃ L, Q v B.U.heap L ∧ B.locs = P.locs ++ L ∧ B.cells = P.cells + kc ∧ B.slots = P.slots + ks))
    (eT : T.heap = h) (hsz : A.size = c.maxLocals) (hlen : ∀ sig, parseMethodDescriptor y.desc = some sig → argsL.length = sig.parameters.length) (hst : St = argsL.reverse ++ .ref b :: S) (hW : (S.map fun v => v.category).sum ≤ W) (hd : decode c.code q = .ok (.invokespecial index, 3)) (hc : cells + kc ≤ R.cells) (hs : slots + ks ≤ R.slots)
    (kk : ∀ T' L v, Stand p l e R s m args below meth c T' (locs ++ L) (cells + kc) (slots + ks) → Q v T'.heap L → o_G p e below K T' (mkF m (q + 3) A (v.toList ++ S))) : o_G p e below K T (mkF m q A St) := by
  subst hst
  obtain ⟨v, _, ⟨T', L', k', n'⟩, -, X', ⟨L, hQ, l1, l2, l3⟩, st⟩ := X.specialBack hx hy1 hown (mvT hZ w1) (mvT hZ w2) (mvT hZ w4) hy hK (g := mkF m q A (argsL.reverse ++ .ref b :: S)) rfl hsz (Steps.refl _) (a := b) (argsL := argsL) (rest := S) hlen rfl (by show 2 * 0 + _ ≤ _; omega) hd (fun _ _ => ⟨rfl, eT, hc, hs⟩)
  dsimp only [Pt.U, Pt.locs, Pt.cells, Pt.slots] at X' l1 l2 l3 st hQ
  subst l1 l2 l3
  exact o_tr st (kk _ _ _ X' hQ)
theorem o_virtual {y z : MethodName} (X : Stand p l e R s m args below meth c T locs cells slots) (hx : p.tables.exec = Jvm.exec) (hZ : Z.Warmed39 s.vm) (hown : s.vm.findClass own = some m.cls) (w1 : (Cond.methodLink own index y).before a0 Z = true) (w2 : (Cond.declares y).before a0 Z = true) (hnf : NotFace s y) (w3 : (Cond.selects C y z).before a0 Z = true) (w4 : (Cond.instanceMethod z).before a0 Z = true) (hy : y.cls ≠ "java/lang/invoke/MethodHandle" ∧ y.cls ≠ "java/lang/invoke/VarHandle")
    (hK : Back l R p e below s args z 3 W (fun P a => a = (Value.ref b :: argsL).toArray ∧ P.U.heap = h ∧ P.cells + kc ≤ R.cells ∧ P.slots + ks ≤ R.slots) (fun P _ v B => ∃ L, Q v B.U.heap L ∧ B.locs = P.locs ++ L ∧ B.cells = P.cells + kc ∧ B.slots = P.slots + ks))
    (eT : T.heap = h) (E : Exa Z h b C) (hsz : A.size = c.maxLocals) (hlen : ∀ sig, parseMethodDescriptor y.desc = some sig → argsL.length = sig.parameters.length) (hst : St = argsL.reverse ++ .ref b :: S) (hW : (S.map fun v => v.category).sum ≤ W) (hd : decode c.code q = .ok (.invokevirtual index, 3)) (hc : cells + kc ≤ R.cells) (hs : slots + ks ≤ R.slots)
    (kk : ∀ T' L v, Stand p l e R s m args below meth c T' (locs ++ L) (cells + kc) (slots + ks) → Q v T'.heap L → o_G p e below K T' (mkF m (q + 3) A (v.toList ++ S))) : o_G p e below K T (mkF m q A St) := by
  subst hst
  obtain ⟨cq, kq, q1, q2, q3⟩ := isOf hZ eT E
  obtain ⟨v, _, ⟨T', L', k', n'⟩, -, X', ⟨L, hQ, l1, l2, l3⟩, st⟩ := X.virtualBack hx hown (mvT hZ w1) (mvT hZ w2) hnf (mvT hZ w3) (mvT hZ w4) hy hK q1 q3 (g := mkF m q A (argsL.reverse ++ .ref b :: S)) rfl hsz (Steps.refl _) (argsL := argsL) (rest := S) hlen rfl (by show 2 * 0 + _ ≤ _; omega) hd (fun _ _ => ⟨rfl, eT, hc, hs⟩)
  dsimp only [Pt.U, Pt.locs, Pt.cells, Pt.slots] at X' l1 l2 l3 st hQ
  subst l1 l2 l3
  exact o_tr st (kk _ _ _ X' hQ)
end Calls
end Own
end Jvm.RoadKit
namespace Jvm.RoadKit
open Sem ClassFile Op Lib Jvm.Stand Jvm.Free Jvm.LawKit
section OwnW
variable {p : Program} {l : Launch} {e : Env} {R : Room} {s : State} {vm0 : Vm} {m : MethodId} {args : Array Value} {below : List Frame} {meth : Method} {c : Code} {T T' : State} {locs : List Loc} {cells slots : Nat} {K : State → Outcome → Prop} {g g' : JFrame} {A A' : Array Slot} {S : List Value} {q k0 : Nat} {x y : Int32} {v w : Value} {Z : State} {a0 : Array Value} {h : Heap}
def o_EW (s : State) (Q : Option Value → Heap → List Loc → Prop) (C N : Nat) (t : State) (o : Outcome) : Prop := ∃ v L, o = .returned v ∧ Q v t.heap L ∧ ReturnedEndW s o t L C N
section EndsW
variable {Q : Option Value → Heap → List Loc → Prop} {C N : Nat}
theorem o_monoW {o : Outcome} {t : State} {L : List Loc} {k n : Nat} (hh : ReturnedEndW s o t L k n) (hc : k ≤ C) (hs : n ≤ N) : ReturnedEndW s o t L C N := ⟨hh.1, hh.2.1, hh.2.2.1, hh.2.2.2.mono hc hs⟩
theorem o_retNW {t : FieldType} (X : Stand p l e R (s.setVm vm0) m args below meth c T locs cells slots) (hx : p.tables.exec = Jvm.exec) (hS : s.Since vm0 k0) (hk : k0 ≤ T.heap.size) (hret : meth.sig.returnType = some t) (hlocks : meth.locks = false) (ht : t = .boolean ∨ t = .byte ∨ t = .char ∨ t = .short) (hd : decode c.code q = .ok (.ireturn, 1)) (hn : nar t x = x) (hc : cells ≤ C) (hs : slots ≤ N) (hQ : Q (some (.int x)) T.heap locs) : o_G p e below (o_EW s Q C N) T (mkF m q A (.int x :: S)) := by
  obtain ⟨fs, hr, hrun, hended, hW⟩ := X.leaveW hS hk (v := some (.int (nar t x))) (fun h => by rw [hret] at h; cases h) hlocks
  refine ⟨_, _, retN X hx hret ht hd hr, hrun, hended, _, _, rfl, ?_, o_monoW hW hc hs⟩
  rw [hn]; exact hQ
theorem o_retIW (X : Stand p l e R (s.setVm vm0) m args below meth c T locs cells slots) (hx : p.tables.exec = Jvm.exec) (hS : s.Since vm0 k0) (hk : k0 ≤ T.heap.size) (hret : meth.sig.returnType = some .int) (hlocks : meth.locks = false) (hd : decode c.code q = .ok (.ireturn, 1)) (hc : cells ≤ C) (hs : slots ≤ N) (hQ : Q (some (.int x)) T.heap locs) : o_G p e below (o_EW s Q C N) T (mkF m q A (.int x :: S)) := by
  obtain ⟨fs, hr, hrun, hended, hW⟩ := X.leaveW hS hk (v := some (.int x)) (fun h => by rw [hret] at h; cases h) hlocks
  exact ⟨_, _, retOut X hx hret rfl (Or.inl ⟨rfl, Or.inl rfl, _, rfl⟩) hd hr, hrun, hended, _, _, rfl, hQ, o_monoW hW hc hs⟩
theorem o_retAW {t : FieldType} (X : Stand p l e R (s.setVm vm0) m args below meth c T locs cells slots) (hx : p.tables.exec = Jvm.exec) (hS : s.Since vm0 k0) (hk : k0 ≤ T.heap.size) (hret : meth.sig.returnType = some t) (hlocks : meth.locks = false) (ht : t.isReference = true) (hv : v.isRef = true) (hn : narrow t v = v) (hd : decode c.code q = .ok (.areturn, 1)) (hc : cells ≤ C) (hs : slots ≤ N) (hQ : Q (some v) T.heap locs) : o_G p e below (o_EW s Q C N) T (mkF m q A (v :: S)) := by
  obtain ⟨fs, hr, hrun, hended, hW⟩ := X.leaveW hS hk (v := some v) (fun h => by rw [hret] at h; cases h) hlocks
  exact ⟨_, _, retOut X hx hret hn (Or.inr (Or.inr (Or.inr (Or.inr ⟨rfl, ht, hv⟩)))) hd hr, hrun, hended, _, _, rfl, hQ, o_monoW hW hc hs⟩
theorem o_retVW (X : Stand p l e R (s.setVm vm0) m args below meth c T locs cells slots) (hx : p.tables.exec = Jvm.exec) (hS : s.Since vm0 k0) (hk : k0 ≤ T.heap.size) (hret : meth.sig.returnType = none) (hlocks : meth.locks = false) (hd : decode c.code q = .ok (.return_, 1)) (hc : cells ≤ C) (hs : slots ≤ N) (hQ : Q none T.heap locs) : o_G p e below (o_EW s Q C N) T (mkF m q A []) := by
  obtain ⟨fs, hr, hrun, hended, hW⟩ := X.leaveW hS hk (v := none) (fun _ => rfl) hlocks
  exact ⟨_, _, X.returnOut hx hret hd hr, hrun, hended, _, _, rfl, hQ, o_monoW hW hc hs⟩
end EndsW
theorem o_ldcS {own text : String} {index n : Nat} (X : Stand p l e R (s.setVm vm0) m args below meth c T locs cells slots) (hx : p.tables.exec = Jvm.exec) (hZ : Z.Warmed39 vm0) (hown : vm0.findClass own = some m.cls) (w : (Cond.stringLink own index text).before a0 Z = true) (wS : ∀ a ∈ Bundle.stringAtoms, a.before a0 Z = true) (eT : T.heap = h) (hS : s.Since vm0 k0) (hk : k0 ≤ h.size) (hd : decode c.code q = .ok (.ldc index, 2)) (hn : 4 * text.toList.length ≤ n) (hbig : n ≤ 536870912) (hc : cells + 2 ≤ R.cells) (hl : slots + (n + 4) ≤ R.slots)
    (kk : ∀ a T' k1, Stand p l e R (s.setVm T'.vm) m args below meth c T' locs (cells + 2) (slots + (n + 4)) → Ext h T'.heap → s.Since T'.vm k1 → k1 ≤ T'.heap.size → Z.Warmed39 T'.vm → T'.vm.findClass own = some m.cls → o_G p e below K T' (mkF m (q + 2) A (.ref a :: S))) : o_G p e below K T (mkF m q A S) := by
  obtain ⟨a, T', h', k1, X', e', E, hS', hk', hZ', ho', st⟩ := ldcS X hx hZ hown w wS eT hS hk (g := mkF m q A S) rfl hd hn hbig hc hl
  subst e'
  exact o_st st (kk a T' k1 X' E hS' hk' hZ' ho')
section CallsW
variable {Q : Option Value → Heap → List Loc → Prop} {kc ks W : Nat} {own C : String} {index : Nat} {argsL St : List Value} {b : Addr}
theorem o_initS {bytes : ByteArray} {maxL : Nat} {y : MethodName} (hy1 : y.name = "<init>") (X : Stand p l e R (s.setVm vm0) m args below meth c T locs cells slots) (hx : p.tables.exec = Jvm.exec) (hZ : Z.Warmed39 vm0) (hS : s.Since vm0 k0) (hown : vm0.findClass own = some m.cls) (w1 : (Cond.methodLink own index y).before a0 Z = true) (w2 : (Cond.instanceMethod y).before a0 Z = true) (w4 : (Cond.code y bytes maxL none).before a0 Z = true) (hy : y.cls ≠ "java/lang/invoke/MethodHandle" ∧ y.cls ≠ "java/lang/invoke/VarHandle")
    (hK : BackS l R p e below (s.setVm vm0) args y 3 W (fun P a => a = (Value.ref b :: argsL).toArray ∧ P.U.heap = h ∧ P.cells + kc ≤ R.cells ∧ P.slots + ks ≤ R.slots) (fun P _ v B => ∃ L, Q v B.U.heap L ∧ B.locs = P.locs ++ L ∧ B.cells = P.cells + kc ∧ B.slots = P.slots + ks))
    (eT : T.heap = h) (hk : k0 ≤ h.size) (hsz : A.size = c.maxLocals) (hlen : ∀ sig, parseMethodDescriptor y.desc = some sig → argsL.length = sig.parameters.length) (hst : St = argsL.reverse ++ .ref b :: S) (hW : (S.map fun v => v.category).sum ≤ W) (hd : decode c.code q = .ok (.invokespecial index, 3)) (hc : cells + kc ≤ R.cells) (hs : slots + ks ≤ R.slots)
    (kk : ∀ T' L v k1, Stand p l e R (s.setVm T'.vm) m args below meth c T' (locs ++ L) (cells + kc) (slots + ks) → s.Since T'.vm k1 → k1 ≤ T'.heap.size → Z.Warmed39 T'.vm → T'.vm.findClass own = some m.cls → Q v T'.heap L → o_G p e below K T' (mkF m (q + 3) A (v.toList ++ S))) : o_G p e below K T (mkF m q A St) := by
  subst hst eT
  have hZ1 : Z.Warmed39 (s.setVm vm0).vm := hZ
  obtain ⟨v, _, ⟨T', L', k', n'⟩, -, X', hS', hg', ⟨L, hQ, l1, l2, l3⟩, st⟩ := X.specialBackS hx hy1 (show (s.setVm vm0).vm.findClass own = some m.cls from hown) (mvT hZ1 w1) (mvT hZ1 w2) (mvT hZ1 w4) hy hK (g := mkF m q A (argsL.reverse ++ .ref b :: S)) rfl hsz (Steps.refl _) (a := b) (argsL := argsL) (rest := S) hlen rfl (by show 2 * 0 + _ ≤ _; omega) hd (fun _ _ => ⟨rfl, rfl, hc, hs⟩)
  dsimp only [Pt.U, Pt.locs, Pt.cells, Pt.slots] at X' l1 l2 l3 st hQ hS' hg'
  subst l1 l2 l3
  obtain ⟨X2, hS2, hZ2, ho2⟩ := rebS hS hk X' hS' hg' hZ1 (show (s.setVm vm0).vm.findClass own = some m.cls from hown)
  exact o_tr st (kk _ _ _ _ X2 hS2 (Nat.le_refl _) hZ2 ho2 hQ)
theorem o_staticS {bytes : ByteArray} {maxL : Nat} {ret : Option FieldType} {y : MethodName} (X : Stand p l e R (s.setVm vm0) m args below meth c T locs cells slots) (hx : p.tables.exec = Jvm.exec) (hZ : Z.Warmed39 vm0) (hS : s.Since vm0 k0) (hown : vm0.findClass own = some m.cls) (w1 : (Cond.methodLink own index y).before a0 Z = true) (w2 : (Cond.static y).before a0 Z = true) (w3 : (Cond.initialized y.cls).before a0 Z = true) (w4 : (Cond.code y bytes maxL ret).before a0 Z = true) (hy : y.cls ≠ "java/lang/invoke/MethodHandle" ∧ y.cls ≠ "java/lang/invoke/VarHandle")
    (hK : BackS l R p e below (s.setVm vm0) args y 3 W (fun P a => a = argsL.toArray ∧ P.U.heap = h ∧ P.cells + kc ≤ R.cells ∧ P.slots + ks ≤ R.slots) (fun P _ v B => ∃ L, Q v B.U.heap L ∧ B.locs = P.locs ++ L ∧ B.cells = P.cells + kc ∧ B.slots = P.slots + ks))
    (eT : T.heap = h) (hk : k0 ≤ h.size) (hsz : A.size = c.maxLocals) (hlen : ∀ sig, parseMethodDescriptor y.desc = some sig → argsL.length = sig.parameters.length) (hst : St = argsL.reverse ++ S) (hW : (S.map fun v => v.category).sum ≤ W) (hd : decode c.code q = .ok (.invokestatic index, 3)) (hc : cells + kc ≤ R.cells) (hs : slots + ks ≤ R.slots)
    (kk : ∀ T' L v k1, Stand p l e R (s.setVm T'.vm) m args below meth c T' (locs ++ L) (cells + kc) (slots + ks) → s.Since T'.vm k1 → k1 ≤ T'.heap.size → Z.Warmed39 T'.vm → T'.vm.findClass own = some m.cls → Q v T'.heap L → o_G p e below K T' (mkF m (q + 3) A (v.toList ++ S))) : o_G p e below K T (mkF m q A St) := by
  subst hst eT
  have hZ1 : Z.Warmed39 (s.setVm vm0).vm := hZ
  obtain ⟨v, _, ⟨T', L', k', n'⟩, -, X', hS', hg', ⟨L, hQ, l1, l2, l3⟩, st⟩ := callSS X hx (show (s.setVm vm0).vm.findClass own = some m.cls from hown) (mvT hZ1 w1) (mvT hZ1 w2) (mvT hZ1 w3) (mvT hZ1 w4) hy hK (g := mkF m q A (argsL.reverse ++ S)) rfl hsz hlen rfl (by show 2 * 0 + _ ≤ _; omega) hd (fun _ _ => ⟨rfl, rfl, hc, hs⟩)
  dsimp only [Pt.U, Pt.locs, Pt.cells, Pt.slots] at X' l1 l2 l3 st hQ hS' hg'
  subst l1 l2 l3
  obtain ⟨X2, hS2, hZ2, ho2⟩ := rebS hS hk X' hS' hg' hZ1 (show (s.setVm vm0).vm.findClass own = some m.cls from hown)
  exact o_tr st (kk _ _ _ _ X2 hS2 (Nat.le_refl _) hZ2 ho2 hQ)
theorem o_virtualS {y z : MethodName} (X : Stand p l e R (s.setVm vm0) m args below meth c T locs cells slots) (hx : p.tables.exec = Jvm.exec) (hZ : Z.Warmed39 vm0) (hS : s.Since vm0 k0) (hown : vm0.findClass own = some m.cls) (w1 : (Cond.methodLink own index y).before a0 Z = true) (w2 : (Cond.declares y).before a0 Z = true) (hnf : NotFace (s.setVm vm0) y) (w3 : (Cond.selects C y z).before a0 Z = true) (w4 : (Cond.instanceMethod z).before a0 Z = true) (hy : y.cls ≠ "java/lang/invoke/MethodHandle" ∧ y.cls ≠ "java/lang/invoke/VarHandle")
    (hK : BackS l R p e below (s.setVm vm0) args z 3 W (fun P a => a = (Value.ref b :: argsL).toArray ∧ P.U.heap = h ∧ P.cells + kc ≤ R.cells ∧ P.slots + ks ≤ R.slots) (fun P _ v B => ∃ L, Q v B.U.heap L ∧ B.locs = P.locs ++ L ∧ B.cells = P.cells + kc ∧ B.slots = P.slots + ks))
    (eT : T.heap = h) (hk : k0 ≤ h.size) (E : Exa Z h b C) (hsz : A.size = c.maxLocals) (hlen : ∀ sig, parseMethodDescriptor y.desc = some sig → argsL.length = sig.parameters.length) (hst : St = argsL.reverse ++ .ref b :: S) (hW : (S.map fun v => v.category).sum ≤ W) (hd : decode c.code q = .ok (.invokevirtual index, 3)) (hc : cells + kc ≤ R.cells) (hs : slots + ks ≤ R.slots)
    (kk : ∀ T' L v k1, Stand p l e R (s.setVm T'.vm) m args below meth c T' (locs ++ L) (cells + kc) (slots + ks) → s.Since T'.vm k1 → k1 ≤ T'.heap.size → Z.Warmed39 T'.vm → T'.vm.findClass own = some m.cls → Q v T'.heap L → o_G p e below K T' (mkF m (q + 3) A (v.toList ++ S))) : o_G p e below K T (mkF m q A St) := by
  subst hst eT
  have hZ1 : Z.Warmed39 (s.setVm vm0).vm := hZ
  obtain ⟨cq, kq, q1, q2, q3⟩ := isOf (s := s.setVm vm0) hZ1 rfl E
  obtain ⟨v, _, ⟨T', L', k', n'⟩, -, X', hS', hg', ⟨L, hQ, l1, l2, l3⟩, st⟩ := X.virtualBackS hx (show (s.setVm vm0).vm.findClass own = some m.cls from hown) (mvT hZ1 w1) (mvT hZ1 w2) hnf (mvT hZ1 w3) (mvT hZ1 w4) hy hK q1 q3 (g := mkF m q A (argsL.reverse ++ .ref b :: S)) rfl hsz (Steps.refl _) (argsL := argsL) (rest := S) hlen rfl (by show 2 * 0 + _ ≤ _; omega) hd (fun _ _ => ⟨rfl, rfl, hc, hs⟩)
  dsimp only [Pt.U, Pt.locs, Pt.cells, Pt.slots] at X' l1 l2 l3 st hQ hS' hg'
  subst l1 l2 l3
  obtain ⟨X2, hS2, hZ2, ho2⟩ := rebS hS hk X' hS' hg' hZ1 (show (s.setVm vm0).vm.findClass own = some m.cls from hown)
  exact o_tr st (kk _ _ _ _ X2 hS2 (Nat.le_refl _) hZ2 ho2 hQ)
end CallsW
end OwnW
end Jvm.RoadKit
namespace Jvm.RoadKit
open Sem ClassFile Op Lib Jvm.Stand Jvm.Free Jvm.LawKit
section OwnM
variable {p : Program} {l : Launch} {e : Env} {R : Room} {s : State} {m : MethodId} {args : Array Value} {below : List Frame} {meth : Method} {c : Code} {T T' : State} {locs : List Loc} {cells slots : Nat} {K K' : State → Outcome → Prop} {g g' : JFrame} {A A' : Array Slot} {S : List Value} {q : Nat} {x y z : Int32} {v w : Value} {Z : State} {a0 : Array Value} {h : Heap} {a : Addr} {ka : ClassId} {vs : List Value} {dv : Value} {n : Int32}
theorem o_mono (hK : ∀ t o, K t o → K' t o) (k : o_G p e below K T g) : o_G p e below K' T g := by
  obtain ⟨a, b, h1, h2, h3, h4⟩ := k; exact ⟨a, b, h1, h2, h3, hK _ _ h4⟩
theorem o_valE (hz : x = z) (k : o_G p e below K T (mkF m q A (.int z :: S))) : o_G p e below K T (mkF m q A (.int x :: S)) := hz ▸ k
theorem o_ifT (X : Stand p l e R s m args below meth c T locs cells slots) (hx : p.tables.exec = Jvm.exec) {cd : ClassFile.Cond} {o : Int} {t : Nat} (hd : decode c.code q = .ok (.ifCond cd o, 3)) (ho : 0 ≤ (q : Int) + o) (ht : ((q : Int) + o).toNat = t) (hc : ifCond.holds cd x = true) (k : o_G p e below K T (mkF m t A S)) : o_G p e below K T (mkF m q A (.int x :: S)) := o_st (fun _ z => XS.ifYes X.here hx rfl (pc0 := q) rfl hd rfl hc ho ht z) k
theorem o_ifF (X : Stand p l e R s m args below meth c T locs cells slots) (hx : p.tables.exec = Jvm.exec) {cd : ClassFile.Cond} {o : Int} (hd : decode c.code q = .ok (.ifCond cd o, 3)) (hc : ifCond.holds cd x = false) (k : o_G p e below K T (mkF m (q + 3) A S)) : o_G p e below K T (mkF m q A (.int x :: S)) := o_st (fun _ z => XS.ifNo X.here hx rfl hd rfl hc z) k
theorem o_icmpT (X : Stand p l e R s m args below meth c T locs cells slots) (hx : p.tables.exec = Jvm.exec) {cd : ClassFile.Cond} {o : Int} {t : Nat} (hd : decode c.code q = .ok (.if_icmp cd o, 3)) (ho : 0 ≤ (q : Int) + o) (ht : ((q : Int) + o).toNat = t) (hc : if_icmp.holds cd x y = true) (k : o_G p e below K T (mkF m t A S)) : o_G p e below K T (mkF m q A (.int y :: .int x :: S)) := o_st (fun _ z => XS.icmpYes X.here hx rfl (pc0 := q) rfl hd rfl hc ho ht z) k
theorem o_icmpF (X : Stand p l e R s m args below meth c T locs cells slots) (hx : p.tables.exec = Jvm.exec) {cd : ClassFile.Cond} {o : Int} (hd : decode c.code q = .ok (.if_icmp cd o, 3)) (hc : if_icmp.holds cd x y = false) (k : o_G p e below K T (mkF m (q + 3) A S)) : o_G p e below K T (mkF m q A (.int y :: .int x :: S)) := o_st (fun _ z => XS.icmpNo X.here hx rfl hd rfl hc z) k
theorem o_iincK (X : Stand p l e R s m args below meth c T locs cells slots) (hx : p.tables.exec = Jvm.exec) {k : Nat} {cst : Int} (hd : decode c.code q = .ok (.iinc k cst, 3)) (hv : Int32.ofInt cst = y) (hl : A[k]? = some (.val (.int x))) (hz : x + y = z) (hs : storeLocals A k (.int z) = some A') (kk : o_G p e below K T (mkF m (q + 3) A' S)) : o_G p e below K T (mkF m q A S) := o_iinc X hx hd hv hl (hz ▸ hs) kk
theorem o_bload (X : Stand p l e R s m args below meth c T locs cells slots) (hx : p.tables.exec = Jvm.exec) (hZ : Z.Warmed39 s.vm) (eT : T.heap = h) (F : Arv Z h a ka .byte n vs dv) (hd : decode c.code q = .ok (.baload, 1)) (hj : ¬ y < 0 ∧ y < n) (hv : vs.getD y.toNatClampNeg dv = v) (k : o_G p e below K T (mkF m (q + 1) A (v :: S))) : o_G p e below K T (mkF m q A (.int y :: .ref a :: S)) := by
  obtain ⟨cl, F1, F2, F3, F4, F5, F6⟩ := F
  have hin := inb_of F3 hj
  exact o_st (fun t z => X.baloadBytes hx (by rw [eT]; exact F1.1) (State.isArrayOf_alike hZ.alike F1.2.1) F1.2.2 hin (F5.at hin hv) (g := mkF m q A (.int y :: .ref a :: S)) rfl rfl hd t z) k
theorem o_cload (X : Stand p l e R s m args below meth c T locs cells slots) (hx : p.tables.exec = Jvm.exec) (hZ : Z.Warmed39 s.vm) (eT : T.heap = h) (F : Arv Z h a ka .char n vs dv) (hd : decode c.code q = .ok (.caload, 1)) (hj : ¬ y < 0 ∧ y < n) (hv : vs.getD y.toNatClampNeg dv = v) (k : o_G p e below K T (mkF m (q + 1) A (v :: S))) : o_G p e below K T (mkF m q A (.int y :: .ref a :: S)) := by
  obtain ⟨cl, F1, F2, F3, F4, F5, F6⟩ := F
  have hin := inb_of F3 hj
  exact o_st (fun t z => X.caload hx (by rw [eT]; exact F1.1) (State.isArrayOf_alike hZ.alike F1.2.1) F1.2.2 hin (F5.at hin hv) (g := mkF m q A (.int y :: .ref a :: S)) rfl rfl hd t z) k
theorem o_iaload (X : Stand p l e R s m args below meth c T locs cells slots) (hx : p.tables.exec = Jvm.exec) (hZ : Z.Warmed39 s.vm) (eT : T.heap = h) (F : Arv Z h a ka .int n vs dv) (hd : decode c.code q = .ok (.iaload, 1)) (hj : ¬ y < 0 ∧ y < n) (hv : vs.getD y.toNatClampNeg dv = v) (k : o_G p e below K T (mkF m (q + 1) A (v :: S))) : o_G p e below K T (mkF m q A (.int y :: .ref a :: S)) := by
  obtain ⟨cl, F1, F2, F3, F4, F5, F6⟩ := F
  have hin := inb_of F3 hj
  exact o_st (fun t z => X.iaload hx (by rw [eT]; exact F1.1) (State.isArrayOf_alike hZ.alike F1.2.1) F1.2.2 hin (F5.at hin hv) (g := mkF m q A (.int y :: .ref a :: S)) rfl rfl hd t z) k
theorem o_alen {ty : FieldType} (X : Stand p l e R s m args below meth c T locs cells slots) (hx : p.tables.exec = Jvm.exec) (hZ : Z.Warmed39 s.vm) (eT : T.heap = h) (F : Arv Z h a ka ty n vs dv) (hd : decode c.code q = .ok (.arraylength, 1)) (k : o_G p e below K T (mkF m (q + 1) A (.int n :: S))) : o_G p e below K T (mkF m q A (.ref a :: S)) := by
  obtain ⟨cl, F1, F2, F3, F4, F5, F6⟩ := F
  refine o_st (g' := mkF m (q + 1) A (.int cl.slots.size.toInt32 :: S)) (fun t z => X.arraylength hx (by rw [eT]; exact F1.1) (State.isArrayOf_alike hZ.alike F1.2.1) (g := mkF m q A (.ref a :: S)) rfl rfl hd t z) ?_
  rw [len_of F3 F4]; exact k
section CallsM
variable {Q : Option Value → Heap → List Loc → Prop} {kc ks W : Nat} {own C : String} {index cnt : Nat} {argsL St : List Value} {b : Addr}
theorem o_iface {xi y : MethodName} (X : Stand p l e R s m args below meth c T locs cells slots) (hx : p.tables.exec = Jvm.exec) (hZ : Z.Warmed39 s.vm) (hown : s.vm.findClass own = some m.cls) (w1 : (Cond.methodLink own index xi).before a0 Z = true) (w2 : (Cond.declares xi).before a0 Z = true) (w3 : (Cond.interfaceMethod xi.cls xi.cls xi.name xi.desc).before args s = true) (w4 : (Cond.selects C xi y).before a0 Z = true) (w5 : (Cond.instanceMethod y).before a0 Z = true) (w6 : (Cond.publicMethod y).before a0 Z = true) (w7 : (Cond.unhidden C xi.name xi.desc).before a0 Z = true) (w8 : (Cond.castable C xi.cls).before a0 Z = true) (hy : xi.cls ≠ "java/lang/invoke/MethodHandle" ∧ xi.cls ≠ "java/lang/invoke/VarHandle")
    (hK : Back l R p e below s args y 5 W (fun P a => a = (Value.ref b :: argsL).toArray ∧ P.U.heap = h ∧ P.cells + kc ≤ R.cells ∧ P.slots + ks ≤ R.slots) (fun P _ v B => ∃ L, Q v B.U.heap L ∧ B.locs = P.locs ++ L ∧ B.cells = P.cells + kc ∧ B.slots = P.slots + ks))
    (eT : T.heap = h) (E : Exa Z h b C) (hsz : A.size = c.maxLocals) (hlen : ∀ sig, parseMethodDescriptor xi.desc = some sig → argsL.length = sig.parameters.length) (hst : St = argsL.reverse ++ .ref b :: S) (hW : (S.map fun v => v.category).sum ≤ W) (hd : decode c.code q = .ok (.invokeinterface index cnt, 5)) (hc : cells + kc ≤ R.cells) (hs : slots + ks ≤ R.slots)
    (kk : ∀ T' L v, Stand p l e R s m args below meth c T' (locs ++ L) (cells + kc) (slots + ks) → Q v T'.heap L → o_G p e below K T' (mkF m (q + 5) A (v.toList ++ S))) : o_G p e below K T (mkF m q A St) := by
  subst hst
  obtain ⟨cq, kq, q1, q2, q3⟩ := isOf hZ eT E
  obtain ⟨v, _, ⟨T', L', k', n'⟩, -, X', ⟨L, hQ, l1, l2, l3⟩, st⟩ := X.interfaceBack hx hown (mvT hZ w1) (mvT hZ w2) w3 (mvT hZ w4) (mvT hZ w5) (mvT hZ w6) (mvT hZ w7) (mvT hZ w8) hy hK q1 q2 q3 (g := mkF m q A (argsL.reverse ++ .ref b :: S)) rfl hsz (Steps.refl _) (argsL := argsL) (rest := S) hlen rfl (by show 2 * 0 + _ ≤ _; omega) hd (fun _ _ => ⟨rfl, eT, hc, hs⟩)
  dsimp only [Pt.U, Pt.locs, Pt.cells, Pt.slots] at X' l1 l2 l3 st hQ
  subst l1 l2 l3
  exact o_tr st (kk _ _ _ X' hQ)
end CallsM
end OwnM
end Jvm.RoadKit
namespace Jvm.RoadKit
open Sem ClassFile Op Lib Bundle Jvm.Stand Jvm.Free Jvm.LawKit Jvm.Free.SB Jvm.Free.SBG
section OwnH
variable {p : Program} {l : Launch} {e : Env} {R : Room} {s : State} {vm0 : Vm} {m : MethodId} {args : Array Value} {below : List Frame} {meth : Method} {c : Code} {T T' : State} {locs : List Loc} {cells slots : Nat} {K : State → Outcome → Prop} {g g' : JFrame} {A A' : Array Slot} {S : List Value} {q k0 : Nat} {x y : Int32} {v w : Value} {Z : State} {a0 : Array Value} {h h0 : Heap} {EL : List (String × Nat)}
def o_EH (Z : State) (EL : List (String × Nat)) (s : State) (h0 : Heap) (Q : Option Value → Heap → List Loc → Prop) (C N : Nat) (t : State) (o : Outcome) : Prop := ∃ v L, o = .returned v ∧ Q v t.heap L ∧ CHr Z EL s.vm h0 t.vm t.heap ∧ ReturnedEndW s o t L C N
section EndsH
variable {Q : Option Value → Heap → List Loc → Prop} {C N : Nat}
theorem o_retVH (X : Stand p l e R (s.setVm vm0) m args below meth c T locs cells slots) (hx : p.tables.exec = Jvm.exec) (hS : s.Since vm0 k0) (hk : k0 ≤ T.heap.size) (hZ : Z.Warmed39 vm0) (hEL : EW Z a0 EL) (hC : CHr Z EL s.vm h0 vm0 T.heap) (hret : meth.sig.returnType = none) (hlocks : meth.locks = false) (hd : decode c.code q = .ok (.return_, 1)) (hc : cells ≤ C) (hs : slots ≤ N) (hQ : Q none T.heap locs) : o_G p e below (o_EH Z EL s h0 Q C N) T (mkF m q A []) := by
  have hA : CHr Z EL s.vm h0 T.vm T.heap := hC.trans (CHv.at X hZ hEL hC.1)
  obtain ⟨fs, hr, hrun, hended, hW⟩ := X.leaveW hS hk (v := none) (fun _ => rfl) hlocks
  exact ⟨_, _, X.returnOut hx hret hd hr, hrun, hended, _, _, rfl, hQ, hA, o_monoW hW hc hs⟩
theorem o_retNH {t : FieldType} (X : Stand p l e R (s.setVm vm0) m args below meth c T locs cells slots) (hx : p.tables.exec = Jvm.exec) (hS : s.Since vm0 k0) (hk : k0 ≤ T.heap.size) (hZ : Z.Warmed39 vm0) (hEL : EW Z a0 EL) (hC : CHr Z EL s.vm h0 vm0 T.heap) (hret : meth.sig.returnType = some t) (hlocks : meth.locks = false) (ht : t = .boolean ∨ t = .byte ∨ t = .char ∨ t = .short) (hd : decode c.code q = .ok (.ireturn, 1)) (hn : nar t x = x) (hc : cells ≤ C) (hs : slots ≤ N) (hQ : Q (some (.int x)) T.heap locs) : o_G p e below (o_EH Z EL s h0 Q C N) T (mkF m q A (.int x :: S)) := by
  have hA : CHr Z EL s.vm h0 T.vm T.heap := hC.trans (CHv.at X hZ hEL hC.1)
  obtain ⟨fs, hr, hrun, hended, hW⟩ := X.leaveW hS hk (v := some (.int (nar t x))) (fun h => by rw [hret] at h; cases h) hlocks
  refine ⟨_, _, retN X hx hret ht hd hr, hrun, hended, _, _, rfl, ?_, hA, o_monoW hW hc hs⟩
  rw [hn]; exact hQ
theorem o_retAH {t : FieldType} (X : Stand p l e R (s.setVm vm0) m args below meth c T locs cells slots) (hx : p.tables.exec = Jvm.exec) (hS : s.Since vm0 k0) (hk : k0 ≤ T.heap.size) (hZ : Z.Warmed39 vm0) (hEL : EW Z a0 EL) (hC : CHr Z EL s.vm h0 vm0 T.heap) (hret : meth.sig.returnType = some t) (hlocks : meth.locks = false) (ht : t.isReference = true) (hv : v.isRef = true) (hn : narrow t v = v) (hd : decode c.code q = .ok (.areturn, 1)) (hc : cells ≤ C) (hs : slots ≤ N) (hQ : Q (some v) T.heap locs) : o_G p e below (o_EH Z EL s h0 Q C N) T (mkF m q A (v :: S)) := by
  have hA : CHr Z EL s.vm h0 T.vm T.heap := hC.trans (CHv.at X hZ hEL hC.1)
  obtain ⟨fs, hr, hrun, hended, hW⟩ := X.leaveW hS hk (v := some v) (fun h => by rw [hret] at h; cases h) hlocks
  exact ⟨_, _, retOut X hx hret hn (Or.inr (Or.inr (Or.inr (Or.inr ⟨rfl, ht, hv⟩)))) hd hr, hrun, hended, _, _, rfl, hQ, hA, o_monoW hW hc hs⟩
end EndsH
theorem o_ldcH {own text : String} {index n : Nat} {vs : List Value} {z : Int32} (X : Stand p l e R (s.setVm vm0) m args below meth c T locs cells slots) (hx : p.tables.exec = Jvm.exec) (hZ : Z.Warmed39 vm0) (hown : vm0.findClass own = some m.cls) (w : (Cond.stringLink own index text).before a0 Z = true) (wS : ∀ a ∈ Bundle.stringAtoms, a.before a0 Z = true) (eT : T.heap = h) (hS : s.Since vm0 k0) (hk : k0 ≤ h.size) (hEL : EW Z a0 EL) (hmem : (own, index) ∈ EL) (H : CHv Z EL vm0 h)
    (ht : (∀ c ∈ text.toList, c.toNat < 256) ∧ text.toList.map (fun c => Value.int (Jvm.Lit.byteI c.toNat.toUInt16)) = vs) (hz : ¬ z < 0) (hzl : z.toNatClampNeg = vs.length) (hd : decode c.code q = .ok (.ldc index, 2)) (hn : 4 * text.toList.length ≤ n) (hbig : n ≤ 536870912) (hc : cells + 2 ≤ R.cells) (hl : slots + (n + 4) ≤ R.slots)
    (kk : ∀ a b kb T' k1, Stand p l e R (s.setVm T'.vm) m args below meth c T' locs (cells + 2) (slots + (n + 4)) → Ext h T'.heap → s.Since T'.vm k1 → k1 ≤ T'.heap.size → Z.Warmed39 T'.vm → T'.vm.findClass own = some m.cls → Exa Z T'.heap a "java/lang/String" → Fld Z T'.heap a "java/lang/String" "coder" "B" (.int 0) → Fld Z T'.heap a "java/lang/String" "value" "[B" (.ref b) → Arv Z T'.heap b kb .byte z vs (.int 0) → CHr Z EL vm0 h T'.vm T'.heap → Lit (s.setVm T'.vm) own index a → (∀ x, Safe Z EL T'.vm T'.heap x → x ≠ a ∧ x ≠ b) → o_G p e below K T' (mkF m (q + 2) A (.ref a :: S))) : o_G p e below K T (mkF m q A S) := by
  obtain ⟨a, T', h', k1, b, kb, X', e', E, hS', hk', hZ', ho', r1, r2, r3, r4, -, -, r5, r6, r7, st⟩ := ldcCH X hx hZ hown w wS eT hS hk hEL hmem H ht hz hzl (g := mkF m q A S) rfl hd hn hbig hc hl
  subst e'
  exact o_st st (kk a b kb T' k1 X' E hS' hk' hZ' ho' r1 r2 r3 r4 r5 r6 r7)
theorem o_ldcA {own text : String} {index : Nat} {a : Addr} (X : Stand p l e R (s.setVm vm0) m args below meth c T locs cells slots) (hx : p.tables.exec = Jvm.exec) (hZ : Z.Warmed39 vm0) (hown : vm0.findClass own = some m.cls) (w : (Cond.stringLink own index text).before a0 Z = true) (L : Lit (s.setVm vm0) own index a) (hd : decode c.code q = .ok (.ldc index, 2)) (kk : o_G p e below K T (mkF m (q + 2) A (.ref a :: S))) : o_G p e below K T (mkF m q A S) :=
  o_st (fun t z => ldcAgain X hx hZ hown w L (g := mkF m q A S) rfl hd t z) kk
section CallsH
variable {Q : Option Value → Heap → List Loc → Prop} {kc ks W : Nat} {own C : String} {index : Nat} {argsL St : List Value} {b : Addr}
theorem o_initH {bytes : ByteArray} {maxL : Nat} {y : MethodName} (hy1 : y.name = "<init>") (X : Stand p l e R (s.setVm vm0) m args below meth c T locs cells slots) (hx : p.tables.exec = Jvm.exec) (hZ : Z.Warmed39 vm0) (hS : s.Since vm0 k0) (hown : vm0.findClass own = some m.cls) (w1 : (Cond.methodLink own index y).before a0 Z = true) (w2 : (Cond.instanceMethod y).before a0 Z = true) (w4 : (Cond.code y bytes maxL none).before a0 Z = true) (hy : y.cls ≠ "java/lang/invoke/MethodHandle" ∧ y.cls ≠ "java/lang/invoke/VarHandle")
    (hK : BackS l R p e below (s.setVm vm0) args y 3 W (fun P a => a = (Value.ref b :: argsL).toArray ∧ P.U.heap = h ∧ P.cells + kc ≤ R.cells ∧ P.slots + ks ≤ R.slots) (fun P _ v B => ∃ L, Q v B.U.heap L ∧ B.locs = P.locs ++ L ∧ B.cells = P.cells + kc ∧ B.slots = P.slots + ks ∧ CHr Z EL vm0 h B.U.vm B.U.heap))
    (eT : T.heap = h) (hk : k0 ≤ h.size) (hsz : A.size = c.maxLocals) (hlen : ∀ sig, parseMethodDescriptor y.desc = some sig → argsL.length = sig.parameters.length) (hst : St = argsL.reverse ++ .ref b :: S) (hW : (S.map fun v => v.category).sum ≤ W) (hd : decode c.code q = .ok (.invokespecial index, 3)) (hc : cells + kc ≤ R.cells) (hs : slots + ks ≤ R.slots)
    (kk : ∀ T' L v k1, Stand p l e R (s.setVm T'.vm) m args below meth c T' (locs ++ L) (cells + kc) (slots + ks) → s.Since T'.vm k1 → k1 ≤ T'.heap.size → Z.Warmed39 T'.vm → T'.vm.findClass own = some m.cls → Q v T'.heap L → CHr Z EL vm0 h T'.vm T'.heap → o_G p e below K T' (mkF m (q + 3) A (v.toList ++ S))) : o_G p e below K T (mkF m q A St) := by
  subst hst eT
  have hZ1 : Z.Warmed39 (s.setVm vm0).vm := hZ
  obtain ⟨v, _, ⟨T', L', k', n'⟩, -, X', hS', hg', ⟨L, hQ, l1, l2, l3, hC⟩, st⟩ := X.specialBackS hx hy1 (show (s.setVm vm0).vm.findClass own = some m.cls from hown) (mvT hZ1 w1) (mvT hZ1 w2) (mvT hZ1 w4) hy hK (g := mkF m q A (argsL.reverse ++ .ref b :: S)) rfl hsz (Steps.refl _) (a := b) (argsL := argsL) (rest := S) hlen rfl (by show 2 * 0 + _ ≤ _; omega) hd (fun _ _ => ⟨rfl, rfl, hc, hs⟩)
  dsimp only [Pt.U, Pt.locs, Pt.cells, Pt.slots] at X' l1 l2 l3 st hQ hS' hg' hC
  subst l1 l2 l3
  obtain ⟨X2, hS2, hZ2, ho2⟩ := rebS hS hk X' hS' hg' hZ1 (show (s.setVm vm0).vm.findClass own = some m.cls from hown)
  exact o_tr st (kk _ _ _ _ X2 hS2 (Nat.le_refl _) hZ2 ho2 hQ hC)
end CallsH
end OwnH
end Jvm.RoadKit
namespace Jvm.RoadKit
open Sem ClassFile Op Lib Bundle Jvm.Stand Jvm.Free Jvm.LawKit Jvm.Free.SB Jvm.Free.SBG
section OwnH2
variable {p : Program} {l : Launch} {e : Env} {R : Room} {s : State} {vm0 vm : Vm} {m : MethodId} {args : Array Value} {below : List Frame} {meth : Method} {c : Code} {T : State} {locs : List Loc} {cells slots : Nat} {K : State → Outcome → Prop} {g : JFrame} {Z : State} {h : Heap} {EL : List (String × Nat)} {x : Addr} {own : String} {n0 : Nat}
/-- a String whose value is not yet laid is no booked one -/
theorem o_safeN (hal : Z.vm.Alike vm) (E : Exa Z h x "java/lang/String") (F : Fld Z h x "java/lang/String" "value" "[B" .null) : Safe Z EL vm h x := fun B => by
  obtain ⟨p, -, u, a, -, q, -, G, rfl | rfl⟩ := B
  · obtain ⟨cell, cf, k, i, f, h1, h2, h3, h4, h5, h6, h7⟩ := F
    cases (show h[q.sa]? = some q.sC from G.ha).symm.trans h1
    obtain ⟨cS, ⟨⟨-, -, -, ⟨c1, k1, i1, f1, -⟩, -, -, -, v1, -⟩, -⟩, -⟩ := G
    obtain ⟨k3, e3, -⟩ := State.fieldFound?_setVm (s := Z) hal h2
    have e4 := (show (Wst Z vm h).fieldFound? _ _ _ = _ from e3).symm.trans f1
    simp only [Option.some.injEq, Prod.mk.injEq] at e4
    rw [← e4.2.2.2, h7] at v1
    cases v1
  · obtain ⟨cell, k, e1, e2, e3, -, -⟩ := E
    cases (show h[q.sd]? = some q.SA from G.hd).symm.trans e1
    obtain ⟨cS, -, -, f, -⟩ := G
    rw [show (Wst Z vm h).vm = vm from rfl, hal.findClass] at f
    obtain ⟨k1, q1, q2⟩ := Vm.findClass_spec f
    obtain ⟨k2, q3, q4⟩ := Vm.findClass_spec e2
    cases q1.symm.trans q3
    exact absurd (q4.symm.trans q2) (by decide)
theorem o_joinH {α : Type} {P : Heap → α → Prop} {F : α → JFrame} {C N : Nat} (X : Stand p l e R (s.setVm vm0) m args below meth c T locs cells slots) (hZ : Z.Warmed39 vm0) (hown : vm0.findClass own = some m.cls) (hN : Fr n0 locs)
    (kJ : ∀ T' locs' vm' k', Stand p l e R (s.setVm vm') m args below meth c T' locs' C N → s.Since vm' k' → k' ≤ T'.heap.size → Z.Warmed39 vm' → vm'.findClass own = some m.cls → Fr n0 locs' → Old Z n0 T'.heap → ∀ a, P T'.heap a → o_G p e below K T' (F a))
    (kB : (∀ T' locs' vm' k', Stand p l e R (s.setVm vm') m args below meth c T' locs' C N → s.Since vm' k' → k' ≤ T'.heap.size → Z.Warmed39 vm' → vm'.findClass own = some m.cls → Fr n0 locs' → Old Z n0 T'.heap → ∀ a, P T'.heap a → o_G p e below K T' (F a)) → o_G p e below K T g) : o_G p e below K T g := kB kJ
end OwnH2
end Jvm.RoadKit
namespace Jvm.RoadKit
open Sem ClassFile Op Lib Bundle Jvm.Stand Jvm.Free Jvm.LawKit Jvm.Free.SB Jvm.Free.SBG
section OwnC
variable {p : Program} {l : Launch} {e : Env} {R : Room} {s : State} {m : MethodId} {args : Array Value} {below : List Frame} {meth : Method} {c : Code} {T T' : State} {locs : List Loc} {cells slots : Nat} {K : State → Outcome → Prop} {A : Array Slot} {S : List Value} {q : Nat} {x y z : Int32} {v w : Value} {Z : State} {a0 : Array Value} {h : Heap} {a : Addr} {own : String} {index : Nat}
theorem o_getS {R0 O n d host : String} (X : Stand p l e R s m args below meth c T locs cells slots) (hx : p.tables.exec = Jvm.exec) (hZ : Z.Warmed39 s.vm) (hown : s.vm.findClass own = some m.cls) (w : (Cond.fieldLink own index R0 n d).before a0 Z = true ∨ (Cond.fieldLinkNest own index R0 n d host).before a0 Z = true) (via : Via Z R0 O n d) (eT : T.heap = h) (F : Sta Z h O n d v) (hd : decode c.code q = .ok (.getstatic index, 3)) (kk : ∀ T', Stand p l e R s m args below meth c T' locs cells slots → T'.heap = h → o_G p e below K T' (mkF m (q + 3) A (v :: S))) : o_G p e below K T (mkF m q A S) := by
  obtain ⟨T', X', e', st⟩ := getS2 X hx hZ hown w via eT F (g := mkF m q A S) rfl hd
  exact o_st st (kk T' X' e')
theorem o_getF {R0 O n d host : String} (X : Stand p l e R s m args below meth c T locs cells slots) (hx : p.tables.exec = Jvm.exec) (hZ : Z.Warmed39 s.vm) (hown : s.vm.findClass own = some m.cls) (w : (Cond.fieldLink own index R0 n d).before a0 Z = true ∨ (Cond.fieldLinkNest own index R0 n d host).before a0 Z = true) (via : Via Z R0 O n d) (eT : T.heap = h) (F : Fld Z h a O n d v) (hd : decode c.code q = .ok (.getfield index, 3)) (kk : ∀ T', Stand p l e R s m args below meth c T' locs cells slots → T'.heap = h → o_G p e below K T' (mkF m (q + 3) A (v :: S))) : o_G p e below K T (mkF m q A (.ref a :: S)) := by
  obtain ⟨T', X', e', st⟩ := getF X hx hZ hown w via eT F (g := mkF m q A (.ref a :: S)) rfl rfl hd
  exact o_st st (kk T' X' e')
theorem o_putF {R0 O n d host C : String} {kk : Nat} {ty : FieldType} {old : Value} (X : Stand p l e R s m args below meth c T locs cells slots) (hx : p.tables.exec = Jvm.exec) (hZ : Z.Warmed39 s.vm) (hown : s.vm.findClass own = some m.cls) (w : (Cond.fieldLink own index R0 n d).before a0 Z = true ∨ (Cond.fieldLinkNest own index R0 n d host).before a0 Z = true) (via : Via Z R0 O n d) (eT : T.heap = h) (F : Fld Z h a O n d old) (E : Exa Z h a C) (L : (Cond.lays C O n d).before a0 Z = true ∨ ((Cond.laysFinal C O n d).before a0 Z = true ∧ own = O ∧ meth.name = "<init>")) (wi : (Cond.instantiable C kk).before a0 Z = true) (hty : parseFieldDescriptor d = some ty) (hn : narrow ty v = v) (hf : fits ty v = true) (hd : decode c.code q = .ok (.putfield index, 3))
    (k : ∀ T' h', Stand p l e R s m args below meth c T' (locs ++ [⟨a, slotOf Z O n d⟩]) cells slots → T'.heap = h' → Wr h h' a (slotOf Z O n d) v → o_G p e below K T' (mkF m (q + 3) A S)) : o_G p e below K T (mkF m q A (v :: .ref a :: S)) := by
  obtain ⟨T', h', X', e', W, st⟩ := putF X hx hZ hown w via eT F E L wi hty hn hf (g := mkF m q A (v :: .ref a :: S)) rfl rfl hd
  exact o_st st (k T' h' X' e' W)
theorem o_putFN {R0 O n d C : String} {kk : Nat} {ty : FieldType} {old v' : Value} (X : Stand p l e R s m args below meth c T locs cells slots) (hx : p.tables.exec = Jvm.exec) (hZ : Z.Warmed39 s.vm) (hown : s.vm.findClass own = some m.cls) (w : (Cond.fieldLink own index R0 n d).before a0 Z = true) (via : Via Z R0 O n d) (eT : T.heap = h) (F : Fld Z h a O n d old) (E : Exa Z h a C) (L : (Cond.lays C O n d).before a0 Z = true ∨ ((Cond.laysFinal C O n d).before a0 Z = true ∧ own = O ∧ meth.name = "<init>")) (wi : (Cond.instantiable C kk).before a0 Z = true) (hty : parseFieldDescriptor d = some ty) (hn : narrow ty v = v') (hf : fits ty v' = true) (hd : decode c.code q = .ok (.putfield index, 3))
    (k : ∀ T' h', Stand p l e R s m args below meth c T' (locs ++ [⟨a, slotOf Z O n d⟩]) cells slots → T'.heap = h' → Wr h h' a (slotOf Z O n d) v' → o_G p e below K T' (mkF m (q + 3) A S)) : o_G p e below K T (mkF m q A (v :: .ref a :: S)) := by
  obtain ⟨T', h', X', e', W, st⟩ := putFN X hx hZ hown w via eT F E L wi hty hn hf (g := mkF m q A (v :: .ref a :: S)) rfl rfl hd
  exact o_st st (k T' h' X' e' W)
theorem o_new {C : String} {n : Nat} (X : Stand p l e R s m args below meth c T locs cells slots) (hx : p.tables.exec = Jvm.exec) (hZ : Z.Warmed39 s.vm) (hown : s.vm.findClass own = some m.cls) (w : (Cond.classLink own index C).before a0 Z = true) (wi : (Cond.instantiable C n).before a0 Z = true) (wz : (Cond.initialized C).before a0 Z = true) (eT : T.heap = h) (hd : decode c.code q = .ok (.new index, 3)) (hc : cells + 1 ≤ R.cells) (hl : slots + n ≤ R.slots)
    (k : ∀ T' h' b, Stand p l e R s m args below meth c T' locs (cells + 1) (slots + n) → T'.heap = h' → b = h.size → Ext h h' → Exa Z h' b C → (∀ {O nm d : String} {ty : FieldType}, Laid Z a0 C O nm d → parseFieldDescriptor d = some ty → Fld Z h' b O nm d (defaultValue ty)) → o_G p e below K T' (mkF m (q + 3) A (.ref b :: S))) : o_G p e below K T (mkF m q A S) := by
  obtain ⟨T', h', X', e', E, E2, D, -, st⟩ := newO X hx hZ hown w wi wz eT (g := mkF m q A S) rfl hd hc hl
  exact o_st st (k T' h' _ X' e' rfl E E2 D)
theorem o_newA {aty : ArrayType} {cap : Nat} (X : Stand p l e R s m args below meth c T locs cells slots) (hx : p.tables.exec = Jvm.exec) (hZ : Z.Warmed39 s.vm) (w : (Cond.arrayClass (newarray.typeOf aty)).before a0 Z = true) (eT : T.heap = h) (hd : decode c.code q = .ok (.newarray aty, 2)) (hn : ¬ x < 0) (hcap : x.toNatClampNeg ≤ cap) (hb : cap * 8 ≤ 536870912) (hc : cells + 1 ≤ R.cells) (hl : slots + cap ≤ R.slots)
    (k : ∀ T' h' ka b, Stand p l e R s m args below meth c T' locs (cells + 1) (slots + cap) → T'.heap = h' → b = h.size → Ext h h' → Arv Z h' b ka (newarray.typeOf aty) x [] (defaultValue (newarray.typeOf aty)) → o_G p e below K T' (mkF m (q + 2) A (.ref b :: S))) : o_G p e below K T (mkF m q A (.int x :: S)) := by
  obtain ⟨T', h', ka, X', e', E, A', st⟩ := newP X hx hZ w eT (g := mkF m q A (.int x :: S)) rfl hd rfl hn hcap hb hc hl
  exact o_st st (k T' h' ka _ X' e' rfl E (Arv.new A' hn))
section Sto
variable {ka : ClassId} {n : Int32} {vs : List Value} {dv : Value} {i : Nat}
theorem o_stC (X : Stand p l e R s m args below meth c T locs cells slots) (hx : p.tables.exec = Jvm.exec) (hZ : Z.Warmed39 s.vm) (eT : T.heap = h) (F : Arv Z h a ka .char n vs dv) (hd : decode c.code q = .ok (.castore, 1)) (hj : ¬ y < 0 ∧ y < n) (hi : y.toNatClampNeg = i) (hl : i < vs.length) (hn : nar .char x = z)
    (k : ∀ T' h', Stand p l e R s m args below meth c T' (locs ++ [⟨a, y.toNatClampNeg⟩]) cells slots → T'.heap = h' → Wr h h' a y.toNatClampNeg (.int z) → Arv Z h' a ka .char n (vs.set i (.int z)) dv → o_G p e below K T' (mkF m (q + 1) A S)) : o_G p e below K T (mkF m q A (.int x :: .int y :: .ref a :: S)) := by
  obtain ⟨cl, F1, F2, F3, F4, F5, F6⟩ := F
  obtain ⟨T', h', X', e', W, st⟩ := stC X hx hZ eT F1 (inb_of F3 hj) (g := mkF m q A (.int x :: .int y :: .ref a :: S)) rfl rfl hd
  have W' := W
  rw [hn] at W'
  have hf := fits_nar_char x
  rw [hn] at hf
  exact o_st st (k T' h' X' e' W' (Arv.set F1 F2 F3 F4 F5 F6 hf W' i hi hl))
theorem o_stB (X : Stand p l e R s m args below meth c T locs cells slots) (hx : p.tables.exec = Jvm.exec) (hZ : Z.Warmed39 s.vm) (eT : T.heap = h) (F : Arv Z h a ka .byte n vs dv) (hd : decode c.code q = .ok (.bastore, 1)) (hj : ¬ y < 0 ∧ y < n) (hi : y.toNatClampNeg = i) (hl : i < vs.length) (hn : nar .byte x = z)
    (k : ∀ T' h', Stand p l e R s m args below meth c T' (locs ++ [⟨a, y.toNatClampNeg⟩]) cells slots → T'.heap = h' → Wr h h' a y.toNatClampNeg (.int z) → Arv Z h' a ka .byte n (vs.set i (.int z)) dv → o_G p e below K T' (mkF m (q + 1) A S)) : o_G p e below K T (mkF m q A (.int x :: .int y :: .ref a :: S)) := by
  obtain ⟨cl, F1, F2, F3, F4, F5, F6⟩ := F
  obtain ⟨T', h', X', e', W, st⟩ := stB X hx hZ eT F1 (inb_of F3 hj) (g := mkF m q A (.int x :: .int y :: .ref a :: S)) rfl rfl hd
  have W' := W
  rw [hn] at W'
  have hf := fits_nar_byte x
  rw [show x.toInt8.toInt32 = z from hn] at hf
  exact o_st st (k T' h' X' e' W' (Arv.set F1 F2 F3 F4 F5 F6 hf W' i hi hl))
theorem o_stI (X : Stand p l e R s m args below meth c T locs cells slots) (hx : p.tables.exec = Jvm.exec) (hZ : Z.Warmed39 s.vm) (eT : T.heap = h) (F : Arv Z h a ka .int n vs dv) (hd : decode c.code q = .ok (.iastore, 1)) (hj : ¬ y < 0 ∧ y < n) (hi : y.toNatClampNeg = i) (hl : i < vs.length)
    (k : ∀ T' h', Stand p l e R s m args below meth c T' (locs ++ [⟨a, y.toNatClampNeg⟩]) cells slots → T'.heap = h' → Wr h h' a y.toNatClampNeg (.int x) → Arv Z h' a ka .int n (vs.set i (.int x)) dv → o_G p e below K T' (mkF m (q + 1) A S)) : o_G p e below K T (mkF m q A (.int x :: .int y :: .ref a :: S)) := by
  obtain ⟨cl, F1, F2, F3, F4, F5, F6⟩ := F
  obtain ⟨T', h', X', e', W, st⟩ := stI X hx hZ eT F1 (inb_of F3 hj) (g := mkF m q A (.int x :: .int y :: .ref a :: S)) rfl rfl hd
  exact o_st st (k T' h' X' e' W (Arv.set F1 F2 F3 F4 F5 F6 rfl W i hi hl))
end Sto
theorem o_initO {W : Nat} (X : Stand p l e R s m args below meth c T locs cells slots) (hx : p.tables.exec = Jvm.exec) (hZ : Z.Warmed39 s.vm) (hown : s.vm.findClass own = some m.cls) (w1 : (Cond.methodLink own index Lib.objectInit).before a0 Z = true) (w2 : (Cond.instanceMethod Lib.objectInit).before a0 Z = true) (w3 : (Cond.code Lib.objectInit ⟨#[0xb1]⟩ 1 none).before a0 Z = true) (eT : T.heap = h) (hsz : A.size = c.maxLocals) (hd : decode c.code q = .ok (.invokespecial index, 3)) (hf : 1 ≤ R.frames) (hW : (S.map fun v => v.category).sum ≤ W) (hl : W + 12 ≤ R.locals)
    (kk : ∀ T', Stand p l e R s m args below meth c T' locs cells slots → T'.heap = h → o_G p e below K T' (mkF m (q + 3) A S)) : o_G p e below K T (mkF m q A (.ref a :: S)) := by
  obtain ⟨T', X', e', st⟩ := initO X hx hZ hown w1 w2 w3 eT (g := mkF m q A (.ref a :: S)) rfl hsz rfl hd hf (W := W) (by show 2 * 0 + _ ≤ _; omega) hl
  exact o_st st (kk T' X' e')
theorem o_instY {Kn : String} (X : Stand p l e R s m args below meth c T locs cells slots) (hx : p.tables.exec = Jvm.exec) (hZ : Z.Warmed39 s.vm) (hown : s.vm.findClass own = some m.cls) (w : (Cond.classLink own index Kn).before a0 Z = true) (eT : T.heap = h) (F : Ins Z h a Kn true) (hd : decode c.code q = .ok (.instanceof index, 3)) (kk : ∀ T', Stand p l e R s m args below meth c T' locs cells slots → T'.heap = h → o_G p e below K T' (mkF m (q + 3) A (.int 1 :: S))) : o_G p e below K T (mkF m q A (.ref a :: S)) := by
  obtain ⟨T', X', e', st⟩ := instY X hx hZ hown w eT F (g := mkF m q A (.ref a :: S)) rfl rfl hd
  exact o_st st (kk T' X' e')
theorem o_castY {Kn : String} (X : Stand p l e R s m args below meth c T locs cells slots) (hx : p.tables.exec = Jvm.exec) (hZ : Z.Warmed39 s.vm) (hown : s.vm.findClass own = some m.cls) (w : (Cond.classLink own index Kn).before a0 Z = true) (eT : T.heap = h) (F : Ins Z h a Kn true) (hd : decode c.code q = .ok (.checkcast index, 3)) (kk : ∀ T', Stand p l e R s m args below meth c T' locs cells slots → T'.heap = h → o_G p e below K T' (mkF m (q + 3) A (.ref a :: S))) : o_G p e below K T (mkF m q A (.ref a :: S)) := by
  obtain ⟨T', X', e', st⟩ := castY X hx hZ hown w eT F (g := mkF m q A (.ref a :: S)) rfl rfl hd
  exact o_st st (kk T' X' e')
theorem o_fresh {n0 : Nat} {b : Addr} (O : Old Z n0 h) (g : b = h.size) : n0 ≤ b := by rw [g, ← O.1]; exact O.2.1
theorem o_size {n0 : Nat} (O : Old Z n0 h) : n0 ≤ h.size := by rw [← O.1]; exact O.2.1
theorem o_hQ {Q : Option Value → Heap → List Loc → Prop} {v : Option Value} {T : State} {h : Heap} {L : List Loc} (e : T.heap = h) (hq : Q v h L) : Q v T.heap L := e ▸ hq
theorem o_b {a b : Nat} (h : Nat.ble a b = true) : a ≤ b := Nat.le_of_ble_eq_true h
abbrev vI (x : Int32) : Slot := .val (.int x)
abbrev vR (x : Addr) : Slot := .val (.ref x)
section Autos
variable {Q : Option Value → Heap → List Loc → Prop} {kc ks W : Nat} {C : String} {argsL St : List Value} {b : Addr}
theorem o_vir {ml : Nat} {y : MethodName} (X : Stand p l e R s m args below meth c T locs cells slots) (hx : p.tables.exec = Jvm.exec) (hZ : Z.Warmed39 s.vm) (hown : s.vm.findClass own = some m.cls) (w1 : (Cond.methodLink own index y).before a0 Z = true) (w2 : (Cond.declares y).before a0 Z = true) (w3 : (Cond.selects C y y).before a0 Z = true) (w4 : (Cond.instanceMethod y).before a0 Z = true) (hK : Back l R p e below s args y 3 W (fun P a => a = (Value.ref b :: argsL).toArray ∧ P.U.heap = h ∧ P.cells + kc ≤ R.cells ∧ P.slots + ks ≤ R.slots) (fun P _ v B => ∃ L, Q v B.U.heap L ∧ B.locs = P.locs ++ L ∧ B.cells = P.cells + kc ∧ B.slots = P.slots + ks)) (eT : T.heap = h) (E : Exa Z h b C) (hml : c.maxLocals = ml) (hlen : ∀ sig, parseMethodDescriptor y.desc = some sig → argsL.length = sig.parameters.length) (hd : decode c.code q = .ok (.invokevirtual index, 3))
    (kk : ∀ T' L v, Stand p l e R s m args below meth c T' (locs ++ L) (cells + kc) (slots + ks) → Q v T'.heap L → o_G p e below K T' (mkF m (q + 3) A (v.toList ++ S)))
    (hy : y.cls ≠ "java/lang/invoke/MethodHandle" ∧ y.cls ≠ "java/lang/invoke/VarHandle" := by decide) (hsz : A.size = ml := by rfl) (hst : St = argsL.reverse ++ .ref b :: S := by rfl) (hW : (S.map fun v => v.category).sum ≤ W := by exact Nat.le_of_eq rfl) (hc : cells + kc ≤ R.cells := by decide) (hs : slots + ks ≤ R.slots := by decide) : o_G p e below K T (mkF m q A St) :=
  o_virtual X hx hZ hown w1 w2 (notFace_of_selects (args := #[]) (mvT hZ w3)) w3 w4 hy hK eT E (hsz.trans hml.symm) hlen hst hW hd hc hs kk
theorem o_sta {bytes : ByteArray} {maxL ml : Nat} {ret : Option FieldType} {y : MethodName} (X : Stand p l e R s m args below meth c T locs cells slots) (hx : p.tables.exec = Jvm.exec) (hZ : Z.Warmed39 s.vm) (hown : s.vm.findClass own = some m.cls) (w1 : (Cond.methodLink own index y).before a0 Z = true) (w2 : (Cond.static y).before a0 Z = true) (w3 : (Cond.initialized y.cls).before a0 Z = true) (w4 : (Cond.code y bytes maxL ret).before a0 Z = true) (hK : Back l R p e below s args y 3 W (fun P a => a = argsL.toArray ∧ P.U.heap = h ∧ P.cells + kc ≤ R.cells ∧ P.slots + ks ≤ R.slots) (fun P _ v B => ∃ L, Q v B.U.heap L ∧ B.locs = P.locs ++ L ∧ B.cells = P.cells + kc ∧ B.slots = P.slots + ks)) (eT : T.heap = h) (hml : c.maxLocals = ml) (hlen : ∀ sig, parseMethodDescriptor y.desc = some sig → argsL.length = sig.parameters.length) (hd : decode c.code q = .ok (.invokestatic index, 3))
    (kk : ∀ T' L v, Stand p l e R s m args below meth c T' (locs ++ L) (cells + kc) (slots + ks) → Q v T'.heap L → o_G p e below K T' (mkF m (q + 3) A (v.toList ++ S)))
    (hy : y.cls ≠ "java/lang/invoke/MethodHandle" ∧ y.cls ≠ "java/lang/invoke/VarHandle" := by decide) (hsz : A.size = ml := by rfl) (hst : St = argsL.reverse ++ S := by rfl) (hW : (S.map fun v => v.category).sum ≤ W := by exact Nat.le_of_eq rfl) (hc : cells + kc ≤ R.cells := by decide) (hs : slots + ks ≤ R.slots := by decide) : o_G p e below K T (mkF m q A St) :=
  o_static X hx hZ hown w1 w2 w3 w4 hy hK eT (hsz.trans hml.symm) hlen hst hW hd hc hs kk
theorem o_ini {bytes : ByteArray} {maxL ml : Nat} {y : MethodName} (hy1 : y.name = "<init>") (X : Stand p l e R s m args below meth c T locs cells slots) (hx : p.tables.exec = Jvm.exec) (hZ : Z.Warmed39 s.vm) (hown : s.vm.findClass own = some m.cls) (w1 : (Cond.methodLink own index y).before a0 Z = true) (w2 : (Cond.instanceMethod y).before a0 Z = true) (w4 : (Cond.code y bytes maxL none).before a0 Z = true) (hK : Back l R p e below s args y 3 W (fun P a => a = (Value.ref b :: argsL).toArray ∧ P.U.heap = h ∧ P.cells + kc ≤ R.cells ∧ P.slots + ks ≤ R.slots) (fun P _ v B => ∃ L, Q v B.U.heap L ∧ B.locs = P.locs ++ L ∧ B.cells = P.cells + kc ∧ B.slots = P.slots + ks)) (eT : T.heap = h) (hml : c.maxLocals = ml) (hlen : ∀ sig, parseMethodDescriptor y.desc = some sig → argsL.length = sig.parameters.length) (hd : decode c.code q = .ok (.invokespecial index, 3))
    (kk : ∀ T' L v, Stand p l e R s m args below meth c T' (locs ++ L) (cells + kc) (slots + ks) → Q v T'.heap L → o_G p e below K T' (mkF m (q + 3) A (v.toList ++ S)))
    (hy : y.cls ≠ "java/lang/invoke/MethodHandle" ∧ y.cls ≠ "java/lang/invoke/VarHandle" := by decide) (hsz : A.size = ml := by rfl) (hst : St = argsL.reverse ++ .ref b :: S := by rfl) (hW : (S.map fun v => v.category).sum ≤ W := by exact Nat.le_of_eq rfl) (hc : cells + kc ≤ R.cells := by decide) (hs : slots + ks ≤ R.slots := by decide) : o_G p e below K T (mkF m q A St) :=
  o_init hy1 X hx hZ hown w1 w2 w4 hy hK eT (hsz.trans hml.symm) hlen hst hW hd hc hs kk
theorem o_iF (X : Stand p l e R s m args below meth c T locs cells slots) (hx : p.tables.exec = Jvm.exec) {cd : ClassFile.Cond} {o : Int} {t : Nat} (hd : decode c.code q = .ok (.ifCond cd o, 3)) (kT : ifCond.holds cd x = true → o_G p e below K T (mkF m t A S)) (kF : ifCond.holds cd x = false → o_G p e below K T (mkF m (q + 3) A S)) (ho : 0 ≤ (q : Int) + o := by decide) (ht : ((q : Int) + o).toNat = t := by decide) : o_G p e below K T (mkF m q A (.int x :: S)) := o_if X hx hd ho ht kT kF
theorem o_iFT (X : Stand p l e R s m args below meth c T locs cells slots) (hx : p.tables.exec = Jvm.exec) {cd : ClassFile.Cond} {o : Int} {t : Nat} (hd : decode c.code q = .ok (.ifCond cd o, 3)) (k : o_G p e below K T (mkF m t A S)) (ho : 0 ≤ (q : Int) + o := by decide) (ht : ((q : Int) + o).toNat = t := by decide) (hc : ifCond.holds cd x = true := by decide) : o_G p e below K T (mkF m q A (.int x :: S)) := o_ifT X hx hd ho ht hc k
theorem o_iFF (X : Stand p l e R s m args below meth c T locs cells slots) (hx : p.tables.exec = Jvm.exec) {cd : ClassFile.Cond} {o : Int} (hd : decode c.code q = .ok (.ifCond cd o, 3)) (k : o_G p e below K T (mkF m (q + 3) A S)) (hc : ifCond.holds cd x = false := by decide) : o_G p e below K T (mkF m q A (.int x :: S)) := o_ifF X hx hd hc k
theorem o_iC (X : Stand p l e R s m args below meth c T locs cells slots) (hx : p.tables.exec = Jvm.exec) {cd : ClassFile.Cond} {o : Int} {t : Nat} (hd : decode c.code q = .ok (.if_icmp cd o, 3)) (kT : if_icmp.holds cd x y = true → o_G p e below K T (mkF m t A S)) (kF : if_icmp.holds cd x y = false → o_G p e below K T (mkF m (q + 3) A S)) (ho : 0 ≤ (q : Int) + o := by decide) (ht : ((q : Int) + o).toNat = t := by decide) : o_G p e below K T (mkF m q A (.int y :: .int x :: S)) := o_icmp X hx hd ho ht kT kF
theorem o_iCT (X : Stand p l e R s m args below meth c T locs cells slots) (hx : p.tables.exec = Jvm.exec) {cd : ClassFile.Cond} {o : Int} {t : Nat} (hd : decode c.code q = .ok (.if_icmp cd o, 3)) (k : o_G p e below K T (mkF m t A S)) (ho : 0 ≤ (q : Int) + o := by decide) (ht : ((q : Int) + o).toNat = t := by decide) (hc : if_icmp.holds cd x y = true := by decide) : o_G p e below K T (mkF m q A (.int y :: .int x :: S)) := o_icmpT X hx hd ho ht hc k
theorem o_iCF (X : Stand p l e R s m args below meth c T locs cells slots) (hx : p.tables.exec = Jvm.exec) {cd : ClassFile.Cond} {o : Int} (hd : decode c.code q = .ok (.if_icmp cd o, 3)) (k : o_G p e below K T (mkF m (q + 3) A S)) (hc : if_icmp.holds cd x y = false := by decide) : o_G p e below K T (mkF m q A (.int y :: .int x :: S)) := o_icmpF X hx hd hc k
theorem o_gO (X : Stand p l e R s m args below meth c T locs cells slots) (hx : p.tables.exec = Jvm.exec) {o : Int} {t : Nat} (hd : decode c.code q = .ok (.goto o, 3)) (kk : o_G p e below K T (mkF m t A S)) (ho : 0 ≤ (q : Int) + o := by decide) (ht : ((q : Int) + o).toNat = t := by decide) : o_G p e below K T (mkF m q A S) := o_goto X hx hd ho ht kk
theorem o_ng {a b n : Nat} (h : a < n) (g : b = n) : a ≠ b := by omega
end Autos
end OwnC
section Enter
variable {l : Launch} {Z : State} {h0 : Heap} {y : MethodName} {bytes : ByteArray} {ml : Nat} {ret : Option FieldType} {ws : List Cond} {rm : Room} {as' : Array Value} {Q : Option Value → Heap → List Loc → Prop} {Ls : Array Slot} {EL : List (String × Nat)}
abbrev o_Met (l : Launch) (Z : State) (y : MethodName) (bytes : ByteArray) (ml : Nat) (ret : Option FieldType) (ws : List Cond) (rm : Room) (as' : Array Value) (h0 : Heap) (Q : Option Value → Heap → List Loc → Prop) : Prop := MetFree l y (head1 (Cond.code y bytes ml ret :: ws) rm) (fun a U => a = as' ∧ Z.Warmed39 U.vm ∧ U.heap = h0) (fun _ _ _ _ _ => True) (fun _ U o U' => ∃ v L, o = .returned v ∧ Q v U'.heap L ∧ FrameEnd U o U' L rm.cells rm.slots)
abbrev o_MetW (l : Launch) (Z : State) (y : MethodName) (bytes : ByteArray) (ml : Nat) (ret : Option FieldType) (ws : List Cond) (rm : Room) (as' : Array Value) (h0 : Heap) (Q : Option Value → Heap → List Loc → Prop) : Prop := MetFree l y (head1 (Cond.code y bytes ml ret :: ws) rm) (fun a U => a = as' ∧ Z.Warmed39 U.vm ∧ U.heap = h0) (fun _ _ _ _ _ => True) (fun _ U o U' => ∃ v L, o = .returned v ∧ Q v U'.heap L ∧ ReturnedEndW U o U' L rm.cells rm.slots)
abbrev o_MetH (EL : List (String × Nat)) (l : Launch) (Z : State) (y : MethodName) (bytes : ByteArray) (ml : Nat) (ret : Option FieldType) (ws : List Cond) (rm : Room) (as' : Array Value) (h0 : Heap) (Q : Option Value → Heap → List Loc → Prop) : Prop := MetFree l y (head1 (Cond.code y bytes ml ret :: ws) rm) (fun a U => a = as' ∧ Z.Warmed39 U.vm ∧ U.heap = h0 ∧ CHv Z EL U.vm h0) (fun _ _ _ _ _ => True) (fun _ U o U' => ∃ v L, o = .returned v ∧ Q v U'.heap L ∧ CHr Z EL U.vm U.heap U'.vm U'.heap ∧ ReturnedEndW U o U' L rm.cells rm.slots)
/-- a law's own: the constants are held at its start; of its end only the wide frame is said -/
abbrev o_MetL (EL : List (String × Nat)) (l : Launch) (Z : State) (y : MethodName) (bytes : ByteArray) (ml : Nat) (ret : Option FieldType) (ws : List Cond) (rm : Room) (as' : Array Value) (h0 : Heap) (Q : Option Value → Heap → List Loc → Prop) : Prop := MetFree l y (head1 (Cond.code y bytes ml ret :: ws) rm) (fun a U => a = as' ∧ Z.Warmed39 U.vm ∧ U.heap = h0 ∧ CHv Z EL U.vm h0) (fun _ _ _ _ _ => True) (fun _ U o U' => ∃ v L, o = .returned v ∧ Q v U'.heap L ∧ ReturnedEndW U o U' L rm.cells rm.slots)
theorem o_enter (hpl : plainName y.cls = true) (hef : ∀ m, entryFrame m as' ml = mkF m 0 Ls []) (body : ∀ (p : Program) (e : Env) (s : State) (m : MethodId) (below : List Frame) (meth : Method) (c : Code) (s₁ : State), p.tables.exec = Jvm.exec → c.code = bytes → c.maxLocals = ml → Z.Warmed39 s.vm → s.vm.findClass y.cls = some m.cls → meth.name = y.name → meth.locks = false → meth.sig.returnType = ret → Stand p l e rm s m as' below meth c s₁ [] 0 0 → s₁.heap = h0 → o_G p e below (o_E s Q rm.cells rm.slots) s₁ (mkF m 0 Ls [])) : o_Met l Z y bytes ml ret ws rm as' h0 Q := by
  refine MetFree.of_bodySF (plainFor_of_name hpl) hisR ?_
  intro p e s m args below meth c s₁ Bd hml hP hK
  obtain ⟨rfl, hZ, hh⟩ := hP
  have hG := body p e s m below meth c s₁ Bd.exec Bd.bytes hml hZ (findClass_of_methodNamed Bd.named) (name_of_methodNamed Bd.named Bd.method).1 (BodyLoose.notSynchronized Bd) Bd.returns (Stand.of_body Bd) (by rw [← hh, Bd.state]; rfl)
  rw [← hef] at hG; exact hG
theorem o_enterW (hpl : plainName y.cls = true) (hef : ∀ m, entryFrame m as' ml = mkF m 0 Ls []) (body : ∀ (p : Program) (e : Env) (s : State) (m : MethodId) (below : List Frame) (meth : Method) (c : Code) (s₁ : State), p.tables.exec = Jvm.exec → c.code = bytes → c.maxLocals = ml → Z.Warmed39 s.vm → s.vm.findClass y.cls = some m.cls → meth.name = y.name → meth.locks = false → meth.sig.returnType = ret → Stand p l e rm (s.setVm s.vm) m as' below meth c s₁ [] 0 0 → s₁.heap = h0 → s.Since s.vm 0 → 0 ≤ h0.size → o_G p e below (o_EW s Q rm.cells rm.slots) s₁ (mkF m 0 Ls [])) : o_MetW l Z y bytes ml ret ws rm as' h0 Q := by
  refine MetFree.of_bodySF (plainFor_of_name hpl) hisR ?_
  intro p e s m args below meth c s₁ Bd hml hP hK
  obtain ⟨rfl, hZ, hh⟩ := hP
  have hG := body p e s m below meth c s₁ Bd.exec Bd.bytes hml hZ (findClass_of_methodNamed Bd.named) (name_of_methodNamed Bd.named Bd.method).1 (BodyLoose.notSynchronized Bd) Bd.returns (Stand.of_body Bd) (by rw [← hh, Bd.state]; rfl) ((State.WarmedH.refl s).since 0) (Nat.zero_le _)
  rw [← hef] at hG; exact hG
theorem o_enterH (hpl : plainName y.cls = true) (hef : ∀ m, entryFrame m as' ml = mkF m 0 Ls []) (body : ∀ (p : Program) (e : Env) (s : State) (m : MethodId) (below : List Frame) (meth : Method) (c : Code) (s₁ : State), p.tables.exec = Jvm.exec → c.code = bytes → c.maxLocals = ml → Z.Warmed39 s.vm → s.vm.findClass y.cls = some m.cls → meth.name = y.name → meth.locks = false → meth.sig.returnType = ret → Stand p l e rm (s.setVm s.vm) m as' below meth c s₁ [] 0 0 → s₁.heap = h0 → s.Since s.vm 0 → 0 ≤ h0.size → CHr Z EL s.vm h0 s.vm h0 → o_G p e below (o_EH Z EL s h0 Q rm.cells rm.slots) s₁ (mkF m 0 Ls [])) : o_MetH EL l Z y bytes ml ret ws rm as' h0 Q := by
  refine MetFree.of_bodySF (plainFor_of_name hpl) hisR ?_
  intro p e s m args below meth c s₁ Bd hml hP hK
  obtain ⟨rfl, hZ, hh, hC⟩ := hP
  have hG := body p e s m below meth c s₁ Bd.exec Bd.bytes hml hZ (findClass_of_methodNamed Bd.named) (name_of_methodNamed Bd.named Bd.method).1 (BodyLoose.notSynchronized Bd) Bd.returns (Stand.of_body Bd) (by rw [← hh, Bd.state]; rfl) ((State.WarmedH.refl s).since 0) (Nat.zero_le _) (CHr.refl hC)
  rw [← hef] at hG
  exact o_mono (K := o_EH Z EL s h0 Q rm.cells rm.slots) (fun t o hq => by rw [hh]; exact hq) hG
theorem o_enterL (hpl : plainName y.cls = true) (hef : ∀ m, entryFrame m as' ml = mkF m 0 Ls []) (body : ∀ (p : Program) (e : Env) (s : State) (m : MethodId) (below : List Frame) (meth : Method) (c : Code) (s₁ : State), p.tables.exec = Jvm.exec → c.code = bytes → c.maxLocals = ml → Z.Warmed39 s.vm → s.vm.findClass y.cls = some m.cls → meth.name = y.name → meth.locks = false → meth.sig.returnType = ret → Stand p l e rm (s.setVm s.vm) m as' below meth c s₁ [] 0 0 → s₁.heap = h0 → s.Since s.vm 0 → 0 ≤ h0.size → CHr Z EL s.vm h0 s.vm h0 → o_G p e below (o_EW s Q rm.cells rm.slots) s₁ (mkF m 0 Ls [])) : o_MetL EL l Z y bytes ml ret ws rm as' h0 Q := by
  refine MetFree.of_bodySF (plainFor_of_name hpl) hisR ?_
  intro p e s m args below meth c s₁ Bd hml hP hK
  obtain ⟨rfl, hZ, hh, hC⟩ := hP
  have hG := body p e s m below meth c s₁ Bd.exec Bd.bytes hml hZ (findClass_of_methodNamed Bd.named) (name_of_methodNamed Bd.named Bd.method).1 (BodyLoose.notSynchronized Bd) Bd.returns (Stand.of_body Bd) (by rw [← hh, Bd.state]; rfl) ((State.WarmedH.refl s).since 0) (Nat.zero_le _) (CHr.refl hC)
  rw [← hef] at hG; exact hG
end Enter
end Jvm.RoadKit

/- laws to paste: Road.backV, Road.empW, Road.eqW, Road.lenW, Road.codOf (cut by pick.py; bodies as the Statement names them) -/
namespace Jvm.Pilot.@@N@@
namespace StrChars
open Jvm Sem ClassFile Op Lib Jvm.Stand Jvm.Free.XT Jvm.Free.ALB Jvm.Free.JM Jvm.Free
open Jvm.Lib.Cold (StaticIs)
/-- a char array whose places are chars -/
def Ch (a : Addr) (A : Cell) (U : State) : Prop := Arr .char a A U ∧ Typed .char A
theorem Ch.mv {a : Addr} {A : Cell} {U U' : State} (h : Ch a A U) (hal : U.vm.Alike U'.vm) (hh : U'.heap = U.heap) : Ch a A U' := ⟨h.1.mv hal hh, h.2⟩
theorem Ch.keep {a : Addr} {A : Cell} {U U' : State} (h : Ch a A U) (hal : U.vm.Alike U'.vm) (hk : U'.heap[a]? = some A) : Ch a A U' := ⟨h.1.keep hal hk, h.2⟩
/-- what place i of a char[]'s cell holds -/
def cv (A : Cell) (i : Nat) : Int32 := match A.slots[i]? with | some (.int x) => x | _ => 0
theorem Ch.get {a : Addr} {A : Cell} {U : State} (h : Ch a A U) {i : Nat} (hi : i < A.slots.size) : A.slots[i]? = some (.int (cv A i)) := by
  have e := Array.getElem?_eq_getElem hi
  have f := h.2 i _ e
  unfold cv; rw [e]
  generalize A.slots[i] = v at f
  cases v <;> simp [fits] at f ⊢
/-- the byte that i2b leaves of a char -/
def lo8 (x : Int32) : Int32 := x.toInt8.toInt32
theorem fits_lo8 (y : Int32) : fits .byte (.int (lo8 y)) = true := by
  have h1 := y.toInt8.le_toInt
  have h2 := y.toInt8.toInt_lt
  simp only [lo8, fits, Bool.and_eq_true, decide_eq_true_eq, Int32.le_iff_toInt_le, Int8.toInt_toInt32, show (-128 : Int32).toInt = -128 from by decide, show (127 : Int32).toInt = 127 from by decide]
  omega
/-- A' is A but that each place j of lo .. hi - 1 holds f j -/
def Laid (A A' : Cell) (lo hi : Nat) (f : Nat → Value) : Prop := A'.cls = A.cls ∧ A'.vm = A.vm ∧ A'.slots.size = A.slots.size ∧ ∀ i, A'.slots[i]? = if lo ≤ i ∧ i < hi then some (f i) else A.slots[i]?
theorem Laid.zero (A : Cell) (lo : Nat) (f : Nat → Value) : Laid A A lo (lo + 0) f := ⟨rfl, rfl, rfl, fun i => by rw [if_neg (by omega)]⟩
theorem Laid.step {A Ak : Cell} {lo k : Nat} {f : Nat → Value} {v : Value} (h : Laid A Ak lo k f) (hlo : lo ≤ k) (hk : k < Ak.slots.size) (hv : v = f k) : Laid A (Ak.setSlot k v) lo (k + 1) f := by
  refine ⟨h.1, h.2.1, by simpa [Cell.setSlot] using h.2.2.1, fun i => ?_⟩
  by_cases e : k = i
  · subst e; rw [Cell.slots_setSlot_self v hk, if_pos (by omega), hv]
  · rw [Cell.slots_setSlot_ne v e, h.2.2.2 i]
    by_cases q : lo ≤ i ∧ i < k
    · rw [if_pos q, if_pos (by omega)]
    · rw [if_neg q, if_neg (by omega)]
def U16 : String := "java/lang/StringUTF16"
namespace Cmp5
def yN : MethodName := ⟨"java/lang/StringUTF16", "compress", "([CI[BII)I"⟩
abbrev yB : ByteArray := jdk_52_method_21_code
theorem d0 : decode yB 0 = .ok (.iconst 0, 1) := by decide +kernel
theorem d1 : decode yB 1 = .ok (.istore 5, 2) := by decide +kernel
theorem d3 : decode yB 3 = .ok (.iload 5, 2) := by decide +kernel
theorem d5 : decode yB 5 = .ok (.iload 4, 2) := by decide +kernel
theorem d7 : decode yB 7 = .ok (.if_icmp (.ge) 37, 3) := by decide +kernel
theorem d10 : decode yB 10 = .ok (.aload_n 0, 1) := by decide +kernel
theorem d11 : decode yB 11 = .ok (.iload_n 1, 1) := by decide +kernel
theorem d12 : decode yB 12 = .ok (.caload, 1) := by decide +kernel
theorem d13 : decode yB 13 = .ok (.istore 6, 2) := by decide +kernel
theorem d15 : decode yB 15 = .ok (.iload 6, 2) := by decide +kernel
theorem d17 : decode yB 17 = .ok (.sipush 255, 3) := by decide +kernel
theorem d20 : decode yB 20 = .ok (.if_icmp (.le) 6, 3) := by decide +kernel
theorem d26 : decode yB 26 = .ok (.aload_n 2, 1) := by decide +kernel
theorem d27 : decode yB 27 = .ok (.iload_n 3, 1) := by decide +kernel
theorem d28 : decode yB 28 = .ok (.iload 6, 2) := by decide +kernel
theorem d30 : decode yB 30 = .ok (.i2b, 1) := by decide +kernel
theorem d31 : decode yB 31 = .ok (.bastore, 1) := by decide +kernel
theorem d32 : decode yB 32 = .ok (.iinc 1 1, 3) := by decide +kernel
theorem d35 : decode yB 35 = .ok (.iinc 3 1, 3) := by decide +kernel
theorem d38 : decode yB 38 = .ok (.iinc 5 1, 3) := by decide +kernel
theorem d41 : decode yB 41 = .ok (.goto (-38), 3) := by decide +kernel
theorem d44 : decode yB 44 = .ok (.iload 4, 2) := by decide +kernel
theorem d46 : decode yB 46 = .ok (.ireturn, 1) := by decide +kernel
def site : List Cond := []
def tab : Cond := tabOf yN yB 7 (some .int) site
def P (b : Addr) (A : Cell) (d : Addr) (B : Cell) (o q len : Nat) (args : Array Value) (s : State) : Prop := args = #[.ref b, .int (Int32.ofNat o), .ref d, .int (Int32.ofNat q), .int (Int32.ofNat len)] ∧ Ch b A s ∧ Arr .byte d B s ∧ b ≠ d ∧ o + len ≤ A.slots.size ∧ q + len ≤ B.slots.size ∧ ∀ i, i < len → ¬ 255 < cv A (o + i)
def E (b : Addr) (A : Cell) (d : Addr) (B : Cell) (o q len : Nat) (r : Option Value) (s u : State) : Prop := r = some (.int (Int32.ofNat len)) ∧ ∃ B', Put d B' s u ∧ Laid B B' q (q + len) (fun j => Value.int (lo8 (cv A (o + (j - q)))))
/-- no char of the range above 255: len; the places written hold each char's low byte -/
theorem law (l : Launch) (b : Addr) (A : Cell) (d : Addr) (B : Cell) (o q len : Nat) : Law l yN 5 5 0 0 yB 7 (some .int) site (P b A d B o q len) (E b A d B o q len) (copyLocs d q len) 0 0 := by
  refine Law.of_walk (plainFor_of_name (by decide +kernel)) (by decide +kernel) (by decide +kernel) (by decide) (fun _ _ h => by rw [h.1]; rfl) (fun _ U U' hal hh h => ⟨h.1, h.2.1.mv hal hh, h.2.2.1.mv hal hh, h.2.2.2⟩) (fun r U U' V V' h1 hal h2 h => ⟨h.1, h.2.elim fun B' q => ⟨B', q.1.mv h1 h2, q.2⟩⟩) ?_
  intro p e s m args below meth c s₁ X0 hexec hbytes hml hret hlk hnm hown hh0 W hP
  obtain ⟨rfl, hA, hB, hne, l1, l2, hp⟩ := hP
  have c1 : Steps p.tables e below (s₁.setTop (entryFrame m #[.ref b, .int (Int32.ofNat o), .ref d, .int (Int32.ofNat q), .int (Int32.ofNat len)] 7)) (s₁.setTop (mkF m 0 #[.val (.ref b), .val (.int (Int32.ofNat o)), .val (.ref d), .val (.int (Int32.ofNat q)), .val (.int (Int32.ofNat len)), .unset, .unset] [])) := entry rfl
  have hA0 := hA.1.mv X0.warmed.alike hh0
  have hB0 := hB.mv X0.warmed.alike hh0
  have a31 := hA.1.2.2.2
  have c2 : Steps p.tables e below (s₁.setTop (entryFrame m #[.ref b, .int (Int32.ofNat o), .ref d, .int (Int32.ofNat q), .int (Int32.ofNat len)] 7)) (s₁.setTop (mkF m 3 #[.val (.ref b), .val (.int (Int32.ofNat o)), .val (.ref d), .val (.int (Int32.ofNat q)), .val (.int (Int32.ofNat len)), .val (.int 0), .unset] [])) := c1.trans (by
    refine iconstV X0.here hexec rfl 0 (hb hbytes d0) (by decide) ?_
    refine XS.istore X0.here hexec rfl (hb hbytes d1) rfl rfl ?_
    exact Steps.refl _)
  have loop : ∀ (r i : Nat), i + r = len → ∀ (z : Slot), (z = .unset ∨ ∃ w, z = .val w ∧ w.category = 1) → ∀ (Tl : State) (Bk : Cell), Stand p l e { frames := 0, locals := 0, cells := 0, slots := 0 } s m #[.ref b, .int (Int32.ofNat o), .ref d, .int (Int32.ofNat q), .int (Int32.ofNat len)] below meth c Tl ([] ++ copyLocs d q i) 0 0 → Put d Bk s₁ Tl → Laid B Bk q (q + i) (fun j => Value.int (lo8 (cv A (o + (j - q))))) →
      Steps p.tables e below (s₁.setTop (entryFrame m #[.ref b, .int (Int32.ofNat o), .ref d, .int (Int32.ofNat q), .int (Int32.ofNat len)] 7)) (Tl.setTop (mkF m 3 #[.val (.ref b), .val (.int (Int32.ofNat (o + i))), .val (.ref d), .val (.int (Int32.ofNat (q + i))), .val (.int (Int32.ofNat len)), .val (.int (Int32.ofNat i)), z] [])) → ∃ (T' : State) (B' : Cell) (z' : Slot), Stand p l e { frames := 0, locals := 0, cells := 0, slots := 0 } s m #[.ref b, .int (Int32.ofNat o), .ref d, .int (Int32.ofNat q), .int (Int32.ofNat len)] below meth c T' ([] ++ copyLocs d q len) 0 0 ∧ Put d B' s₁ T' ∧ Laid B B' q (q + len) (fun j => Value.int (lo8 (cv A (o + (j - q))))) ∧
      Steps p.tables e below (s₁.setTop (entryFrame m #[.ref b, .int (Int32.ofNat o), .ref d, .int (Int32.ofNat q), .int (Int32.ofNat len)] 7)) (T'.setTop (mkF m 3 #[.val (.ref b), .val (.int (Int32.ofNat (o + len))), .val (.ref d), .val (.int (Int32.ofNat (q + len))), .val (.int (Int32.ofNat len)), .val (.int (Int32.ofNat len)), z'] [])) := by
    intro r
    induction r with
    | zero =>
      intro i hi z hz Tl Bk Xl pl fl cl
      have hil : i = len := by omega
      rw [hil] at Xl fl cl
      exact ⟨Tl, Bk, z, Xl, pl, fl, cl⟩
    | succ r ih =>
      intro i hi z hz Tl Bk Xl pl fl cl
      have all := X0.warmed.alike.symm.trans Xl.warmed.alike
      have hAl := hA0.keep all (pl.other hne hA0.1)
      have hBk := hB0.like all pl.1 fl.1 fl.2.1 fl.2.2.1
      have hlt : q + i < Bk.slots.size := by rw [fl.2.2.1]; omega
      have c3 : Steps p.tables e below (s₁.setTop (entryFrame m #[.ref b, .int (Int32.ofNat o), .ref d, .int (Int32.ofNat q), .int (Int32.ofNat len)] 7)) (Tl.setTop (mkF m 12 #[.val (.ref b), .val (.int (Int32.ofNat (o + i))), .val (.ref d), .val (.int (Int32.ofNat (q + i))), .val (.int (Int32.ofNat len)), .val (.int (Int32.ofNat i)), z] [.int (Int32.ofNat (o + i)), .ref b])) := cl.trans (by
        refine XS.iload Xl.here hexec rfl (hb hbytes d3) rfl ?_
        refine XS.iload Xl.here hexec rfl (hb hbytes d5) rfl ?_
        refine XS.icmpNo Xl.here hexec rfl (hb hbytes d7) rfl (ii_ge_f (lt32 (by omega) (by omega))) ?_
        refine XS.aloadN Xl.here hexec rfl (hb hbytes d10) rfl rfl ?_
        refine XS.iloadN Xl.here hexec rfl (hb hbytes d11) rfl ?_
        exact Steps.refl _)
      have c4 : Steps p.tables e below (s₁.setTop (entryFrame m #[.ref b, .int (Int32.ofNat o), .ref d, .int (Int32.ofNat q), .int (Int32.ofNat len)] 7)) (Tl.setTop (mkF m 13 #[.val (.ref b), .val (.int (Int32.ofNat (o + i))), .val (.ref d), .val (.int (Int32.ofNat (q + i))), .val (.int (Int32.ofNat len)), .val (.int (Int32.ofNat i)), z] [.int (cv A (o + i))])) := c3.trans (by
        refine Xl.aget hexec hAl rfl (hA.get (i := o + i) (by omega)) rfl rfl (hb hbytes d12) ?_
        exact Steps.refl _)
      have c5 : Steps p.tables e below (s₁.setTop (entryFrame m #[.ref b, .int (Int32.ofNat o), .ref d, .int (Int32.ofNat q), .int (Int32.ofNat len)] 7)) (Tl.setTop (mkF m 15 #[.val (.ref b), .val (.int (Int32.ofNat (o + i))), .val (.ref d), .val (.int (Int32.ofNat (q + i))), .val (.int (Int32.ofNat len)), .val (.int (Int32.ofNat i)), .val (.int (cv A (o + i)))] [])) := c4.trans (by
        refine XS.istoreS Xl.here hexec rfl (hb hbytes d13) rfl rfl hz ?_
        exact Steps.refl _)
      have c6 : Steps p.tables e below (s₁.setTop (entryFrame m #[.ref b, .int (Int32.ofNat o), .ref d, .int (Int32.ofNat q), .int (Int32.ofNat len)] 7)) (Tl.setTop (mkF m 31 #[.val (.ref b), .val (.int (Int32.ofNat (o + i))), .val (.ref d), .val (.int (Int32.ofNat (q + i))), .val (.int (Int32.ofNat len)), .val (.int (Int32.ofNat i)), .val (.int (cv A (o + i)))] [.int (lo8 (cv A (o + i))), .int (Int32.ofNat (q + i)), .ref d])) := c5.trans (by
        refine XS.iload Xl.here hexec rfl (hb hbytes d15) rfl ?_
        refine sipushV Xl.here hexec rfl 255 (hb hbytes d17) (by decide) ?_
        refine XS.icmpYes Xl.here hexec rfl (pc0 := 20) rfl (hb hbytes d20) rfl (ii_le_t (hp i (by omega))) (by decide) rfl ?_
        refine XS.aloadN Xl.here hexec rfl (hb hbytes d26) rfl rfl ?_
        refine XS.iloadN Xl.here hexec rfl (hb hbytes d27) rfl ?_
        refine XS.iload Xl.here hexec rfl (hb hbytes d28) rfl ?_
        refine i2b Xl.here hexec rfl (hb hbytes d30) rfl ?_
        exact Steps.refl _)
      obtain ⟨T7, X7, p7, st7⟩ := Xl.aput hexec hBk rfl hlt rfl (fits_lo8 (cv A (o + i))) (g := (mkF m 31 #[.val (.ref b), .val (.int (Int32.ofNat (o + i))), .val (.ref d), .val (.int (Int32.ofNat (q + i))), .val (.int (Int32.ofNat len)), .val (.int (Int32.ofNat i)), .val (.int (cv A (o + i)))] [.int (lo8 (cv A (o + i))), .int (Int32.ofNat (q + i)), .ref d])) rfl (rest := []) rfl (hb hbytes d31)
      have c8 : Steps p.tables e below (s₁.setTop (entryFrame m #[.ref b, .int (Int32.ofNat o), .ref d, .int (Int32.ofNat q), .int (Int32.ofNat len)] 7)) (T7.setTop (mkF m 32 #[.val (.ref b), .val (.int (Int32.ofNat (o + i))), .val (.ref d), .val (.int (Int32.ofNat (q + i))), .val (.int (Int32.ofNat len)), .val (.int (Int32.ofNat i)), .val (.int (cv A (o + i)))] [])) := c6.trans (st7 _ (Steps.refl _))
      have c9 : Steps p.tables e below (s₁.setTop (entryFrame m #[.ref b, .int (Int32.ofNat o), .ref d, .int (Int32.ofNat q), .int (Int32.ofNat len)] 7)) (T7.setTop (mkF m 3 #[.val (.ref b), .val (.int (Int32.ofNat (o + i) + 1)), .val (.ref d), .val (.int (Int32.ofNat (q + i) + 1)), .val (.int (Int32.ofNat len)), .val (.int (Int32.ofNat i + 1)), .val (.int (cv A (o + i)))] [])) := c8.trans (by
        refine iincV X7.here hexec rfl 1 (hb hbytes d32) (by decide) rfl rfl ?_
        refine iincV X7.here hexec rfl 1 (hb hbytes d35) (by decide) rfl rfl ?_
        refine iincV X7.here hexec rfl 1 (hb hbytes d38) (by decide) rfl rfl ?_
        refine XS.goto X7.here hexec rfl (pc0 := 41) rfl (hb hbytes d41) (by decide) rfl ?_
        exact Steps.refl _)
      have c10 : Steps p.tables e below (s₁.setTop (entryFrame m #[.ref b, .int (Int32.ofNat o), .ref d, .int (Int32.ofNat q), .int (Int32.ofNat len)] 7)) (T7.setTop (mkF m 3 #[.val (.ref b), .val (.int (Int32.ofNat (o + (i + 1)))), .val (.ref d), .val (.int (Int32.ofNat (q + (i + 1)))), .val (.int (Int32.ofNat len)), .val (.int (Int32.ofNat (i + 1))), .val (.int (cv A (o + i)))] [])) := by
        have := c9
        rw [succ32, succ32, succ32] at this
        exact this
      exact ih (i + 1) (by omega) _ (Or.inr ⟨_, rfl, rfl⟩) T7 _ (by rw [copyLocs_step, ← List.append_assoc]; exact X7) (pl.trans p7) (fl.step (by omega) hlt (by simp)) c10
  obtain ⟨T9, B9, z9, X9, p9, f9, g9⟩ := loop len 0 (by omega) .unset (Or.inl rfl) s₁ B (by simpa [copyLocs] using X0) ⟨hB0.1, fun _ _ => rfl, rfl⟩ (Laid.zero _ _ _) c2
  have c11 : Steps p.tables e below (s₁.setTop (entryFrame m #[.ref b, .int (Int32.ofNat o), .ref d, .int (Int32.ofNat q), .int (Int32.ofNat len)] 7)) (T9.setTop (mkF m 46 #[.val (.ref b), .val (.int (Int32.ofNat (o + len))), .val (.ref d), .val (.int (Int32.ofNat (q + len))), .val (.int (Int32.ofNat len)), .val (.int (Int32.ofNat len)), z9] [.int (Int32.ofNat len)])) := g9.trans (by
    refine XS.iload X9.here hexec rfl (hb hbytes d3) rfl ?_
    refine XS.iload X9.here hexec rfl (hb hbytes d5) rfl ?_
    refine XS.icmpYes X9.here hexec rfl (pc0 := 7) rfl (hb hbytes d7) rfl (ii_ge_t (nlt32 (by omega) (Nat.le_refl _))) (by decide) rfl ?_
    refine XS.iload X9.here hexec rfl (hb hbytes d44) rfl ?_
    exact Steps.refl _)
  exact ⟨T9, some (.int (Int32.ofNat len)), _, _, _, X9, by simp, rfl, rfl, (fun h => by cases h), ⟨rfl, B9, p9.from hh0, f9⟩, fun fs hl => c11.trans (X9.ireturnOut hexec hret rfl (Or.inl rfl) (hb hbytes d46) hl)⟩
end Cmp5
namespace Cmp3
def yN : MethodName := ⟨"java/lang/StringUTF16", "compress", "([CII)[B"⟩
abbrev yB : ByteArray := jdk_52_method_16_code
theorem d0 : decode yB 0 = .ok (.iload_n 2, 1) := by decide +kernel
theorem d1 : decode yB 1 = .ok (.newarray .byte, 2) := by decide +kernel
theorem d3 : decode yB 3 = .ok (.astore_n 3, 1) := by decide +kernel
theorem d4 : decode yB 4 = .ok (.aload_n 0, 1) := by decide +kernel
theorem d5 : decode yB 5 = .ok (.iload_n 1, 1) := by decide +kernel
theorem d6 : decode yB 6 = .ok (.aload_n 3, 1) := by decide +kernel
theorem d7 : decode yB 7 = .ok (.iconst 0, 1) := by decide +kernel
theorem d8 : decode yB 8 = .ok (.iload_n 2, 1) := by decide +kernel
theorem d9 : decode yB 9 = .ok (.invokestatic 115, 3) := by decide +kernel
theorem d12 : decode yB 12 = .ok (.istore 4, 2) := by decide +kernel
theorem d14 : decode yB 14 = .ok (.iload 4, 2) := by decide +kernel
theorem d16 : decode yB 16 = .ok (.iload_n 2, 1) := by decide +kernel
theorem d17 : decode yB 17 = .ok (.if_icmp (.eq) 40, 3) := by decide +kernel
theorem d57 : decode yB 57 = .ok (.aload_n 3, 1) := by decide +kernel
theorem d58 : decode yB 58 = .ok (.areturn, 1) := by decide +kernel
def site : List Cond := [.arrayClass .byte, Cmp5.tab] ++ staticW U16 115 Cmp5.yN
def tab : Cond := tabOf yN yB 6 (some (.array .byte)) site
def P (b : Addr) (A : Cell) (o len : Nat) (args : Array Value) (s : State) : Prop := args = #[.ref b, .int (Int32.ofNat o), .int (Int32.ofNat len)] ∧ Ch b A s ∧ o + len ≤ A.slots.size ∧ len ≤ 536870912 ∧ ∀ i, i < len → ¬ 255 < cv A (o + i)
def E (b : Addr) (A : Cell) (o len : Nat) (r : Option Value) (s u : State) : Prop := NewArr .byte "[B" len (fun j => .int (lo8 (cv A (o + j)))) r s u ∧ u.heap.size = s.heap.size + 1
/-- no char of the range above 255: a new byte[] of their low bytes -/
theorem law (l : Launch) (b : Addr) (A : Cell) (o len : Nat) : Law l yN 3 3 1 18 yB 6 (some (.array .byte)) site (P b A o len) (E b A o len) [] 1 len := by
  refine Law.of_walk (plainFor_of_name (by decide +kernel)) (by decide +kernel) (by decide +kernel) (by decide) (fun _ _ h => by rw [h.1]; rfl) (fun _ U U' hal hh h => ⟨h.1, h.2.1.mv hal hh, h.2.2⟩) (fun r U U' V V' h1 hal h2 h => ⟨NewArr.mv r U U' V V' h1 hal h2 h.1, by rw [h1, h2]; exact h.2⟩) ?_
  intro p e s m args below meth c s₁ X0 hexec hbytes hml hret hlk hnm hown hh0 W hP
  obtain ⟨rfl, hA, l1, l2, hp⟩ := hP
  have a31 := hA.1.2.2.2
  have c1 : Steps p.tables e below (s₁.setTop (entryFrame m #[.ref b, .int (Int32.ofNat o), .int (Int32.ofNat len)] 6)) (s₁.setTop (mkF m 0 #[.val (.ref b), .val (.int (Int32.ofNat o)), .val (.int (Int32.ofNat len)), .unset, .unset, .unset] [])) := entry rfl
  have c2 : Steps p.tables e below (s₁.setTop (entryFrame m #[.ref b, .int (Int32.ofNat o), .int (Int32.ofNat len)] 6)) (s₁.setTop (mkF m 1 #[.val (.ref b), .val (.int (Int32.ofNat o)), .val (.int (Int32.ofNat len)), .unset, .unset, .unset] [.int (Int32.ofNat len)])) := c1.trans (by
    refine XS.iloadN X0.here hexec rfl (hb hbytes d0) rfl ?_
    exact Steps.refl _)
  obtain ⟨T3, B3, X3, ba3, bs3, bv3, bh3, bf3, st3⟩ := X0.anew hexec (atype := .byte) (wk W (.arrayClass .byte)) rfl (by show len * 1 ≤ _; omega) (by omega) (g := (mkF m 1 #[.val (.ref b), .val (.int (Int32.ofNat o)), .val (.int (Int32.ofNat len)), .unset, .unset, .unset] [.int (Int32.ofNat len)])) rfl (hb hbytes d1) (rest := []) rfl (Nat.le_refl _) (by show 0 + len ≤ len; omega)
  rw [hh0] at ba3 st3
  have kp3 : XT.Kept s T3 := (XT.Kept.of_eq hh0).push bh3
  have hA3 := hA.keep X3.warmed.alike (kp3 _ _ hA.1.1)
  have hne : b ≠ s.heap.size := hA.1.ne
  have c4 : Steps p.tables e below (s₁.setTop (entryFrame m #[.ref b, .int (Int32.ofNat o), .int (Int32.ofNat len)] 6)) (T3.setTop (mkF m 3 #[.val (.ref b), .val (.int (Int32.ofNat o)), .val (.int (Int32.ofNat len)), .unset, .unset, .unset] [.ref s.heap.size])) := c2.trans (st3 _ (Steps.refl _))
  have c5 : Steps p.tables e below (s₁.setTop (entryFrame m #[.ref b, .int (Int32.ofNat o), .int (Int32.ofNat len)] 6)) (T3.setTop (mkF m 9 #[.val (.ref b), .val (.int (Int32.ofNat o)), .val (.int (Int32.ofNat len)), .val (.ref s.heap.size), .unset, .unset] [.int (Int32.ofNat len), .int 0, .ref s.heap.size, .int (Int32.ofNat o), .ref b])) := c4.trans (by
    refine XS.astoreN X3.here hexec rfl (hb hbytes d3) rfl rfl rfl ?_
    refine XS.aloadN X3.here hexec rfl (hb hbytes d4) rfl rfl ?_
    refine XS.iloadN X3.here hexec rfl (hb hbytes d5) rfl ?_
    refine XS.aloadN X3.here hexec rfl (hb hbytes d6) rfl rfl ?_
    refine iconstV X3.here hexec rfl 0 (hb hbytes d7) (by decide) ?_
    refine XS.iloadN X3.here hexec rfl (hb hbytes d8) rfl ?_
    exact Steps.refl _)
  obtain ⟨v6, T6, X6, E6, g6⟩ := X3.callS hexec (Cmp5.law l b A s.heap.size B3 o 0 len) hown (wks W (staticW U16 115 Cmp5.yN)) (wk W Cmp5.tab) (W := 0) (Nat.le_of_ble_eq_true rfl) (Nat.le_of_ble_eq_true rfl) (Nat.le_refl _) (by show 0 + len + 0 ≤ len; omega) (g := (mkF m 9 #[.val (.ref b), .val (.int (Int32.ofNat o)), .val (.int (Int32.ofNat len)), .val (.ref s.heap.size), .unset, .unset] [.int (Int32.ofNat len), .int (Int32.ofNat 0), .ref s.heap.size, .int (Int32.ofNat o), .ref b])) rfl (by rw [hml]; rfl) c5 (argsL := [.ref b, .int (Int32.ofNat o), .ref s.heap.size, .int (Int32.ofNat 0), .int (Int32.ofNat len)]) (rest := []) rfl rfl (by show 2 * 0 + 0 ≤ _; decide) (hb hbytes d9) (⟨rfl, hA3, ba3, hne, l1, by rw [bs3]; simp, hp⟩)
  obtain ⟨rfl, B6, p6, f6⟩ := E6
  have c7 : Steps p.tables e below (s₁.setTop (entryFrame m #[.ref b, .int (Int32.ofNat o), .int (Int32.ofNat len)] 6)) (T6.setTop (mkF m 12 #[.val (.ref b), .val (.int (Int32.ofNat o)), .val (.int (Int32.ofNat len)), .val (.ref s.heap.size), .unset, .unset] [.int (Int32.ofNat len)])) := g6
  have c8 : Steps p.tables e below (s₁.setTop (entryFrame m #[.ref b, .int (Int32.ofNat o), .int (Int32.ofNat len)] 6)) (T6.setTop (mkF m 58 #[.val (.ref b), .val (.int (Int32.ofNat o)), .val (.int (Int32.ofNat len)), .val (.ref s.heap.size), .val (.int (Int32.ofNat len)), .unset] [.ref s.heap.size])) := c7.trans (by
    refine XS.istore X6.here hexec rfl (hb hbytes d12) rfl rfl ?_
    refine XS.iload X6.here hexec rfl (hb hbytes d14) rfl ?_
    refine XS.iloadN X6.here hexec rfl (hb hbytes d16) rfl ?_
    refine XS.icmpYes X6.here hexec rfl (pc0 := 17) rfl (hb hbytes d17) rfl (ii_eq_t rfl) (by decide) rfl ?_
    refine XS.aloadN X6.here hexec rfl (hb hbytes d57) rfl rfl ?_
    exact Steps.refl _)
  have X8 := X6.wide (L' := []) (cells' := 1) (slots' := len) (fun x hx hlt => by
    simp only [List.nil_append, copyLocs, List.mem_map, List.mem_range] at hx
    obtain ⟨i, -, rfl⟩ := hx
    exact absurd hlt (Nat.lt_irrefl _)) (Nat.le_refl _) (by omega)
  exact ⟨T6, some (.ref s.heap.size), _, _, _, X8, rfl, rfl, rfl, (fun h => by cases h), ⟨⟨rfl, B6, ba3.like (X3.warmed.alike.symm.trans X6.warmed.alike) p6.1 f6.1 f6.2.1 f6.2.2.1, f6.2.1.trans bv3, by rw [X6.warmed.alike.findClass, f6.1]; exact bf3, by rw [f6.2.2.1, bs3]; simp, fun j hj => by rw [f6.2.2.2 j, if_pos (by omega)]; rfl, kp3.put p6 (Nat.le_refl _)⟩, by rw [p6.2.2, bh3, hh0]; simp⟩, fun fs hl => c8.trans (X8.areturnOut hexec rfl hret rfl (hb hbytes d58) hl)⟩
end Cmp3
namespace CodL
def yN : MethodName := ⟨"java/lang/StringUTF16", "coderFromArrayLen", "([BI)B"⟩
abbrev yB : ByteArray := jdk_52_method_15_code
theorem d0 : decode yB 0 = .ok (.iload_n 1, 1) := by decide +kernel
theorem d1 : decode yB 1 = .ok (.aload_n 0, 1) := by decide +kernel
theorem d2 : decode yB 2 = .ok (.arraylength, 1) := by decide +kernel
theorem d3 : decode yB 3 = .ok (.isub, 1) := by decide +kernel
theorem d4 : decode yB 4 = .ok (.bipush 31, 2) := by decide +kernel
theorem d6 : decode yB 6 = .ok (.iushr, 1) := by decide +kernel
theorem d7 : decode yB 7 = .ok (.i2b, 1) := by decide +kernel
theorem d8 : decode yB 8 = .ok (.ireturn, 1) := by decide +kernel
def site : List Cond := []
def tab : Cond := tabOf yN yB 2 (some .byte) site
def P (d : Addr) (B : Cell) (args : Array Value) (s : State) : Prop := args = #[.ref d, .int (Int32.ofNat B.slots.size)] ∧ Arr .byte d B s
def E (r : Option Value) (s u : State) : Prop := XT.PureE (some (.int 0)) r s u
/-- an array as long as the number of chars: LATIN1 -/
theorem law (l : Launch) (d : Addr) (B : Cell) : Law l yN 2 2 0 0 yB 2 (some .byte) site (P d B) E [] 0 0 := by
  refine Law.of_walk (plainFor_of_name (by decide +kernel)) (by decide +kernel) (by decide +kernel) (by decide) (fun _ _ h => by rw [h.1]; rfl) (fun _ U U' hal hh h => ⟨h.1, h.2.mv hal hh⟩) (fun r U U' V V' h1 hal h2 h => XT.PureE.mv r U U' V V' h1 hal h2 h) ?_
  intro p e s m args below meth c s₁ X0 hexec hbytes hml hret hlk hnm hown hh0 W hP
  obtain ⟨rfl, hB⟩ := hP
  have hB0 := hB.mv X0.warmed.alike hh0
  have c1 : Steps p.tables e below (s₁.setTop (entryFrame m #[.ref d, .int (Int32.ofNat B.slots.size)] 2)) (s₁.setTop (mkF m 0 #[.val (.ref d), .val (.int (Int32.ofNat B.slots.size))] [])) := entry rfl
  have c2 : Steps p.tables e below (s₁.setTop (entryFrame m #[.ref d, .int (Int32.ofNat B.slots.size)] 2)) (s₁.setTop (mkF m 2 #[.val (.ref d), .val (.int (Int32.ofNat B.slots.size))] [.ref d, .int (Int32.ofNat B.slots.size)])) := c1.trans (by
    refine XS.iloadN X0.here hexec rfl (hb hbytes d0) rfl ?_
    refine XS.aloadN X0.here hexec rfl (hb hbytes d1) rfl rfl ?_
    exact Steps.refl _)
  have c3 : Steps p.tables e below (s₁.setTop (entryFrame m #[.ref d, .int (Int32.ofNat B.slots.size)] 2)) (s₁.setTop (mkF m 8 #[.val (.ref d), .val (.int (Int32.ofNat B.slots.size))] [.int (lo8 (ushr (Int32.ofNat B.slots.size - Int32.ofNat B.slots.size) 31))])) := c2.trans (by
    refine X0.alen hexec hB0 rfl rfl (hb hbytes d2) ?_
    refine XS.isub X0.here hexec rfl (hb hbytes d3) rfl ?_
    refine bipushV X0.here hexec rfl 31 (hb hbytes d4) (by decide) ?_
    refine iushr X0.here hexec rfl (hb hbytes d6) rfl ?_
    refine i2b X0.here hexec rfl (hb hbytes d7) rfl ?_
    exact Steps.refl _)
  have e0 : lo8 (ushr (Int32.ofNat B.slots.size - Int32.ofNat B.slots.size) 31) = 0 := by rw [Int32.sub_self]; decide
  rw [e0] at c3
  exact ⟨s₁, some (.int 0), _, _, _, X0, rfl, rfl, rfl, (fun h => by cases h), ⟨rfl, hh0⟩, fun fs hl => c3.trans (X0.ireturnOut hexec hret rfl (Or.inr (Or.inr (Or.inl rfl))) (hb hbytes d8) hl)⟩
end CodL
/-- the String at a is Latin-1 over a new byte[] (the heap's one new cell): the low bytes of the len chars of A from o on; every cell but a is kept -/
def Got (a : Addr) (D : Cell) (fV fC : Field) (A : Cell) (o len : Nat) (r : Option Value) (s u : State) : Prop := r = none ∧ ∃ D' V : Cell, Blank "java/lang/String" a D' u ∧ Same D D' [fV.slot, fC.slot] ∧ D'.slots[fV.slot]? = some (.ref s.heap.size) ∧ D'.slots[fC.slot]? = some (.int 0) ∧ Arr .byte s.heap.size V u ∧ V.vm = .none ∧ u.vm.findClass "[B" = some V.cls ∧ V.slots.size = len ∧ (∀ j, j < len → V.slots[j]? = some (.int (lo8 (cv A (o + j))))) ∧ (∀ (y : Addr) (c : Cell), y ≠ a → s.heap[y]? = some c → u.heap[y]? = some c) ∧ u.heap.size = s.heap.size + 1
theorem Got.mv {a : Addr} {D A : Cell} {fV fC : Field} {o len : Nat} : ∀ r (U U' V V' : State), U'.heap = U.heap → V.vm.Alike V'.vm → V'.heap = V.heap → Got a D fV fC A o len r U V → Got a D fV fC A o len r U' V' :=
  fun r U U' V V' h1 hal h2 ⟨e0, D', X, a1, a2, a3, a4, a5, a6, a7, a8, a9, a10, a11⟩ => ⟨e0, D', X, a1.mv hal h2, a2, by rw [h1]; exact a3, a4, by rw [h1]; exact a5.mv hal h2, a6, by rw [hal.findClass]; exact a7, a8, a9, by rw [h1, h2]; exact a10, by rw [h1, h2]; exact a11⟩
namespace New4
def yN : MethodName := ⟨"java/lang/String", "<init>", "([CIILjava/lang/Void;)V"⟩
abbrev yB : ByteArray := jdk_42_method_149_code
theorem d0 : decode yB 0 = .ok (.aload_n 0, 1) := by decide +kernel
theorem d1 : decode yB 1 = .ok (.invokespecial 1, 3) := by decide +kernel
theorem d4 : decode yB 4 = .ok (.iload_n 3, 1) := by decide +kernel
theorem d5 : decode yB 5 = .ok (.ifCond (.ne) 22, 3) := by decide +kernel
theorem d27 : decode yB 27 = .ok (.getstatic 38, 3) := by decide +kernel
theorem d30 : decode yB 30 = .ok (.ifCond (.eq) 28, 3) := by decide +kernel
theorem d33 : decode yB 33 = .ok (.aload_n 1, 1) := by decide +kernel
theorem d34 : decode yB 34 = .ok (.iload_n 2, 1) := by decide +kernel
theorem d35 : decode yB 35 = .ok (.iload_n 3, 1) := by decide +kernel
theorem d36 : decode yB 36 = .ok (.invokestatic 177, 3) := by decide +kernel
theorem d39 : decode yB 39 = .ok (.astore 5, 2) := by decide +kernel
theorem d41 : decode yB 41 = .ok (.aload_n 0, 1) := by decide +kernel
theorem d42 : decode yB 42 = .ok (.aload 5, 2) := by decide +kernel
theorem d44 : decode yB 44 = .ok (.iload_n 3, 1) := by decide +kernel
theorem d45 : decode yB 45 = .ok (.invokestatic 47, 3) := by decide +kernel
theorem d48 : decode yB 48 = .ok (.putfield 15, 3) := by decide +kernel
theorem d51 : decode yB 51 = .ok (.aload_n 0, 1) := by decide +kernel
theorem d52 : decode yB 52 = .ok (.aload 5, 2) := by decide +kernel
theorem d54 : decode yB 54 = .ok (.putfield 9, 3) := by decide +kernel
theorem d57 : decode yB 57 = .ok (.return_, 1) := by decide +kernel
def site : List Cond := [.fieldLink "java/lang/String" 38 "java/lang/String" "COMPACT_STRINGS" "Z", Cmp3.tab, CodL.tab, .laysFinal "java/lang/String" "java/lang/String" "value" "[B", .fieldLink "java/lang/String" 9 "java/lang/String" "value" "[B", .laysFinal "java/lang/String" "java/lang/String" "coder" "B", .fieldLink "java/lang/String" 15 "java/lang/String" "coder" "B"] ++ objW "java/lang/String" 1 ++ staticW "java/lang/String" 177 Cmp3.yN ++ staticW "java/lang/String" 47 CodL.yN
def tab : Cond := tabOf yN yB 6 none site
def P (a : Addr) (D : Cell) (fV fC : Field) (b : Addr) (A : Cell) (z : Int32) (o len : Nat) (args : Array Value) (s : State) : Prop := args = #[.ref a, .ref b, .int (Int32.ofNat o), .int (Int32.ofNat len), .null] ∧ Blank "java/lang/String" a D s ∧ Found "java/lang/String" "value" "[B" fV s ∧ Found "java/lang/String" "coder" "B" fC s ∧ Ch b A s ∧ StaticIs s "java/lang/String" "COMPACT_STRINGS" "Z" (.int z) ∧ ¬ z = 0 ∧ 0 < len ∧ o + len ≤ A.slots.size ∧ len ≤ 536870912 ∧ ∀ i, i < len → ¬ 255 < cv A (o + i)
def E (a : Addr) (D : Cell) (fV fC : Field) (A : Cell) (o len : Nat) (r : Option Value) (s u : State) : Prop := Got a D fV fC A o len r s u
/-- len > 0, no char of the range above 255: a Latin-1 String of their low bytes -/
theorem law (l : Launch) (a : Addr) (D : Cell) (fV fC : Field) (b : Addr) (A : Cell) (z : Int32) (o len : Nat) : Law l yN 5 4 2 35 yB 6 none site (P a D fV fC b A z o len) (E a D fV fC A o len) [⟨a, fC.slot⟩, ⟨a, fV.slot⟩] 1 len := by
  refine Law.of_walk (plainFor_of_name (by decide +kernel)) (by decide +kernel) (by decide +kernel) (by decide) (fun _ _ h => by rw [h.1]; rfl) (fun _ U U' hal hh h => ⟨h.1, h.2.1.mv hal hh, h.2.2.1.al hal, h.2.2.2.1.al hal, h.2.2.2.2.1.mv hal hh, h.2.2.2.2.2.1.there hal hh, h.2.2.2.2.2.2⟩) (fun r U U' V V' h1 hal h2 h => Got.mv r U U' V V' h1 hal h2 h) ?_
  intro p e s m args below meth c s₁ X0 hexec hbytes hml hret hlk hnm hown hh0 W hP
  obtain ⟨rfl, hB, f1, f2, hA, s1, hz, l0, l1, l2, hp⟩ := hP
  have a31 := hA.1.2.2.2
  have c1 : Steps p.tables e below (s₁.setTop (entryFrame m #[.ref a, .ref b, .int (Int32.ofNat o), .int (Int32.ofNat len), .null] 6)) (s₁.setTop (mkF m 0 #[.val (.ref a), .val (.ref b), .val (.int (Int32.ofNat o)), .val (.int (Int32.ofNat len)), .val .null, .unset] [])) := entry rfl
  have c2 : Steps p.tables e below (s₁.setTop (entryFrame m #[.ref a, .ref b, .int (Int32.ofNat o), .int (Int32.ofNat len), .null] 6)) (s₁.setTop (mkF m 1 #[.val (.ref a), .val (.ref b), .val (.int (Int32.ofNat o)), .val (.int (Int32.ofNat len)), .val .null, .unset] [.ref a])) := c1.trans (by
    refine XS.aloadN X0.here hexec rfl (hb hbytes d0) rfl rfl ?_
    exact Steps.refl _)
  obtain ⟨T3, X3, q3, st3⟩ := X0.oinit hexec hown (wks W (objW "java/lang/String" 1)) (g := (mkF m 1 #[.val (.ref a), .val (.ref b), .val (.int (Int32.ofNat o)), .val (.int (Int32.ofNat len)), .val .null, .unset] [.ref a])) rfl (by rw [hml]; rfl) (rest := []) rfl (hb hbytes d1) (W := 0) (by show 2 * 0 + 0 ≤ _; decide) (Nat.le_of_ble_eq_true rfl) (Nat.le_of_ble_eq_true rfl)
  have hh3 := q3.trans hh0
  have c4 : Steps p.tables e below (s₁.setTop (entryFrame m #[.ref a, .ref b, .int (Int32.ofNat o), .int (Int32.ofNat len), .null] 6)) (T3.setTop (mkF m 27 #[.val (.ref a), .val (.ref b), .val (.int (Int32.ofNat o)), .val (.int (Int32.ofNat len)), .val .null, .unset] [])) := (c2.trans (st3 _ (Steps.refl _))).trans (by
    refine XS.iloadN X3.here hexec rfl (hb hbytes d4) rfl ?_
    refine XS.ifYes X3.here hexec rfl (pc0 := 5) rfl (hb hbytes d5) rfl (i0_ne_t (nz32 (by omega) l0)) (by decide) rfl ?_
    exact Steps.refl _)
  obtain ⟨T5, X5, q5, st5⟩ := X3.sget hexec hown (wk W (.fieldLink "java/lang/String" 38 "java/lang/String" "COMPACT_STRINGS" "Z")) s1 (fun _ _ h => by rw [hh3]; exact h) (g := (mkF m 27 #[.val (.ref a), .val (.ref b), .val (.int (Int32.ofNat o)), .val (.int (Int32.ofNat len)), .val .null, .unset] [])) rfl (hb hbytes d27)
  have hh5 := q5.trans hh3
  have c6 : Steps p.tables e below (s₁.setTop (entryFrame m #[.ref a, .ref b, .int (Int32.ofNat o), .int (Int32.ofNat len), .null] 6)) (T5.setTop (mkF m 30 #[.val (.ref a), .val (.ref b), .val (.int (Int32.ofNat o)), .val (.int (Int32.ofNat len)), .val .null, .unset] [.int z])) := c4.trans (st5 _ (Steps.refl _))
  have c7 : Steps p.tables e below (s₁.setTop (entryFrame m #[.ref a, .ref b, .int (Int32.ofNat o), .int (Int32.ofNat len), .null] 6)) (T5.setTop (mkF m 36 #[.val (.ref a), .val (.ref b), .val (.int (Int32.ofNat o)), .val (.int (Int32.ofNat len)), .val .null, .unset] [.int (Int32.ofNat len), .int (Int32.ofNat o), .ref b])) := c6.trans (by
    refine XS.ifNo X5.here hexec rfl (hb hbytes d30) rfl (i0_eq_f hz) ?_
    refine XS.aloadN X5.here hexec rfl (hb hbytes d33) rfl rfl ?_
    refine XS.iloadN X5.here hexec rfl (hb hbytes d34) rfl ?_
    refine XS.iloadN X5.here hexec rfl (hb hbytes d35) rfl ?_
    exact Steps.refl _)
  obtain ⟨v8, T8, X8, E8, g8⟩ := X5.callS hexec (Cmp3.law l b A o len) hown (wks W (staticW "java/lang/String" 177 Cmp3.yN)) (wk W Cmp3.tab) (W := 0) (Nat.le_of_ble_eq_true rfl) (Nat.le_of_ble_eq_true rfl) (Nat.le_refl _) (by show 0 + len ≤ len; omega) (g := (mkF m 36 #[.val (.ref a), .val (.ref b), .val (.int (Int32.ofNat o)), .val (.int (Int32.ofNat len)), .val .null, .unset] [.int (Int32.ofNat len), .int (Int32.ofNat o), .ref b])) rfl (by rw [hml]; rfl) c7 (argsL := [.ref b, .int (Int32.ofNat o), .int (Int32.ofNat len)]) (rest := []) rfl rfl (by show 2 * 0 + 0 ≤ _; decide) (hb hbytes d36) (⟨rfl, hA.mv X5.warmed.alike hh5, l1, l2, hp⟩)
  obtain ⟨e8, z8⟩ := E8
  obtain ⟨rfl, N, n1, n2, n3, n4, n5, n6⟩ := NewArr.mv _ T5 s _ _ hh5.symm (Vm.Alike.refl _) rfl e8
  rw [hh5] at z8
  have hB1 := hB.keep X8.warmed.alike (n6 _ _ hB.1)
  have hne : s.heap.size ≠ a := (Nat.ne_of_lt (Array.getElem?_eq_some_iff.mp hB.1).1).symm
  have c9 : Steps p.tables e below (s₁.setTop (entryFrame m #[.ref a, .ref b, .int (Int32.ofNat o), .int (Int32.ofNat len), .null] 6)) (T8.setTop (mkF m 39 #[.val (.ref a), .val (.ref b), .val (.int (Int32.ofNat o)), .val (.int (Int32.ofNat len)), .val .null, .unset] [.ref s.heap.size])) := g8
  have c10 : Steps p.tables e below (s₁.setTop (entryFrame m #[.ref a, .ref b, .int (Int32.ofNat o), .int (Int32.ofNat len), .null] 6)) (T8.setTop (mkF m 45 #[.val (.ref a), .val (.ref b), .val (.int (Int32.ofNat o)), .val (.int (Int32.ofNat len)), .val .null, .val (.ref s.heap.size)] [.int (Int32.ofNat N.slots.size), .ref s.heap.size, .ref a])) := by
    have hc : Steps p.tables e below (s₁.setTop (entryFrame m #[.ref a, .ref b, .int (Int32.ofNat o), .int (Int32.ofNat len), .null] 6)) (T8.setTop (mkF m 45 #[.val (.ref a), .val (.ref b), .val (.int (Int32.ofNat o)), .val (.int (Int32.ofNat len)), .val .null, .val (.ref s.heap.size)] [.int (Int32.ofNat len), .ref s.heap.size, .ref a])) := c9.trans (by
      refine XS.astore X8.here hexec rfl (hb hbytes d39) rfl rfl rfl ?_
      refine XS.aloadN X8.here hexec rfl (hb hbytes d41) rfl rfl ?_
      refine XS.aload X8.here hexec rfl (hb hbytes d42) rfl rfl ?_
      refine XS.iloadN X8.here hexec rfl (hb hbytes d44) rfl ?_
      exact Steps.refl _)
    rw [n4]; exact hc
  obtain ⟨v11, T11, X11, E11, g11⟩ := X8.callS hexec (CodL.law l s.heap.size N) hown (wks W (staticW "java/lang/String" 47 CodL.yN)) (wk W CodL.tab) (W := 1) (Nat.le_of_ble_eq_true rfl) (Nat.le_of_ble_eq_true rfl) (Nat.le_refl _) (by show 0 + len + 0 ≤ len; omega) (g := (mkF m 45 #[.val (.ref a), .val (.ref b), .val (.int (Int32.ofNat o)), .val (.int (Int32.ofNat len)), .val .null, .val (.ref s.heap.size)] [.int (Int32.ofNat N.slots.size), .ref s.heap.size, .ref a])) rfl (by rw [hml]; rfl) c10 (argsL := [.ref s.heap.size, .int (Int32.ofNat N.slots.size)]) (rest := [.ref a]) rfl rfl (by show 2 * 0 + (1 + 0) ≤ _; decide) (hb hbytes d45) (⟨rfl, n1⟩)
  obtain ⟨rfl, q11⟩ := E11
  have hB11 := hB1.mv (X8.warmed.alike.symm.trans X11.warmed.alike) q11
  have c12 : Steps p.tables e below (s₁.setTop (entryFrame m #[.ref a, .ref b, .int (Int32.ofNat o), .int (Int32.ofNat len), .null] 6)) (T11.setTop (mkF m 48 #[.val (.ref a), .val (.ref b), .val (.int (Int32.ofNat o)), .val (.int (Int32.ofNat len)), .val .null, .val (.ref s.heap.size)] [.int 0, .ref a])) := g11
  obtain ⟨T13, X13, p13, bl13, sl13, st13⟩ := X11.finit hexec hown (wk W (.fieldLink "java/lang/String" 15 "java/lang/String" "coder" "B")) (Or.inr ⟨_, (wk W (.laysFinal "java/lang/String" "java/lang/String" "coder" "B"))⟩) (Or.inl ⟨rfl, hnm⟩) f2 (Or.inl rfl) hB11 (t := .byte) (by decide +kernel) rfl (g := (mkF m 48 #[.val (.ref a), .val (.ref b), .val (.int (Int32.ofNat o)), .val (.int (Int32.ofNat len)), .val .null, .val (.ref s.heap.size)] [.int 0, .ref a])) rfl (rest := []) rfl (hb hbytes d48)
  have c14 : Steps p.tables e below (s₁.setTop (entryFrame m #[.ref a, .ref b, .int (Int32.ofNat o), .int (Int32.ofNat len), .null] 6)) (T13.setTop (mkF m 54 #[.val (.ref a), .val (.ref b), .val (.int (Int32.ofNat o)), .val (.int (Int32.ofNat len)), .val .null, .val (.ref s.heap.size)] [.ref s.heap.size, .ref a])) := (c12.trans (st13 _ (Steps.refl _))).trans (by
    refine XS.aloadN X13.here hexec rfl (hb hbytes d51) rfl rfl ?_
    refine XS.aload X13.here hexec rfl (hb hbytes d52) rfl rfl ?_
    exact Steps.refl _)
  obtain ⟨T15, X15, p15, bl15, sl15, st15⟩ := X13.finit hexec hown (wk W (.fieldLink "java/lang/String" 9 "java/lang/String" "value" "[B")) (Or.inr ⟨_, (wk W (.laysFinal "java/lang/String" "java/lang/String" "value" "[B"))⟩) (Or.inl ⟨rfl, hnm⟩) f1 (Or.inl rfl) bl13 (t := (.array .byte)) (by decide +kernel) rfl (g := (mkF m 54 #[.val (.ref a), .val (.ref b), .val (.int (Int32.ofNat o)), .val (.int (Int32.ofNat len)), .val .null, .val (.ref s.heap.size)] [.ref s.heap.size, .ref a])) rfl (rest := []) rfl (hb hbytes d54)
  have c16 : Steps p.tables e below (s₁.setTop (entryFrame m #[.ref a, .ref b, .int (Int32.ofNat o), .int (Int32.ofNat len), .null] 6)) (T15.setTop (mkF m 57 #[.val (.ref a), .val (.ref b), .val (.int (Int32.ofNat o)), .val (.int (Int32.ofNat len)), .val .null, .val (.ref s.heap.size)] [])) := c14.trans (st15 _ (Steps.refl _))
  have ap := apart (Or.inr ⟨_, (wk W (.laysFinal "java/lang/String" "java/lang/String" "value" "[B"))⟩) (Or.inr ⟨_, (wk W (.laysFinal "java/lang/String" "java/lang/String" "coder" "B"))⟩) f1 f2 (t₁ := .array .byte) (t₂ := .byte) (by decide +kernel) (by decide +kernel) (by decide)
  have al := X8.warmed.alike.symm.trans X15.warmed.alike
  have n7 : T11.heap[s.heap.size]? = some N := by rw [q11]; exact n1.1
  exact ⟨T15, none, _, _, _, X15, by simp, rfl, by omega, (fun _ => rfl), ⟨rfl, _, N, bl15, ((Same.refl D _).set _ (by simp)).set _ (by simp), sl15, (Cell.slots_setSlot_ne _ ap).trans sl13, n1.keep al (p15.other hne (p13.other hne n7)), n2, by rw [al.findClass]; exact n3, n4, n5, fun y c h1 h2 => p15.other h1 (p13.other h1 (by rw [q11]; exact n6 y c h2)), by rw [p15.2.2, p13.2.2, q11]; exact z8⟩, fun fs hl => c16.trans (X15.returnOut hexec hret (hb hbytes d57) hl)⟩
end New4
namespace New1
def yN : MethodName := ⟨"java/lang/String", "<init>", "([C)V"⟩
abbrev yB : ByteArray := jdk_42_method_3_code
theorem d0 : decode yB 0 = .ok (.aload_n 0, 1) := by decide +kernel
theorem d1 : decode yB 1 = .ok (.aload_n 1, 1) := by decide +kernel
theorem d2 : decode yB 2 = .ok (.iconst 0, 1) := by decide +kernel
theorem d3 : decode yB 3 = .ok (.aload_n 1, 1) := by decide +kernel
theorem d4 : decode yB 4 = .ok (.arraylength, 1) := by decide +kernel
theorem d5 : decode yB 5 = .ok (.aconst_null, 1) := by decide +kernel
theorem d6 : decode yB 6 = .ok (.invokespecial 27, 3) := by decide +kernel
theorem d9 : decode yB 9 = .ok (.return_, 1) := by decide +kernel
def site : List Cond := [New4.tab] ++ initW "java/lang/String" 27 New4.yN
def tab : Cond := tabOf yN yB 2 none site
def P (a : Addr) (D : Cell) (fV fC : Field) (b : Addr) (A : Cell) (z : Int32) (args : Array Value) (s : State) : Prop := args = #[.ref a, .ref b] ∧ Blank "java/lang/String" a D s ∧ Found "java/lang/String" "value" "[B" fV s ∧ Found "java/lang/String" "coder" "B" fC s ∧ Ch b A s ∧ StaticIs s "java/lang/String" "COMPACT_STRINGS" "Z" (.int z) ∧ ¬ z = 0 ∧ 0 < A.slots.size ∧ A.slots.size ≤ 536870912 ∧ ∀ i, i < A.slots.size → ¬ 255 < cv A i
def E (a : Addr) (D : Cell) (fV fC : Field) (A : Cell) (r : Option Value) (s u : State) : Prop := Got a D fV fC A 0 A.slots.size r s u
/-- new String(chars), not empty, no char above 255: a Latin-1 String of their low bytes -/
theorem law (l : Launch) (a : Addr) (D : Cell) (fV fC : Field) (b : Addr) (A : Cell) (z : Int32) : Law l yN 2 1 3 52 yB 2 none site (P a D fV fC b A z) (E a D fV fC A) [⟨a, fC.slot⟩, ⟨a, fV.slot⟩] 1 A.slots.size := by
  refine Law.of_walk (plainFor_of_name (by decide +kernel)) (by decide +kernel) (by decide +kernel) (by decide) (fun _ _ h => by rw [h.1]; rfl) (fun _ U U' hal hh h => ⟨h.1, h.2.1.mv hal hh, h.2.2.1.al hal, h.2.2.2.1.al hal, h.2.2.2.2.1.mv hal hh, h.2.2.2.2.2.1.there hal hh, h.2.2.2.2.2.2⟩) (fun r U U' V V' h1 hal h2 h => Got.mv r U U' V V' h1 hal h2 h) ?_
  intro p e s m args below meth c s₁ X0 hexec hbytes hml hret hlk hnm hown hh0 W hP
  obtain ⟨rfl, hB, f1, f2, hA, s1, hz, l0, l2, hp⟩ := hP
  have c1 : Steps p.tables e below (s₁.setTop (entryFrame m #[.ref a, .ref b] 2)) (s₁.setTop (mkF m 0 #[.val (.ref a), .val (.ref b)] [])) := entry rfl
  have c2 : Steps p.tables e below (s₁.setTop (entryFrame m #[.ref a, .ref b] 2)) (s₁.setTop (mkF m 6 #[.val (.ref a), .val (.ref b)] [.null, .int (Int32.ofNat A.slots.size), .int 0, .ref b, .ref a])) := c1.trans (by
    refine XS.aloadN X0.here hexec rfl (hb hbytes d0) rfl rfl ?_
    refine XS.aloadN X0.here hexec rfl (hb hbytes d1) rfl rfl ?_
    refine iconstV X0.here hexec rfl 0 (hb hbytes d2) (by decide) ?_
    refine XS.aloadN X0.here hexec rfl (hb hbytes d3) rfl rfl ?_
    refine X0.alen hexec (hA.1.mv X0.warmed.alike hh0) rfl rfl (hb hbytes d4) ?_
    refine XS.aconstNull X0.here hexec rfl (hb hbytes d5) ?_
    exact Steps.refl _)
  obtain ⟨v3, T3, X3, E3, g3⟩ := X0.callN hexec (New4.law l a D fV fC b A z 0 A.slots.size) rfl hown (wks W (initW "java/lang/String" 27 New4.yN)) (W New4.tab (by simp only [site, List.mem_cons, List.mem_append, true_or, or_true])) (W := 0) (Nat.le_of_ble_eq_true rfl) (Nat.le_of_ble_eq_true rfl) (Nat.le_refl _) (by show 0 + A.slots.size ≤ A.slots.size; omega) (g := (mkF m 6 #[.val (.ref a), .val (.ref b)] [.null, .int (Int32.ofNat A.slots.size), .int (Int32.ofNat 0), .ref b, .ref a])) rfl (by rw [hml]; rfl) c2 (argsL := [.ref b, .int (Int32.ofNat 0), .int (Int32.ofNat A.slots.size), .null]) (rest := []) rfl rfl (by show 2 * 0 + 0 ≤ _; decide) (hb hbytes d6) (⟨rfl, hB.mv X0.warmed.alike hh0, f1.al X0.warmed.alike, f2.al X0.warmed.alike, hA.mv X0.warmed.alike hh0, s1.there X0.warmed.alike hh0, hz, l0, by omega, l2, fun i hi => by rw [Nat.zero_add]; exact hp i hi⟩)
  have e0 := Got.mv _ s₁ s _ _ hh0.symm (Vm.Alike.refl _) rfl E3
  obtain rfl := e0.1
  have c4 : Steps p.tables e below (s₁.setTop (entryFrame m #[.ref a, .ref b] 2)) (T3.setTop (mkF m 9 #[.val (.ref a), .val (.ref b)] [])) := g3
  exact ⟨T3, none, _, _, _, X3, by simp, rfl, by omega, (fun _ => rfl), e0, fun fs hl => c4.trans (X3.returnOut hexec hret (hb hbytes d9) hl)⟩
theorem pays {l : Launch} {R : Room} {p : Program} {e : Env} {below : List Frame} {s : State} {sargs : Array Value} {len W : Nat} (a : Addr) (D : Cell) (fV fC : Field) (b : Addr) (A : Cell) (z : Int32) (htab : tab.before sargs s = true) (hfr : 4 ≤ R.frames) (hlo : W + 65 ≤ R.locals) :
    Back l R p e below s sargs yN len W (fun A₁ a₁ => A₁.cells + 1 ≤ R.cells ∧ A₁.slots + A.slots.size ≤ R.slots ∧ P a D fV fC b A z a₁ A₁.U) (fun A₁ _ v₁ B₁ => E a D fV fC A v₁ A₁.U B₁.U ∧ B₁.locs = A₁.locs ++ [⟨a, fC.slot⟩, ⟨a, fV.slot⟩] ∧ B₁.cells = A₁.cells + 1 ∧ B₁.slots = A₁.slots + A.slots.size) :=
  (law l a D fV fC b A z).pays htab hfr (by omega)
end New1
/-- the byte, read back as charAt reads it, is the char -/
theorem lo8_mask {x : Int32} (h0 : ¬ x < 0) (h1 : ¬ 255 < x) : lo8 x &&& 255 = x := by
  have t : ∀ k : Fin 256, lo8 (Int32.ofNat k.val) &&& 255 = Int32.ofNat k.val := by decide +kernel
  rw [Int32.lt_iff_toInt_lt] at h0 h1
  have e0 : (0 : Int32).toInt = 0 := rfl
  have e1 : (255 : Int32).toInt = 255 := rfl
  obtain ⟨k, hk⟩ : ∃ k : Nat, x.toInt = k := ⟨x.toInt.toNat, by omega⟩
  have hx : x = Int32.ofNat k := Int32.toInt_inj.mp (by rw [hk, Int32.toInt_ofNat_small (by omega)])
  rw [hx]
  exact t ⟨k, by omega⟩
end StrChars
namespace StrChars.Road
open Jvm Sem ClassFile Op Lib Jvm.Stand Jvm.Free Jvm.Free.XT
open Jvm.Lib.Cold (StaticIs)
abbrev ST : String := "java/lang/String"
/-- every table word that New1's law asks, flat -/
abbrev words : List Jvm.Cond := [.code New1.yN New1.yB 2 none, .initialized ST, .methodLink ST 27 New4.yN, .instanceMethod New4.yN,
  .code New4.yN New4.yB 6 none, .fieldLink ST 38 ST "COMPACT_STRINGS" "Z", .laysFinal ST ST "value" "[B", .fieldLink ST 9 ST "value" "[B", .laysFinal ST ST "coder" "B", .fieldLink ST 15 ST "coder" "B",
  .methodLink ST 1 Lib.objectInit, .instanceMethod Lib.objectInit, .code Lib.objectInit ⟨#[0xb1]⟩ 1 none, .methodLink ST 177 Cmp3.yN, .static Cmp3.yN, .methodLink ST 47 CodL.yN, .static CodL.yN,
  .code Cmp3.yN Cmp3.yB 6 (some (.array .byte)), .initialized U16, .arrayClass .byte, .methodLink U16 115 Cmp5.yN, .static Cmp5.yN, .code Cmp5.yN Cmp5.yB 7 (some .int), .code CodL.yN CodL.yB 2 (some .byte)]
theorem tab_of {a : Array Value} {s : State} (h : ∀ w ∈ words, w.before a s = true) : New1.tab.before a s = true := by
  have h5 : Cmp5.tab.before a s = true := unparts (wk h (.code Cmp5.yN Cmp5.yB 7 (some .int))) (wks h (.initialized Cmp5.yN.cls :: Cmp5.site))
  have hc : CodL.tab.before a s = true := unparts (wk h (.code CodL.yN CodL.yB 2 (some .byte))) (wks h (.initialized CodL.yN.cls :: CodL.site))
  have q5 : ∀ w ∈ Cmp5.tab :: words, w.before a s = true := fun w hw => (List.mem_cons.mp hw).elim (fun e => e ▸ h5) (h w)
  have h3 : Cmp3.tab.before a s = true := unparts (wk q5 (.code Cmp3.yN Cmp3.yB 6 (some (.array .byte)))) (wks q5 (.initialized Cmp3.yN.cls :: Cmp3.site))
  have q3 : ∀ w ∈ Cmp3.tab :: CodL.tab :: words, w.before a s = true := fun w hw => (List.mem_cons.mp hw).elim (fun e => e ▸ h3) fun hw => (List.mem_cons.mp hw).elim (fun e => e ▸ hc) (h w)
  have h4 : New4.tab.before a s = true := unparts (wk q3 (.code New4.yN New4.yB 6 none)) (wks q3 (.initialized New4.yN.cls :: New4.site))
  have q4 : ∀ w ∈ New4.tab :: words, w.before a s = true := fun w hw => (List.mem_cons.mp hw).elim (fun e => e ▸ h4) (h w)
  exact unparts (wk q4 (.code New1.yN New1.yB 2 none)) (wks q4 (.initialized New1.yN.cls :: New1.site))
/-- the words ride from the start Z to the walk's own state -/
theorem moved {Z s : State} {a0 args : Array Value} (hZ : Z.Warmed39 s.vm) (hw : ∀ d ∈ words, d.before a0 Z = true) : ∀ d ∈ words, d.before args s = true := fun d hd => by
  have q := hw d hd
  have t : ∀ d ∈ words, d = .arrayClass .byte ∨ (d.onTables && d.keepsFace) = true := by decide +kernel
  rcases t d hd with rfl | t
  · exact RoadKit.mvA hZ q
  · exact RoadKit.mv hZ q t
/-- WHAT COMES BACK, over the tables of the start Z: h the heap at the call, h' behind it -/
def Q (Z : State) (x : Addr) (A : Cell) (h : Heap) (v : Option Value) (h' : Heap) (L : List Loc) : Prop := v = none ∧ (∀ y ∈ L, y.base = x) ∧ RoadKit.Keep h h' [x] ∧ h'.size = h.size + 1 ∧ RoadKit.Exa Z h' x ST ∧ RoadKit.Fld Z h' x ST "value" "[B" (.ref h.size) ∧ RoadKit.Fld Z h' x ST "coder" "B" (.int 0) ∧
  (∃ V : Cell, RoadKit.Arr Z h' h.size V .byte ∧ V.vm = .none ∧ Z.vm.findClass "[B" = some V.cls ∧ V.slots.size = A.slots.size ∧ ∀ j, j < A.slots.size → V.slots[j]? = some (.int (lo8 (cv A j)))) ∧
  ∀ (O n d : String) (w : Value), RoadKit.Fld Z h x O n d w → RoadKit.slotOf Z O n d ≠ RoadKit.slotOf Z ST "value" "[B" → RoadKit.slotOf Z O n d ≠ RoadKit.slotOf Z ST "coder" "B" → RoadKit.Fld Z h' x O n d w
/-- **new String(chars) AT A CALL, IN THE ROAD'S FORM**: for specialBack behind newO: x the fresh String, b the char[] with the cell A -/
theorem back {p : Program} {l : Launch} {e : Env} {R : Room} {s : State} {args : Array Value} {below : List Frame} {len W : Nat} {Z : State} {a0 : Array Value} {h : Heap} (hZ : Z.Warmed39 s.vm) (hw : ∀ d ∈ words, d.before a0 Z = true) {kI : Nat} (wi : (Jvm.Cond.instantiable ST kI).before a0 Z = true)
    {x b : Addr} {A : Cell} {z : Int32} {v0 c0 : Value} (E : RoadKit.Exa Z h x ST) (V : RoadKit.Fld Z h x ST "value" "[B" v0) (C : RoadKit.Fld Z h x ST "coder" "B" c0) (K : RoadKit.Arr Z h b A .char) (hty : Typed .char A) (S : RoadKit.Sta Z h ST "COMPACT_STRINGS" "Z" (.int z)) (hz : ¬ z = 0)
    (l0 : 0 < A.slots.size) (l2 : A.slots.size ≤ 536870912) (hp : ∀ i, i < A.slots.size → ¬ 255 < cv A i) (hfr : 4 ≤ R.frames) (hlo : W + 65 ≤ R.locals) :
    Back l R p e below s args New1.yN len W (fun P a => a = #[.ref x, .ref b] ∧ P.U.heap = h ∧ P.cells + 1 ≤ R.cells ∧ P.slots + A.slots.size ≤ R.slots)
      (fun P _ v B => ∃ L, Q Z x A h v B.U.heap L ∧ B.locs = P.locs ++ L ∧ B.cells = P.cells + 1 ∧ B.slots = P.slots + A.slots.size) := by
  intro m meth c P g ig mk a X hg hsize hdg hW hn hp'
  obtain ⟨rfl, rfl, r1, r2⟩ := hp'
  have al : Z.vm.Alike P.U.vm := hZ.alike.trans X.warmed.alike
  obtain ⟨D, cfV, kV, iV, fV, hD, gV, stV, knV, obV, asV, slV⟩ := id V
  obtain ⟨D', cfC, kC, iC, fC, hD', gC, stC, -, -, asC, slC⟩ := id C
  cases hD.symm.trans hD'
  obtain ⟨D2, kD, e1, e2, e3, e4, e5⟩ := id E
  cases hD.symm.trans e1
  obtain ⟨c2, k2, i1, i2, i3, -⟩ := Cond.instantiable_spec wi
  cases e2.symm.trans i1
  cases e3.symm.trans i2
  obtain ⟨kU, u1, u2⟩ := al.2.2 _ _ e3
  have hB : Blank ST x D P.U := ⟨hD, ⟨knV, fun q hq => by rw [hq] at obV; cases obV⟩, by rw [al.findClass]; exact e2, kU, u1, by rw [u2]; exact i3, by rw [u2]; exact e5 i3⟩
  have F1 : Found ST "value" "[B" fV P.U := ⟨SBG.found_only al ⟨cfV, kV, iV, gV⟩, stV⟩
  have F2 : Found ST "coder" "B" fC P.U := ⟨SBG.found_only al ⟨cfC, kC, iC, gC⟩, stC⟩
  have hA : Ch b A P.U := ⟨⟨K.1, State.isArrayOf_alike al K.2.1, K.2.2, by omega⟩, hty⟩
  have hS : StaticIs P.U ST "COMPACT_STRINGS" "Z" (.int z) := by
    obtain ⟨cfS, iS, kS, fS, st, cS, t1, t2, t3, t4, t5, t6, t7⟩ := S
    exact StaticIs.there (s := { Z with heap := P.U.heap }) ⟨cfS, iS, kS, fS, st, cS, t1, t2, t3, t4, t5, (fun q => by rw [q] at t6; cases t6), t7⟩ al rfl
  obtain ⟨v, B, X', ⟨⟨hv, E', V', q1, q2, q3, q4, q5, q6, q7, q8, q9, q10, q11⟩, hl, hc, hs⟩, st⟩ := New1.pays x D fV fC b A z (tab_of (moved hZ hw)) hfr hlo m meth c P g ig mk _ X hg hsize hdg hW hn ⟨r1, r2, rfl, hB, F1, F2, hA, hS, hz, l0, l2, hp⟩
  have al' : Z.vm.Alike B.U.vm := hZ.alike.trans X'.warmed.alike
  have hsz : E'.slots.size = D.slots.size := by
    obtain ⟨-, -, -, kB, w1, w2, w3⟩ := q1
    obtain ⟨kB', y1, y2⟩ := al'.2.2 _ _ e3
    rw [q2.2.1] at w1
    cases w1.symm.trans y1
    rw [w3, e5 i3, y2]
  refine ⟨v, B, X', ⟨_, ⟨hv, ?_, ⟨by omega, fun y cy hy hn' => q10 y cy (by simpa using hn') hy, fun y cy hy => ?_⟩, q11, ⟨E', _, q1.1, by rw [q2.2.1]; exact e2, by rw [q2.2.1]; exact e3, by rw [q2.1]; exact obV, fun _ => by rw [hsz]; exact e5 i3⟩,
    ⟨E', cfV, kV, iV, fV, q1.1, gV, stV, by rw [q2.1]; exact knV, by rw [q2.1]; exact obV, by rw [q2.2.1]; exact asV, q3⟩, ⟨E', cfC, kC, iC, fC, q1.1, gC, stC, by rw [q2.1]; exact knV, by rw [q2.1]; exact obV, by rw [q2.2.1]; exact asC, q4⟩,
    ⟨V', ⟨q5.1, State.isArrayOf_alike al'.symm q5.2.1, q5.2.2.1⟩, q6, by rw [← al'.findClass]; exact q7, q8, fun j hj => by have := q9 j hj; rwa [Nat.zero_add] at this⟩, fun O n d w F n1 n2 => ?_⟩, hl, hc, hs⟩, st⟩
  · intro y hy
    simp only [List.mem_cons, List.not_mem_nil, or_false] at hy
    rcases hy with rfl | rfl <;> rfl
  · by_cases q : y = x
    · subst q
      cases hD.symm.trans hy
      exact ⟨E', q1.1, q2.2.1, q2.1, hsz⟩
    · exact ⟨cy, q10 y cy q hy, rfl, rfl, rfl⟩
  · obtain ⟨D3, cf, k, i, f, g1, g2, g3, g4, g5, g6, g7⟩ := F
    cases hD.symm.trans g1
    simp only [RoadKit.slotOf, g2, gV, gC, Option.map_some, Option.getD_some] at n1 n2
    exact ⟨E', cf, k, i, f, q1.1, g2, g3, by rw [q2.1]; exact g4, by rw [q2.1]; exact g5, by rw [q2.2.1]; exact g6, by rw [q2.2.2 f.slot (by simp [n1, n2])]; exact g7⟩
end StrChars.Road
namespace StrChars.Road
open Jvm Sem ClassFile Op Lib Jvm.Stand Jvm.Free Jvm.Free.XT
/-- WHAT COMES BACK, the byte[] as a list of values -/
def QA (Z : State) (x : Addr) (zn : Int32) (cs : List Int32) (h : Heap) (v : Option Value) (h' : Heap) (L : List Loc) : Prop := v = none ∧ (∀ y ∈ L, y.base = x) ∧ RoadKit.Keep h h' [x] ∧ h'.size = h.size + 1 ∧ RoadKit.Exa Z h' x ST ∧ RoadKit.Fld Z h' x ST "value" "[B" (.ref h.size) ∧ RoadKit.Fld Z h' x ST "coder" "B" (.int 0) ∧
  (∃ kb, Z.vm.findClass "[B" = some kb ∧ RoadKit.Arv Z h' h.size kb .byte zn (cs.map fun c => .int (lo8 c)) (.int 0)) ∧
  ∀ (O n d : String) (w : Value), RoadKit.Fld Z h x O n d w → RoadKit.slotOf Z O n d ≠ RoadKit.slotOf Z ST "value" "[B" → RoadKit.slotOf Z O n d ≠ RoadKit.slotOf Z ST "coder" "B" → RoadKit.Fld Z h' x O n d w
/-- **new String(chars) AT A CALL, THE ARRAYS AS LISTS**: the char[] at b holds cs, not empty, no char above 255 -/
theorem backArv {p : Program} {l : Launch} {e : Env} {R : Room} {s : State} {args : Array Value} {below : List Frame} {len W : Nat} {Z : State} {a0 : Array Value} {h : Heap} (hZ : Z.Warmed39 s.vm) (hw : ∀ d ∈ words, d.before a0 Z = true) {kI : Nat} (wi : (Jvm.Cond.instantiable ST kI).before a0 Z = true)
    {x b : Addr} {k : ClassId} {zn z : Int32} {cs : List Int32} {dv v0 c0 : Value} (E : RoadKit.Exa Z h x ST) (V : RoadKit.Fld Z h x ST "value" "[B" v0) (C : RoadKit.Fld Z h x ST "coder" "B" c0) (K : RoadKit.Arv Z h b k .char zn (cs.map Value.int) dv) (S : RoadKit.Sta Z h ST "COMPACT_STRINGS" "Z" (.int z)) (hz : ¬ z = 0)
    (hlen : zn.toNatClampNeg = cs.length) (h0 : 0 < cs.length) (hbig : cs.length ≤ 536870912) (hall : ∀ c ∈ cs, ¬ 255 < c) (hfr : 4 ≤ R.frames) (hlo : W + 65 ≤ R.locals) :
    Back l R p e below s args New1.yN len W (fun P a => a = #[.ref x, .ref b] ∧ P.U.heap = h ∧ P.cells + 1 ≤ R.cells ∧ P.slots + cs.length ≤ R.slots)
      (fun P _ v B => ∃ L, QA Z x zn cs h v B.U.heap L ∧ B.locs = P.locs ++ L ∧ B.cells = P.cells + 1 ∧ B.slots = P.slots + cs.length) := by
  obtain ⟨A, K1, K2, K3, K4, K5, K6⟩ := K
  have e : A.slots.size = cs.length := K3.trans hlen
  have hat : ∀ (i : Nat) (hi : i < cs.length), A.slots[i]? = some (.int cs[i]) := fun i hi => by rw [K5 i (by omega)]; simp [List.getD_eq_getElem?_getD, hi]
  have hcv : ∀ (i : Nat) (hi : i < cs.length), cv A i = cs[i] := fun i hi => by unfold cv; rw [hat i hi]
  have hty : Typed .char A := fun i v hv => by
    have hi : i < A.slots.size := (Array.getElem?_eq_some_iff.mp hv).1
    have q := K5 i hi
    rw [hv] at q
    rw [Option.some.inj q]
    exact K6 i hi
  refine Back.mono (back hZ hw wi E V C K1 hty S hz (by omega) (by omega) (fun i hi => by rw [hcv i (by omega)]; exact hall _ (List.getElem_mem _)) hfr hlo) (fun P a hp => ⟨hp.1, hp.2.1, hp.2.2.1, by rw [e]; exact hp.2.2.2⟩) (fun P a v B hp hq => ?_)
  obtain ⟨L, ⟨q1, q2, q3, q4, q5, q6, q7, ⟨V', v1, v2, v3, v4, v5⟩, q9⟩, hl, hc, hs⟩ := hq
  refine ⟨L, ⟨q1, q2, q3, q4, q5, q6, q7, ⟨V'.cls, v3, V', v1, rfl, by rw [v4, e, hlen], K4, fun i hi => ?_, fun i hi => ?_⟩, q9⟩, hl, hc, by rw [hs, e]⟩
  · have hi' : i < cs.length := by omega
    rw [v5 i (by omega), hcv i hi']; simp [List.getD_eq_getElem?_getD, hi']
  · have hi' : i < cs.length := by omega
    simp only [List.getD_eq_getElem?_getD, List.getElem?_map, List.getElem?_eq_getElem hi', Option.map_some, Option.getD_some]
    exact fits_lo8 _
end StrChars.Road
namespace StrChars.Road
open Jvm Sem ClassFile Op Lib Jvm.Stand Jvm.Free Jvm.Free.XT
/-- WHAT COMES BACK, in the writer's own shape -/
def QV (Z : State) (x : Addr) (N : Int32) (bs : List Int32) (h : Heap) (n0 : Nat) (v : Option Value) (h' : Heap) (L : List Loc) : Prop := v = none ∧ RoadKit.Fr n0 L ∧ RoadKit.Keep h h' [x] ∧ RoadKit.Exa Z h' x ST ∧ RoadKit.Fld Z h' x ST "coder" "B" (.int 0) ∧
  ∃ (t : Addr) (kb : ClassId), n0 ≤ t ∧ h.size ≤ t ∧ ¬ t = x ∧ RoadKit.Fld Z h' x ST "value" "[B" (.ref t) ∧ RoadKit.Arv Z h' t kb .byte N (bs.map Value.int) (.int 0)
/-- **new String(chars) AT A CALL, FOR THE WRITER**: a char[] of n known ints, each 0 to 255 -/
theorem backV {p : Program} {l : Launch} {e : Env} {R : Room} {s : State} {args : Array Value} {below : List Frame} {len W : Nat} {Z : State} {a0 : Array Value} {h : Heap} (hZ : Z.Warmed39 s.vm) (hw : ∀ d ∈ words, d.before a0 Z = true) {kI : Nat} (wi : (Jvm.Cond.instantiable ST kI).before a0 Z = true)
    {x b : Addr} {kC : ClassId} {cs bs : List Int32} {d v0 c0 : Value} {z N : Int32} {n n0 : Nat} (hx0 : n0 ≤ x) (hh0 : n0 ≤ h.size) (E : RoadKit.Exa Z h x ST) (V : RoadKit.Fld Z h x ST "value" "[B" v0) (C : RoadKit.Fld Z h x ST "coder" "B" c0) (K : RoadKit.Arv Z h b kC .char N (cs.map Value.int) d) (S : RoadKit.Sta Z h ST "COMPACT_STRINGS" "Z" (.int z)) (hz : ¬ z = 0)
    (hn : cs.length = n) (hN : N = Int32.ofNat n) (l0 : 0 < n) (l2 : n ≤ 4000) (hp : ∀ c ∈ cs, ¬ c < 0 ∧ ¬ (255 : Int32) < c) (hb : bs = cs.map (fun c => c.toInt8.toInt32)) (hfr : 4 ≤ R.frames) (hlo : W + 65 ≤ R.locals) :
    Back l R p e below s args (⟨"java/lang/String", "<init>", "([C)V"⟩ : MethodName) len W (fun P a => a = #[.ref x, .ref b] ∧ P.U.heap = h ∧ P.cells + 1 ≤ R.cells ∧ P.slots + n ≤ R.slots)
      (fun P _ v B => ∃ L, QV Z x N bs h n0 v B.U.heap L ∧ B.locs = P.locs ++ L ∧ B.cells = P.cells + 1 ∧ B.slots = P.slots + n) := by
  subst hn hN hb
  refine Back.mono (backArv hZ hw wi E V C K S hz (n32 (by omega)) l0 (by omega) (fun c hc => (hp c hc).2) hfr hlo) (fun P a hp => hp) (fun P a v B hp hq => ?_)
  obtain ⟨L, ⟨q1, q2, q3, q4, q5, q6, q7, ⟨kb, v1, v2⟩, q9⟩, hl, hc, hs⟩ := hq
  exact ⟨L, ⟨q1, fun y hy => by rw [q2 y hy]; exact hx0, q3, q5, q7, h.size, kb, hh0, Nat.le_refl _, Nat.ne_of_gt E.lt, q6, by rw [List.map_map]; exact v2⟩, hl, hc, hs⟩
end StrChars.Road
namespace StrChars
open Jvm Sem ClassFile Op Lib Jvm.Stand Jvm.Free.XT Jvm.Free.ALB Jvm.Free.JM Jvm.Free
open Jvm.Lib.Cold (StaticIs)
def hi8 (x : Int32) : Int32 := lo8 (x >>> ((8 : Int32) &&& 31))
/-- what StringUTF16.getChar makes of two bytes -/
def pairCh (u v : Int32) : Int32 := (((u &&& 255) <<< ((0 : Int32) &&& 31)) ||| ((v &&& 255) <<< ((8 : Int32) &&& 31))).toUInt32.toUInt16.toUInt32.toInt32
theorem shr0 (c : Int32) : c >>> ((0 : Int32) &&& 31) = c := by
  have e : ((0 : Int32) &&& 31) = 0 := by decide
  rw [e]
  apply Int32.toBitVec_inj.mp
  rw [Int32.toBitVec_shiftRight]
  have e1 : ((0 : Int32).toBitVec.smod 32) = 0#32 := by decide
  rw [e1, BitVec.sshiftRight_eq']
  exact BitVec.sshiftRight_zero
theorem lo8_and (x : Int32) : (lo8 x &&& 255).toBitVec.toNat = x.toBitVec.toNat % 256 := by
  have h : (lo8 x).toBitVec = (x.toBitVec.signExtend 8).signExtend 32 := by rw [lo8, Int8.toBitVec_toInt32, Int32.toBitVec_toInt8]
  rw [Int32.toBitVec_and, BitVec.toNat_and, h]
  have e : ((x.toBitVec.signExtend 8).signExtend 32).toNat % 256 = x.toBitVec.toNat % 256 := by
    rw [BitVec.toNat_signExtend]
    have hlt := x.toBitVec.isLt
    simp only [BitVec.toNat_setWidth, BitVec.toNat_signExtend]
    split <;> split <;> omega
  rw [← e]
  exact Nat.and_two_pow_sub_one_eq_mod _ 8
theorem pair_says {c : Int32} (h0 : ¬ c < 0) (h1 : ¬ 65535 < c) : pairCh (lo8 c) (hi8 c) = c := by
  rw [Int32.lt_iff_toInt_lt] at h0 h1
  have e0 : (0 : Int32).toInt = 0 := rfl
  have e1 : (65535 : Int32).toInt = 65535 := rfl
  have hc : c.toInt = c.toBitVec.toNat := by
    have := c.toBitVec.isLt
    have e : c.toInt = c.toBitVec.toInt := rfl
    rw [e] at h0 h1
    rw [e]
    rw [BitVec.toInt_eq_toNat_cond] at h0 h1 ⊢
    split at h0 <;> split <;> omega
  have hn : c.toBitVec.toNat < 65536 := by omega
  have a1 := lo8_and c
  have a2 : (hi8 c &&& 255).toBitVec.toNat = c.toBitVec.toNat / 256 := by
    rw [hi8, lo8_and]
    have e : ((8 : Int32) &&& 31) = 8 := by decide
    rw [e, Int32.toBitVec_shiftRight]
    have e2 : ((8 : Int32).toBitVec.smod 32) = 8#32 := by decide
    rw [e2, BitVec.sshiftRight_eq', BitVec.toNat_sshiftRight_of_msb_false (by rw [BitVec.msb_eq_false_iff_two_mul_lt]; omega)]
    show c.toBitVec.toNat >>> 8 % 256 = _
    rw [Nat.shiftRight_eq_div_pow]
    omega
  unfold pairCh
  apply Int32.toBitVec_inj.mp
  apply BitVec.eq_of_toNat_eq
  have f0 : ((0 : Int32) &&& 31) = 0 := by decide
  have f8 : ((8 : Int32) &&& 31) = 8 := by decide
  rw [f0, f8]
  have g : (((lo8 c &&& 255) <<< (0 : Int32)) ||| ((hi8 c &&& 255) <<< (8 : Int32))).toBitVec.toNat = c.toBitVec.toNat := by
    rw [Int32.toBitVec_or, Int32.toBitVec_shiftLeft, Int32.toBitVec_shiftLeft]
    have s0 : ((0 : Int32).toBitVec.smod 32) = 0#32 := by decide
    have s8 : ((8 : Int32).toBitVec.smod 32) = 8#32 := by decide
    rw [s0, s8, BitVec.toNat_or]
    simp only [BitVec.shiftLeft_eq', BitVec.toNat_shiftLeft, a1, a2]
    show (c.toBitVec.toNat % 256) <<< 0 % 2 ^ 32 ||| (c.toBitVec.toNat / 256) <<< 8 % 2 ^ 32 = _
    rw [Nat.shiftLeft_zero, Nat.mod_eq_of_lt (show c.toBitVec.toNat % 256 < 2 ^ 32 by omega), Nat.mod_eq_of_lt (show (c.toBitVec.toNat / 256) <<< 8 < 2 ^ 32 by rw [Nat.shiftLeft_eq]; omega), Nat.or_comm, ← Nat.shiftLeft_add_eq_or_of_lt (by omega), Nat.shiftLeft_eq]
    omega
  show BitVec.toNat (((((lo8 c &&& 255) <<< (0 : Int32)) ||| ((hi8 c &&& 255) <<< (8 : Int32))).toBitVec.setWidth 16).setWidth 32) = _
  rw [BitVec.toNat_setWidth, BitVec.toNat_setWidth, g]
  omega
end StrChars
namespace StrChars
open Jvm Sem ClassFile Op Lib Jvm.Stand Jvm.Free.XT Jvm.Free.ALB Jvm.Free.JM Jvm.Free
open Jvm.Lib.Cold (StaticIs)
theorem shr1 {n : Nat} (h : 2 * n < 2 ^ 31) : Int32.ofNat (2 * n) >>> ((1 : Int32) &&& 31) = Int32.ofNat n := by
  have e : ((1 : Int32) &&& 31) = 1 := by decide
  rw [e]
  apply Int32.toBitVec_inj.mp
  rw [Int32.toBitVec_shiftRight]
  have e1 : ((1 : Int32).toBitVec.smod 32) = 1#32 := by decide
  have hm : (BitVec.ofNat 32 (2 * n)).toNat = 2 * n := by rw [BitVec.toNat_ofNat, Nat.mod_eq_of_lt (by omega)]
  rw [e1, BitVec.sshiftRight_eq']
  apply BitVec.eq_of_toNat_eq
  show ((BitVec.ofNat 32 (2 * n)).sshiftRight 1).toNat = (BitVec.ofNat 32 n).toNat
  rw [BitVec.toNat_sshiftRight_of_msb_false (by rw [BitVec.msb_eq_false_iff_two_mul_lt, hm]; omega), hm, BitVec.toNat_ofNat, Nat.shiftRight_eq_div_pow]
  omega
/-- the array's cell V codes the n chars f 0 .. f (n - 1) by the coder cd, as the JDK does: coder 1 just where some char is above 255 -/
def Cod (cd : Int32) (n : Nat) (f : Nat → Int32) (V : Cell) : Prop := (cd = 0 ∧ V.slots.size = n ∧ ∀ j, j < n → V.slots[j]? = some (.int (lo8 (f j))) ∧ ¬ 255 < f j) ∨ (cd = 1 ∧ V.slots.size = 2 * n ∧ (∀ j, j < n → V.slots[2 * j]? = some (.int (lo8 (f j))) ∧ V.slots[2 * j + 1]? = some (.int (hi8 (f j)))) ∧ ∃ j, j < n ∧ 255 < f j)
theorem Cod.cd {cd : Int32} {n : Nat} {f : Nat → Int32} {V : Cell} (h : Cod cd n f V) : cd = 0 ∨ cd = 1 := h.imp (fun q => q.1) fun q => q.1
theorem Cod.len {cd : Int32} {n : Nat} {f : Nat → Int32} {V : Cell} (h : Cod cd n f V) (hs : V.slots.size < 2 ^ 31) : Int32.ofNat V.slots.size >>> (cd &&& 31) = Int32.ofNat n := by
  rcases h with ⟨rfl, h, -⟩ | ⟨rfl, h, -⟩
  · rw [shr0, h]
  · rw [h, shr1 (by omega)]
/-- **x is a String of the n chars f 0 .. f (n - 1)**, Latin-1 or UTF-16; its array at t has the cell V -/
def Txt (x t : Addr) (V : Cell) (cd : Int32) (n : Nat) (f : Nat → Int32) (U : State) : Prop := Exact "java/lang/String" x U ∧ Has x "java/lang/String" "value" "[B" (.ref t) U ∧ Has x "java/lang/String" "coder" "B" (.int cd) U ∧ XT.Arr .byte t V U ∧ Cod cd n f V ∧ ∀ j, j < n → ¬ f j < 0 ∧ ¬ 65535 < f j
theorem Txt.mv {x t : Addr} {V : Cell} {cd : Int32} {n : Nat} {f : Nat → Int32} {U U' : State} (h : Txt x t V cd n f U) (hal : U.vm.Alike U'.vm) (hh : U'.heap = U.heap) : Txt x t V cd n f U' := ⟨h.1.mv hal hh, h.2.1.mv hal hh, h.2.2.1.mv hal hh, h.2.2.2.1.mv hal hh, h.2.2.2.2⟩
namespace Cdr
def yN : MethodName := ⟨"java/lang/String", "coder", "()B"⟩
abbrev yB : ByteArray := jdk_42_method_152_code
theorem d0 : decode yB 0 = .ok (.getstatic 38, 3) := by decide +kernel
theorem d3 : decode yB 3 = .ok (.ifCond (.eq) 10, 3) := by decide +kernel
theorem d6 : decode yB 6 = .ok (.aload_n 0, 1) := by decide +kernel
theorem d7 : decode yB 7 = .ok (.getfield 15, 3) := by decide +kernel
theorem d10 : decode yB 10 = .ok (.goto 4, 3) := by decide +kernel
theorem d14 : decode yB 14 = .ok (.ireturn, 1) := by decide +kernel
def site : List Cond := [.fieldLink "java/lang/String" 38 "java/lang/String" "COMPACT_STRINGS" "Z", .fieldLink "java/lang/String" 15 "java/lang/String" "coder" "B"]
def tab : Cond := tabOf yN yB 1 (some .byte) site
def P (x : Addr) (cd z : Int32) (args : Array Value) (s : State) : Prop := args = #[.ref x] ∧ Has x "java/lang/String" "coder" "B" (.int cd) s ∧ (cd = 0 ∨ cd = 1) ∧ StaticIs s "java/lang/String" "COMPACT_STRINGS" "Z" (.int z) ∧ ¬ z = 0
def E (cd : Int32) (r : Option Value) (s u : State) : Prop := XT.PureE (some (.int cd)) r s u
theorem law (l : Launch) (x : Addr) (cd z : Int32) : Law l yN 1 0 0 0 yB 1 (some .byte) site (P x cd z) (E cd) [] 0 0 := by
  refine Law.of_walk (plainFor_of_name (by decide +kernel)) (by decide +kernel) (by decide +kernel) (by decide) (fun _ _ h => by rw [h.1]; rfl) (fun _ U U' hal hh h => ⟨h.1, h.2.1.mv hal hh, h.2.2.1, h.2.2.2.1.there hal hh, h.2.2.2.2⟩) (fun r U U' V V' h1 hal h2 h => XT.PureE.mv r U U' V V' h1 hal h2 h) ?_
  intro p e s m args below meth c s₁ X0 hexec hbytes hml hret hlk hnm hown hh0 W hP
  obtain ⟨rfl, hx, hc, s1, hz⟩ := hP
  have c1 : Steps p.tables e below (s₁.setTop (entryFrame m #[.ref x] 1)) (s₁.setTop (mkF m 0 #[.val (.ref x)] [])) := entry rfl
  obtain ⟨T2, X2, q2, st2⟩ := X0.sget hexec hown (wk W (.fieldLink "java/lang/String" 38 "java/lang/String" "COMPACT_STRINGS" "Z")) s1 (fun _ _ h => by rw [hh0]; exact h) (g := (mkF m 0 #[.val (.ref x)] [])) rfl (hb hbytes d0)
  have hh2 := q2.trans hh0
  have c3 : Steps p.tables e below (s₁.setTop (entryFrame m #[.ref x] 1)) (T2.setTop (mkF m 7 #[.val (.ref x)] [.ref x])) := (c1.trans (st2 _ (Steps.refl _))).trans (by
    refine XS.ifNo X2.here hexec rfl (hb hbytes d3) rfl (i0_eq_f hz) ?_
    refine XS.aloadN X2.here hexec rfl (hb hbytes d6) rfl rfl ?_
    exact Steps.refl _)
  obtain ⟨T4, X4, q4, st4⟩ := X2.hget hexec hown (wk W (.fieldLink "java/lang/String" 15 "java/lang/String" "coder" "B")) (hx.mv X2.warmed.alike hh2) (g := (mkF m 7 #[.val (.ref x)] [.ref x])) rfl (rest := []) rfl (hb hbytes d7)
  have c5 : Steps p.tables e below (s₁.setTop (entryFrame m #[.ref x] 1)) (T4.setTop (mkF m 14 #[.val (.ref x)] [.int cd])) := (c3.trans (st4 _ (Steps.refl _))).trans (by
    refine XS.goto X4.here hexec rfl (pc0 := 10) rfl (hb hbytes d10) (by decide) rfl ?_
    exact Steps.refl _)
  exact ⟨T4, some (.int cd), _, _, _, X4, rfl, rfl, rfl, (fun h => by cases h), ⟨rfl, q4.trans hh2⟩, fun fs hl => c5.trans (X4.ireturnOut hexec hret (by rcases hc with rfl | rfl <;> rfl) (Or.inr (Or.inr (Or.inl rfl))) (hb hbytes d14) hl)⟩
end Cdr
namespace Len
def yN : MethodName := ⟨"java/lang/String", "length", "()I"⟩
abbrev yB : ByteArray := jdk_42_method_54_code
theorem d0 : decode yB 0 = .ok (.aload_n 0, 1) := by decide +kernel
theorem d1 : decode yB 1 = .ok (.getfield 9, 3) := by decide +kernel
theorem d4 : decode yB 4 = .ok (.arraylength, 1) := by decide +kernel
theorem d5 : decode yB 5 = .ok (.aload_n 0, 1) := by decide +kernel
theorem d6 : decode yB 6 = .ok (.invokevirtual 335, 3) := by decide +kernel
theorem d9 : decode yB 9 = .ok (.ishr, 1) := by decide +kernel
theorem d10 : decode yB 10 = .ok (.ireturn, 1) := by decide +kernel
def site : List Cond := [.fieldLink "java/lang/String" 9 "java/lang/String" "value" "[B", Cdr.tab] ++ virtW "java/lang/String" 335 "java/lang/String" Cdr.yN Cdr.yN
def tab : Cond := tabOf yN yB 1 (some .int) site
def P (x t : Addr) (V : Cell) (cd : Int32) (n : Nat) (f : Nat → Int32) (z : Int32) (args : Array Value) (s : State) : Prop := args = #[.ref x] ∧ Txt x t V cd n f s ∧ StaticIs s "java/lang/String" "COMPACT_STRINGS" "Z" (.int z) ∧ ¬ z = 0
def E (n : Nat) (r : Option Value) (s u : State) : Prop := XT.PureE (some (.int (Int32.ofNat n))) r s u
/-- length() of a String of n chars, in either coding -/
theorem law (l : Launch) (x t : Addr) (V : Cell) (cd : Int32) (n : Nat) (f : Nat → Int32) (z : Int32) : Law l yN 1 0 1 13 yB 1 (some .int) site (P x t V cd n f z) (E n) [] 0 0 := by
  refine Law.of_walk (plainFor_of_name (by decide +kernel)) (by decide +kernel) (by decide +kernel) (by decide) (fun _ _ h => by rw [h.1]; rfl) (fun _ U U' hal hh h => ⟨h.1, h.2.1.mv hal hh, h.2.2.1.there hal hh, h.2.2.2⟩) (fun r U U' V V' h1 hal h2 h => XT.PureE.mv r U U' V V' h1 hal h2 h) ?_
  intro p e s m args below meth c s₁ X0 hexec hbytes hml hret hlk hnm hown hh0 W hP
  obtain ⟨rfl, hx, s1, hz⟩ := hP
  have v31 := hx.2.2.2.1.2.2.2
  have c1 : Steps p.tables e below (s₁.setTop (entryFrame m #[.ref x] 1)) (s₁.setTop (mkF m 1 #[.val (.ref x)] [.ref x])) := Steps.trans (entry rfl) (by
    show Steps p.tables e below (s₁.setTop (mkF m 0 #[.val (.ref x)] [])) _
    refine XS.aloadN X0.here hexec rfl (hb hbytes d0) rfl rfl ?_
    exact Steps.refl _)
  obtain ⟨T2, X2, q2, st2⟩ := X0.hget hexec hown (wk W (.fieldLink "java/lang/String" 9 "java/lang/String" "value" "[B")) (hx.mv X0.warmed.alike hh0).2.1 (g := (mkF m 1 #[.val (.ref x)] [.ref x])) rfl (rest := []) rfl (hb hbytes d1)
  have hh2 := q2.trans hh0
  have hx2 := hx.mv X2.warmed.alike hh2
  have c3 : Steps p.tables e below (s₁.setTop (entryFrame m #[.ref x] 1)) (T2.setTop (mkF m 6 #[.val (.ref x)] [.ref x, .int (Int32.ofNat V.slots.size)])) := (c1.trans (st2 _ (Steps.refl _))).trans (by
    refine X2.alen hexec hx2.2.2.2.1 rfl rfl (hb hbytes d4) ?_
    refine XS.aloadN X2.here hexec rfl (hb hbytes d5) rfl rfl ?_
    exact Steps.refl _)
  obtain ⟨v4, T4, X4, E4, g4⟩ := X2.callV hexec (Cdr.law l x cd z) hown (wks W (virtW "java/lang/String" 335 "java/lang/String" Cdr.yN Cdr.yN)) rfl (by decide) (wk W Cdr.tab) (W := 1) (Nat.le_of_ble_eq_true rfl) (Nat.le_of_ble_eq_true rfl) (Nat.le_refl _) (Nat.le_refl _) (hx2.1.fc X2.warmed.alike) hx2.1.is (g := (mkF m 6 #[.val (.ref x)] [.ref x, .int (Int32.ofNat V.slots.size)])) rfl (by rw [hml]; rfl) c3 (argsL := []) (rest := [.int (Int32.ofNat V.slots.size)]) rfl rfl (by show 2 * 0 + (1 + 0) ≤ _; decide) (hb hbytes d6) (⟨rfl, hx2.2.2.1, hx.2.2.2.2.1.cd, s1.there X2.warmed.alike hh2, hz⟩)
  obtain ⟨rfl, q4⟩ := E4
  have c5 : Steps p.tables e below (s₁.setTop (entryFrame m #[.ref x] 1)) (T4.setTop (mkF m 10 #[.val (.ref x)] [.int (Int32.ofNat V.slots.size >>> (cd &&& 31))])) := Steps.trans g4 (by
    refine ishr X4.here hexec rfl (hb hbytes d9) rfl ?_
    exact Steps.refl _)
  rw [hx.2.2.2.2.1.len v31] at c5
  exact ⟨T4, some (.int (Int32.ofNat n)), _, _, _, X4, rfl, rfl, rfl, (fun h => by cases h), ⟨rfl, q4.trans hh2⟩, fun fs hl => c5.trans (X4.ireturnOut hexec hret rfl (Or.inl rfl) (hb hbytes d10) hl)⟩
theorem pays {l : Launch} {R : Room} {p : Program} {e : Env} {below : List Frame} {s : State} {sargs : Array Value} {len W : Nat} (x t : Addr) (V : Cell) (cd : Int32) (n : Nat) (f : Nat → Int32) (z : Int32) (htab : tab.before sargs s = true) (hfr : 2 ≤ R.frames) (hlo : W + 25 ≤ R.locals) :
    Back l R p e below s sargs yN len W (fun A₁ a₁ => A₁.cells + 0 ≤ R.cells ∧ A₁.slots + 0 ≤ R.slots ∧ P x t V cd n f z a₁ A₁.U) (fun A₁ _ v₁ B₁ => E n v₁ A₁.U B₁.U ∧ B₁.locs = A₁.locs ++ [] ∧ B₁.cells = A₁.cells + 0 ∧ B₁.slots = A₁.slots + 0) :=
  (law l x t V cd n f z).pays htab hfr (by omega)
end Len
end StrChars
namespace StrChars.Road
open Jvm Sem ClassFile Op Lib Jvm.Stand Jvm.Free Jvm.Free.XT
open Jvm.Lib.Cold (StaticIs)
theorem consq {a : Array Value} {s : State} {c : Jvm.Cond} {L : List Jvm.Cond} (h0 : c.before a s = true) (h : ∀ w ∈ L, w.before a s = true) : ∀ w ∈ c :: L, w.before a s = true := fun w hw => (List.mem_cons.mp hw).elim (fun e => e ▸ h0) (h w)
/-- the words of String.length(), either coding -/
abbrev wordsLen : List Jvm.Cond := [.code Len.yN Len.yB 1 (some .int), .initialized ST, .fieldLink ST 9 ST "value" "[B", .fieldLink ST 38 ST "COMPACT_STRINGS" "Z", .fieldLink ST 15 ST "coder" "B", .code Cdr.yN Cdr.yB 1 (some .byte), .methodLink ST 335 Cdr.yN, .declares Cdr.yN, .selects ST Cdr.yN Cdr.yN, .instanceMethod Cdr.yN]
theorem tabLen_of {a : Array Value} {s : State} (h : ∀ w ∈ wordsLen, w.before a s = true) : Len.tab.before a s = true := by
  have hc : Cdr.tab.before a s = true := unparts (wk h (.code Cdr.yN Cdr.yB 1 (some .byte))) (wks h (.initialized Cdr.yN.cls :: Cdr.site))
  have q := consq hc h
  exact unparts (wk q (.code Len.yN Len.yB 1 (some .int))) (wks q (.initialized Len.yN.cls :: Len.site))
theorem movedLen {Z s : State} {a0 args : Array Value} (hZ : Z.Warmed39 s.vm) (hw : ∀ d ∈ wordsLen, d.before a0 Z = true) : ∀ d ∈ wordsLen, d.before args s = true := fun d hd => by
  have q := hw d hd
  have t : ∀ d ∈ wordsLen, d = .arrayClass .byte ∨ (d.onTables && d.keepsFace) = true := by decide +kernel
  rcases t d hd with rfl | t
  · exact RoadKit.mvA hZ q
  · exact RoadKit.mv hZ q t
/-- the bytes of the chars cs, low before high -/
def wideBytes : List Int32 → List Value
  | [] => []
  | c :: cs => .int (lo8 c) :: .int (hi8 c) :: wideBytes cs
theorem wide_lo (d : Value) : ∀ (cs : List Int32) (j : Nat), j < cs.length → (wideBytes cs).getD (2 * j) d = .int (lo8 (cs.getD j 0))
  | [], j, h => absurd h (Nat.not_lt_zero j)
  | c :: cs, 0, _ => rfl
  | c :: cs, j + 1, h => by
    have q := wide_lo d cs j (by simpa using h)
    rw [show 2 * (j + 1) = 2 * j + 1 + 1 from by omega]
    simpa [wideBytes] using q
theorem wide_hi (d : Value) : ∀ (cs : List Int32) (j : Nat), j < cs.length → (wideBytes cs).getD (2 * j + 1) d = .int (hi8 (cs.getD j 0))
  | [], j, h => absurd h (Nat.not_lt_zero j)
  | c :: cs, 0, _ => rfl
  | c :: cs, j + 1, h => by
    have q := wide_hi d cs j (by simpa using h)
    rw [show 2 * (j + 1) + 1 = 2 * j + 1 + 1 + 1 from by omega]
    simpa [wideBytes] using q
theorem low_at (d : Value) (cs : List Int32) (j : Nat) (h : j < cs.length) : (cs.map fun c => Value.int (lo8 c)).getD j d = .int (lo8 (cs.getD j 0)) := by
  simp [List.getD_eq_getElem?_getD, h]
/-- an array of N2 bytes vs codes the chars cs by the coder cd -/
def CodA (cs : List Int32) (cd N2 : Int32) (vs : List Value) : Prop := (cd = 0 ∧ N2 = Int32.ofNat cs.length ∧ vs = (cs.map fun c => Value.int (lo8 c)) ∧ ∀ c ∈ cs, ¬ 255 < c) ∨ (cd = 1 ∧ N2 = Int32.ofNat (2 * cs.length) ∧ vs = wideBytes cs ∧ ∃ c ∈ cs, 255 < c)
theorem CodA.cod {cs : List Int32} {cd N2 : Int32} {vs : List Value} {V : Cell} (h : CodA cs cd N2 vs) (hn : 2 * cs.length < 2 ^ 31) (hs : V.slots.size = N2.toNatClampNeg) (hv : RoadKit.Has V vs (.int 0)) : Cod cd cs.length (fun j => cs.getD j 0) V := by
  rcases h with ⟨rfl, rfl, rfl, h⟩ | ⟨rfl, rfl, rfl, c, hc, hw⟩
  · rw [n32 (by omega)] at hs
    exact Or.inl ⟨rfl, hs, fun j hj => ⟨by rw [hv j (by omega), low_at _ _ _ hj], by
      have e : cs.getD j 0 = cs[j] := by simp [List.getD_eq_getElem?_getD, hj]
      show ¬ 255 < cs.getD j 0
      rw [e]; exact h _ (List.getElem_mem _)⟩⟩
  · rw [n32 (by omega)] at hs
    obtain ⟨j, hj, rfl⟩ := List.getElem_of_mem hc
    exact Or.inr ⟨rfl, hs, fun j hj => ⟨by rw [hv _ (by omega), wide_lo _ _ _ hj], by rw [hv _ (by omega), wide_hi _ _ _ hj]⟩, j, hj, by
      have e : cs.getD j 0 = cs[j] := by simp [List.getD_eq_getElem?_getD, hj]
      show 255 < cs.getD j 0
      rw [e]; exact hw⟩
/-- an object of exactly java/lang/String, its two fields found: as the laws ask it -/
theorem strObj {Z U : State} {a0 : Array Value} {kI : Nat} (wi : (Jvm.Cond.instantiable ST kI).before a0 Z = true) (al : Z.vm.Alike U.vm) {x : Addr} {v0 c0 : Value} (E : RoadKit.Exa Z U.heap x ST) (V : RoadKit.Fld Z U.heap x ST "value" "[B" v0) (C : RoadKit.Fld Z U.heap x ST "coder" "B" c0) :
    ∃ (D : Cell) (fV fC : Field), Blank ST x D U ∧ Found ST "value" "[B" fV U ∧ Found ST "coder" "B" fC U ∧ D.slots[fV.slot]? = some v0 ∧ D.slots[fC.slot]? = some c0 ∧ RoadKit.slotOf Z ST "value" "[B" = fV.slot ∧ RoadKit.slotOf Z ST "coder" "B" = fC.slot := by
  obtain ⟨D, cfV, kV, iV, fV, hD, gV, stV, knV, obV, asV, slV⟩ := V
  obtain ⟨D', cfC, kC, iC, fC, hD', gC, stC, -, -, asC, slC⟩ := C
  cases hD.symm.trans hD'
  obtain ⟨D2, kD, e1, e2, e3, e4, e5⟩ := E
  cases hD.symm.trans e1
  obtain ⟨c2, k2, i1, i2, i3, -⟩ := Cond.instantiable_spec wi
  cases e2.symm.trans i1
  cases e3.symm.trans i2
  obtain ⟨kU, u1, u2⟩ := al.2.2 _ _ e3
  exact ⟨D, fV, fC, ⟨hD, ⟨knV, fun q hq => by rw [hq] at obV; cases obV⟩, by rw [al.findClass]; exact e2, kU, u1, by rw [u2]; exact i3, by rw [u2]; exact e5 i3⟩, ⟨SBG.found_only al ⟨cfV, kV, iV, gV⟩, stV⟩, ⟨SBG.found_only al ⟨cfC, kC, iC, gC⟩, stC⟩, slV, slC, by simp [RoadKit.slotOf, gV], by simp [RoadKit.slotOf, gC]⟩
theorem sta_is {Z U : State} (al : Z.vm.Alike U.vm) {C n d : String} {v : Value} (S : RoadKit.Sta Z U.heap C n d v) : StaticIs U C n d v := by
  obtain ⟨cfS, iS, kS, fS, st, cS, t1, t2, t3, t4, t5, t6, t7⟩ := S
  exact StaticIs.there (s := { Z with heap := U.heap }) ⟨cfS, iS, kS, fS, st, cS, t1, t2, t3, t4, t5, (fun q => by rw [q] at t6; cases t6), t7⟩ al rfl
/-- **length() OF SUCH A STRING** -/
theorem lenW {p : Program} {l : Launch} {e : Env} {R : Room} {s : State} {args : Array Value} {below : List Frame} {len W : Nat} {Z : State} {a0 : Array Value} {h : Heap} (hZ : Z.Warmed39 s.vm) (hw : ∀ d ∈ wordsLen, d.before a0 Z = true) {kI : Nat} (wi : (Jvm.Cond.instantiable ST kI).before a0 Z = true)
    {x t : Addr} {kb : ClassId} {cs : List Int32} {cd N2 z : Int32} {vs : List Value} (E : RoadKit.Exa Z h x ST) (V : RoadKit.Fld Z h x ST "value" "[B" (.ref t)) (C : RoadKit.Fld Z h x ST "coder" "B" (.int cd)) (K : RoadKit.Arv Z h t kb .byte N2 vs (.int 0)) (hc : CodA cs cd N2 vs) (hb : ∀ c ∈ cs, ¬ c < 0 ∧ ¬ (65535 : Int32) < c)
    (S : RoadKit.Sta Z h ST "COMPACT_STRINGS" "Z" (.int z)) (hz : ¬ z = 0) (l2 : cs.length ≤ 4000) (hfr : 2 ≤ R.frames) (hlo : W + 25 ≤ R.locals) :
    Back l R p e below s args (⟨"java/lang/String", "length", "()I"⟩ : MethodName) len W (fun P a => a = #[.ref x] ∧ P.U.heap = h ∧ P.cells + 0 ≤ R.cells ∧ P.slots + 0 ≤ R.slots)
      (fun P _ v B => ∃ L, (v = some (.int (Int32.ofNat cs.length)) ∧ L = [] ∧ B.U.heap = h) ∧ B.locs = P.locs ++ L ∧ B.cells = P.cells + 0 ∧ B.slots = P.slots + 0) := by
  obtain ⟨A, K1, K2, K3, K4, K5, K6⟩ := K
  have hcod := hc.cod (by omega) K3 K5
  intro m meth c P g ig mk a X hg hsize hdg hW hn hp'
  obtain ⟨rfl, rfl, r1, r2⟩ := hp'
  have al : Z.vm.Alike P.U.vm := hZ.alike.trans X.warmed.alike
  obtain ⟨D, fV, fC, hB, F1, F2, g1, g2, -, -⟩ := strObj wi al E V C
  have hx : Txt x t A cd cs.length (fun j => cs.getD j 0) P.U := ⟨⟨_, hB.2.2.1, D, hB.1, rfl, by cases q : D.vm <;> first | rfl | exact absurd q (hB.2.1.2 _)⟩, Has.of hB F1 g1, Has.of hB F2 g2, ⟨K1.1, State.isArrayOf_alike al K1.2.1, K1.2.2, by rcases hcod with ⟨-, q, -⟩ | ⟨-, q, -⟩ <;> omega⟩, hcod, fun j hj => by
    have e : cs.getD j 0 = cs[j] := by simp [List.getD_eq_getElem?_getD, hj]
    show ¬ cs.getD j 0 < 0 ∧ ¬ 65535 < cs.getD j 0
    rw [e]; exact hb _ (List.getElem_mem _)⟩
  obtain ⟨v, B, X', ⟨⟨hv, hh⟩, hl, hk, hs⟩, st⟩ := Len.pays x t A cd cs.length (fun j => cs.getD j 0) z (tabLen_of (movedLen hZ hw)) hfr hlo m meth c P g ig mk _ X hg hsize hdg hW hn ⟨r1, r2, rfl, hx, sta_is al S, hz⟩
  exact ⟨v, B, X', ⟨[], ⟨hv, rfl, hh⟩, hl, hk, hs⟩, st⟩
end StrChars.Road
namespace StrChars
open Jvm Sem ClassFile Op Lib Jvm.Stand Jvm.Free.XT Jvm.Free.ALB Jvm.Free.JM Jvm.Free
open Jvm.Lib.Cold (StaticIs)
namespace Emp
def yN : MethodName := ⟨"java/lang/String", "isEmpty", "()Z"⟩
abbrev yB : ByteArray := jdk_42_method_55_code
theorem d0 : decode yB 0 = .ok (.aload_n 0, 1) := by decide +kernel
theorem d1 : decode yB 1 = .ok (.getfield 9, 3) := by decide +kernel
theorem d4 : decode yB 4 = .ok (.arraylength, 1) := by decide +kernel
theorem d5 : decode yB 5 = .ok (.ifCond (.ne) 7, 3) := by decide +kernel
theorem d8 : decode yB 8 = .ok (.iconst 1, 1) := by decide +kernel
theorem d9 : decode yB 9 = .ok (.goto 4, 3) := by decide +kernel
theorem d12 : decode yB 12 = .ok (.iconst 0, 1) := by decide +kernel
theorem d13 : decode yB 13 = .ok (.ireturn, 1) := by decide +kernel
def site : List Cond := [.fieldLink "java/lang/String" 9 "java/lang/String" "value" "[B"]
def tab : Cond := tabOf yN yB 1 (some .boolean) site
def P (x t : Addr) (V : Cell) (cd : Int32) (n : Nat) (f : Nat → Int32) (args : Array Value) (s : State) : Prop := args = #[.ref x] ∧ Txt x t V cd n f s
def E (n : Nat) (r : Option Value) (s u : State) : Prop := XT.PureE (some (.int (if n = 0 then 1 else 0))) r s u
/-- isEmpty() of a String of n chars -/
theorem law (l : Launch) (x t : Addr) (V : Cell) (cd : Int32) (n : Nat) (f : Nat → Int32) : Law l yN 1 0 0 0 yB 1 (some .boolean) site (P x t V cd n f) (E n) [] 0 0 := by
  refine Law.of_walk (plainFor_of_name (by decide +kernel)) (by decide +kernel) (by decide +kernel) (by decide) (fun _ _ h => by rw [h.1]; rfl) (fun _ U U' hal hh h => ⟨h.1, h.2.mv hal hh⟩) (fun r U U' V V' h1 hal h2 h => XT.PureE.mv r U U' V V' h1 hal h2 h) ?_
  intro p e s m args below meth c s₁ X0 hexec hbytes hml hret hlk hnm hown hh0 W hP
  obtain ⟨rfl, hx⟩ := hP
  have v31 := hx.2.2.2.1.2.2.2
  have c1 : Steps p.tables e below (s₁.setTop (entryFrame m #[.ref x] 1)) (s₁.setTop (mkF m 1 #[.val (.ref x)] [.ref x])) := Steps.trans (entry rfl) (by
    show Steps p.tables e below (s₁.setTop (mkF m 0 #[.val (.ref x)] [])) _
    refine XS.aloadN X0.here hexec rfl (hb hbytes d0) rfl rfl ?_
    exact Steps.refl _)
  obtain ⟨T2, X2, q2, st2⟩ := X0.hget hexec hown (wk W (.fieldLink "java/lang/String" 9 "java/lang/String" "value" "[B")) (hx.mv X0.warmed.alike hh0).2.1 (g := (mkF m 1 #[.val (.ref x)] [.ref x])) rfl (rest := []) rfl (hb hbytes d1)
  have hh2 := q2.trans hh0
  have hx2 := hx.mv X2.warmed.alike hh2
  have c3 : Steps p.tables e below (s₁.setTop (entryFrame m #[.ref x] 1)) (T2.setTop (mkF m 5 #[.val (.ref x)] [.int (Int32.ofNat V.slots.size)])) := (c1.trans (st2 _ (Steps.refl _))).trans (by
    refine X2.alen hexec hx2.2.2.2.1 rfl rfl (hb hbytes d4) ?_
    exact Steps.refl _)
  have hz : V.slots.size = 0 ↔ n = 0 := by
    rcases hx.2.2.2.2.1 with ⟨-, q, -⟩ | ⟨-, q, -⟩ <;> omega
  by_cases h0 : n = 0
  · have c4 : Steps p.tables e below (s₁.setTop (entryFrame m #[.ref x] 1)) (T2.setTop (mkF m 13 #[.val (.ref x)] [.int 1])) := c3.trans (by
      refine XS.ifNo X2.here hexec rfl (hb hbytes d5) rfl (i0_ne_f (by rw [hz.mpr h0]; rfl)) ?_
      refine iconstV X2.here hexec rfl 1 (hb hbytes d8) (by decide) ?_
      refine XS.goto X2.here hexec rfl (pc0 := 9) rfl (hb hbytes d9) (by decide) rfl ?_
      exact Steps.refl _)
    exact ⟨T2, some (.int 1), _, _, _, X2, rfl, rfl, rfl, (fun h => by cases h), ⟨by rw [if_pos h0], hh2⟩, fun fs hl => c4.trans (X2.ireturnOut hexec hret rfl (Or.inr (Or.inl rfl)) (hb hbytes d13) hl)⟩
  · have c4 : Steps p.tables e below (s₁.setTop (entryFrame m #[.ref x] 1)) (T2.setTop (mkF m 13 #[.val (.ref x)] [.int 0])) := c3.trans (by
      refine XS.ifYes X2.here hexec rfl (pc0 := 5) rfl (hb hbytes d5) rfl (i0_ne_t (nz32 v31 (by omega))) (by decide) rfl ?_
      refine iconstV X2.here hexec rfl 0 (hb hbytes d12) (by decide) ?_
      exact Steps.refl _)
    exact ⟨T2, some (.int 0), _, _, _, X2, rfl, rfl, rfl, (fun h => by cases h), ⟨by rw [if_neg h0], hh2⟩, fun fs hl => c4.trans (X2.ireturnOut hexec hret rfl (Or.inr (Or.inl rfl)) (hb hbytes d13) hl)⟩
theorem pays {l : Launch} {R : Room} {p : Program} {e : Env} {below : List Frame} {s : State} {sargs : Array Value} {len W : Nat} (x t : Addr) (V : Cell) (cd : Int32) (n : Nat) (f : Nat → Int32) (htab : tab.before sargs s = true) (hfr : 1 ≤ R.frames) (hlo : W + 12 ≤ R.locals) :
    Back l R p e below s sargs yN len W (fun A₁ a₁ => A₁.cells + 0 ≤ R.cells ∧ A₁.slots + 0 ≤ R.slots ∧ P x t V cd n f a₁ A₁.U) (fun A₁ _ v₁ B₁ => E n v₁ A₁.U B₁.U ∧ B₁.locs = A₁.locs ++ [] ∧ B₁.cells = A₁.cells + 0 ∧ B₁.slots = A₁.slots + 0) :=
  (law l x t V cd n f).pays htab hfr (by omega)
end Emp
/-- what place i of a byte[]'s cell holds -/
def yv (A : Cell) (i : Nat) : Int32 := match A.slots[i]? with | some (.int x) => x | _ => 0
theorem yv_get {a : Addr} {A : Cell} {U : State} (h : XT.Arr .byte a A U) (ht : Typed .byte A) {i : Nat} (hi : i < A.slots.size) : A.slots[i]? = some (.int (yv A i)) := by
  have e := Array.getElem?_eq_getElem hi
  have f := ht i _ e
  unfold yv; rw [e]
  generalize A.slots[i] = v at f
  cases v <;> simp [fits] at f ⊢
/-- the two arrays are equal, place for place -/
def EqC (A B : Cell) : Prop := A.slots.size = B.slots.size ∧ ∀ i, i < A.slots.size → yv A i = yv B i
/-- a boolean that says whether p -/
def Says01 (q : Prop) (r : Option Value) (s u : State) : Prop := ∃ v : Int32, r = some (.int v) ∧ u.heap = s.heap ∧ ((v = 1 ∧ q) ∨ (v = 0 ∧ ¬ q))
theorem Says01.mv {q : Prop} : ∀ r (U U' V V' : State), U'.heap = U.heap → V.vm.Alike V'.vm → V'.heap = V.heap → Says01 q r U V → Says01 q r U' V' :=
  fun r U U' V V' h1 _ h2 ⟨v, a, b, c⟩ => ⟨v, a, by rw [h1, h2]; exact b, c⟩
namespace LEq
def yN : MethodName := ⟨"java/lang/StringLatin1", "equals", "([B[B)Z"⟩
abbrev yB : ByteArray := jdk_43_method_13_code
theorem d0 : decode yB 0 = .ok (.aload_n 0, 1) := by decide +kernel
theorem d1 : decode yB 1 = .ok (.arraylength, 1) := by decide +kernel
theorem d2 : decode yB 2 = .ok (.aload_n 1, 1) := by decide +kernel
theorem d3 : decode yB 3 = .ok (.arraylength, 1) := by decide +kernel
theorem d4 : decode yB 4 = .ok (.if_icmp (.ne) 30, 3) := by decide +kernel
theorem d7 : decode yB 7 = .ok (.iconst 0, 1) := by decide +kernel
theorem d8 : decode yB 8 = .ok (.istore_n 2, 1) := by decide +kernel
theorem d9 : decode yB 9 = .ok (.iload_n 2, 1) := by decide +kernel
theorem d10 : decode yB 10 = .ok (.aload_n 0, 1) := by decide +kernel
theorem d11 : decode yB 11 = .ok (.arraylength, 1) := by decide +kernel
theorem d12 : decode yB 12 = .ok (.if_icmp (.ge) 20, 3) := by decide +kernel
theorem d15 : decode yB 15 = .ok (.aload_n 0, 1) := by decide +kernel
theorem d16 : decode yB 16 = .ok (.iload_n 2, 1) := by decide +kernel
theorem d17 : decode yB 17 = .ok (.baload, 1) := by decide +kernel
theorem d18 : decode yB 18 = .ok (.aload_n 1, 1) := by decide +kernel
theorem d19 : decode yB 19 = .ok (.iload_n 2, 1) := by decide +kernel
theorem d20 : decode yB 20 = .ok (.baload, 1) := by decide +kernel
theorem d21 : decode yB 21 = .ok (.if_icmp (.eq) 5, 3) := by decide +kernel
theorem d24 : decode yB 24 = .ok (.iconst 0, 1) := by decide +kernel
theorem d25 : decode yB 25 = .ok (.ireturn, 1) := by decide +kernel
theorem d26 : decode yB 26 = .ok (.iinc 2 1, 3) := by decide +kernel
theorem d29 : decode yB 29 = .ok (.goto (-20), 3) := by decide +kernel
theorem d32 : decode yB 32 = .ok (.iconst 1, 1) := by decide +kernel
theorem d33 : decode yB 33 = .ok (.ireturn, 1) := by decide +kernel
theorem d34 : decode yB 34 = .ok (.iconst 0, 1) := by decide +kernel
theorem d35 : decode yB 35 = .ok (.ireturn, 1) := by decide +kernel
def site : List Cond := []
def tab : Cond := tabOf yN yB 3 (some .boolean) site
def P (a : Addr) (A : Cell) (b : Addr) (B : Cell) (args : Array Value) (s : State) : Prop := args = #[.ref a, .ref b] ∧ XT.Arr .byte a A s ∧ Typed .byte A ∧ XT.Arr .byte b B s ∧ Typed .byte B
/-- whether two byte[] are equal, place for place -/
theorem law (l : Launch) (a : Addr) (A : Cell) (b : Addr) (B : Cell) : Law l yN 2 2 0 0 yB 3 (some .boolean) site (P a A b B) (Says01 (EqC A B)) [] 0 0 := by
  refine Law.of_walk (plainFor_of_name (by decide +kernel)) (by decide +kernel) (by decide +kernel) (by decide) (fun _ _ h => by rw [h.1]; rfl) (fun _ U U' hal hh h => ⟨h.1, h.2.1.mv hal hh, h.2.2.1, h.2.2.2.1.mv hal hh, h.2.2.2.2⟩) (fun r U U' V V' h1 hal h2 h => Says01.mv r U U' V V' h1 hal h2 h) ?_
  intro p e s m args below meth c s₁ X0 hexec hbytes hml hret hlk hnm hown hh0 W hP
  obtain ⟨rfl, hA, tA, hB, tB⟩ := hP
  have a31 := hA.2.2.2
  have b31 := hB.2.2.2
  have hA0 := hA.mv X0.warmed.alike hh0
  have hB0 := hB.mv X0.warmed.alike hh0
  have c1 : Steps p.tables e below (s₁.setTop (entryFrame m #[.ref a, .ref b] 3)) (s₁.setTop (mkF m 0 #[.val (.ref a), .val (.ref b), .unset] [])) := entry rfl
  have c2 : Steps p.tables e below (s₁.setTop (entryFrame m #[.ref a, .ref b] 3)) (s₁.setTop (mkF m 4 #[.val (.ref a), .val (.ref b), .unset] [.int (Int32.ofNat B.slots.size), .int (Int32.ofNat A.slots.size)])) := c1.trans (by
    refine XS.aloadN X0.here hexec rfl (hb hbytes d0) rfl rfl ?_
    refine X0.alen hexec hA0 rfl rfl (hb hbytes d1) ?_
    refine XS.aloadN X0.here hexec rfl (hb hbytes d2) rfl rfl ?_
    refine X0.alen hexec hB0 rfl rfl (hb hbytes d3) ?_
    exact Steps.refl _)
  by_cases hs : A.slots.size = B.slots.size
  · have c3 : Steps p.tables e below (s₁.setTop (entryFrame m #[.ref a, .ref b] 3)) (s₁.setTop (mkF m 9 #[.val (.ref a), .val (.ref b), .val (.int 0)] [])) := c2.trans (by
      refine XS.icmpNo X0.here hexec rfl (hb hbytes d4) rfl (ii_ne_f (by rw [hs])) ?_
      refine iconstV X0.here hexec rfl 0 (hb hbytes d7) (by decide) ?_
      refine XS.istoreN X0.here hexec rfl (hb hbytes d8) rfl rfl ?_
      exact Steps.refl _)
    have loop : ∀ (r i : Nat), i + r = A.slots.size → (∀ j, j < i → yv A j = yv B j) → Steps p.tables e below (s₁.setTop (entryFrame m #[.ref a, .ref b] 3)) (s₁.setTop (mkF m 9 #[.val (.ref a), .val (.ref b), .val (.int (Int32.ofNat i))] [])) → ∃ (pc : Nat) (Ls : Array Slot) (v : Int32), (pc = 25 ∨ pc = 33) ∧ ((v = 1 ∧ EqC A B) ∨ (v = 0 ∧ ¬ EqC A B)) ∧ Steps p.tables e below (s₁.setTop (entryFrame m #[.ref a, .ref b] 3)) (s₁.setTop (mkF m pc Ls [.int v])) := by
      intro r
      induction r with
      | zero =>
        intro i hi he cl
        exact ⟨33, _, 1, Or.inr rfl, Or.inl ⟨rfl, hs, fun j hj => he j (by omega)⟩, cl.trans (by
          refine XS.iloadN X0.here hexec rfl (hb hbytes d9) rfl ?_
          refine XS.aloadN X0.here hexec rfl (hb hbytes d10) rfl rfl ?_
          refine X0.alen hexec hA0 rfl rfl (hb hbytes d11) ?_
          refine XS.icmpYes X0.here hexec rfl (pc0 := 12) rfl (hb hbytes d12) rfl (ii_ge_t (nlt32 (by omega) (by omega))) (by decide) rfl ?_
          refine iconstV X0.here hexec rfl 1 (hb hbytes d32) (by decide) ?_
          exact Steps.refl _)⟩
      | succ r ih =>
        intro i hi he cl
        have c4 : Steps p.tables e below (s₁.setTop (entryFrame m #[.ref a, .ref b] 3)) (s₁.setTop (mkF m 21 #[.val (.ref a), .val (.ref b), .val (.int (Int32.ofNat i))] [.int (yv B i), .int (yv A i)])) := cl.trans (by
          refine XS.iloadN X0.here hexec rfl (hb hbytes d9) rfl ?_
          refine XS.aloadN X0.here hexec rfl (hb hbytes d10) rfl rfl ?_
          refine X0.alen hexec hA0 rfl rfl (hb hbytes d11) ?_
          refine XS.icmpNo X0.here hexec rfl (hb hbytes d12) rfl (ii_ge_f (lt32 (by omega) (by omega))) ?_
          refine XS.aloadN X0.here hexec rfl (hb hbytes d15) rfl rfl ?_
          refine XS.iloadN X0.here hexec rfl (hb hbytes d16) rfl ?_
          refine X0.aget hexec hA0 rfl (yv_get hA tA (i := i) (by omega)) rfl rfl (hb hbytes d17) ?_
          refine XS.aloadN X0.here hexec rfl (hb hbytes d18) rfl rfl ?_
          refine XS.iloadN X0.here hexec rfl (hb hbytes d19) rfl ?_
          refine X0.aget hexec hB0 rfl (yv_get hB tB (i := i) (by omega)) rfl rfl (hb hbytes d20) ?_
          exact Steps.refl _)
        by_cases hv : yv A i = yv B i
        · have c5 : Steps p.tables e below (s₁.setTop (entryFrame m #[.ref a, .ref b] 3)) (s₁.setTop (mkF m 9 #[.val (.ref a), .val (.ref b), .val (.int (Int32.ofNat i + 1))] [])) := c4.trans (by
            refine XS.icmpYes X0.here hexec rfl (pc0 := 21) rfl (hb hbytes d21) rfl (ii_eq_t hv) (by decide) rfl ?_
            refine iincV X0.here hexec rfl 1 (hb hbytes d26) (by decide) rfl rfl ?_
            refine XS.goto X0.here hexec rfl (pc0 := 29) rfl (hb hbytes d29) (by decide) rfl ?_
            exact Steps.refl _)
          rw [succ32] at c5
          exact ih (i + 1) (by omega) (fun j hj => by
            by_cases e : j = i
            · rw [e]; exact hv
            · exact he j (by omega)) c5
        · exact ⟨25, _, 0, Or.inl rfl, Or.inr ⟨rfl, fun q => hv (q.2 i (by omega))⟩, c4.trans (by
            refine XS.icmpNo X0.here hexec rfl (hb hbytes d21) rfl (ii_eq_f hv) ?_
            refine iconstV X0.here hexec rfl 0 (hb hbytes d24) (by decide) ?_
            exact Steps.refl _)⟩
    obtain ⟨pc, Ls, v, hpc, hv, cz⟩ := loop A.slots.size 0 (by omega) (fun j hj => absurd hj (Nat.not_lt_zero j)) c3
    have nv : narrow .boolean (.int v) = .int v := by rcases hv with ⟨rfl, -⟩ | ⟨rfl, -⟩ <;> rfl
    rcases hpc with rfl | rfl
    · exact ⟨s₁, some (.int v), _, _, _, X0, rfl, rfl, rfl, (fun h => by cases h), ⟨v, rfl, hh0, hv⟩, fun fs hl => cz.trans (X0.ireturnOut hexec hret nv (Or.inr (Or.inl rfl)) (hb hbytes d25) hl)⟩
    · exact ⟨s₁, some (.int v), _, _, _, X0, rfl, rfl, rfl, (fun h => by cases h), ⟨v, rfl, hh0, hv⟩, fun fs hl => cz.trans (X0.ireturnOut hexec hret nv (Or.inr (Or.inl rfl)) (hb hbytes d33) hl)⟩
  · have c3 : Steps p.tables e below (s₁.setTop (entryFrame m #[.ref a, .ref b] 3)) (s₁.setTop (mkF m 35 #[.val (.ref a), .val (.ref b), .unset] [.int 0])) := c2.trans (by
      refine XS.icmpYes X0.here hexec rfl (pc0 := 4) rfl (hb hbytes d4) rfl (ii_ne_t (ne32 a31 b31 hs)) (by decide) rfl ?_
      refine iconstV X0.here hexec rfl 0 (hb hbytes d34) (by decide) ?_
      exact Steps.refl _)
    exact ⟨s₁, some (.int 0), _, _, _, X0, rfl, rfl, rfl, (fun h => by cases h), ⟨0, rfl, hh0, Or.inr ⟨rfl, fun q => hs q.1⟩⟩, fun fs hl => c3.trans (X0.ireturnOut hexec hret rfl (Or.inr (Or.inl rfl)) (hb hbytes d35) hl)⟩
end LEq
theorem Cod.ty {cd : Int32} {n : Nat} {f : Nat → Int32} {V : Cell} (h : Cod cd n f V) : Typed .byte V := fun i v hv => by
  have hi : i < V.slots.size := (Array.getElem?_eq_some_iff.mp hv).1
  rcases h with ⟨-, k1, k2⟩ | ⟨-, k1, k2, -⟩
  · rw [(k2 i (by omega)).1] at hv; cases hv; exact fits_lo8 _
  · rcases Nat.mod_two_eq_zero_or_one i with e | e
    · obtain ⟨j, rfl⟩ : ∃ j, i = 2 * j := ⟨i / 2, by omega⟩
      rw [(k2 j (by omega)).1] at hv; cases hv; exact fits_lo8 _
    · obtain ⟨j, rfl⟩ : ∃ j, i = 2 * j + 1 := ⟨i / 2, by omega⟩
      rw [(k2 j (by omega)).2] at hv; cases hv; exact fits_lo8 _
/-- the same text -/
def SameT (n : Nat) (f : Nat → Int32) (k : Nat) (g : Nat → Int32) : Prop := n = k ∧ ∀ j, j < n → f j = g j
theorem lo8_inj {x y : Int32} (h0 : ¬ x < 0) (h1 : ¬ 255 < x) (k0 : ¬ y < 0) (k1 : ¬ 255 < y) (h : lo8 x = lo8 y) : x = y := by
  rw [← lo8_mask h0 h1, ← lo8_mask k0 k1, h]
/-- arrays coded by one coder are equal just where the texts are -/
theorem Cod.eqv {cd : Int32} {n k : Nat} {f g : Nat → Int32} {V V' : Cell} (h : Cod cd n f V) (h' : Cod cd k g V') (hf : ∀ j, j < n → ¬ f j < 0 ∧ ¬ 65535 < f j) (hg : ∀ j, j < k → ¬ g j < 0 ∧ ¬ 65535 < g j) : EqC V V' ↔ SameT n f k g := by
  have yvv : ∀ {W : Cell} {i : Nat} {x : Int32}, W.slots[i]? = some (.int x) → yv W i = x := fun q => by unfold yv; rw [q]
  rcases h with ⟨rfl, k1, k2⟩ | ⟨rfl, k1, k2, -⟩
  · rcases h' with ⟨-, m1, m2⟩ | ⟨e, -⟩
    · constructor
      · rintro ⟨e1, e2⟩
        refine ⟨by omega, fun j hj => ?_⟩
        have q := e2 j (by omega)
        rw [yvv (k2 j hj).1, yvv (m2 j (by omega)).1] at q
        exact lo8_inj (hf j hj).1 (k2 j hj).2 (hg j (by omega)).1 (m2 j (by omega)).2 q
      · rintro ⟨rfl, e2⟩
        refine ⟨by omega, fun j hj => ?_⟩
        rw [yvv (k2 j (by omega)).1, yvv (m2 j (by omega)).1, e2 j (by omega)]
    · exact absurd e (by decide)
  · rcases h' with ⟨e, -⟩ | ⟨-, m1, m2, -⟩
    · exact absurd e (by decide)
    · constructor
      · rintro ⟨e1, e2⟩
        refine ⟨by omega, fun j hj => ?_⟩
        have q1 := e2 (2 * j) (by omega)
        have q2 := e2 (2 * j + 1) (by omega)
        rw [yvv (k2 j hj).1, yvv (m2 j (by omega)).1] at q1
        rw [yvv (k2 j hj).2, yvv (m2 j (by omega)).2] at q2
        rw [← pair_says (hf j hj).1 (hf j hj).2, ← pair_says (hg j (by omega)).1 (hg j (by omega)).2, q1, q2]
      · rintro ⟨rfl, e2⟩
        refine ⟨by omega, fun i hi => ?_⟩
        rcases Nat.mod_two_eq_zero_or_one i with e | e
        · obtain ⟨j, rfl⟩ : ∃ j, i = 2 * j := ⟨i / 2, by omega⟩
          rw [yvv (k2 j (by omega)).1, yvv (m2 j (by omega)).1, e2 j (by omega)]
        · obtain ⟨j, rfl⟩ : ∃ j, i = 2 * j + 1 := ⟨i / 2, by omega⟩
          rw [yvv (k2 j (by omega)).2, yvv (m2 j (by omega)).2, e2 j (by omega)]
/-- two codings differ: so do the texts -/
theorem Cod.dif {cd cd' : Int32} {n k : Nat} {f g : Nat → Int32} {V V' : Cell} (h : Cod cd n f V) (h' : Cod cd' k g V') (hne : ¬ cd = cd') : ¬ SameT n f k g := by
  rintro ⟨rfl, e⟩
  rcases h with ⟨rfl, -, k2⟩ | ⟨rfl, -, -, j, hj, hw⟩
  · rcases h' with ⟨rfl, -⟩ | ⟨-, -, -, j, hj, hw⟩
    · exact hne rfl
    · exact (k2 j hj).2 (by rw [e j hj]; exact hw)
  · rcases h' with ⟨-, -, m2⟩ | ⟨rfl, -⟩
    · exact (m2 j hj).2 (by rw [← e j hj]; exact hw)
    · exact hne rfl
/-- an object of exactly C is an instance of C -/
theorem cinst {p : Program} {l : Launch} {e : Env} {R : Room} {s : State} {m : MethodId} {args : Array Value} {below : List Frame} {meth : Method} {c : Code} {T : State} {locs : List Loc} {cells slots : Nat} (X : Stand p l e R s m args below meth c T locs cells slots) (hexec : p.tables.exec = Jvm.exec) {own C : String} {index : Nat} (hown : s.vm.findClass own = some m.cls) (hlink : (Cond.classLink own index C).before args s = true) {a : Addr} (hE : Exact C a T)
    {g : JFrame} (hg : g.method = m) {rest : List Value} (hstack : g.stack = .ref a :: rest) (hdg : decode c.code g.pc = .ok (.instanceof index, 3)) :
    ∃ T', Stand p l e R s m args below meth c T' locs cells slots ∧ T'.heap = T.heap ∧ ∀ target, Steps p.tables e below (T'.setTop { g with pc := g.pc + 3, stack := .int 1 :: rest }) target → Steps p.tables e below (T.setTop g) target := by
  obtain ⟨cB, h1, D, h2, h3, h4⟩ := hE
  have h1' : s.vm.findClass C = some cB := by rw [← X.warmed.alike.findClass]; exact h1
  obtain ⟨vm', X', st⟩ := X.instanceofYes hexec hown hlink h2 h4 h1' (by rw [h3]; exact Jvm.Free.SB.assignable_self _ _) hg hstack hdg
  exact ⟨_, X', rfl, st⟩
theorem cself {p : Program} {l : Launch} {e : Env} {R : Room} {s : State} {m : MethodId} {args : Array Value} {below : List Frame} {meth : Method} {c : Code} {T : State} {locs : List Loc} {cells slots : Nat} (X : Stand p l e R s m args below meth c T locs cells slots) (hexec : p.tables.exec = Jvm.exec) {own C : String} {index : Nat} (hown : s.vm.findClass own = some m.cls) (hlink : (Cond.classLink own index C).before args s = true) {a : Addr} (hE : Exact C a T)
    {g : JFrame} (hg : g.method = m) {rest : List Value} (hstack : g.stack = .ref a :: rest) (hdg : decode c.code g.pc = .ok (.checkcast index, 3)) :
    ∃ T', Stand p l e R s m args below meth c T' locs cells slots ∧ T'.heap = T.heap ∧ ∀ target, Steps p.tables e below (T'.setTop { g with pc := g.pc + 3, stack := .ref a :: rest }) target → Steps p.tables e below (T.setTop g) target := by
  obtain ⟨cB, h1, D, h2, h3, h4⟩ := hE
  have h1' : s.vm.findClass C = some cB := by rw [← X.warmed.alike.findClass]; exact h1
  obtain ⟨vm', X', st⟩ := X.checkcastYes hexec hown hlink h2 h4 h1' (by rw [h3]; exact Jvm.Free.SB.assignable_self _ _) hg hstack hdg
  exact ⟨_, X', rfl, fun t h => st t (by rw [← hstack] at h; exact h)⟩
namespace SEq
def yN : MethodName := ⟨"java/lang/String", "equals", "(Ljava/lang/Object;)Z"⟩
abbrev yB : ByteArray := jdk_42_method_66_code
theorem d0 : decode yB 0 = .ok (.aload_n 0, 1) := by decide +kernel
theorem d1 : decode yB 1 = .ok (.aload_n 1, 1) := by decide +kernel
theorem d2 : decode yB 2 = .ok (.if_acmp (.ne) 5, 3) := by decide +kernel
theorem d5 : decode yB 5 = .ok (.iconst 1, 1) := by decide +kernel
theorem d6 : decode yB 6 = .ok (.ireturn, 1) := by decide +kernel
theorem d7 : decode yB 7 = .ok (.aload_n 1, 1) := by decide +kernel
theorem d8 : decode yB 8 = .ok (.instanceof 10, 3) := by decide +kernel
theorem d11 : decode yB 11 = .ok (.ifCond (.eq) 43, 3) := by decide +kernel
theorem d14 : decode yB 14 = .ok (.aload_n 1, 1) := by decide +kernel
theorem d15 : decode yB 15 = .ok (.checkcast 10, 3) := by decide +kernel
theorem d18 : decode yB 18 = .ok (.astore_n 2, 1) := by decide +kernel
theorem d19 : decode yB 19 = .ok (.getstatic 38, 3) := by decide +kernel
theorem d22 : decode yB 22 = .ok (.ifCond (.eq) 14, 3) := by decide +kernel
theorem d25 : decode yB 25 = .ok (.aload_n 0, 1) := by decide +kernel
theorem d26 : decode yB 26 = .ok (.getfield 15, 3) := by decide +kernel
theorem d29 : decode yB 29 = .ok (.aload_n 2, 1) := by decide +kernel
theorem d30 : decode yB 30 = .ok (.getfield 15, 3) := by decide +kernel
theorem d33 : decode yB 33 = .ok (.if_icmp (.ne) 21, 3) := by decide +kernel
theorem d36 : decode yB 36 = .ok (.aload_n 0, 1) := by decide +kernel
theorem d37 : decode yB 37 = .ok (.getfield 9, 3) := by decide +kernel
theorem d40 : decode yB 40 = .ok (.aload_n 2, 1) := by decide +kernel
theorem d41 : decode yB 41 = .ok (.getfield 9, 3) := by decide +kernel
theorem d44 : decode yB 44 = .ok (.invokestatic 541, 3) := by decide +kernel
theorem d47 : decode yB 47 = .ok (.ifCond (.eq) 7, 3) := by decide +kernel
theorem d50 : decode yB 50 = .ok (.iconst 1, 1) := by decide +kernel
theorem d51 : decode yB 51 = .ok (.goto 4, 3) := by decide +kernel
theorem d54 : decode yB 54 = .ok (.iconst 0, 1) := by decide +kernel
theorem d55 : decode yB 55 = .ok (.ireturn, 1) := by decide +kernel
def site : List Cond := [.classLink "java/lang/String" 10 "java/lang/String", .fieldLink "java/lang/String" 38 "java/lang/String" "COMPACT_STRINGS" "Z", .fieldLink "java/lang/String" 15 "java/lang/String" "coder" "B", .fieldLink "java/lang/String" 9 "java/lang/String" "value" "[B", LEq.tab] ++ staticW "java/lang/String" 541 LEq.yN
def tab : Cond := tabOf yN yB 3 (some .boolean) site
def P (x t : Addr) (V : Cell) (cd : Int32) (n : Nat) (f : Nat → Int32) (y t' : Addr) (V' : Cell) (cd' : Int32) (k : Nat) (g : Nat → Int32) (z : Int32) (args : Array Value) (s : State) : Prop := args = #[.ref x, .ref y] ∧ Txt x t V cd n f s ∧ Txt y t' V' cd' k g s ∧ StaticIs s "java/lang/String" "COMPACT_STRINGS" "Z" (.int z) ∧ ¬ z = 0
/-- equals(Object) of two Strings: whether the texts are the same -/
theorem law (l : Launch) (x t : Addr) (V : Cell) (cd : Int32) (n : Nat) (f : Nat → Int32) (y t' : Addr) (V' : Cell) (cd' : Int32) (k : Nat) (g : Nat → Int32) (z : Int32) : Law l yN 2 1 1 14 yB 3 (some .boolean) site (P x t V cd n f y t' V' cd' k g z) (Says01 (SameT n f k g)) [] 0 0 := by
  refine Law.of_walk (plainFor_of_name (by decide +kernel)) (by decide +kernel) (by decide +kernel) (by decide) (fun _ _ h => by rw [h.1]; rfl) (fun _ U U' hal hh h => ⟨h.1, h.2.1.mv hal hh, h.2.2.1.mv hal hh, h.2.2.2.1.there hal hh, h.2.2.2.2⟩) (fun r U U' V V' h1 hal h2 h => Says01.mv r U U' V V' h1 hal h2 h) ?_
  intro p e s m args below meth c s₁ X0 hexec hbytes hml hret hlk hnm hown hh0 W hP
  obtain ⟨rfl, hx, hy, s1, hz⟩ := hP
  have c1 : Steps p.tables e below (s₁.setTop (entryFrame m #[.ref x, .ref y] 3)) (s₁.setTop (mkF m 2 #[.val (.ref x), .val (.ref y), .unset] [.ref y, .ref x])) := Steps.trans (entry rfl) (by
    show Steps p.tables e below (s₁.setTop (mkF m 0 #[.val (.ref x), .val (.ref y), .unset] [])) _
    refine XS.aloadN X0.here hexec rfl (hb hbytes d0) rfl rfl ?_
    refine XS.aloadN X0.here hexec rfl (hb hbytes d1) rfl rfl ?_
    exact Steps.refl _)
  by_cases hxy : x = y
  · have c2 : Steps p.tables e below (s₁.setTop (entryFrame m #[.ref x, .ref y] 3)) (s₁.setTop (mkF m 6 #[.val (.ref x), .val (.ref y), .unset] [.int 1])) := c1.trans (by
      refine acmpNo X0.here hexec rfl (hb hbytes d2) rfl rfl rfl (by simp [acmp, hxy]) ?_
      refine iconstV X0.here hexec rfl 1 (hb hbytes d5) (by decide) ?_
      exact Steps.refl _)
    subst hxy
    have ec : cd = cd' := by
      obtain ⟨D, fd, a1, a2, a3⟩ := hx.2.2.1
      obtain ⟨D', fd', b1, b2, b3⟩ := hy.2.2.1
      cases a1.symm.trans b1
      obtain ⟨q1, q2, q3, q4⟩ := a2.1
      obtain ⟨r1, r2, r3, r4⟩ := b2.1
      cases q4.symm.trans r4
      cases a3.symm.trans b3; rfl
    have et : t = t' := by
      obtain ⟨D, fd, a1, a2, a3⟩ := hx.2.1
      obtain ⟨D', fd', b1, b2, b3⟩ := hy.2.1
      cases a1.symm.trans b1
      obtain ⟨q1, q2, q3, q4⟩ := a2.1
      obtain ⟨r1, r2, r3, r4⟩ := b2.1
      cases q4.symm.trans r4
      cases a3.symm.trans b3; rfl
    subst ec et
    have ev : V = V' := by cases hx.2.2.2.1.1.symm.trans hy.2.2.2.1.1; rfl
    subst ev
    have hs : SameT n f k g := (Cod.eqv hx.2.2.2.2.1 hy.2.2.2.2.1 hx.2.2.2.2.2 hy.2.2.2.2.2).mp ⟨rfl, fun _ _ => rfl⟩
    exact ⟨s₁, some (.int 1), _, _, _, X0, rfl, rfl, rfl, (fun h => by cases h), ⟨1, rfl, hh0, Or.inl ⟨rfl, hs⟩⟩, fun fs hl => c2.trans (X0.ireturnOut hexec hret rfl (Or.inr (Or.inl rfl)) (hb hbytes d6) hl)⟩
  · have c2 : Steps p.tables e below (s₁.setTop (entryFrame m #[.ref x, .ref y] 3)) (s₁.setTop (mkF m 8 #[.val (.ref x), .val (.ref y), .unset] [.ref y])) := c1.trans (by
      refine acmpYes X0.here hexec rfl (pc0 := 2) rfl (hb hbytes d2) rfl rfl rfl (by simp [acmp, hxy]) (by decide) rfl ?_
      refine XS.aloadN X0.here hexec rfl (hb hbytes d7) rfl rfl ?_
      exact Steps.refl _)
    obtain ⟨T3, X3, q3, st3⟩ := cinst X0 hexec hown (wk W (.classLink "java/lang/String" 10 "java/lang/String")) (hy.mv X0.warmed.alike hh0).1 (g := (mkF m 8 #[.val (.ref x), .val (.ref y), .unset] [.ref y])) rfl (rest := []) rfl (hb hbytes d8)
    have hh3 := q3.trans hh0
    have c4 : Steps p.tables e below (s₁.setTop (entryFrame m #[.ref x, .ref y] 3)) (T3.setTop (mkF m 15 #[.val (.ref x), .val (.ref y), .unset] [.ref y])) := (c2.trans (st3 _ (Steps.refl _))).trans (by
      refine XS.ifNo X3.here hexec rfl (hb hbytes d11) rfl (i0_eq_f (by decide)) ?_
      refine XS.aloadN X3.here hexec rfl (hb hbytes d14) rfl rfl ?_
      exact Steps.refl _)
    obtain ⟨T5, X5, q5, st5⟩ := cself X3 hexec hown (wk W (.classLink "java/lang/String" 10 "java/lang/String")) (hy.mv X3.warmed.alike hh3).1 (g := (mkF m 15 #[.val (.ref x), .val (.ref y), .unset] [.ref y])) rfl (rest := []) rfl (hb hbytes d15)
    have hh5 := q5.trans hh3
    have c6 : Steps p.tables e below (s₁.setTop (entryFrame m #[.ref x, .ref y] 3)) (T5.setTop (mkF m 19 #[.val (.ref x), .val (.ref y), .val (.ref y)] [])) := (c4.trans (st5 _ (Steps.refl _))).trans (by
      refine XS.astoreN X5.here hexec rfl (hb hbytes d18) rfl rfl rfl ?_
      exact Steps.refl _)
    obtain ⟨T7, X7, q7, st7⟩ := X5.sget hexec hown (wk W (.fieldLink "java/lang/String" 38 "java/lang/String" "COMPACT_STRINGS" "Z")) s1 (fun _ _ h => by rw [hh5]; exact h) (g := (mkF m 19 #[.val (.ref x), .val (.ref y), .val (.ref y)] [])) rfl (hb hbytes d19)
    have hh7 := q7.trans hh5
    have c8 : Steps p.tables e below (s₁.setTop (entryFrame m #[.ref x, .ref y] 3)) (T7.setTop (mkF m 26 #[.val (.ref x), .val (.ref y), .val (.ref y)] [.ref x])) := (c6.trans (st7 _ (Steps.refl _))).trans (by
      refine XS.ifNo X7.here hexec rfl (hb hbytes d22) rfl (i0_eq_f hz) ?_
      refine XS.aloadN X7.here hexec rfl (hb hbytes d25) rfl rfl ?_
      exact Steps.refl _)
    obtain ⟨T9, X9, q9, st9⟩ := X7.hget hexec hown (wk W (.fieldLink "java/lang/String" 15 "java/lang/String" "coder" "B")) (hx.mv X7.warmed.alike hh7).2.2.1 (g := (mkF m 26 #[.val (.ref x), .val (.ref y), .val (.ref y)] [.ref x])) rfl (rest := []) rfl (hb hbytes d26)
    have hh9 := q9.trans hh7
    have c10 : Steps p.tables e below (s₁.setTop (entryFrame m #[.ref x, .ref y] 3)) (T9.setTop (mkF m 30 #[.val (.ref x), .val (.ref y), .val (.ref y)] [.ref y, .int cd])) := (c8.trans (st9 _ (Steps.refl _))).trans (by
      refine XS.aloadN X9.here hexec rfl (hb hbytes d29) rfl rfl ?_
      exact Steps.refl _)
    obtain ⟨T11, X11, q11, st11⟩ := X9.hget hexec hown (wk W (.fieldLink "java/lang/String" 15 "java/lang/String" "coder" "B")) (hy.mv X9.warmed.alike hh9).2.2.1 (g := (mkF m 30 #[.val (.ref x), .val (.ref y), .val (.ref y)] [.ref y, .int cd])) rfl (rest := [.int cd]) rfl (hb hbytes d30)
    have hh11 := q11.trans hh9
    have c12 : Steps p.tables e below (s₁.setTop (entryFrame m #[.ref x, .ref y] 3)) (T11.setTop (mkF m 33 #[.val (.ref x), .val (.ref y), .val (.ref y)] [.int cd', .int cd])) := c10.trans (st11 _ (Steps.refl _))
    by_cases hcd : cd = cd'
    · subst hcd
      have c13 : Steps p.tables e below (s₁.setTop (entryFrame m #[.ref x, .ref y] 3)) (T11.setTop (mkF m 37 #[.val (.ref x), .val (.ref y), .val (.ref y)] [.ref x])) := c12.trans (by
        refine XS.icmpNo X11.here hexec rfl (hb hbytes d33) rfl (ii_ne_f rfl) ?_
        refine XS.aloadN X11.here hexec rfl (hb hbytes d36) rfl rfl ?_
        exact Steps.refl _)
      obtain ⟨T14, X14, q14, st14⟩ := X11.hget hexec hown (wk W (.fieldLink "java/lang/String" 9 "java/lang/String" "value" "[B")) (hx.mv X11.warmed.alike hh11).2.1 (g := (mkF m 37 #[.val (.ref x), .val (.ref y), .val (.ref y)] [.ref x])) rfl (rest := []) rfl (hb hbytes d37)
      have hh14 := q14.trans hh11
      have c15 : Steps p.tables e below (s₁.setTop (entryFrame m #[.ref x, .ref y] 3)) (T14.setTop (mkF m 41 #[.val (.ref x), .val (.ref y), .val (.ref y)] [.ref y, .ref t])) := (c13.trans (st14 _ (Steps.refl _))).trans (by
        refine XS.aloadN X14.here hexec rfl (hb hbytes d40) rfl rfl ?_
        exact Steps.refl _)
      obtain ⟨T16, X16, q16, st16⟩ := X14.hget hexec hown (wk W (.fieldLink "java/lang/String" 9 "java/lang/String" "value" "[B")) (hy.mv X14.warmed.alike hh14).2.1 (g := (mkF m 41 #[.val (.ref x), .val (.ref y), .val (.ref y)] [.ref y, .ref t])) rfl (rest := [.ref t]) rfl (hb hbytes d41)
      have hh16 := q16.trans hh14
      have c17 : Steps p.tables e below (s₁.setTop (entryFrame m #[.ref x, .ref y] 3)) (T16.setTop (mkF m 44 #[.val (.ref x), .val (.ref y), .val (.ref y)] [.ref t', .ref t])) := c15.trans (st16 _ (Steps.refl _))
      obtain ⟨v18, T18, X18, E18, g18⟩ := X16.callS hexec (LEq.law l t V t' V') hown (wks W (staticW "java/lang/String" 541 LEq.yN)) (wk W LEq.tab) (W := 0) (Nat.le_of_ble_eq_true rfl) (Nat.le_of_ble_eq_true rfl) (Nat.le_refl _) (Nat.le_refl _) (g := (mkF m 44 #[.val (.ref x), .val (.ref y), .val (.ref y)] [.ref t', .ref t])) rfl (by rw [hml]; rfl) c17 (argsL := [.ref t, .ref t']) (rest := []) rfl rfl (by show 2 * 0 + 0 ≤ _; decide) (hb hbytes d44) (⟨rfl, hx.2.2.2.1.mv X16.warmed.alike hh16, hx.2.2.2.2.1.ty, hy.2.2.2.1.mv X16.warmed.alike hh16, hy.2.2.2.2.1.ty⟩)
      obtain ⟨v, rfl, q18, hv⟩ := E18
      have iff := Cod.eqv hx.2.2.2.2.1 hy.2.2.2.2.1 hx.2.2.2.2.2 hy.2.2.2.2.2
      rcases hv with ⟨rfl, he⟩ | ⟨rfl, he⟩
      · have c19 : Steps p.tables e below (s₁.setTop (entryFrame m #[.ref x, .ref y] 3)) (T18.setTop (mkF m 55 #[.val (.ref x), .val (.ref y), .val (.ref y)] [.int 1])) := Steps.trans g18 (by
          refine XS.ifNo X18.here hexec rfl (hb hbytes d47) rfl (i0_eq_f (by decide)) ?_
          refine iconstV X18.here hexec rfl 1 (hb hbytes d50) (by decide) ?_
          refine XS.goto X18.here hexec rfl (pc0 := 51) rfl (hb hbytes d51) (by decide) rfl ?_
          exact Steps.refl _)
        exact ⟨T18, some (.int 1), _, _, _, X18, rfl, rfl, rfl, (fun h => by cases h), ⟨1, rfl, q18.trans hh16, Or.inl ⟨rfl, iff.mp he⟩⟩, fun fs hl => c19.trans (X18.ireturnOut hexec hret rfl (Or.inr (Or.inl rfl)) (hb hbytes d55) hl)⟩
      · have c19 : Steps p.tables e below (s₁.setTop (entryFrame m #[.ref x, .ref y] 3)) (T18.setTop (mkF m 55 #[.val (.ref x), .val (.ref y), .val (.ref y)] [.int 0])) := Steps.trans g18 (by
          refine XS.ifYes X18.here hexec rfl (pc0 := 47) rfl (hb hbytes d47) rfl (i0_eq_t rfl) (by decide) rfl ?_
          refine iconstV X18.here hexec rfl 0 (hb hbytes d54) (by decide) ?_
          exact Steps.refl _)
        exact ⟨T18, some (.int 0), _, _, _, X18, rfl, rfl, rfl, (fun h => by cases h), ⟨0, rfl, q18.trans hh16, Or.inr ⟨rfl, fun q => he (iff.mpr q)⟩⟩, fun fs hl => c19.trans (X18.ireturnOut hexec hret rfl (Or.inr (Or.inl rfl)) (hb hbytes d55) hl)⟩
    · have c13 : Steps p.tables e below (s₁.setTop (entryFrame m #[.ref x, .ref y] 3)) (T11.setTop (mkF m 55 #[.val (.ref x), .val (.ref y), .val (.ref y)] [.int 0])) := c12.trans (by
        refine XS.icmpYes X11.here hexec rfl (pc0 := 33) rfl (hb hbytes d33) rfl (ii_ne_t hcd) (by decide) rfl ?_
        refine iconstV X11.here hexec rfl 0 (hb hbytes d54) (by decide) ?_
        exact Steps.refl _)
      exact ⟨T11, some (.int 0), _, _, _, X11, rfl, rfl, rfl, (fun h => by cases h), ⟨0, rfl, hh11, Or.inr ⟨rfl, Cod.dif hx.2.2.2.2.1 hy.2.2.2.2.1 hcd⟩⟩, fun fs hl => c13.trans (X11.ireturnOut hexec hret rfl (Or.inr (Or.inl rfl)) (hb hbytes d55) hl)⟩
theorem pays {l : Launch} {R : Room} {p : Program} {e : Env} {below : List Frame} {s : State} {sargs : Array Value} {len W : Nat} (x t : Addr) (V : Cell) (cd : Int32) (n : Nat) (f : Nat → Int32) (y t' : Addr) (V' : Cell) (cd' : Int32) (k : Nat) (g : Nat → Int32) (z : Int32) (htab : tab.before sargs s = true) (hfr : 2 ≤ R.frames) (hlo : W + 28 ≤ R.locals) :
    Back l R p e below s sargs yN len W (fun A₁ a₁ => A₁.cells + 0 ≤ R.cells ∧ A₁.slots + 0 ≤ R.slots ∧ P x t V cd n f y t' V' cd' k g z a₁ A₁.U) (fun A₁ _ v₁ B₁ => Says01 (SameT n f k g) v₁ A₁.U B₁.U ∧ B₁.locs = A₁.locs ++ [] ∧ B₁.cells = A₁.cells + 0 ∧ B₁.slots = A₁.slots + 0) :=
  (law l x t V cd n f y t' V' cd' k g z).pays htab hfr (by omega)
end SEq
end StrChars
namespace StrChars.Road
open Jvm Sem ClassFile Op Lib Jvm.Stand Jvm.Free Jvm.Free.XT
open Jvm.Lib.Cold (StaticIs)
/-- the words of String.isEmpty() -/
abbrev wordsEmp : List Jvm.Cond := [.code Emp.yN Emp.yB 1 (some .boolean), .initialized ST, .fieldLink ST 9 ST "value" "[B"]
theorem tabEmp_of {a : Array Value} {s : State} (h : ∀ w ∈ wordsEmp, w.before a s = true) : Emp.tab.before a s = true := unparts (wk h (.code Emp.yN Emp.yB 1 (some .boolean))) (wks h (.initialized Emp.yN.cls :: Emp.site))
theorem movedEmp {Z s : State} {a0 args : Array Value} (hZ : Z.Warmed39 s.vm) (hw : ∀ d ∈ wordsEmp, d.before a0 Z = true) : ∀ d ∈ wordsEmp, d.before args s = true := fun d hd => by
  have t : ∀ d ∈ wordsEmp, (d.onTables && d.keepsFace) = true := by decide +kernel
  exact RoadKit.mv hZ (hw d hd) (t d hd)
/-- the words of String.equals(Object) -/
abbrev wordsEq : List Jvm.Cond := [.code SEq.yN SEq.yB 3 (some .boolean), .initialized ST, .classLink ST 10 ST, .fieldLink ST 38 ST "COMPACT_STRINGS" "Z", .fieldLink ST 15 ST "coder" "B", .fieldLink ST 9 ST "value" "[B", .methodLink ST 541 LEq.yN, .static LEq.yN, .code LEq.yN LEq.yB 3 (some .boolean), .initialized "java/lang/StringLatin1"]
theorem tabEq_of {a : Array Value} {s : State} (h : ∀ w ∈ wordsEq, w.before a s = true) : SEq.tab.before a s = true := by
  have hl : LEq.tab.before a s = true := unparts (wk h (.code LEq.yN LEq.yB 3 (some .boolean))) (wks h (.initialized LEq.yN.cls :: LEq.site))
  have q := consq hl h
  exact unparts (wk q (.code SEq.yN SEq.yB 3 (some .boolean))) (wks q (.initialized SEq.yN.cls :: SEq.site))
theorem movedEq {Z s : State} {a0 args : Array Value} (hZ : Z.Warmed39 s.vm) (hw : ∀ d ∈ wordsEq, d.before a0 Z = true) : ∀ d ∈ wordsEq, d.before args s = true := fun d hd => by
  have t : ∀ d ∈ wordsEq, (d.onTables && d.keepsFace) = true := by decide +kernel
  exact RoadKit.mv hZ (hw d hd) (t d hd)
/-- the road's facts of a String, as the laws ask it -/
theorem txt_of {Z U : State} {a0 : Array Value} {kI : Nat} (wi : (Jvm.Cond.instantiable ST kI).before a0 Z = true) (al : Z.vm.Alike U.vm) {x t : Addr} {kb : ClassId} {cs : List Int32} {cd N2 : Int32} {vs : List Value} (E : RoadKit.Exa Z U.heap x ST) (V : RoadKit.Fld Z U.heap x ST "value" "[B" (.ref t)) (C : RoadKit.Fld Z U.heap x ST "coder" "B" (.int cd)) (K : RoadKit.Arv Z U.heap t kb .byte N2 vs (.int 0)) (hc : CodA cs cd N2 vs) (hb : ∀ c ∈ cs, ¬ c < 0 ∧ ¬ (65535 : Int32) < c) (l2 : cs.length ≤ 4000) :
    ∃ A, Txt x t A cd cs.length (fun j => cs.getD j 0) U := by
  obtain ⟨A, K1, K2, K3, K4, K5, K6⟩ := K
  have hcod := hc.cod (by omega) K3 K5
  obtain ⟨D, fV, fC, hB, F1, F2, g1, g2, -, -⟩ := strObj wi al E V C
  exact ⟨A, ⟨_, hB.2.2.1, D, hB.1, rfl, by cases q : D.vm <;> first | rfl | exact absurd q (hB.2.1.2 _)⟩, Has.of hB F1 g1, Has.of hB F2 g2, ⟨K1.1, State.isArrayOf_alike al K1.2.1, K1.2.2, by rcases hcod with ⟨-, q, -⟩ | ⟨-, q, -⟩ <;> omega⟩, hcod, fun j hj => by
    have e : cs.getD j 0 = cs[j] := by simp [List.getD_eq_getElem?_getD, hj]
    show ¬ cs.getD j 0 < 0 ∧ ¬ 65535 < cs.getD j 0
    rw [e]; exact hb _ (List.getElem_mem _)⟩
theorem same_list (cs ds : List Int32) : SameT cs.length (fun j => cs.getD j 0) ds.length (fun j => ds.getD j 0) ↔ cs = ds := by
  constructor
  · rintro ⟨e, q⟩
    refine List.ext_getElem e fun j h1 h2 => ?_
    have := q j h1
    simpa [List.getD_eq_getElem?_getD, h1, h2] using this
  · rintro rfl
    exact ⟨rfl, fun _ _ => rfl⟩
/-- **isEmpty() OF SUCH A STRING** -/
theorem empW {p : Program} {l : Launch} {e : Env} {R : Room} {s : State} {args : Array Value} {below : List Frame} {len W : Nat} {Z : State} {a0 : Array Value} {h : Heap} (hZ : Z.Warmed39 s.vm) (hw : ∀ d ∈ wordsEmp, d.before a0 Z = true) {kI : Nat} (wi : (Jvm.Cond.instantiable ST kI).before a0 Z = true)
    {x t : Addr} {kb : ClassId} {cs : List Int32} {cd N2 : Int32} {vs : List Value} (E : RoadKit.Exa Z h x ST) (V : RoadKit.Fld Z h x ST "value" "[B" (.ref t)) (C : RoadKit.Fld Z h x ST "coder" "B" (.int cd)) (K : RoadKit.Arv Z h t kb .byte N2 vs (.int 0)) (hc : CodA cs cd N2 vs) (hb : ∀ c ∈ cs, ¬ c < 0 ∧ ¬ (65535 : Int32) < c) (l2 : cs.length ≤ 4000) (hfr : 1 ≤ R.frames) (hlo : W + 12 ≤ R.locals) :
    Back l R p e below s args (⟨"java/lang/String", "isEmpty", "()Z"⟩ : MethodName) len W (fun P a => a = #[.ref x] ∧ P.U.heap = h ∧ P.cells + 0 ≤ R.cells ∧ P.slots + 0 ≤ R.slots)
      (fun P _ v B => ∃ L, (v = some (.int (if cs.length = 0 then 1 else 0)) ∧ L = [] ∧ B.U.heap = h) ∧ B.locs = P.locs ++ L ∧ B.cells = P.cells + 0 ∧ B.slots = P.slots + 0) := by
  intro m meth c P g ig mk a X hg hsize hdg hW hn hp'
  obtain ⟨rfl, rfl, r1, r2⟩ := hp'
  have al : Z.vm.Alike P.U.vm := hZ.alike.trans X.warmed.alike
  obtain ⟨A, hx⟩ := txt_of wi al E V C K hc hb l2
  obtain ⟨v, B, X', ⟨⟨hv, hh⟩, hl, hk, hs⟩, st⟩ := Emp.pays x t A cd cs.length (fun j => cs.getD j 0) (tabEmp_of (movedEmp hZ hw)) hfr hlo m meth c P g ig mk _ X hg hsize hdg hW hn ⟨r1, r2, rfl, hx⟩
  exact ⟨v, B, X', ⟨[], ⟨hv, rfl, hh⟩, hl, hk, hs⟩, st⟩
/-- **equals(Object) OF TWO SUCH STRINGS**: 1 just where the chars are the same -/
theorem eqW {p : Program} {l : Launch} {e : Env} {R : Room} {s : State} {args : Array Value} {below : List Frame} {len W : Nat} {Z : State} {a0 : Array Value} {h : Heap} (hZ : Z.Warmed39 s.vm) (hw : ∀ d ∈ wordsEq, d.before a0 Z = true) {kI : Nat} (wi : (Jvm.Cond.instantiable ST kI).before a0 Z = true)
    {x t : Addr} {kb : ClassId} {cs : List Int32} {cd N2 : Int32} {vs : List Value} (E : RoadKit.Exa Z h x ST) (V : RoadKit.Fld Z h x ST "value" "[B" (.ref t)) (C : RoadKit.Fld Z h x ST "coder" "B" (.int cd)) (K : RoadKit.Arv Z h t kb .byte N2 vs (.int 0)) (hc : CodA cs cd N2 vs) (hb : ∀ c ∈ cs, ¬ c < 0 ∧ ¬ (65535 : Int32) < c) (l2 : cs.length ≤ 4000)
    {y t' : Addr} {kb' : ClassId} {ds : List Int32} {cd' N2' : Int32} {vs' : List Value} (E' : RoadKit.Exa Z h y ST) (V' : RoadKit.Fld Z h y ST "value" "[B" (.ref t')) (C' : RoadKit.Fld Z h y ST "coder" "B" (.int cd')) (K' : RoadKit.Arv Z h t' kb' .byte N2' vs' (.int 0)) (hc' : CodA ds cd' N2' vs') (hb' : ∀ c ∈ ds, ¬ c < 0 ∧ ¬ (65535 : Int32) < c) (l2' : ds.length ≤ 4000)
    {z : Int32} (S : RoadKit.Sta Z h ST "COMPACT_STRINGS" "Z" (.int z)) (hz : ¬ z = 0) (hfr : 2 ≤ R.frames) (hlo : W + 28 ≤ R.locals) :
    Back l R p e below s args (⟨"java/lang/String", "equals", "(Ljava/lang/Object;)Z"⟩ : MethodName) len W (fun P a => a = #[.ref x, .ref y] ∧ P.U.heap = h ∧ P.cells + 0 ≤ R.cells ∧ P.slots + 0 ≤ R.slots)
      (fun P _ v B => ∃ L, (((v = some (.int 1) ∧ cs = ds) ∨ (v = some (.int 0) ∧ ¬ cs = ds)) ∧ L = [] ∧ B.U.heap = h) ∧ B.locs = P.locs ++ L ∧ B.cells = P.cells + 0 ∧ B.slots = P.slots + 0) := by
  intro m meth c P g ig mk a X hg hsize hdg hW hn hp'
  obtain ⟨rfl, rfl, r1, r2⟩ := hp'
  have al : Z.vm.Alike P.U.vm := hZ.alike.trans X.warmed.alike
  obtain ⟨A, hx⟩ := txt_of wi al E V C K hc hb l2
  obtain ⟨A', hy⟩ := txt_of wi al E' V' C' K' hc' hb' l2'
  obtain ⟨v, B, X', ⟨⟨w, hv, hh, hq⟩, hl, hk, hs⟩, st⟩ := SEq.pays x t A cd cs.length (fun j => cs.getD j 0) y t' A' cd' ds.length (fun j => ds.getD j 0) z (tabEq_of (movedEq hZ hw)) hfr hlo m meth c P g ig mk _ X hg hsize hdg hW hn ⟨r1, r2, rfl, hx, hy, sta_is al S, hz⟩
  refine ⟨v, B, X', ⟨[], ⟨?_, rfl, hh⟩, hl, hk, hs⟩, st⟩
  rcases hq with ⟨rfl, q⟩ | ⟨rfl, q⟩
  · exact Or.inl ⟨hv, (same_list cs ds).mp q⟩
  · exact Or.inr ⟨hv, fun e => q ((same_list cs ds).mpr e)⟩
end StrChars.Road
namespace StrChars.Road
open Jvm Sem ClassFile Op Lib Jvm.Stand Jvm.Free Jvm.Free.XT
open Jvm.Lib.Cold (StaticIs)
/-- what backV says of its String, as the contracts of this text ask it: cs's low bytes, coder 0 -/
theorem codOf {cs : List Int32} {n : Nat} (hn : cs.length = n) (hb : ∀ c ∈ cs, ¬ 255 < c) : CodA cs 0 (Int32.ofNat n) ((cs.map lo8).map Value.int) := Or.inl ⟨rfl, by rw [hn], by simp [List.map_map, Function.comp_def], hb⟩
end StrChars.Road
end Jvm.Pilot.@@N@@

namespace Jvm.Pilot.@@N@@
open Jvm Jvm.ClassFile Sem Op Lib Jvm.Free Jvm.Stand Jvm.LawKit Jvm.RoadKit Bundle Jvm.Pilot.@@N@@.Jvm.D

/-! a String that spells the chars cs (each 0 to 255), its bytes at t -/
def o_Str (Z : State) (h : Heap) (x t : Addr) (cs : List Int32) : Prop := Exa Z h x "java/lang/String" ∧ Fld Z h x "java/lang/String" "coder" "B" (.int 0) ∧ Fld Z h x "java/lang/String" "value" "[B" (.ref t) ∧ (∃ kb, Arv Z h t kb .byte (Int32.ofNat cs.length) ((cs.map fun c => c.toInt8.toInt32).map Value.int) (.int 0)) ∧ (∀ c ∈ cs, ¬ c < 0 ∧ ¬ (255 : Int32) < c) ∧ cs.length ≤ 4000
def o_QP (r : Option Value) (h : Heap) (v : Option Value) (h' : Heap) (L : List Loc) : Prop := v = r ∧ L = [] ∧ h' = h
def o_QN (Z : State) (x : Addr) (cs : List Int32) (h : Heap) (n0 : Nat) (v : Option Value) (h' : Heap) (L : List Loc) : Prop := v = none ∧ Fr n0 L ∧ Keep h h' [x] ∧ ∃ t, n0 ≤ t ∧ h.size ≤ t ∧ ¬ t = x ∧ o_Str Z h' x t cs
section OwnStr
variable {p : Program} {l : Launch} {e : Env} {R : Room} {s : State} {args : Array Value} {below : List Frame} {W n0 : Nat} {Z : State} {a0 : Array Value} {h h' : Heap} {x t y u a : Addr} {cs ds : List Int32} {ws : List Addr} {sl : Nat} {v : Value}
theorem o_Str.ext (E : Ext h h') (F : o_Str Z h x t cs) : o_Str Z h' x t cs := by
  obtain ⟨f1, f2, f3, ⟨kb, f4⟩, f5⟩ := F; exact ⟨f1.ext E, f2.ext E, f3.ext E, ⟨kb, f4.ext E⟩, f5⟩
theorem o_Str.other (F : o_Str Z h x t cs) (Wq : Wr h h' a sl v) (q1 : x ≠ a) (q2 : t ≠ a) : o_Str Z h' x t cs := by
  obtain ⟨f1, f2, f3, ⟨kb, f4⟩, f5⟩ := F; exact ⟨f1.wr Wq, f2.other Wq (Or.inl q1), f3.other Wq (Or.inl q1), ⟨kb, f4.other Wq q2⟩, f5⟩
theorem o_Str.keep (F : o_Str Z h x t cs) (K : Keep h h' ws) (q1 : x ∉ ws) (q2 : t ∉ ws) : o_Str Z h' x t cs := by
  obtain ⟨f1, f2, f3, ⟨kb, f4⟩, f5⟩ := F; exact ⟨f1.keep K, f2.keep K q1, f3.keep K q1, ⟨kb, f4.keep K q2⟩, f5⟩
theorem o_Str.neT {C : String} {n : Nat} (F : o_Str Z h x t cs) (E : Exa Z h y C) (wi : (Jvm.Cond.instantiable C n).before a0 Z = true) : y ≠ t := by
  obtain ⟨_, _, _, ⟨_, f4⟩, _⟩ := F; exact Exa.neArv E f4 wi
theorem o_Str.lt (F : o_Str Z h x t cs) : x < h.size := F.1.lt
theorem o_Str.lt2 (F : o_Str Z h x t cs) : t < h.size := by obtain ⟨_, _, _, ⟨_, f4⟩, _⟩ := F; exact f4.lt
theorem o_up16 (h : ∀ c ∈ cs, ¬ c < 0 ∧ ¬ (255 : Int32) < c) : ∀ c ∈ cs, ¬ c < 0 ∧ ¬ (65535 : Int32) < c := fun c hc => ⟨(h c hc).1, fun q => (h c hc).2 (by
  rw [Int32.lt_iff_toInt_lt] at q ⊢
  have e1 : (65535 : Int32).toInt = 65535 := rfl
  have e2 : (255 : Int32).toInt = 255 := rfl
  omega)⟩
theorem o_cs0 : ∀ c ∈ ([] : List Int32), ¬ c < 0 ∧ ¬ (255 : Int32) < c := fun _ h => nomatch h
theorem o_csS {a : Int32} {L : List Int32} (h1 : ¬ a < 0 ∧ ¬ (255 : Int32) < a) (h2 : ∀ c ∈ L, ¬ c < 0 ∧ ¬ (255 : Int32) < c) : ∀ c ∈ a :: L, ¬ c < 0 ∧ ¬ (255 : Int32) < c := fun c hc => (List.mem_cons.mp hc).elim (fun e => e ▸ h1) (h2 c)
theorem o_strw : ∀ d ∈ StrChars.Road.words, d ∈ tables_1 := by decide +kernel
theorem o_newB {b : Addr} {kC : ClassId} {d v0 c0 : Value} {z N : Int32} {n : Nat} (hZ : Z.Warmed39 s.vm) (hw : ∀ d ∈ tables_1, d.before a0 Z = true) (wi : (Jvm.Cond.instantiable "java/lang/String" 4).before a0 Z = true) (O : Old Z n0 h) (hx0 : n0 ≤ x) (E : Exa Z h x "java/lang/String") (V : Fld Z h x "java/lang/String" "value" "[B" v0) (C : Fld Z h x "java/lang/String" "coder" "B" c0) (K : Arv Z h b kC .char N (cs.map Value.int) d) (S : Sta Z Z.heap "java/lang/String" "COMPACT_STRINGS" "Z" (.int z)) (hz : ¬ z = 0)
    (hn : cs.length = n) (hN : N = Int32.ofNat n) (l0 : 0 < n) (l2 : n ≤ 4000) (hp : ∀ c ∈ cs, ¬ c < 0 ∧ ¬ (255 : Int32) < c) (hfr : 4 ≤ R.frames) (hlo : W + 65 ≤ R.locals) :
    Back l R p e below s args (⟨"java/lang/String", "<init>", "([C)V"⟩ : MethodName) 3 W (fun P a => a = #[.ref x, .ref b] ∧ P.U.heap = h ∧ P.cells + 1 ≤ R.cells ∧ P.slots + n ≤ R.slots)
      (fun P _ v B => ∃ L, o_QN Z x cs h n0 v B.U.heap L ∧ B.locs = P.locs ++ L ∧ B.cells = P.cells + 1 ∧ B.slots = P.slots + n) := by
  have hh0 : n0 ≤ h.size := by rw [← O.1]; exact O.2.1
  refine Back.mono (StrChars.Road.backV hZ (fun d hd => hw d (o_strw d hd)) wi hx0 hh0 E V C K (Sta.ext O.2 S) hz hn hN l0 l2 hp rfl hfr hlo) (fun P a hz => hz) (fun P a v B _ hq => ?_)
  obtain ⟨L, ⟨q1, q2, q3, q4, q5, t, kb, q6, q7, q8, q9, q10⟩, r⟩ := hq
  subst hn hN
  exact ⟨L, ⟨q1, q2, q3, t, q6, q7, q8, q4, q5, q9, ⟨kb, q10⟩, hp, l2⟩, r⟩
theorem o_empw : ∀ d ∈ StrChars.Road.wordsEmp, d ∈ tables_1 := by decide +kernel
theorem o_empB (hZ : Z.Warmed39 s.vm) (hw : ∀ d ∈ tables_1, d.before a0 Z = true) (wi : (Jvm.Cond.instantiable "java/lang/String" 4).before a0 Z = true) (F : o_Str Z h x t cs) (hfr : 1 ≤ R.frames) (hlo : W + 12 ≤ R.locals) :
    Back l R p e below s args (⟨"java/lang/String", "isEmpty", "()Z"⟩ : MethodName) 3 W (fun P a => a = #[.ref x] ∧ P.U.heap = h ∧ P.cells + 0 ≤ R.cells ∧ P.slots + 0 ≤ R.slots)
      (fun P _ v B => ∃ L, o_QP (some (.int (if cs.length = 0 then 1 else 0))) h v B.U.heap L ∧ B.locs = P.locs ++ L ∧ B.cells = P.cells + 0 ∧ B.slots = P.slots + 0) := by
  obtain ⟨f1, f2, f3, ⟨kb, f4⟩, f5, f6⟩ := F
  exact StrChars.Road.empW hZ (fun d hd => hw d (o_empw d hd)) wi f1 f3 f2 f4 (StrChars.Road.codOf rfl fun c hc => (f5 c hc).2) (o_up16 f5) f6 hfr hlo
theorem o_eqw : ∀ d ∈ StrChars.Road.wordsEq, d ∈ tables_1 := by decide +kernel
theorem o_eqB {z : Int32} (hZ : Z.Warmed39 s.vm) (hw : ∀ d ∈ tables_1, d.before a0 Z = true) (wi : (Jvm.Cond.instantiable "java/lang/String" 4).before a0 Z = true) (O : Old Z n0 h) (F : o_Str Z h x t cs) (F' : o_Str Z h y u ds) (S : Sta Z Z.heap "java/lang/String" "COMPACT_STRINGS" "Z" (.int z)) (hz : ¬ z = 0) (hfr : 2 ≤ R.frames) (hlo : W + 28 ≤ R.locals) :
    Back l R p e below s args (⟨"java/lang/String", "equals", "(Ljava/lang/Object;)Z"⟩ : MethodName) 3 W (fun P a => a = #[.ref x, .ref y] ∧ P.U.heap = h ∧ P.cells + 0 ≤ R.cells ∧ P.slots + 0 ≤ R.slots)
      (fun P _ v B => ∃ L, o_QP (some (.int (if cs = ds then 1 else 0))) h v B.U.heap L ∧ B.locs = P.locs ++ L ∧ B.cells = P.cells + 0 ∧ B.slots = P.slots + 0) := by
  obtain ⟨f1, f2, f3, ⟨kb, f4⟩, f5, f6⟩ := F
  obtain ⟨g1, g2, g3, ⟨kc, g4⟩, g5, g6⟩ := F'
  refine Back.mono (StrChars.Road.eqW hZ (fun d hd => hw d (o_eqw d hd)) wi f1 f3 f2 f4 (StrChars.Road.codOf rfl fun c hc => (f5 c hc).2) (o_up16 f5) f6 g1 g3 g2 g4 (StrChars.Road.codOf rfl fun c hc => (g5 c hc).2) (o_up16 g5) g6 (Sta.ext O.2 S) hz hfr hlo) (fun P a hz => hz) (fun P a v B _ hq => ?_)
  obtain ⟨L, ⟨q1, q2, q3⟩, r⟩ := hq
  refine ⟨L, ⟨?_, q2, q3⟩, r⟩
  rcases q1 with ⟨q, q'⟩ | ⟨q, q'⟩
  · rw [q, if_pos q']
  · rw [q, if_neg q']
theorem o_lenw : ∀ d ∈ StrChars.Road.wordsLen, d ∈ tables_1 := by decide +kernel
theorem o_lenB {z : Int32} (hZ : Z.Warmed39 s.vm) (hw : ∀ d ∈ tables_1, d.before a0 Z = true) (wi : (Jvm.Cond.instantiable "java/lang/String" 4).before a0 Z = true) (O : Old Z n0 h) (F : o_Str Z h x t cs) (S : Sta Z Z.heap "java/lang/String" "COMPACT_STRINGS" "Z" (.int z)) (hz : ¬ z = 0) (hfr : 2 ≤ R.frames) (hlo : W + 25 ≤ R.locals) :
    Back l R p e below s args (⟨"java/lang/String", "length", "()I"⟩ : MethodName) 3 W (fun P a => a = #[.ref x] ∧ P.U.heap = h ∧ P.cells + 0 ≤ R.cells ∧ P.slots + 0 ≤ R.slots)
      (fun P _ v B => ∃ L, o_QP (some (.int (Int32.ofNat cs.length))) h v B.U.heap L ∧ B.locs = P.locs ++ L ∧ B.cells = P.cells + 0 ∧ B.slots = P.slots + 0) := by
  obtain ⟨f1, f2, f3, ⟨kb, f4⟩, f5, f6⟩ := F
  exact StrChars.Road.lenW hZ (fun d hd => hw d (o_lenw d hd)) wi f1 f3 f2 f4 (StrChars.Road.codOf rfl fun c hc => (f5 c hc).2) (o_up16 f5) (Sta.ext O.2 S) hz f6 hfr hlo
end OwnStr
theorem o_not_zero {t : Term} {z : Int32} {args : Array Value} {Z : State} (h : (Jvm.Cond.not (.eq t (.int 0))).value args Z none Z [] = some true) (e : t.eval args Z none [] Z = some (.int z)) : ¬ z = 0 := fun q => by
  have h1 := not_v h
  subst q
  simp [Jvm.Cond.value, e, Term.eval] at h1
theorem o_k {Z : State} {a0 : Array Value} (hw : ∀ d ∈ tables_1, d.before a0 Z = true) (i : Nat) {d : Jvm.Cond} (h : tables_1[i]? = some d) : d.before a0 Z = true := hw d (List.mem_of_getElem? h)
abbrev o_SC (Z : State) (z : Int32) : Prop := Sta Z Z.heap "java/lang/String" "COMPACT_STRINGS" "Z" (.int z)
abbrev o_m0 : MethodName := ⟨"java/lang/Record", "<init>", "()V"⟩
abbrev o_R0 : Room := ({ frames := 1, cells := 0, slots := 0, locals := 12 } : Room)
abbrev o_m1 : MethodName := ⟨"java/util/Objects", "requireNonNull", "(Ljava/lang/Object;Ljava/lang/String;)Ljava/lang/Object;"⟩
abbrev o_R1 : Room := ({ frames := 0, cells := 0, slots := 0, locals := 0 } : Room)
abbrev o_m2 : MethodName := ⟨"org/adviceweft/pointcut/NamePatternMatchesPinLaw", "coreChar", "(I)C"⟩
abbrev o_m3 : MethodName := ⟨"org/adviceweft/pointcut/NamePatternMatchesPinLaw", "at", "([CI[CII)Z"⟩
abbrev o_m4 : MethodName := ⟨"java/lang/String", "<init>", "([CIILjava/lang/Void;)V"⟩
abbrev o_R2 : Room := ({ frames := 1, cells := 2, slots := 4, locals := 16 } : Room)
abbrev o_m5 : MethodName := ⟨"java/lang/String", "<init>", "([C)V"⟩
abbrev o_R3 : Room := ({ frames := 2, cells := 2, slots := 4, locals := 40 } : Room)
abbrev o_m6 : MethodName := ⟨"java/lang/StringLatin1", "indexOf", "([B[B)I"⟩
abbrev o_R4 : Room := ({ frames := 1, cells := 0, slots := 0, locals := 22 } : Room)
abbrev o_m7 : MethodName := ⟨"java/lang/String", "indexOf", "(Ljava/lang/String;)I"⟩
abbrev o_R5 : Room := ({ frames := 2, cells := 0, slots := 0, locals := 40 } : Room)
abbrev o_m8 : MethodName := ⟨"java/lang/String", "coder", "()B"⟩
abbrev o_m9 : MethodName := ⟨"java/lang/String", "isLatin1", "()Z"⟩
abbrev o_m10 : MethodName := ⟨"java/lang/String", "contains", "(Ljava/lang/CharSequence;)Z"⟩
abbrev o_R6 : Room := ({ frames := 3, cells := 0, slots := 0, locals := 60 } : Room)
abbrev o_m11 : MethodName := ⟨"java/lang/String", "toString", "()Ljava/lang/String;"⟩
abbrev o_m12 : MethodName := ⟨"java/lang/CharSequence", "toString", "()Ljava/lang/String;"⟩
abbrev o_m13 : MethodName := ⟨"java/lang/StringLatin1", "indexOf", "([BI[BII)I"⟩
abbrev o_m14 : MethodName := ⟨"jdk/internal/util/ArraysSupport", "mismatch", "([BI[BII)I"⟩
abbrev o_m15 : MethodName := ⟨"java/lang/String", "startsWith", "(Ljava/lang/String;I)Z"⟩
abbrev o_m16 : MethodName := ⟨"java/lang/String", "length", "()I"⟩
abbrev o_m17 : MethodName := ⟨"java/lang/String", "endsWith", "(Ljava/lang/String;)Z"⟩
abbrev o_m18 : MethodName := ⟨"java/lang/String", "startsWith", "(Ljava/lang/String;)Z"⟩
abbrev o_m19 : MethodName := ⟨"org/adviceweft/pointcut/NamePattern", "<init>", "(Ljava/lang/String;ZZ)V"⟩
abbrev o_R7 : Room := ({ frames := 4, cells := 4, slots := 28, locals := 80 } : Room)
abbrev o_m20 : MethodName := ⟨"java/lang/String", "isEmpty", "()Z"⟩
abbrev o_m21 : MethodName := ⟨"org/adviceweft/pointcut/NamePattern", "matches", "(Ljava/lang/String;)Z"⟩
abbrev o_R8 : Room := ({ frames := 4, cells := 0, slots := 0, locals := 80 } : Room)
abbrev o_m22 : MethodName := ⟨"java/lang/String", "equals", "(Ljava/lang/Object;)Z"⟩
def o_pref : List Int32 → List Int32 → Bool
  | _, [] => true
  | [], _ :: _ => false
  | c :: cs, d :: ds => (c == d) && o_pref cs ds
def o_occ : List Int32 → List Int32 → Bool
  | [], ds => o_pref [] ds
  | c :: cs, ds => o_pref (c :: cs) ds || o_occ cs ds
theorem o_b_inj {c d : Int32} (hc : ¬ c < 0 ∧ ¬ (255 : Int32) < c) (hd : ¬ d < 0 ∧ ¬ (255 : Int32) < d) : (c.toInt8.toInt32 = d.toInt8.toInt32) ↔ c = d := by
  refine ⟨fun e => ?_, fun e => by rw [e]⟩
  have e1 := StrChars.lo8_mask hc.1 hc.2
  have e2 := StrChars.lo8_mask hd.1 hd.2
  rw [← e1, ← e2]
  show c.toInt8.toInt32 &&& 255 = d.toInt8.toInt32 &&& 255
  rw [e]
theorem o_pref_b : ∀ (cs ds : List Int32), (∀ c ∈ cs, ¬ c < 0 ∧ ¬ (255 : Int32) < c) → (∀ c ∈ ds, ¬ c < 0 ∧ ¬ (255 : Int32) < c) → o_pref (cs.map fun c => c.toInt8.toInt32) (ds.map fun c => c.toInt8.toInt32) = o_pref cs ds
  | [], [], _, _ => rfl
  | _ :: _, [], _, _ => rfl
  | [], _ :: _, _, _ => rfl
  | c :: cs, d :: ds, h1, h2 => by
    have ih := o_pref_b cs ds (fun x hx => h1 x (List.mem_cons_of_mem _ hx)) (fun x hx => h2 x (List.mem_cons_of_mem _ hx))
    have e := o_b_inj (h1 c (List.mem_cons_self ..)) (h2 d (List.mem_cons_self ..))
    simp only [List.map_cons, o_pref]
    rw [ih]
    congr 1
    rw [Bool.eq_iff_iff, beq_iff_eq, beq_iff_eq, e]
theorem o_occ_b : ∀ (cs ds : List Int32), (∀ c ∈ cs, ¬ c < 0 ∧ ¬ (255 : Int32) < c) → (∀ c ∈ ds, ¬ c < 0 ∧ ¬ (255 : Int32) < c) → o_occ (cs.map fun c => c.toInt8.toInt32) (ds.map fun c => c.toInt8.toInt32) = o_occ cs ds
  | [], ds, h1, h2 => o_pref_b [] ds h1 h2
  | c :: cs, ds, h1, h2 => by
    have ih := o_occ_b cs ds (fun x hx => h1 x (List.mem_cons_of_mem _ hx)) h2
    have e := o_pref_b (c :: cs) ds h1 h2
    simp only [List.map_cons, o_occ] at e ⊢
    rw [ih, e]
theorem o_ite1 {P : Prop} [Decidable P] (h : ¬ (if P then 1 else 0 : Int32) = 0) : P := by
  by_cases q : P
  · exact q
  · rw [if_neg q] at h; exact absurd rfl h
theorem o_ite0 {P : Prop} [Decidable P] (h : (if P then 1 else 0 : Int32) = 0) : ¬ P := fun q => by
  rw [if_pos q] at h; exact absurd h (by decide)
theorem o_one_ne {a : Int32} (h1 : a = 1) (h2 : a = 0) : False := by rw [h1] at h2; exact absurd h2 (by decide)
theorem o_narB {P : Prop} [Decidable P] : nar .boolean (if P then 1 else 0) = (if P then 1 else 0) := by by_cases q : P <;> simp [q] <;> decide
def o_EL : List (String × Nat) := [("java/lang/String", 7), ("org/adviceweft/pointcut/NamePattern", 7), ("org/adviceweft/pointcut/NamePattern", 17)]
theorem o_EWs {Z : State} {a0 : Array Value} (hw : ∀ d ∈ tables_1, d.before a0 Z = true) : EW Z a0 o_EL := EW.cons (o_k hw 101 rfl) (by decide) (EW.cons (o_k hw 46 rfl) (by decide) (EW.cons (o_k hw 53 rfl) (by decide) EW.nil))
theorem o_strat : ∀ d ∈ Bundle.stringAtoms, d ∈ tables_1 := by decide +kernel
theorem o_narZ {B : Int32} (h : B = 0 ∨ B = 1) : narrow .boolean (.int B) = .int B := by rcases h with rfl | rfl <;> decide
theorem o_fitZ {B : Int32} (h : B = 0 ∨ B = 1) : fits .boolean (.int B) = true := by rcases h with rfl | rfl <;> decide
def o_core (x : Int32) : Int32 := if x &&& 255 = 42 then 43 else x &&& 255
theorem o_coreP (x : Int32) : ∃ c : Int32, o_core x = c ∧ nar .char c = c ∧ ¬ c < 0 ∧ ¬ (255 : Int32) < c ∧ ¬ c = 42 := by
  obtain ⟨c, e1, -, h2, h3, h4⟩ := o_chr x
  by_cases q : x &&& 255 = 42
  · exact ⟨43, by rw [o_core, if_pos q], by decide, by decide, by decide, by decide⟩
  · exact ⟨c, by rw [o_core, if_neg q, e1], h2, h3, h4, by rw [e1]; exact q⟩
theorem o_and3 (x : Int32) : x &&& 3 = 0 ∨ x &&& 3 = 1 ∨ x &&& 3 = 2 ∨ x &&& 3 = 3 := by
  have h : (x &&& 3).toInt = x.toInt % 4 := Jvm.Kit.i32_mask x 3 (k := 2) (by decide) (by decide)
  have e0 : (0 : Int32).toInt = 0 := rfl
  have e1 : (1 : Int32).toInt = 1 := rfl
  have e2 : (2 : Int32).toInt = 2 := rfl
  have e3 : (3 : Int32).toInt = 3 := rfl
  simp only [← Int32.toInt_inj]
  omega
theorem o_cl3 (x : Int32) : (x &&& 3) % 3 = 0 ∨ (x &&& 3) % 3 = 1 ∨ (x &&& 3) % 3 = 2 := by
  rcases o_and3 x with h | h | h | h <;> rw [h] <;> decide
/-- the k-th of three -/
def o_n3 (a b c k : Int32) : Int32 := ([a, b, c] : List Int32).getD k.toNatClampNeg 0
def o_n2 (a b k : Int32) : Int32 := ([a, b] : List Int32).getD k.toNatClampNeg 0
def o_atP (n0 n1 n2 nl c0 c1 cl k : Int32) : Prop := ¬ k < 0 ∧ ¬ nl < k + cl ∧ (cl < 1 ∨ o_n3 n0 n1 n2 k = c0) ∧ (cl < 2 ∨ o_n3 n0 n1 n2 (k + 1) = c1)
instance (n0 n1 n2 nl c0 c1 cl k : Int32) : Decidable (o_atP n0 n1 n2 nl c0 c1 cl k) := by unfold o_atP; infer_instance
theorem o_kb {k cl nl : Int32} (hk : -2 ≤ k.toInt ∧ k.toInt ≤ 3) (hc : cl = 0 ∨ cl = 1 ∨ cl = 2) (hn : nl = 0 ∨ nl = 1 ∨ nl = 2 ∨ nl = 3) (h0 : ¬ k < 0) (h1 : ¬ nl < k + cl) (h2 : ¬ cl < 1) : ¬ k < 0 ∧ k < 3 := by
  refine ⟨h0, ?_⟩
  rw [Int32.lt_iff_toInt_lt] at h0 h1 h2 ⊢
  have e0 : (0 : Int32).toInt = 0 := rfl
  have e1 : (1 : Int32).toInt = 1 := rfl
  have e3 : (3 : Int32).toInt = 3 := rfl
  have ec : 0 ≤ cl.toInt ∧ cl.toInt ≤ 2 := by rcases hc with rfl | rfl | rfl <;> decide
  have en : nl.toInt ≤ 3 := by rcases hn with rfl | rfl | rfl | rfl <;> decide
  have ea : (k + cl).toInt = k.toInt + cl.toInt := Jvm.Kit.i32_add (by omega) (by omega)
  omega
theorem o_kb1 {k cl nl : Int32} (hk : -2 ≤ k.toInt ∧ k.toInt ≤ 3) (hc : cl = 0 ∨ cl = 1 ∨ cl = 2) (hn : nl = 0 ∨ nl = 1 ∨ nl = 2 ∨ nl = 3) (h0 : ¬ k < 0) (h1 : ¬ nl < k + cl) (h2 : ¬ cl < 2) : ¬ (k + 1) < 0 ∧ (k + 1) < 3 := by
  rw [Int32.lt_iff_toInt_lt] at h0 h1 h2
  have e0 : (0 : Int32).toInt = 0 := rfl
  have e1 : (1 : Int32).toInt = 1 := rfl
  have e2 : (2 : Int32).toInt = 2 := rfl
  have e3 : (3 : Int32).toInt = 3 := rfl
  have ec : 0 ≤ cl.toInt ∧ cl.toInt ≤ 2 := by rcases hc with rfl | rfl | rfl <;> decide
  have en : nl.toInt ≤ 3 := by rcases hn with rfl | rfl | rfl | rfl <;> decide
  have ea : (k + cl).toInt = k.toInt + cl.toInt := Jvm.Kit.i32_add (by omega) (by omega)
  have eb : (k + 1).toInt = k.toInt + 1 := Jvm.Kit.i32_add (by omega) (by omega)
  rw [Int32.lt_iff_toInt_lt, Int32.lt_iff_toInt_lt, eb]
  omega
theorem o_g3 {a b c k : Int32} : ([.int a, .int b, .int c] : List Value).getD k.toNatClampNeg (.int (0 : Int32)) = .int (o_n3 a b c k) := by
  unfold o_n3
  generalize k.toNatClampNeg = j
  match j with
  | 0 => rfl
  | 1 => rfl
  | 2 => rfl
  | _ + 3 => rfl
theorem o_g2 {a b k : Int32} : ([.int a, .int b] : List Value).getD k.toNatClampNeg (.int (0 : Int32)) = .int (o_n2 a b k) := by
  unfold o_n2
  generalize k.toNatClampNeg = j
  match j with
  | 0 => rfl
  | 1 => rfl
  | _ + 2 => rfl
def o_cs (cl c0 c1 : Int32) : List Int32 := if cl = 0 then [] else if cl = 1 then [c0] else [c0, c1]
def o_ns (nl n0 n1 n2 : Int32) : List Int32 := if nl = 0 then [] else if nl = 1 then [n0] else if nl = 2 then [n0, n1] else [n0, n1, n2]
def o_got (B A cl nl n0 n1 n2 c0 c1 : Int32) : Int32 :=
  if ¬ B = 0 ∧ ¬ A = 0 then (if o_occ (o_ns nl n0 n1 n2) (o_cs cl c0 c1) = true then 1 else 0)
  else if ¬ B = 0 then (if (o_cs cl c0 c1).length ≤ (o_ns nl n0 n1 n2).length ∧ o_pref ((o_ns nl n0 n1 n2).drop ((o_ns nl n0 n1 n2).length - (o_cs cl c0 c1).length)) (o_cs cl c0 c1) = true then 1 else 0)
  else if ¬ A = 0 then (if o_pref (o_ns nl n0 n1 n2) (o_cs cl c0 c1) = true then 1 else 0)
  else (if o_ns nl n0 n1 n2 = o_cs cl c0 c1 then 1 else 0)

theorem o_nostar1 {a : Int32} (h : ¬ a = 42) : ¬ o_occ [a] [42] = true := by simp [o_occ, o_pref, h]
theorem o_nostar2 {a b : Int32} (h : ¬ a = 42) (h2 : ¬ b = 42) : ¬ o_occ [a, b] [42] = true := by simp [o_occ, o_pref, h, h2]
theorem o_nlcl {cl nl : Int32} (hcl : cl = 0 ∨ cl = 1 ∨ cl = 2) (hnl : nl = 0 ∨ nl = 1 ∨ nl = 2 ∨ nl = 3) : -2 ≤ (nl - cl).toInt ∧ (nl - cl).toInt ≤ 3 := by rcases hcl with rfl | rfl | rfl <;> rcases hnl with rfl | rfl | rfl | rfl <;> decide
theorem o_fin0 {B A cl nl na nb nc ca cb : Int32} (hcl : cl = 0 ∨ cl = 1 ∨ cl = 2) (hnl : nl = 0 ∨ nl = 1 ∨ nl = 2 ∨ nl = 3) (hc284 : B = (0 : Int32)) (hc364 : B = (0 : Int32)) (hc390 : A = (0 : Int32)) (hc414 : ¬ nl = cl) : o_got B A cl nl na nb nc ca cb = (0 : Int32) := by
  rcases hcl with rfl | rfl | rfl <;> rcases hnl with rfl | rfl | rfl | rfl <;> simp_all [o_got, o_atP, o_n3, o_cs, o_ns, o_occ, o_pref]
theorem o_fin1 {B A cl nl na nb nc ca cb : Int32} (hcl : cl = 0 ∨ cl = 1 ∨ cl = 2) (hnl : nl = 0 ∨ nl = 1 ∨ nl = 2 ∨ nl = 3) (hc284 : B = (0 : Int32)) (hc364 : B = (0 : Int32)) (hc390 : A = (0 : Int32)) (hc414 : nl = cl) (hc429 : (if o_atP na nb nc nl ca cb cl (0 : Int32) then 1 else 0 : Int32) = (0 : Int32)) : o_got B A cl nl na nb nc ca cb = (0 : Int32) := by
  rcases hcl with rfl | rfl | rfl <;> rcases hnl with rfl | rfl | rfl | rfl <;> simp_all [o_got, o_atP, o_n3, o_cs, o_ns, o_occ, o_pref]
theorem o_fin2 {B A cl nl na nb nc ca cb : Int32} (hcl : cl = 0 ∨ cl = 1 ∨ cl = 2) (hnl : nl = 0 ∨ nl = 1 ∨ nl = 2 ∨ nl = 3) (hc284 : B = (0 : Int32)) (hc364 : B = (0 : Int32)) (hc390 : A = (0 : Int32)) (hc414 : nl = cl) (hc429 : ¬ (if o_atP na nb nc nl ca cb cl (0 : Int32) then 1 else 0 : Int32) = (0 : Int32)) : o_got B A cl nl na nb nc ca cb = (1 : Int32) := by
  rcases hcl with rfl | rfl | rfl <;> rcases hnl with rfl | rfl | rfl | rfl <;> simp_all [o_got, o_atP, o_n3, o_cs, o_ns, o_occ, o_pref]
theorem o_fin3 {B A cl nl na nb nc ca cb : Int32} (hcl : cl = 0 ∨ cl = 1 ∨ cl = 2) (hnl : nl = 0 ∨ nl = 1 ∨ nl = 2 ∨ nl = 3) (hc284 : B = (0 : Int32)) (hc364 : B = (0 : Int32)) (hc390 : ¬ A = (0 : Int32)) : o_got B A cl nl na nb nc ca cb = (if o_atP na nb nc nl ca cb cl (0 : Int32) then 1 else 0 : Int32) := by
  rcases hcl with rfl | rfl | rfl <;> rcases hnl with rfl | rfl | rfl | rfl <;> simp_all [o_got, o_atP, o_n3, o_cs, o_ns, o_occ, o_pref]
theorem o_fin4 {B A cl nl na nb nc ca cb : Int32} (hcl : cl = 0 ∨ cl = 1 ∨ cl = 2) (hnl : nl = 0 ∨ nl = 1 ∨ nl = 2 ∨ nl = 3) (hc284 : ¬ B = (0 : Int32)) (hc289 : A = (0 : Int32)) (hc364 : ¬ B = (0 : Int32)) : o_got B A cl nl na nb nc ca cb = (if o_atP na nb nc nl ca cb cl (nl - cl) then 1 else 0 : Int32) := by
  rcases hcl with rfl | rfl | rfl <;> rcases hnl with rfl | rfl | rfl | rfl <;> simp_all [o_got, o_atP, o_n3, o_cs, o_ns, o_occ, o_pref]
theorem o_fin5 {B A cl nl na nb nc ca cb : Int32} (hcl : cl = 0 ∨ cl = 1 ∨ cl = 2) (hnl : nl = 0 ∨ nl = 1 ∨ nl = 2 ∨ nl = 3) (hc284 : ¬ B = (0 : Int32)) (hc289 : ¬ A = (0 : Int32)) (hc304 : ¬ (if o_atP na nb nc nl ca cb cl (0 : Int32) then 1 else 0 : Int32) = (0 : Int32)) : o_got B A cl nl na nb nc ca cb = (1 : Int32) := by
  rcases hcl with rfl | rfl | rfl <;> rcases hnl with rfl | rfl | rfl | rfl <;> simp_all [o_got, o_atP, o_n3, o_cs, o_ns, o_occ, o_pref]
theorem o_fin6 {B A cl nl na nb nc ca cb : Int32} (hcl : cl = 0 ∨ cl = 1 ∨ cl = 2) (hnl : nl = 0 ∨ nl = 1 ∨ nl = 2 ∨ nl = 3) (hc284 : ¬ B = (0 : Int32)) (hc289 : ¬ A = (0 : Int32)) (hc304 : (if o_atP na nb nc nl ca cb cl (0 : Int32) then 1 else 0 : Int32) = (0 : Int32)) (hc319 : ¬ (if o_atP na nb nc nl ca cb cl (1 : Int32) then 1 else 0 : Int32) = (0 : Int32)) : o_got B A cl nl na nb nc ca cb = (1 : Int32) := by
  rcases hcl with rfl | rfl | rfl <;> rcases hnl with rfl | rfl | rfl | rfl <;> simp_all [o_got, o_atP, o_n3, o_cs, o_ns, o_occ, o_pref]
theorem o_fin7 {B A cl nl na nb nc ca cb : Int32} (hcl : cl = 0 ∨ cl = 1 ∨ cl = 2) (hnl : nl = 0 ∨ nl = 1 ∨ nl = 2 ∨ nl = 3) (hc284 : ¬ B = (0 : Int32)) (hc289 : ¬ A = (0 : Int32)) (hc304 : (if o_atP na nb nc nl ca cb cl (0 : Int32) then 1 else 0 : Int32) = (0 : Int32)) (hc319 : (if o_atP na nb nc nl ca cb cl (1 : Int32) then 1 else 0 : Int32) = (0 : Int32)) (hc334 : ¬ (if o_atP na nb nc nl ca cb cl (2 : Int32) then 1 else 0 : Int32) = (0 : Int32)) : o_got B A cl nl na nb nc ca cb = (1 : Int32) := by
  rcases hcl with rfl | rfl | rfl <;> rcases hnl with rfl | rfl | rfl | rfl <;> simp_all [o_got, o_atP, o_n3, o_cs, o_ns, o_occ, o_pref]
theorem o_fin8 {B A cl nl na nb nc ca cb : Int32} (hcl : cl = 0 ∨ cl = 1 ∨ cl = 2) (hnl : nl = 0 ∨ nl = 1 ∨ nl = 2 ∨ nl = 3) (hc284 : ¬ B = (0 : Int32)) (hc289 : ¬ A = (0 : Int32)) (hc304 : (if o_atP na nb nc nl ca cb cl (0 : Int32) then 1 else 0 : Int32) = (0 : Int32)) (hc319 : (if o_atP na nb nc nl ca cb cl (1 : Int32) then 1 else 0 : Int32) = (0 : Int32)) (hc334 : (if o_atP na nb nc nl ca cb cl (2 : Int32) then 1 else 0 : Int32) = (0 : Int32)) (hc349 : (if o_atP na nb nc nl ca cb cl (3 : Int32) then 1 else 0 : Int32) = (0 : Int32)) : o_got B A cl nl na nb nc ca cb = (0 : Int32) := by
  rcases hcl with rfl | rfl | rfl <;> rcases hnl with rfl | rfl | rfl | rfl <;> simp_all [o_got, o_atP, o_n3, o_cs, o_ns, o_occ, o_pref]
theorem o_fin9 {B A cl nl na nb nc ca cb : Int32} (hcl : cl = 0 ∨ cl = 1 ∨ cl = 2) (hnl : nl = 0 ∨ nl = 1 ∨ nl = 2 ∨ nl = 3) (hc284 : ¬ B = (0 : Int32)) (hc289 : ¬ A = (0 : Int32)) (hc304 : (if o_atP na nb nc nl ca cb cl (0 : Int32) then 1 else 0 : Int32) = (0 : Int32)) (hc319 : (if o_atP na nb nc nl ca cb cl (1 : Int32) then 1 else 0 : Int32) = (0 : Int32)) (hc334 : (if o_atP na nb nc nl ca cb cl (2 : Int32) then 1 else 0 : Int32) = (0 : Int32)) (hc349 : ¬ (if o_atP na nb nc nl ca cb cl (3 : Int32) then 1 else 0 : Int32) = (0 : Int32)) : o_got B A cl nl na nb nc ca cb = (1 : Int32) := by
  rcases hcl with rfl | rfl | rfl <;> rcases hnl with rfl | rfl | rfl | rfl <;> simp_all [o_got, o_atP, o_n3, o_cs, o_ns, o_occ, o_pref]
theorem o_fin10 {B A cl nl na nb nc ca cb : Int32} (hcl : cl = 0 ∨ cl = 1 ∨ cl = 2) (hnl : nl = 0 ∨ nl = 1 ∨ nl = 2 ∨ nl = 3) : o_got (1 : Int32) (0 : Int32) cl nl na nb nc ca cb = (if o_atP na nb nc nl ca cb cl (nl - cl) then 1 else 0 : Int32) := by
  rcases hcl with rfl | rfl | rfl <;> rcases hnl with rfl | rfl | rfl | rfl <;> simp_all [o_got, o_atP, o_n3, o_cs, o_ns, o_occ, o_pref]
theorem o_gt0_0 {B A na nb nc ca cb : Int32} : ((if o_pref ([] : List Int32) ([] : List Int32) = true then 1 else 0) : Int32) = o_got (1 : Int32) (0 : Int32) (0 : Int32) (0 : Int32) na nb nc ca cb := by
  simp [o_got, o_cs, o_ns, o_pref]
theorem o_gt0_1 {B A na nb nc ca cb : Int32} : ((if o_pref ([] : List Int32) ([] : List Int32) = true then 1 else 0) : Int32) = o_got (1 : Int32) (0 : Int32) (0 : Int32) (1 : Int32) na nb nc ca cb := by
  simp [o_got, o_cs, o_ns, o_pref]
theorem o_gt0_2 {B A na nb nc ca cb : Int32} : ((if o_pref ([] : List Int32) ([] : List Int32) = true then 1 else 0) : Int32) = o_got (1 : Int32) (0 : Int32) (0 : Int32) (2 : Int32) na nb nc ca cb := by
  simp [o_got, o_cs, o_ns, o_pref]
theorem o_gt0_3 {B A na nb nc ca cb : Int32} : ((if o_pref ([] : List Int32) ([] : List Int32) = true then 1 else 0) : Int32) = o_got (1 : Int32) (0 : Int32) (0 : Int32) (3 : Int32) na nb nc ca cb := by
  simp [o_got, o_cs, o_ns, o_pref]
theorem o_gt1_0 {B A na nb nc ca cb : Int32} : ((if ¬ B = 0 ∧ ¬ A = 0 then (if o_occ ([] : List Int32) ([ca] : List Int32) = true then 1 else 0) else if ¬ B = 0 then 0 else if ¬ A = 0 then 0 else (if ([] : List Int32) = ([ca] : List Int32) then 1 else 0)) : Int32) = o_got B A (1 : Int32) (0 : Int32) na nb nc ca cb := by
  simp [o_got, o_cs, o_ns, o_pref]
theorem o_gt1_1 {B A na nb nc ca cb : Int32} : ((if ¬ B = 0 ∧ ¬ A = 0 then (if o_occ ([na] : List Int32) ([ca] : List Int32) = true then 1 else 0) else if ¬ B = 0 then (if o_pref ([na] : List Int32) ([ca] : List Int32) = true then 1 else 0) else if ¬ A = 0 then (if o_pref ([na] : List Int32) ([ca] : List Int32) = true then 1 else 0) else (if ([na] : List Int32) = ([ca] : List Int32) then 1 else 0)) : Int32) = o_got B A (1 : Int32) (1 : Int32) na nb nc ca cb := by
  simp [o_got, o_cs, o_ns, o_pref]
theorem o_gt1_2 {B A na nb nc ca cb : Int32} : ((if ¬ B = 0 ∧ ¬ A = 0 then (if o_occ ([na, nb] : List Int32) ([ca] : List Int32) = true then 1 else 0) else if ¬ B = 0 then (if o_pref ([nb] : List Int32) ([ca] : List Int32) = true then 1 else 0) else if ¬ A = 0 then (if o_pref ([na, nb] : List Int32) ([ca] : List Int32) = true then 1 else 0) else (if ([na, nb] : List Int32) = ([ca] : List Int32) then 1 else 0)) : Int32) = o_got B A (1 : Int32) (2 : Int32) na nb nc ca cb := by
  simp [o_got, o_cs, o_ns, o_pref]
theorem o_gt1_3 {B A na nb nc ca cb : Int32} : ((if ¬ B = 0 ∧ ¬ A = 0 then (if o_occ ([na, nb, nc] : List Int32) ([ca] : List Int32) = true then 1 else 0) else if ¬ B = 0 then (if o_pref ([nc] : List Int32) ([ca] : List Int32) = true then 1 else 0) else if ¬ A = 0 then (if o_pref ([na, nb, nc] : List Int32) ([ca] : List Int32) = true then 1 else 0) else (if ([na, nb, nc] : List Int32) = ([ca] : List Int32) then 1 else 0)) : Int32) = o_got B A (1 : Int32) (3 : Int32) na nb nc ca cb := by
  simp [o_got, o_cs, o_ns, o_pref]
theorem o_gt2_0 {B A na nb nc ca cb : Int32} : ((if ¬ B = 0 ∧ ¬ A = 0 then (if o_occ ([] : List Int32) ([ca, cb] : List Int32) = true then 1 else 0) else if ¬ B = 0 then 0 else if ¬ A = 0 then 0 else (if ([] : List Int32) = ([ca, cb] : List Int32) then 1 else 0)) : Int32) = o_got B A (2 : Int32) (0 : Int32) na nb nc ca cb := by
  simp [o_got, o_cs, o_ns, o_pref]
theorem o_gt2_1 {B A na nb nc ca cb : Int32} : ((if ¬ B = 0 ∧ ¬ A = 0 then (if o_occ ([na] : List Int32) ([ca, cb] : List Int32) = true then 1 else 0) else if ¬ B = 0 then 0 else if ¬ A = 0 then 0 else (if ([na] : List Int32) = ([ca, cb] : List Int32) then 1 else 0)) : Int32) = o_got B A (2 : Int32) (1 : Int32) na nb nc ca cb := by
  simp [o_got, o_cs, o_ns, o_pref]
theorem o_gt2_2 {B A na nb nc ca cb : Int32} : ((if ¬ B = 0 ∧ ¬ A = 0 then (if o_occ ([na, nb] : List Int32) ([ca, cb] : List Int32) = true then 1 else 0) else if ¬ B = 0 then (if o_pref ([na, nb] : List Int32) ([ca, cb] : List Int32) = true then 1 else 0) else if ¬ A = 0 then (if o_pref ([na, nb] : List Int32) ([ca, cb] : List Int32) = true then 1 else 0) else (if ([na, nb] : List Int32) = ([ca, cb] : List Int32) then 1 else 0)) : Int32) = o_got B A (2 : Int32) (2 : Int32) na nb nc ca cb := by
  simp [o_got, o_cs, o_ns, o_pref]
theorem o_gt2_3 {B A na nb nc ca cb : Int32} : ((if ¬ B = 0 ∧ ¬ A = 0 then (if o_occ ([na, nb, nc] : List Int32) ([ca, cb] : List Int32) = true then 1 else 0) else if ¬ B = 0 then (if o_pref ([nb, nc] : List Int32) ([ca, cb] : List Int32) = true then 1 else 0) else if ¬ A = 0 then (if o_pref ([na, nb, nc] : List Int32) ([ca, cb] : List Int32) = true then 1 else 0) else (if ([na, nb, nc] : List Int32) = ([ca, cb] : List Int32) then 1 else 0)) : Int32) = o_got B A (2 : Int32) (3 : Int32) na nb nc ca cb := by
  simp [o_got, o_cs, o_ns, o_pref]
theorem o_ef0 (m : MethodId) (x0 : Addr) : entryFrame m #[(.ref x0)] 1 = mkF m 0 #[.val (.ref x0)] [] := by first | (simp [entryFrame, mkF, argsToLocals, Value.category]; done) | rfl
theorem o_pn_0 : plainName "java/lang/Record" = true := by first | (simp [plainName, overriddenIn]; done) | decide +kernel
theorem oD0_0 : decode jdk_30_method_1_code 0 = .ok (.aload_n 0, 1) := by decide +kernel
theorem oD0_1 : decode jdk_30_method_1_code 1 = .ok (.invokespecial 1, 3) := by decide +kernel
theorem oD0_4 : decode jdk_30_method_1_code 4 = .ok (.return_, 1) := by decide +kernel
theorem o_ef1 (m : MethodId) (x0 : Addr) (x1 : Addr) : entryFrame m #[(.ref x0), (.ref x1)] 2 = mkF m 0 #[.val (.ref x0), .val (.ref x1)] [] := by first | (simp [entryFrame, mkF, argsToLocals, Value.category]; done) | rfl
theorem o_pn_1 : plainName "java/util/Objects" = true := by first | (simp [plainName, overriddenIn]; done) | decide +kernel
theorem oD1_0 : decode jdk_31_method_11_code 0 = .ok (.aload_n 0, 1) := by decide +kernel
theorem oD1_1 : decode jdk_31_method_11_code 1 = .ok (.ifnonnull 12, 3) := by decide +kernel
theorem oD1_13 : decode jdk_31_method_11_code 13 = .ok (.aload_n 0, 1) := by decide +kernel
theorem oD1_14 : decode jdk_31_method_11_code 14 = .ok (.areturn, 1) := by decide +kernel
theorem o_ef2 (m : MethodId) (x0 : Int32) : entryFrame m #[(.int x0)] 2 = mkF m 0 #[.val (.int x0), .unset] [] := by first | (simp [entryFrame, mkF, argsToLocals, Value.category]; done) | rfl
theorem o_pn_2 : plainName "org/adviceweft/pointcut/NamePatternMatchesPinLaw" = true := by first | (simp [plainName, overriddenIn]; done) | decide +kernel
theorem oD2_0 : decode method_3_code 0 = .ok (.iload_n 0, 1) := by decide +kernel
theorem oD2_1 : decode method_3_code 1 = .ok (.sipush 255, 3) := by decide +kernel
theorem oD2_4 : decode method_3_code 4 = .ok (.iand, 1) := by decide +kernel
theorem oD2_5 : decode method_3_code 5 = .ok (.i2c, 1) := by decide +kernel
theorem oD2_6 : decode method_3_code 6 = .ok (.istore_n 1, 1) := by decide +kernel
theorem oD2_7 : decode method_3_code 7 = .ok (.iload_n 1, 1) := by decide +kernel
theorem oD2_8 : decode method_3_code 8 = .ok (.bipush 42, 2) := by decide +kernel
theorem oD2_10 : decode method_3_code 10 = .ok (.if_icmp .ne 8, 3) := by decide +kernel
theorem oD2_18 : decode method_3_code 18 = .ok (.iload_n 1, 1) := by decide +kernel
theorem oD2_19 : decode method_3_code 19 = .ok (.ireturn, 1) := by decide +kernel
theorem oD2_13 : decode method_3_code 13 = .ok (.bipush 43, 2) := by decide +kernel
theorem oD2_15 : decode method_3_code 15 = .ok (.goto 4, 3) := by decide +kernel
theorem o_ef3 (m : MethodId) (x0 : Addr) (x1 : Int32) (x2 : Addr) (x3 : Int32) (x4 : Int32) : entryFrame m #[(.ref x0), (.int x1), (.ref x2), (.int x3), (.int x4)] 5 = mkF m 0 #[.val (.ref x0), .val (.int x1), .val (.ref x2), .val (.int x3), .val (.int x4)] [] := by first | (simp [entryFrame, mkF, argsToLocals, Value.category]; done) | rfl
theorem oD3_0 : decode method_4_code 0 = .ok (.iload 4, 2) := by decide +kernel
theorem oD3_2 : decode method_4_code 2 = .ok (.ifCond .lt 11, 3) := by decide +kernel
theorem oD3_13 : decode method_4_code 13 = .ok (.iconst 0, 1) := by decide +kernel
theorem oD3_14 : decode method_4_code 14 = .ok (.ireturn, 1) := by decide +kernel
theorem oD3_5 : decode method_4_code 5 = .ok (.iload 4, 2) := by decide +kernel
theorem oD3_7 : decode method_4_code 7 = .ok (.iload_n 3, 1) := by decide +kernel
theorem oD3_8 : decode method_4_code 8 = .ok (.iadd, 1) := by decide +kernel
theorem oD3_9 : decode method_4_code 9 = .ok (.iload_n 1, 1) := by decide +kernel
theorem oD3_10 : decode method_4_code 10 = .ok (.if_icmp .le 5, 3) := by decide +kernel
theorem oD3_15 : decode method_4_code 15 = .ok (.iload_n 3, 1) := by decide +kernel
theorem oD3_16 : decode method_4_code 16 = .ok (.iconst 1, 1) := by decide +kernel
theorem oD3_17 : decode method_4_code 17 = .ok (.if_icmp .lt 13, 3) := by decide +kernel
theorem oD3_30 : decode method_4_code 30 = .ok (.iload_n 3, 1) := by decide +kernel
theorem oD3_31 : decode method_4_code 31 = .ok (.iconst 2, 1) := by decide +kernel
theorem oD3_32 : decode method_4_code 32 = .ok (.if_icmp .lt 15, 3) := by decide +kernel
theorem oD3_47 : decode method_4_code 47 = .ok (.iconst 1, 1) := by decide +kernel
theorem oD3_48 : decode method_4_code 48 = .ok (.goto 4, 3) := by decide +kernel
theorem oD3_52 : decode method_4_code 52 = .ok (.ireturn, 1) := by decide +kernel
theorem oD3_35 : decode method_4_code 35 = .ok (.aload_n 0, 1) := by decide +kernel
theorem oD3_36 : decode method_4_code 36 = .ok (.iload 4, 2) := by decide +kernel
theorem oD3_38 : decode method_4_code 38 = .ok (.iconst 1, 1) := by decide +kernel
theorem oD3_39 : decode method_4_code 39 = .ok (.iadd, 1) := by decide +kernel
theorem oD3_40 : decode method_4_code 40 = .ok (.caload, 1) := by decide +kernel
theorem oD3_41 : decode method_4_code 41 = .ok (.aload_n 2, 1) := by decide +kernel
theorem oD3_42 : decode method_4_code 42 = .ok (.iconst 1, 1) := by decide +kernel
theorem oD3_43 : decode method_4_code 43 = .ok (.caload, 1) := by decide +kernel
theorem oD3_44 : decode method_4_code 44 = .ok (.if_icmp .ne 7, 3) := by decide +kernel
theorem oD3_51 : decode method_4_code 51 = .ok (.iconst 0, 1) := by decide +kernel
theorem oD3_20 : decode method_4_code 20 = .ok (.aload_n 0, 1) := by decide +kernel
theorem oD3_21 : decode method_4_code 21 = .ok (.iload 4, 2) := by decide +kernel
theorem oD3_23 : decode method_4_code 23 = .ok (.caload, 1) := by decide +kernel
theorem oD3_24 : decode method_4_code 24 = .ok (.aload_n 2, 1) := by decide +kernel
theorem oD3_25 : decode method_4_code 25 = .ok (.iconst 0, 1) := by decide +kernel
theorem oD3_26 : decode method_4_code 26 = .ok (.caload, 1) := by decide +kernel
theorem oD3_27 : decode method_4_code 27 = .ok (.if_icmp .ne 24, 3) := by decide +kernel
theorem o_ef4 (m : MethodId) (x0 : Addr) (x1 : Addr) : entryFrame m #[(.ref x0), (.ref x1), (.int 0), (.int 0), .null] 6 = mkF m 0 #[.val (.ref x0), .val (.ref x1), .val (.int 0), .val (.int 0), .val .null, .unset] [] := by first | (simp [entryFrame, mkF, argsToLocals, Value.category]; done) | rfl
theorem o_pn_3 : plainName "java/lang/String" = true := by first | (simp [plainName, overriddenIn]; done) | decide +kernel
theorem oD4_0 : decode jdk_42_method_149_code 0 = .ok (.aload_n 0, 1) := by decide +kernel
theorem oD4_1 : decode jdk_42_method_149_code 1 = .ok (.invokespecial 1, 3) := by decide +kernel
theorem oD4_4 : decode jdk_42_method_149_code 4 = .ok (.iload_n 3, 1) := by decide +kernel
theorem oD4_5 : decode jdk_42_method_149_code 5 = .ok (.ifCond .ne 22, 3) := by decide +kernel
theorem oD4_8 : decode jdk_42_method_149_code 8 = .ok (.aload_n 0, 1) := by decide +kernel
theorem oD4_9 : decode jdk_42_method_149_code 9 = .ok (.ldc 7, 2) := by decide +kernel
theorem oD4_11 : decode jdk_42_method_149_code 11 = .ok (.getfield 9, 3) := by decide +kernel
theorem oD4_14 : decode jdk_42_method_149_code 14 = .ok (.putfield 9, 3) := by decide +kernel
theorem oD4_17 : decode jdk_42_method_149_code 17 = .ok (.aload_n 0, 1) := by decide +kernel
theorem oD4_18 : decode jdk_42_method_149_code 18 = .ok (.ldc 7, 2) := by decide +kernel
theorem oD4_20 : decode jdk_42_method_149_code 20 = .ok (.getfield 15, 3) := by decide +kernel
theorem oD4_23 : decode jdk_42_method_149_code 23 = .ok (.putfield 15, 3) := by decide +kernel
theorem oD4_26 : decode jdk_42_method_149_code 26 = .ok (.return_, 1) := by decide +kernel
theorem oD5_0 : decode jdk_42_method_3_code 0 = .ok (.aload_n 0, 1) := by decide +kernel
theorem oD5_1 : decode jdk_42_method_3_code 1 = .ok (.aload_n 1, 1) := by decide +kernel
theorem oD5_2 : decode jdk_42_method_3_code 2 = .ok (.iconst 0, 1) := by decide +kernel
theorem oD5_3 : decode jdk_42_method_3_code 3 = .ok (.aload_n 1, 1) := by decide +kernel
theorem oD5_4 : decode jdk_42_method_3_code 4 = .ok (.arraylength, 1) := by decide +kernel
theorem oD5_5 : decode jdk_42_method_3_code 5 = .ok (.aconst_null, 1) := by decide +kernel
theorem oD5_6 : decode jdk_42_method_3_code 6 = .ok (.invokespecial 27, 3) := by decide +kernel
theorem o_pd__28_5bCIILjava_2flang_2fVoid_3b_29V : parseMethodDescriptor "([CIILjava/lang/Void;)V" = some ⟨[(.array .char), .int, .int, (.object "java/lang/Void")], none⟩ := by decide +kernel
theorem oD5_9 : decode jdk_42_method_3_code 9 = .ok (.return_, 1) := by decide +kernel
theorem o_pn_4 : plainName "java/lang/StringLatin1" = true := by first | (simp [plainName, overriddenIn]; done) | decide +kernel
theorem oD6_0 : decode jdk_43_method_24_code 0 = .ok (.aload_n 1, 1) := by decide +kernel
theorem oD6_1 : decode jdk_43_method_24_code 1 = .ok (.arraylength, 1) := by decide +kernel
theorem oD6_2 : decode jdk_43_method_24_code 2 = .ok (.ifCond .ne 5, 3) := by decide +kernel
theorem oD6_7 : decode jdk_43_method_24_code 7 = .ok (.aload_n 0, 1) := by decide +kernel
theorem oD6_8 : decode jdk_43_method_24_code 8 = .ok (.arraylength, 1) := by decide +kernel
theorem oD6_9 : decode jdk_43_method_24_code 9 = .ok (.ifCond .ne 5, 3) := by decide +kernel
theorem oD6_12 : decode jdk_43_method_24_code 12 = .ok (.iconst (-1), 1) := by decide +kernel
theorem oD6_13 : decode jdk_43_method_24_code 13 = .ok (.ireturn, 1) := by decide +kernel
theorem o_ef5 (m : MethodId) (x0 : Addr) (x1 : Addr) : entryFrame m #[(.ref x0), (.ref x1)] 3 = mkF m 0 #[.val (.ref x0), .val (.ref x1), .unset] [] := by first | (simp [entryFrame, mkF, argsToLocals, Value.category]; done) | rfl
theorem oD7_0 : decode jdk_42_method_152_code 0 = .ok (.getstatic 38, 3) := by decide +kernel
theorem oD7_3 : decode jdk_42_method_152_code 3 = .ok (.ifCond .eq 10, 3) := by decide +kernel
theorem oD7_6 : decode jdk_42_method_152_code 6 = .ok (.aload_n 0, 1) := by decide +kernel
theorem oD7_7 : decode jdk_42_method_152_code 7 = .ok (.getfield 15, 3) := by decide +kernel
theorem oD7_10 : decode jdk_42_method_152_code 10 = .ok (.goto 4, 3) := by decide +kernel
theorem oD7_14 : decode jdk_42_method_152_code 14 = .ok (.ireturn, 1) := by decide +kernel
theorem oD8_0 : decode jdk_42_method_154_code 0 = .ok (.getstatic 38, 3) := by decide +kernel
theorem oD8_3 : decode jdk_42_method_154_code 3 = .ok (.ifCond .eq 14, 3) := by decide +kernel
theorem oD8_6 : decode jdk_42_method_154_code 6 = .ok (.aload_n 0, 1) := by decide +kernel
theorem oD8_7 : decode jdk_42_method_154_code 7 = .ok (.getfield 15, 3) := by decide +kernel
theorem oD8_10 : decode jdk_42_method_154_code 10 = .ok (.ifCond .ne 7, 3) := by decide +kernel
theorem oD8_13 : decode jdk_42_method_154_code 13 = .ok (.iconst 1, 1) := by decide +kernel
theorem oD8_14 : decode jdk_42_method_154_code 14 = .ok (.goto 4, 3) := by decide +kernel
theorem oD8_18 : decode jdk_42_method_154_code 18 = .ok (.ireturn, 1) := by decide +kernel
theorem oD9_0 : decode jdk_42_method_84_code 0 = .ok (.aload_n 0, 1) := by decide +kernel
theorem oD9_1 : decode jdk_42_method_84_code 1 = .ok (.invokevirtual 335, 3) := by decide +kernel
theorem o_pd__28_29B : parseMethodDescriptor "()B" = some ⟨[], some .byte⟩ := by decide +kernel
theorem oD9_4 : decode jdk_42_method_84_code 4 = .ok (.istore_n 2, 1) := by decide +kernel
theorem oD9_5 : decode jdk_42_method_84_code 5 = .ok (.iload_n 2, 1) := by decide +kernel
theorem oD9_6 : decode jdk_42_method_84_code 6 = .ok (.aload_n 1, 1) := by decide +kernel
theorem oD9_7 : decode jdk_42_method_84_code 7 = .ok (.invokevirtual 335, 3) := by decide +kernel
theorem oD9_10 : decode jdk_42_method_84_code 10 = .ok (.if_icmp .ne 36, 3) := by decide +kernel
theorem oD9_13 : decode jdk_42_method_84_code 13 = .ok (.aload_n 0, 1) := by decide +kernel
theorem oD9_14 : decode jdk_42_method_84_code 14 = .ok (.invokevirtual 492, 3) := by decide +kernel
theorem o_pd__28_29Z : parseMethodDescriptor "()Z" = some ⟨[], some .boolean⟩ := by decide +kernel
theorem oD9_17 : decode jdk_42_method_84_code 17 = .ok (.ifCond .eq 17, 3) := by decide +kernel
theorem oD9_20 : decode jdk_42_method_84_code 20 = .ok (.aload_n 0, 1) := by decide +kernel
theorem oD9_21 : decode jdk_42_method_84_code 21 = .ok (.getfield 9, 3) := by decide +kernel
theorem oD9_24 : decode jdk_42_method_84_code 24 = .ok (.aload_n 1, 1) := by decide +kernel
theorem oD9_25 : decode jdk_42_method_84_code 25 = .ok (.getfield 9, 3) := by decide +kernel
theorem oD9_28 : decode jdk_42_method_84_code 28 = .ok (.invokestatic 647, 3) := by decide +kernel
theorem o_pd__28_5bB_5bB_29I : parseMethodDescriptor "([B[B)I" = some ⟨[(.array .byte), (.array .byte)], some .int⟩ := by decide +kernel
theorem oD9_31 : decode jdk_42_method_84_code 31 = .ok (.goto 14, 3) := by decide +kernel
theorem oD9_45 : decode jdk_42_method_84_code 45 = .ok (.ireturn, 1) := by decide +kernel
theorem oD10_0 : decode jdk_42_method_126_code 0 = .ok (.aload_n 0, 1) := by decide +kernel
theorem oD10_1 : decode jdk_42_method_126_code 1 = .ok (.areturn, 1) := by decide +kernel
theorem oD11_0 : decode jdk_42_method_97_code 0 = .ok (.aload_n 0, 1) := by decide +kernel
theorem oD11_1 : decode jdk_42_method_97_code 1 = .ok (.aload_n 1, 1) := by decide +kernel
theorem oD11_2 : decode jdk_42_method_97_code 2 = .ok (.invokeinterface 710 1, 5) := by decide +kernel
theorem o_pd__28_29Ljava_2flang_2fString_3b : parseMethodDescriptor "()Ljava/lang/String;" = some ⟨[], some (.object "java/lang/String")⟩ := by decide +kernel
theorem oD11_7 : decode jdk_42_method_97_code 7 = .ok (.invokevirtual 711, 3) := by decide +kernel
theorem o_pd__28Ljava_2flang_2fString_3b_29I : parseMethodDescriptor "(Ljava/lang/String;)I" = some ⟨[(.object "java/lang/String")], some .int⟩ := by decide +kernel
theorem oD11_10 : decode jdk_42_method_97_code 10 = .ok (.ifCond .lt 7, 3) := by decide +kernel
theorem oD11_17 : decode jdk_42_method_97_code 17 = .ok (.iconst 0, 1) := by decide +kernel
theorem oD11_18 : decode jdk_42_method_97_code 18 = .ok (.ireturn, 1) := by decide +kernel
theorem oD11_13 : decode jdk_42_method_97_code 13 = .ok (.iconst 1, 1) := by decide +kernel
theorem oD11_14 : decode jdk_42_method_97_code 14 = .ok (.goto 4, 3) := by decide +kernel
theorem o_ef6 (m : MethodId) (x0 : Addr) (x2 : Addr) : entryFrame m #[(.ref x0), (.int 1), (.ref x2), (.int 1), (.int 0)] 11 = mkF m 0 #[.val (.ref x0), .val (.int 1), .val (.ref x2), .val (.int 1), .val (.int 0), .unset, .unset, .unset, .unset, .unset, .unset] [] := by first | (simp [entryFrame, mkF, argsToLocals, Value.category]; done) | rfl
theorem oD12_0 : decode jdk_43_method_25_code 0 = .ok (.aload_n 2, 1) := by decide +kernel
theorem oD12_1 : decode jdk_43_method_25_code 1 = .ok (.iconst 0, 1) := by decide +kernel
theorem oD12_2 : decode jdk_43_method_25_code 2 = .ok (.baload, 1) := by decide +kernel
theorem oD12_3 : decode jdk_43_method_25_code 3 = .ok (.istore 5, 2) := by decide +kernel
theorem oD12_5 : decode jdk_43_method_25_code 5 = .ok (.iload_n 1, 1) := by decide +kernel
theorem oD12_6 : decode jdk_43_method_25_code 6 = .ok (.iload_n 3, 1) := by decide +kernel
theorem oD12_7 : decode jdk_43_method_25_code 7 = .ok (.isub, 1) := by decide +kernel
theorem oD12_8 : decode jdk_43_method_25_code 8 = .ok (.istore 6, 2) := by decide +kernel
theorem oD12_10 : decode jdk_43_method_25_code 10 = .ok (.iload 4, 2) := by decide +kernel
theorem oD12_12 : decode jdk_43_method_25_code 12 = .ok (.istore 7, 2) := by decide +kernel
theorem oD12_14 : decode jdk_43_method_25_code 14 = .ok (.iload 7, 2) := by decide +kernel
theorem oD12_16 : decode jdk_43_method_25_code 16 = .ok (.iload 6, 2) := by decide +kernel
theorem oD12_18 : decode jdk_43_method_25_code 18 = .ok (.if_icmp .gt 101, 3) := by decide +kernel
theorem oD12_21 : decode jdk_43_method_25_code 21 = .ok (.aload_n 0, 1) := by decide +kernel
theorem oD12_22 : decode jdk_43_method_25_code 22 = .ok (.iload 7, 2) := by decide +kernel
theorem oD12_24 : decode jdk_43_method_25_code 24 = .ok (.baload, 1) := by decide +kernel
theorem oD12_25 : decode jdk_43_method_25_code 25 = .ok (.iload 5, 2) := by decide +kernel
theorem oD12_27 : decode jdk_43_method_25_code 27 = .ok (.if_icmp .eq 25, 3) := by decide +kernel
theorem oD12_52 : decode jdk_43_method_25_code 52 = .ok (.iload 7, 2) := by decide +kernel
theorem oD12_54 : decode jdk_43_method_25_code 54 = .ok (.iload 6, 2) := by decide +kernel
theorem oD12_56 : decode jdk_43_method_25_code 56 = .ok (.if_icmp .gt 57, 3) := by decide +kernel
theorem oD12_59 : decode jdk_43_method_25_code 59 = .ok (.iload 7, 2) := by decide +kernel
theorem oD12_61 : decode jdk_43_method_25_code 61 = .ok (.iconst 1, 1) := by decide +kernel
theorem oD12_62 : decode jdk_43_method_25_code 62 = .ok (.iadd, 1) := by decide +kernel
theorem oD12_63 : decode jdk_43_method_25_code 63 = .ok (.istore 8, 2) := by decide +kernel
theorem oD12_65 : decode jdk_43_method_25_code 65 = .ok (.iload 8, 2) := by decide +kernel
theorem oD12_67 : decode jdk_43_method_25_code 67 = .ok (.iload_n 3, 1) := by decide +kernel
theorem oD12_68 : decode jdk_43_method_25_code 68 = .ok (.iadd, 1) := by decide +kernel
theorem oD12_69 : decode jdk_43_method_25_code 69 = .ok (.iconst 1, 1) := by decide +kernel
theorem oD12_70 : decode jdk_43_method_25_code 70 = .ok (.isub, 1) := by decide +kernel
theorem oD12_71 : decode jdk_43_method_25_code 71 = .ok (.istore 9, 2) := by decide +kernel
theorem oD12_73 : decode jdk_43_method_25_code 73 = .ok (.iconst 1, 1) := by decide +kernel
theorem oD12_74 : decode jdk_43_method_25_code 74 = .ok (.istore 10, 2) := by decide +kernel
theorem oD12_76 : decode jdk_43_method_25_code 76 = .ok (.iload 8, 2) := by decide +kernel
theorem oD12_78 : decode jdk_43_method_25_code 78 = .ok (.iload 9, 2) := by decide +kernel
theorem oD12_80 : decode jdk_43_method_25_code 80 = .ok (.if_icmp .ge 23, 3) := by decide +kernel
theorem oD12_103 : decode jdk_43_method_25_code 103 = .ok (.iload 8, 2) := by decide +kernel
theorem oD12_105 : decode jdk_43_method_25_code 105 = .ok (.iload 9, 2) := by decide +kernel
theorem oD12_107 : decode jdk_43_method_25_code 107 = .ok (.if_icmp .ne 6, 3) := by decide +kernel
theorem oD12_110 : decode jdk_43_method_25_code 110 = .ok (.iload 7, 2) := by decide +kernel
theorem oD12_112 : decode jdk_43_method_25_code 112 = .ok (.ireturn, 1) := by decide +kernel
theorem o_lf0 (v0 : Int32) (s0 : Int32) (h0 : v0 = s0) : ((0 : Int32) < 0 ↔ ¬ o_occ ([v0] : List Int32) ([s0] : List Int32) = true) := by simp_all [o_occ, o_pref]
theorem oD12_30 : decode jdk_43_method_25_code 30 = .ok (.iinc 7 1, 3) := by decide +kernel
theorem oD12_33 : decode jdk_43_method_25_code 33 = .ok (.iload 7, 2) := by decide +kernel
theorem oD12_35 : decode jdk_43_method_25_code 35 = .ok (.iload 6, 2) := by decide +kernel
theorem oD12_37 : decode jdk_43_method_25_code 37 = .ok (.if_icmp .gt 15, 3) := by decide +kernel
theorem oD12_113 : decode jdk_43_method_25_code 113 = .ok (.iinc 7 1, 3) := by decide +kernel
theorem oD12_116 : decode jdk_43_method_25_code 116 = .ok (.goto (-102), 3) := by decide +kernel
theorem oD12_119 : decode jdk_43_method_25_code 119 = .ok (.iconst (-1), 1) := by decide +kernel
theorem oD12_120 : decode jdk_43_method_25_code 120 = .ok (.ireturn, 1) := by decide +kernel
theorem o_lf1 (v0 : Int32) (s0 : Int32) (h0 : ¬ v0 = s0) : ((-1 : Int32) < 0 ↔ ¬ o_occ ([v0] : List Int32) ([s0] : List Int32) = true) := by simp_all [o_occ, o_pref]
theorem oD6_14 : decode jdk_43_method_24_code 14 = .ok (.aload_n 0, 1) := by decide +kernel
theorem oD6_15 : decode jdk_43_method_24_code 15 = .ok (.aload_n 0, 1) := by decide +kernel
theorem oD6_16 : decode jdk_43_method_24_code 16 = .ok (.arraylength, 1) := by decide +kernel
theorem oD6_17 : decode jdk_43_method_24_code 17 = .ok (.aload_n 1, 1) := by decide +kernel
theorem oD6_18 : decode jdk_43_method_24_code 18 = .ok (.aload_n 1, 1) := by decide +kernel
theorem oD6_19 : decode jdk_43_method_24_code 19 = .ok (.arraylength, 1) := by decide +kernel
theorem oD6_20 : decode jdk_43_method_24_code 20 = .ok (.iconst 0, 1) := by decide +kernel
theorem oD6_21 : decode jdk_43_method_24_code 21 = .ok (.invokestatic 99, 3) := by decide +kernel
theorem o_pd__28_5bBI_5bBII_29I : parseMethodDescriptor "([BI[BII)I" = some ⟨[(.array .byte), .int, (.array .byte), .int, .int], some .int⟩ := by decide +kernel
theorem oD6_24 : decode jdk_43_method_24_code 24 = .ok (.ireturn, 1) := by decide +kernel
theorem o_ef7 (m : MethodId) (x0 : Addr) (x2 : Addr) : entryFrame m #[(.ref x0), (.int 1), (.ref x2), (.int 2), (.int 0)] 11 = mkF m 0 #[.val (.ref x0), .val (.int 1), .val (.ref x2), .val (.int 2), .val (.int 0), .unset, .unset, .unset, .unset, .unset, .unset] [] := by first | (simp [entryFrame, mkF, argsToLocals, Value.category]; done) | rfl
theorem o_lf2 (v0 : Int32) (s0 : Int32) (s1 : Int32)  : ((-1 : Int32) < 0 ↔ ¬ o_occ ([v0] : List Int32) ([s0, s1] : List Int32) = true) := by simp_all [o_occ, o_pref]
theorem o_ef8 (m : MethodId) (x0 : Addr) (x2 : Addr) : entryFrame m #[(.ref x0), (.int 2), (.ref x2), (.int 1), (.int 0)] 11 = mkF m 0 #[.val (.ref x0), .val (.int 2), .val (.ref x2), .val (.int 1), .val (.int 0), .unset, .unset, .unset, .unset, .unset, .unset] [] := by first | (simp [entryFrame, mkF, argsToLocals, Value.category]; done) | rfl
theorem o_lf3 (v0 : Int32) (v1 : Int32) (s0 : Int32) (h0 : v0 = s0) : ((0 : Int32) < 0 ↔ ¬ o_occ ([v0, v1] : List Int32) ([s0] : List Int32) = true) := by simp_all [o_occ, o_pref]
theorem oD12_40 : decode jdk_43_method_25_code 40 = .ok (.aload_n 0, 1) := by decide +kernel
theorem oD12_41 : decode jdk_43_method_25_code 41 = .ok (.iload 7, 2) := by decide +kernel
theorem oD12_43 : decode jdk_43_method_25_code 43 = .ok (.baload, 1) := by decide +kernel
theorem oD12_44 : decode jdk_43_method_25_code 44 = .ok (.iload 5, 2) := by decide +kernel
theorem oD12_46 : decode jdk_43_method_25_code 46 = .ok (.if_icmp .eq 6, 3) := by decide +kernel
theorem o_lf4 (v0 : Int32) (v1 : Int32) (s0 : Int32) (h0 : ¬ v0 = s0) (h1 : v1 = s0) : ((1 : Int32) < 0 ↔ ¬ o_occ ([v0, v1] : List Int32) ([s0] : List Int32) = true) := by simp_all [o_occ, o_pref]
theorem oD12_49 : decode jdk_43_method_25_code 49 = .ok (.goto (-19), 3) := by decide +kernel
theorem o_lf5 (v0 : Int32) (v1 : Int32) (s0 : Int32) (h0 : ¬ v0 = s0) (h1 : ¬ v1 = s0) : ((-1 : Int32) < 0 ↔ ¬ o_occ ([v0, v1] : List Int32) ([s0] : List Int32) = true) := by simp_all [o_occ, o_pref]
theorem o_ef9 (m : MethodId) (x0 : Addr) (x2 : Addr) : entryFrame m #[(.ref x0), (.int 2), (.ref x2), (.int 2), (.int 0)] 11 = mkF m 0 #[.val (.ref x0), .val (.int 2), .val (.ref x2), .val (.int 2), .val (.int 0), .unset, .unset, .unset, .unset, .unset, .unset] [] := by first | (simp [entryFrame, mkF, argsToLocals, Value.category]; done) | rfl
theorem oD12_83 : decode jdk_43_method_25_code 83 = .ok (.aload_n 0, 1) := by decide +kernel
theorem oD12_84 : decode jdk_43_method_25_code 84 = .ok (.iload 8, 2) := by decide +kernel
theorem oD12_86 : decode jdk_43_method_25_code 86 = .ok (.baload, 1) := by decide +kernel
theorem oD12_87 : decode jdk_43_method_25_code 87 = .ok (.aload_n 2, 1) := by decide +kernel
theorem oD12_88 : decode jdk_43_method_25_code 88 = .ok (.iload 10, 2) := by decide +kernel
theorem oD12_90 : decode jdk_43_method_25_code 90 = .ok (.baload, 1) := by decide +kernel
theorem oD12_91 : decode jdk_43_method_25_code 91 = .ok (.if_icmp .ne 12, 3) := by decide +kernel
theorem o_lf6 (v0 : Int32) (v1 : Int32) (s0 : Int32) (s1 : Int32) (h0 : v0 = s0) (h1 : ¬ v1 = s1) : ((-1 : Int32) < 0 ↔ ¬ o_occ ([v0, v1] : List Int32) ([s0, s1] : List Int32) = true) := by simp_all [o_occ, o_pref]
theorem oD12_94 : decode jdk_43_method_25_code 94 = .ok (.iinc 8 1, 3) := by decide +kernel
theorem oD12_97 : decode jdk_43_method_25_code 97 = .ok (.iinc 10 1, 3) := by decide +kernel
theorem oD12_100 : decode jdk_43_method_25_code 100 = .ok (.goto (-24), 3) := by decide +kernel
theorem o_lf7 (v0 : Int32) (v1 : Int32) (s0 : Int32) (s1 : Int32) (h0 : v0 = s0) (h1 : v1 = s1) : ((0 : Int32) < 0 ↔ ¬ o_occ ([v0, v1] : List Int32) ([s0, s1] : List Int32) = true) := by simp_all [o_occ, o_pref]
theorem o_lf8 (v0 : Int32) (v1 : Int32) (s0 : Int32) (s1 : Int32) (h0 : ¬ v0 = s0) : ((-1 : Int32) < 0 ↔ ¬ o_occ ([v0, v1] : List Int32) ([s0, s1] : List Int32) = true) := by simp_all [o_occ, o_pref]
theorem o_ef10 (m : MethodId) (x0 : Addr) (x2 : Addr) : entryFrame m #[(.ref x0), (.int 3), (.ref x2), (.int 1), (.int 0)] 11 = mkF m 0 #[.val (.ref x0), .val (.int 3), .val (.ref x2), .val (.int 1), .val (.int 0), .unset, .unset, .unset, .unset, .unset, .unset] [] := by first | (simp [entryFrame, mkF, argsToLocals, Value.category]; done) | rfl
theorem o_lf9 (v0 : Int32) (v1 : Int32) (v2 : Int32) (s0 : Int32) (h0 : v0 = s0) : ((0 : Int32) < 0 ↔ ¬ o_occ ([v0, v1, v2] : List Int32) ([s0] : List Int32) = true) := by simp_all [o_occ, o_pref]
theorem o_lf10 (v0 : Int32) (v1 : Int32) (v2 : Int32) (s0 : Int32) (h0 : ¬ v0 = s0) (h1 : v1 = s0) : ((1 : Int32) < 0 ↔ ¬ o_occ ([v0, v1, v2] : List Int32) ([s0] : List Int32) = true) := by simp_all [o_occ, o_pref]
theorem o_lf11 (v0 : Int32) (v1 : Int32) (v2 : Int32) (s0 : Int32) (h0 : ¬ v0 = s0) (h1 : ¬ v1 = s0) (h2 : v2 = s0) : ((2 : Int32) < 0 ↔ ¬ o_occ ([v0, v1, v2] : List Int32) ([s0] : List Int32) = true) := by simp_all [o_occ, o_pref]
theorem o_lf12 (v0 : Int32) (v1 : Int32) (v2 : Int32) (s0 : Int32) (h0 : ¬ v0 = s0) (h1 : ¬ v1 = s0) (h2 : ¬ v2 = s0) : ((-1 : Int32) < 0 ↔ ¬ o_occ ([v0, v1, v2] : List Int32) ([s0] : List Int32) = true) := by simp_all [o_occ, o_pref]
theorem o_ef11 (m : MethodId) (x0 : Addr) (x2 : Addr) : entryFrame m #[(.ref x0), (.int 3), (.ref x2), (.int 2), (.int 0)] 11 = mkF m 0 #[.val (.ref x0), .val (.int 3), .val (.ref x2), .val (.int 2), .val (.int 0), .unset, .unset, .unset, .unset, .unset, .unset] [] := by first | (simp [entryFrame, mkF, argsToLocals, Value.category]; done) | rfl
theorem o_lf13 (v0 : Int32) (v1 : Int32) (v2 : Int32) (s0 : Int32) (s1 : Int32) (h0 : v0 = s0) (h1 : ¬ v1 = s1) (h2 : v1 = s0) (h3 : ¬ v2 = s1) : ((-1 : Int32) < 0 ↔ ¬ o_occ ([v0, v1, v2] : List Int32) ([s0, s1] : List Int32) = true) := by simp_all [o_occ, o_pref]
theorem o_lf14 (v0 : Int32) (v1 : Int32) (v2 : Int32) (s0 : Int32) (s1 : Int32) (h0 : v0 = s0) (h1 : ¬ v1 = s1) (h2 : v1 = s0) (h3 : v2 = s1) : ((1 : Int32) < 0 ↔ ¬ o_occ ([v0, v1, v2] : List Int32) ([s0, s1] : List Int32) = true) := by simp_all [o_occ, o_pref]
theorem o_lf15 (v0 : Int32) (v1 : Int32) (v2 : Int32) (s0 : Int32) (s1 : Int32) (h0 : v0 = s0) (h1 : ¬ v1 = s1) (h2 : ¬ v1 = s0) : ((-1 : Int32) < 0 ↔ ¬ o_occ ([v0, v1, v2] : List Int32) ([s0, s1] : List Int32) = true) := by simp_all [o_occ, o_pref]
theorem o_lf16 (v0 : Int32) (v1 : Int32) (v2 : Int32) (s0 : Int32) (s1 : Int32) (h0 : v0 = s0) (h1 : v1 = s1) : ((0 : Int32) < 0 ↔ ¬ o_occ ([v0, v1, v2] : List Int32) ([s0, s1] : List Int32) = true) := by simp_all [o_occ, o_pref]
theorem o_lf17 (v0 : Int32) (v1 : Int32) (v2 : Int32) (s0 : Int32) (s1 : Int32) (h0 : ¬ v0 = s0) (h1 : v1 = s0) (h2 : ¬ v2 = s1) : ((-1 : Int32) < 0 ↔ ¬ o_occ ([v0, v1, v2] : List Int32) ([s0, s1] : List Int32) = true) := by simp_all [o_occ, o_pref]
theorem o_lf18 (v0 : Int32) (v1 : Int32) (v2 : Int32) (s0 : Int32) (s1 : Int32) (h0 : ¬ v0 = s0) (h1 : v1 = s0) (h2 : v2 = s1) : ((1 : Int32) < 0 ↔ ¬ o_occ ([v0, v1, v2] : List Int32) ([s0, s1] : List Int32) = true) := by simp_all [o_occ, o_pref]
theorem o_lf19 (v0 : Int32) (v1 : Int32) (v2 : Int32) (s0 : Int32) (s1 : Int32) (h0 : ¬ v0 = s0) (h1 : ¬ v1 = s0) : ((-1 : Int32) < 0 ↔ ¬ o_occ ([v0, v1, v2] : List Int32) ([s0, s1] : List Int32) = true) := by simp_all [o_occ, o_pref]
theorem o_ef12 (m : MethodId) (x0 : Addr) (x2 : Addr) : entryFrame m #[(.ref x0), (.int 0), (.ref x2), (.int 0), (.int 0)] 8 = mkF m 0 #[.val (.ref x0), .val (.int 0), .val (.ref x2), .val (.int 0), .val (.int 0), .unset, .unset, .unset] [] := by first | (simp [entryFrame, mkF, argsToLocals, Value.category]; done) | rfl
theorem o_pn_5 : plainName "jdk/internal/util/ArraysSupport" = true := by first | (simp [plainName, overriddenIn]; done) | decide +kernel
theorem oD13_0 : decode jdk_48_method_14_code 0 = .ok (.iconst 0, 1) := by decide +kernel
theorem oD13_1 : decode jdk_48_method_14_code 1 = .ok (.istore 5, 2) := by decide +kernel
theorem oD13_3 : decode jdk_48_method_14_code 3 = .ok (.iload 4, 2) := by decide +kernel
theorem oD13_5 : decode jdk_48_method_14_code 5 = .ok (.bipush 7, 2) := by decide +kernel
theorem oD13_7 : decode jdk_48_method_14_code 7 = .ok (.if_icmp .le 63, 3) := by decide +kernel
theorem oD13_70 : decode jdk_48_method_14_code 70 = .ok (.iload 5, 2) := by decide +kernel
theorem oD13_72 : decode jdk_48_method_14_code 72 = .ok (.iload 4, 2) := by decide +kernel
theorem oD13_74 : decode jdk_48_method_14_code 74 = .ok (.if_icmp .ge 27, 3) := by decide +kernel
theorem oD13_101 : decode jdk_48_method_14_code 101 = .ok (.iconst (-1), 1) := by decide +kernel
theorem oD13_102 : decode jdk_48_method_14_code 102 = .ok (.ireturn, 1) := by decide +kernel
theorem o_lf20  : ((-1 : Int32) < 0 ↔ o_pref ([] : List Int32) ([] : List Int32) = true) := by simp_all [o_pref]
theorem o_ef13 (m : MethodId) (x0 : Addr) (x1 : Addr) : entryFrame m #[(.ref x0), (.ref x1), (.int 0)] 8 = mkF m 0 #[.val (.ref x0), .val (.ref x1), .val (.int 0), .unset, .unset, .unset, .unset, .unset] [] := by first | (simp [entryFrame, mkF, argsToLocals, Value.category]; done) | rfl
theorem oD14_0 : decode jdk_42_method_75_code 0 = .ok (.iload_n 2, 1) := by decide +kernel
theorem oD14_1 : decode jdk_42_method_75_code 1 = .ok (.ifCond .lt 16, 3) := by decide +kernel
theorem oD14_4 : decode jdk_42_method_75_code 4 = .ok (.iload_n 2, 1) := by decide +kernel
theorem oD14_5 : decode jdk_42_method_75_code 5 = .ok (.aload_n 0, 1) := by decide +kernel
theorem oD14_6 : decode jdk_42_method_75_code 6 = .ok (.invokevirtual 505, 3) := by decide +kernel
theorem o_pd__28_29I : parseMethodDescriptor "()I" = some ⟨[], some .int⟩ := by decide +kernel
theorem oD14_9 : decode jdk_42_method_75_code 9 = .ok (.aload_n 1, 1) := by decide +kernel
theorem oD14_10 : decode jdk_42_method_75_code 10 = .ok (.invokevirtual 505, 3) := by decide +kernel
theorem oD14_13 : decode jdk_42_method_75_code 13 = .ok (.isub, 1) := by decide +kernel
theorem oD14_14 : decode jdk_42_method_75_code 14 = .ok (.if_icmp .le 5, 3) := by decide +kernel
theorem oD14_19 : decode jdk_42_method_75_code 19 = .ok (.aload_n 0, 1) := by decide +kernel
theorem oD14_20 : decode jdk_42_method_75_code 20 = .ok (.getfield 9, 3) := by decide +kernel
theorem oD14_23 : decode jdk_42_method_75_code 23 = .ok (.astore_n 3, 1) := by decide +kernel
theorem oD14_24 : decode jdk_42_method_75_code 24 = .ok (.aload_n 1, 1) := by decide +kernel
theorem oD14_25 : decode jdk_42_method_75_code 25 = .ok (.getfield 9, 3) := by decide +kernel
theorem oD14_28 : decode jdk_42_method_75_code 28 = .ok (.astore 4, 2) := by decide +kernel
theorem oD14_30 : decode jdk_42_method_75_code 30 = .ok (.iconst 0, 1) := by decide +kernel
theorem oD14_31 : decode jdk_42_method_75_code 31 = .ok (.istore 5, 2) := by decide +kernel
theorem oD14_33 : decode jdk_42_method_75_code 33 = .ok (.aload 4, 2) := by decide +kernel
theorem oD14_35 : decode jdk_42_method_75_code 35 = .ok (.arraylength, 1) := by decide +kernel
theorem oD14_36 : decode jdk_42_method_75_code 36 = .ok (.istore 6, 2) := by decide +kernel
theorem oD14_38 : decode jdk_42_method_75_code 38 = .ok (.aload_n 0, 1) := by decide +kernel
theorem oD14_39 : decode jdk_42_method_75_code 39 = .ok (.invokevirtual 335, 3) := by decide +kernel
theorem oD14_42 : decode jdk_42_method_75_code 42 = .ok (.istore 7, 2) := by decide +kernel
theorem oD14_44 : decode jdk_42_method_75_code 44 = .ok (.iload 7, 2) := by decide +kernel
theorem oD14_46 : decode jdk_42_method_75_code 46 = .ok (.aload_n 1, 1) := by decide +kernel
theorem oD14_47 : decode jdk_42_method_75_code 47 = .ok (.invokevirtual 335, 3) := by decide +kernel
theorem oD14_50 : decode jdk_42_method_75_code 50 = .ok (.if_icmp .ne 32, 3) := by decide +kernel
theorem oD14_53 : decode jdk_42_method_75_code 53 = .ok (.iload 7, 2) := by decide +kernel
theorem oD14_55 : decode jdk_42_method_75_code 55 = .ok (.iconst 1, 1) := by decide +kernel
theorem oD14_56 : decode jdk_42_method_75_code 56 = .ok (.if_icmp .ne 7, 3) := by decide +kernel
theorem oD14_63 : decode jdk_42_method_75_code 63 = .ok (.aload_n 3, 1) := by decide +kernel
theorem oD14_64 : decode jdk_42_method_75_code 64 = .ok (.iload_n 2, 1) := by decide +kernel
theorem oD14_65 : decode jdk_42_method_75_code 65 = .ok (.aload 4, 2) := by decide +kernel
theorem oD14_67 : decode jdk_42_method_75_code 67 = .ok (.iconst 0, 1) := by decide +kernel
theorem oD14_68 : decode jdk_42_method_75_code 68 = .ok (.iload 6, 2) := by decide +kernel
theorem oD14_70 : decode jdk_42_method_75_code 70 = .ok (.invokestatic 607, 3) := by decide +kernel
theorem oD14_73 : decode jdk_42_method_75_code 73 = .ok (.ifCond .ge 7, 3) := by decide +kernel
theorem oD14_80 : decode jdk_42_method_75_code 80 = .ok (.iconst 0, 1) := by decide +kernel
theorem oD14_81 : decode jdk_42_method_75_code 81 = .ok (.ireturn, 1) := by decide +kernel
theorem oD14_76 : decode jdk_42_method_75_code 76 = .ok (.iconst 1, 1) := by decide +kernel
theorem oD14_77 : decode jdk_42_method_75_code 77 = .ok (.goto 4, 3) := by decide +kernel
theorem oD15_0 : decode jdk_42_method_77_code 0 = .ok (.aload_n 0, 1) := by decide +kernel
theorem oD15_1 : decode jdk_42_method_77_code 1 = .ok (.aload_n 1, 1) := by decide +kernel
theorem oD15_2 : decode jdk_42_method_77_code 2 = .ok (.aload_n 0, 1) := by decide +kernel
theorem oD15_3 : decode jdk_42_method_77_code 3 = .ok (.invokevirtual 505, 3) := by decide +kernel
theorem oD15_6 : decode jdk_42_method_77_code 6 = .ok (.aload_n 1, 1) := by decide +kernel
theorem oD15_7 : decode jdk_42_method_77_code 7 = .ok (.invokevirtual 505, 3) := by decide +kernel
theorem oD15_10 : decode jdk_42_method_77_code 10 = .ok (.isub, 1) := by decide +kernel
theorem oD15_11 : decode jdk_42_method_77_code 11 = .ok (.invokevirtual 624, 3) := by decide +kernel
theorem o_pd__28Ljava_2flang_2fString_3bI_29Z : parseMethodDescriptor "(Ljava/lang/String;I)Z" = some ⟨[(.object "java/lang/String"), .int], some .boolean⟩ := by decide +kernel
theorem oD15_14 : decode jdk_42_method_77_code 14 = .ok (.ireturn, 1) := by decide +kernel
theorem o_ef14 (m : MethodId) (x0 : Addr) (x1 : Addr) : entryFrame m #[(.ref x0), (.ref x1), (.int (-1))] 8 = mkF m 0 #[.val (.ref x0), .val (.ref x1), .val (.int (-1)), .unset, .unset, .unset, .unset, .unset] [] := by first | (simp [entryFrame, mkF, argsToLocals, Value.category]; done) | rfl
theorem oD14_17 : decode jdk_42_method_75_code 17 = .ok (.iconst 0, 1) := by decide +kernel
theorem oD14_18 : decode jdk_42_method_75_code 18 = .ok (.ireturn, 1) := by decide +kernel
theorem oD16_0 : decode jdk_42_method_76_code 0 = .ok (.aload_n 0, 1) := by decide +kernel
theorem oD16_1 : decode jdk_42_method_76_code 1 = .ok (.aload_n 1, 1) := by decide +kernel
theorem oD16_2 : decode jdk_42_method_76_code 2 = .ok (.iconst 0, 1) := by decide +kernel
theorem oD16_3 : decode jdk_42_method_76_code 3 = .ok (.invokevirtual 624, 3) := by decide +kernel
theorem oD16_6 : decode jdk_42_method_76_code 6 = .ok (.ireturn, 1) := by decide +kernel
theorem o_ef15 (m : MethodId) (x0 : Addr) (x1 : Addr) : entryFrame m #[(.ref x0), (.ref x1), (.int (-2))] 8 = mkF m 0 #[.val (.ref x0), .val (.ref x1), .val (.int (-2)), .unset, .unset, .unset, .unset, .unset] [] := by first | (simp [entryFrame, mkF, argsToLocals, Value.category]; done) | rfl
theorem o_ef16 (m : MethodId) (x0 : Addr) (x2 : Addr) : entryFrame m #[(.ref x0), (.int 1), (.ref x2), (.int 0), (.int 0)] 8 = mkF m 0 #[.val (.ref x0), .val (.int 1), .val (.ref x2), .val (.int 0), .val (.int 0), .unset, .unset, .unset] [] := by first | (simp [entryFrame, mkF, argsToLocals, Value.category]; done) | rfl
theorem o_lf21 (v0 : Int32)  : ((-1 : Int32) < 0 ↔ o_pref ([] : List Int32) ([] : List Int32) = true) := by simp_all [o_pref]
theorem o_ef17 (m : MethodId) (x0 : Addr) (x1 : Addr) : entryFrame m #[(.ref x0), (.ref x1), (.int 1)] 8 = mkF m 0 #[.val (.ref x0), .val (.ref x1), .val (.int 1), .unset, .unset, .unset, .unset, .unset] [] := by first | (simp [entryFrame, mkF, argsToLocals, Value.category]; done) | rfl
theorem o_ef18 (m : MethodId) (x0 : Addr) (x2 : Addr) : entryFrame m #[(.ref x0), (.int 0), (.ref x2), (.int 0), (.int 1)] 8 = mkF m 0 #[.val (.ref x0), .val (.int 0), .val (.ref x2), .val (.int 0), .val (.int 1), .unset, .unset, .unset] [] := by first | (simp [entryFrame, mkF, argsToLocals, Value.category]; done) | rfl
theorem oD13_77 : decode jdk_48_method_14_code 77 = .ok (.aload_n 0, 1) := by decide +kernel
theorem oD13_78 : decode jdk_48_method_14_code 78 = .ok (.iload_n 1, 1) := by decide +kernel
theorem oD13_79 : decode jdk_48_method_14_code 79 = .ok (.iload 5, 2) := by decide +kernel
theorem oD13_81 : decode jdk_48_method_14_code 81 = .ok (.iadd, 1) := by decide +kernel
theorem oD13_82 : decode jdk_48_method_14_code 82 = .ok (.baload, 1) := by decide +kernel
theorem oD13_83 : decode jdk_48_method_14_code 83 = .ok (.aload_n 2, 1) := by decide +kernel
theorem oD13_84 : decode jdk_48_method_14_code 84 = .ok (.iload_n 3, 1) := by decide +kernel
theorem oD13_85 : decode jdk_48_method_14_code 85 = .ok (.iload 5, 2) := by decide +kernel
theorem oD13_87 : decode jdk_48_method_14_code 87 = .ok (.iadd, 1) := by decide +kernel
theorem oD13_88 : decode jdk_48_method_14_code 88 = .ok (.baload, 1) := by decide +kernel
theorem oD13_89 : decode jdk_48_method_14_code 89 = .ok (.if_icmp .eq 6, 3) := by decide +kernel
theorem oD13_95 : decode jdk_48_method_14_code 95 = .ok (.iinc 5 1, 3) := by decide +kernel
theorem oD13_98 : decode jdk_48_method_14_code 98 = .ok (.goto (-28), 3) := by decide +kernel
theorem o_lf22 (v0 : Int32) (s0 : Int32) (h0 : v0 = s0) : ((-1 : Int32) < 0 ↔ o_pref ([v0] : List Int32) ([s0] : List Int32) = true) := by simp_all [o_pref]
theorem oD13_92 : decode jdk_48_method_14_code 92 = .ok (.iload 5, 2) := by decide +kernel
theorem oD13_94 : decode jdk_48_method_14_code 94 = .ok (.ireturn, 1) := by decide +kernel
theorem o_lf23 (v0 : Int32) (s0 : Int32) (h0 : ¬ v0 = s0) : ((0 : Int32) < 0 ↔ o_pref ([v0] : List Int32) ([s0] : List Int32) = true) := by simp_all [o_pref]
theorem o_ef19 (m : MethodId) (x0 : Addr) (x2 : Addr) : entryFrame m #[(.ref x0), (.int 2), (.ref x2), (.int 0), (.int 0)] 8 = mkF m 0 #[.val (.ref x0), .val (.int 2), .val (.ref x2), .val (.int 0), .val (.int 0), .unset, .unset, .unset] [] := by first | (simp [entryFrame, mkF, argsToLocals, Value.category]; done) | rfl
theorem o_lf24 (v0 : Int32) (v1 : Int32)  : ((-1 : Int32) < 0 ↔ o_pref ([] : List Int32) ([] : List Int32) = true) := by simp_all [o_pref]
theorem o_ef20 (m : MethodId) (x0 : Addr) (x1 : Addr) : entryFrame m #[(.ref x0), (.ref x1), (.int 2)] 8 = mkF m 0 #[.val (.ref x0), .val (.ref x1), .val (.int 2), .unset, .unset, .unset, .unset, .unset] [] := by first | (simp [entryFrame, mkF, argsToLocals, Value.category]; done) | rfl
theorem o_ef21 (m : MethodId) (x0 : Addr) (x2 : Addr) : entryFrame m #[(.ref x0), (.int 1), (.ref x2), (.int 0), (.int 1)] 8 = mkF m 0 #[.val (.ref x0), .val (.int 1), .val (.ref x2), .val (.int 0), .val (.int 1), .unset, .unset, .unset] [] := by first | (simp [entryFrame, mkF, argsToLocals, Value.category]; done) | rfl
theorem o_lf25 (v0 : Int32) (v1 : Int32) (s0 : Int32) (h0 : v1 = s0) : ((-1 : Int32) < 0 ↔ o_pref ([v1] : List Int32) ([s0] : List Int32) = true) := by simp_all [o_pref]
theorem o_lf26 (v0 : Int32) (v1 : Int32) (s0 : Int32) (h0 : ¬ v1 = s0) : ((0 : Int32) < 0 ↔ o_pref ([v1] : List Int32) ([s0] : List Int32) = true) := by simp_all [o_pref]
theorem o_lf27 (v0 : Int32) (v1 : Int32) (s0 : Int32) (h0 : v0 = s0) : ((-1 : Int32) < 0 ↔ o_pref ([v0, v1] : List Int32) ([s0] : List Int32) = true) := by simp_all [o_pref]
theorem o_lf28 (v0 : Int32) (v1 : Int32) (s0 : Int32) (h0 : ¬ v0 = s0) : ((0 : Int32) < 0 ↔ o_pref ([v0, v1] : List Int32) ([s0] : List Int32) = true) := by simp_all [o_pref]
theorem o_ef22 (m : MethodId) (x0 : Addr) (x2 : Addr) : entryFrame m #[(.ref x0), (.int 0), (.ref x2), (.int 0), (.int 2)] 8 = mkF m 0 #[.val (.ref x0), .val (.int 0), .val (.ref x2), .val (.int 0), .val (.int 2), .unset, .unset, .unset] [] := by first | (simp [entryFrame, mkF, argsToLocals, Value.category]; done) | rfl
theorem o_lf29 (v0 : Int32) (v1 : Int32) (s0 : Int32) (s1 : Int32) (h0 : v0 = s0) (h1 : v1 = s1) : ((-1 : Int32) < 0 ↔ o_pref ([v0, v1] : List Int32) ([s0, s1] : List Int32) = true) := by simp_all [o_pref]
theorem o_lf30 (v0 : Int32) (v1 : Int32) (s0 : Int32) (s1 : Int32) (h0 : v0 = s0) (h1 : ¬ v1 = s1) : ((1 : Int32) < 0 ↔ o_pref ([v0, v1] : List Int32) ([s0, s1] : List Int32) = true) := by simp_all [o_pref]
theorem o_lf31 (v0 : Int32) (v1 : Int32) (s0 : Int32) (s1 : Int32) (h0 : ¬ v0 = s0) : ((0 : Int32) < 0 ↔ o_pref ([v0, v1] : List Int32) ([s0, s1] : List Int32) = true) := by simp_all [o_pref]
theorem o_ef23 (m : MethodId) (x0 : Addr) (x2 : Addr) : entryFrame m #[(.ref x0), (.int 3), (.ref x2), (.int 0), (.int 0)] 8 = mkF m 0 #[.val (.ref x0), .val (.int 3), .val (.ref x2), .val (.int 0), .val (.int 0), .unset, .unset, .unset] [] := by first | (simp [entryFrame, mkF, argsToLocals, Value.category]; done) | rfl
theorem o_lf32 (v0 : Int32) (v1 : Int32) (v2 : Int32)  : ((-1 : Int32) < 0 ↔ o_pref ([] : List Int32) ([] : List Int32) = true) := by simp_all [o_pref]
theorem o_ef24 (m : MethodId) (x0 : Addr) (x1 : Addr) : entryFrame m #[(.ref x0), (.ref x1), (.int 3)] 8 = mkF m 0 #[.val (.ref x0), .val (.ref x1), .val (.int 3), .unset, .unset, .unset, .unset, .unset] [] := by first | (simp [entryFrame, mkF, argsToLocals, Value.category]; done) | rfl
theorem o_ef25 (m : MethodId) (x0 : Addr) (x2 : Addr) : entryFrame m #[(.ref x0), (.int 2), (.ref x2), (.int 0), (.int 1)] 8 = mkF m 0 #[.val (.ref x0), .val (.int 2), .val (.ref x2), .val (.int 0), .val (.int 1), .unset, .unset, .unset] [] := by first | (simp [entryFrame, mkF, argsToLocals, Value.category]; done) | rfl
theorem o_lf33 (v0 : Int32) (v1 : Int32) (v2 : Int32) (s0 : Int32) (h0 : v2 = s0) : ((-1 : Int32) < 0 ↔ o_pref ([v2] : List Int32) ([s0] : List Int32) = true) := by simp_all [o_pref]
theorem o_lf34 (v0 : Int32) (v1 : Int32) (v2 : Int32) (s0 : Int32) (h0 : ¬ v2 = s0) : ((0 : Int32) < 0 ↔ o_pref ([v2] : List Int32) ([s0] : List Int32) = true) := by simp_all [o_pref]
theorem o_lf35 (v0 : Int32) (v1 : Int32) (v2 : Int32) (s0 : Int32) (h0 : v0 = s0) : ((-1 : Int32) < 0 ↔ o_pref ([v0, v1, v2] : List Int32) ([s0] : List Int32) = true) := by simp_all [o_pref]
theorem o_lf36 (v0 : Int32) (v1 : Int32) (v2 : Int32) (s0 : Int32) (h0 : ¬ v0 = s0) : ((0 : Int32) < 0 ↔ o_pref ([v0, v1, v2] : List Int32) ([s0] : List Int32) = true) := by simp_all [o_pref]
theorem o_ef26 (m : MethodId) (x0 : Addr) (x2 : Addr) : entryFrame m #[(.ref x0), (.int 1), (.ref x2), (.int 0), (.int 2)] 8 = mkF m 0 #[.val (.ref x0), .val (.int 1), .val (.ref x2), .val (.int 0), .val (.int 2), .unset, .unset, .unset] [] := by first | (simp [entryFrame, mkF, argsToLocals, Value.category]; done) | rfl
theorem o_lf37 (v0 : Int32) (v1 : Int32) (v2 : Int32) (s0 : Int32) (s1 : Int32) (h0 : v1 = s0) (h1 : v2 = s1) : ((-1 : Int32) < 0 ↔ o_pref ([v1, v2] : List Int32) ([s0, s1] : List Int32) = true) := by simp_all [o_pref]
theorem o_lf38 (v0 : Int32) (v1 : Int32) (v2 : Int32) (s0 : Int32) (s1 : Int32) (h0 : v1 = s0) (h1 : ¬ v2 = s1) : ((1 : Int32) < 0 ↔ o_pref ([v1, v2] : List Int32) ([s0, s1] : List Int32) = true) := by simp_all [o_pref]
theorem o_lf39 (v0 : Int32) (v1 : Int32) (v2 : Int32) (s0 : Int32) (s1 : Int32) (h0 : ¬ v1 = s0) : ((0 : Int32) < 0 ↔ o_pref ([v1, v2] : List Int32) ([s0, s1] : List Int32) = true) := by simp_all [o_pref]
theorem o_lf40 (v0 : Int32) (v1 : Int32) (v2 : Int32) (s0 : Int32) (s1 : Int32) (h0 : v0 = s0) (h1 : v1 = s1) : ((-1 : Int32) < 0 ↔ o_pref ([v0, v1, v2] : List Int32) ([s0, s1] : List Int32) = true) := by simp_all [o_pref]
theorem o_lf41 (v0 : Int32) (v1 : Int32) (v2 : Int32) (s0 : Int32) (s1 : Int32) (h0 : v0 = s0) (h1 : ¬ v1 = s1) : ((1 : Int32) < 0 ↔ o_pref ([v0, v1, v2] : List Int32) ([s0, s1] : List Int32) = true) := by simp_all [o_pref]
theorem o_lf42 (v0 : Int32) (v1 : Int32) (v2 : Int32) (s0 : Int32) (s1 : Int32) (h0 : ¬ v0 = s0) : ((0 : Int32) < 0 ↔ o_pref ([v0, v1, v2] : List Int32) ([s0, s1] : List Int32) = true) := by simp_all [o_pref]
theorem o_ef27 (m : MethodId) (x0 : Addr) (x1 : Addr) : entryFrame m #[(.ref x0), (.ref x1), (.int 1), (.int 0)] 4 = mkF m 0 #[.val (.ref x0), .val (.ref x1), .val (.int 1), .val (.int 0)] [] := by first | (simp [entryFrame, mkF, argsToLocals, Value.category]; done) | rfl
theorem o_pn_6 : plainName "org/adviceweft/pointcut/NamePattern" = true := by first | (simp [plainName, overriddenIn]; done) | decide +kernel
theorem oD17_0 : decode prog_8_method_1_code 0 = .ok (.aload_n 0, 1) := by decide +kernel
theorem oD17_1 : decode prog_8_method_1_code 1 = .ok (.invokespecial 1, 3) := by decide +kernel
theorem o_pd__28_29V : parseMethodDescriptor "()V" = some ⟨[], none⟩ := by decide +kernel
theorem oD17_4 : decode prog_8_method_1_code 4 = .ok (.aload_n 1, 1) := by decide +kernel
theorem oD17_5 : decode prog_8_method_1_code 5 = .ok (.ldc 7, 2) := by decide +kernel
theorem oD17_7 : decode prog_8_method_1_code 7 = .ok (.invokestatic 9, 3) := by decide +kernel
theorem o_pd__28Ljava_2flang_2fObject_3bLjava_2flang_2fString_3b_29Ljava_2flang_2fObject_3b : parseMethodDescriptor "(Ljava/lang/Object;Ljava/lang/String;)Ljava/lang/Object;" = some ⟨[(.object "java/lang/Object"), (.object "java/lang/String")], some (.object "java/lang/Object")⟩ := by decide +kernel
theorem oD17_10 : decode prog_8_method_1_code 10 = .ok (.pop, 1) := by decide +kernel
theorem oD17_11 : decode prog_8_method_1_code 11 = .ok (.aload_n 1, 1) := by decide +kernel
theorem oD17_12 : decode prog_8_method_1_code 12 = .ok (.ldc 17, 2) := by decide +kernel
theorem oD17_14 : decode prog_8_method_1_code 14 = .ok (.invokevirtual 19, 3) := by decide +kernel
theorem o_pd__28Ljava_2flang_2fCharSequence_3b_29Z : parseMethodDescriptor "(Ljava/lang/CharSequence;)Z" = some ⟨[(.object "java/lang/CharSequence")], some .boolean⟩ := by decide +kernel
theorem oD17_17 : decode prog_8_method_1_code 17 = .ok (.ifCond .ne 18, 3) := by decide +kernel
theorem oD17_20 : decode prog_8_method_1_code 20 = .ok (.aload_n 1, 1) := by decide +kernel
theorem oD17_21 : decode prog_8_method_1_code 21 = .ok (.invokevirtual 25, 3) := by decide +kernel
theorem oD17_24 : decode prog_8_method_1_code 24 = .ok (.ifCond .eq 30, 3) := by decide +kernel
theorem oD17_27 : decode prog_8_method_1_code 27 = .ok (.iload_n 2, 1) := by decide +kernel
theorem oD17_28 : decode prog_8_method_1_code 28 = .ok (.ifCond .eq 7, 3) := by decide +kernel
theorem oD17_31 : decode prog_8_method_1_code 31 = .ok (.iload_n 3, 1) := by decide +kernel
theorem oD17_32 : decode prog_8_method_1_code 32 = .ok (.ifCond .eq 22, 3) := by decide +kernel
theorem oD17_54 : decode prog_8_method_1_code 54 = .ok (.aload_n 0, 1) := by decide +kernel
theorem oD17_55 : decode prog_8_method_1_code 55 = .ok (.aload_n 1, 1) := by decide +kernel
theorem oD17_56 : decode prog_8_method_1_code 56 = .ok (.putfield 42, 3) := by decide +kernel
theorem oD17_59 : decode prog_8_method_1_code 59 = .ok (.aload_n 0, 1) := by decide +kernel
theorem oD17_60 : decode prog_8_method_1_code 60 = .ok (.iload_n 2, 1) := by decide +kernel
theorem oD17_61 : decode prog_8_method_1_code 61 = .ok (.putfield 45, 3) := by decide +kernel
theorem oD17_64 : decode prog_8_method_1_code 64 = .ok (.aload_n 0, 1) := by decide +kernel
theorem oD17_65 : decode prog_8_method_1_code 65 = .ok (.iload_n 3, 1) := by decide +kernel
theorem oD17_66 : decode prog_8_method_1_code 66 = .ok (.putfield 49, 3) := by decide +kernel
theorem oD17_69 : decode prog_8_method_1_code 69 = .ok (.return_, 1) := by decide +kernel
theorem o_ef28 (m : MethodId) (x0 : Addr) (x1 : Addr) (x2 : Int32) (x3 : Int32) : entryFrame m #[(.ref x0), (.ref x1), (.int x2), (.int x3)] 4 = mkF m 0 #[.val (.ref x0), .val (.ref x1), .val (.int x2), .val (.int x3)] [] := by first | (simp [entryFrame, mkF, argsToLocals, Value.category]; done) | rfl
theorem oD18_0 : decode prog_8_method_3_code 0 = .ok (.aload_n 0, 1) := by decide +kernel
theorem oD18_1 : decode prog_8_method_3_code 1 = .ok (.getfield 45, 3) := by decide +kernel
theorem oD18_4 : decode prog_8_method_3_code 4 = .ok (.ifCond .eq 19, 3) := by decide +kernel
theorem oD18_7 : decode prog_8_method_3_code 7 = .ok (.aload_n 0, 1) := by decide +kernel
theorem oD18_8 : decode prog_8_method_3_code 8 = .ok (.getfield 49, 3) := by decide +kernel
theorem oD18_11 : decode prog_8_method_3_code 11 = .ok (.ifCond .eq 12, 3) := by decide +kernel
theorem oD18_23 : decode prog_8_method_3_code 23 = .ok (.aload_n 0, 1) := by decide +kernel
theorem oD18_24 : decode prog_8_method_3_code 24 = .ok (.getfield 45, 3) := by decide +kernel
theorem oD18_27 : decode prog_8_method_3_code 27 = .ok (.ifCond .eq 12, 3) := by decide +kernel
theorem oD18_30 : decode prog_8_method_3_code 30 = .ok (.aload_n 1, 1) := by decide +kernel
theorem oD18_31 : decode prog_8_method_3_code 31 = .ok (.aload_n 0, 1) := by decide +kernel
theorem oD18_32 : decode prog_8_method_3_code 32 = .ok (.getfield 42, 3) := by decide +kernel
theorem oD18_35 : decode prog_8_method_3_code 35 = .ok (.invokevirtual 67, 3) := by decide +kernel
theorem o_pd__28Ljava_2flang_2fString_3b_29Z : parseMethodDescriptor "(Ljava/lang/String;)Z" = some ⟨[(.object "java/lang/String")], some .boolean⟩ := by decide +kernel
theorem oD18_38 : decode prog_8_method_3_code 38 = .ok (.ireturn, 1) := by decide +kernel
theorem oD18_39 : decode prog_8_method_3_code 39 = .ok (.aload_n 0, 1) := by decide +kernel
theorem oD18_40 : decode prog_8_method_3_code 40 = .ok (.getfield 49, 3) := by decide +kernel
theorem oD18_43 : decode prog_8_method_3_code 43 = .ok (.ifCond .eq 12, 3) := by decide +kernel
theorem oD18_55 : decode prog_8_method_3_code 55 = .ok (.aload_n 1, 1) := by decide +kernel
theorem oD18_56 : decode prog_8_method_3_code 56 = .ok (.aload_n 0, 1) := by decide +kernel
theorem oD18_57 : decode prog_8_method_3_code 57 = .ok (.getfield 42, 3) := by decide +kernel
theorem oD18_60 : decode prog_8_method_3_code 60 = .ok (.invokevirtual 54, 3) := by decide +kernel
theorem o_pd__28Ljava_2flang_2fObject_3b_29Z : parseMethodDescriptor "(Ljava/lang/Object;)Z" = some ⟨[(.object "java/lang/Object")], some .boolean⟩ := by decide +kernel
theorem oD18_63 : decode prog_8_method_3_code 63 = .ok (.ireturn, 1) := by decide +kernel
theorem oD18_46 : decode prog_8_method_3_code 46 = .ok (.aload_n 1, 1) := by decide +kernel
theorem oD18_47 : decode prog_8_method_3_code 47 = .ok (.aload_n 0, 1) := by decide +kernel
theorem oD18_48 : decode prog_8_method_3_code 48 = .ok (.getfield 42, 3) := by decide +kernel
theorem oD18_51 : decode prog_8_method_3_code 51 = .ok (.invokevirtual 63, 3) := by decide +kernel
theorem oD18_54 : decode prog_8_method_3_code 54 = .ok (.ireturn, 1) := by decide +kernel
theorem oD18_14 : decode prog_8_method_3_code 14 = .ok (.aload_n 1, 1) := by decide +kernel
theorem oD18_15 : decode prog_8_method_3_code 15 = .ok (.aload_n 0, 1) := by decide +kernel
theorem oD18_16 : decode prog_8_method_3_code 16 = .ok (.getfield 42, 3) := by decide +kernel
theorem oD18_19 : decode prog_8_method_3_code 19 = .ok (.invokevirtual 19, 3) := by decide +kernel
theorem oD18_22 : decode prog_8_method_3_code 22 = .ok (.ireturn, 1) := by decide +kernel
theorem o_ef29 (m : MethodId) (x0 : Int32) (x1 : Int32) (x2 : Int32) (x3 : Int32) : entryFrame m #[(.int x0), (.int x1), (.int x2), (.int x3)] maxLocals = mkF m 0 #[.val (.int x0), .val (.int x1), .val (.int x2), .val (.int x3), .unset, .unset, .unset, .unset, .unset, .unset, .unset, .unset, .unset, .unset, .unset, .unset, .unset, .unset, .unset, .unset] [] := by first | (simp [entryFrame, mkF, argsToLocals, Value.category, maxLocals]; done) | rfl
theorem o_pd__28I_29C : parseMethodDescriptor "(I)C" = some ⟨[.int], some .char⟩ := by decide +kernel
theorem o_pd__28_5bCI_5bCII_29Z : parseMethodDescriptor "([CI[CII)Z" = some ⟨[(.array .char), .int, (.array .char), .int, .int], some .boolean⟩ := by decide +kernel
theorem o_pd__28_5bC_29V : parseMethodDescriptor "([C)V" = some ⟨[(.array .char)], none⟩ := by decide +kernel
theorem o_pd__28Ljava_2flang_2fString_3bZZ_29V : parseMethodDescriptor "(Ljava/lang/String;ZZ)V" = some ⟨[(.object "java/lang/String"), .boolean, .boolean], none⟩ := by decide +kernel
abbrev Qrec (Z : State) (b : Addr) (h0 : Heap) (n0 : Nat) (v : Option Value) (h : Heap) (L : List Loc) : Prop := v = none ∧ Fr n0 L ∧ h = h0
set_option maxRecDepth 65536 in
set_option maxHeartbeats 40000000 in
theorem rmrec (l : Launch) (Z : State) (a0 : Array Value) (hw : ∀ d ∈ tables_1, d.before a0 Z = true) (ws : List Jvm.Cond) (b : Addr) (h0 : Heap) (n0 : Nat) (O0 : Old Z n0 h0) :
    o_Met l Z o_m0 jdk_30_method_1_code 1 none ws o_R0 #[(.ref b)] h0 (Qrec Z b h0 n0) := by
  refine o_enter o_pn_0 (fun m => o_ef0 m b) (fun p e s m below meth c s₁ hx hby hml hZ hown hnm hlk hrt X0 e0 => ?_)
  have N0 := Fr.nil n0
  have y_ := @hb _ _ hby
  have k_ := @o_k _ _ hw
  refine o_aloadN X0 hx (y_ oD0_0) rfl rfl ?_
  refine o_initO (W := 0) X0 hx hZ hown (k_ 45 rfl) (k_ 19 rfl) (k_ 20 rfl) e0 (by rw [hml]; rfl) (y_ oD0_1) (by decide) (Nat.le_of_eq rfl) (by decide) (fun T1 X1 e1 => ?_)
  exact o_retV X1 hx hrt hlk (y_ oD0_4) (by decide) (by decide) (o_hQ e1 ⟨rfl, N0, rfl⟩)
abbrev Qrnn (Z : State) (x : Addr) (y : Addr) (h0 : Heap) (n0 : Nat) (v : Option Value) (h : Heap) (L : List Loc) : Prop := v = some (.ref x) ∧ Fr n0 L ∧ h = h0
set_option maxRecDepth 65536 in
set_option maxHeartbeats 40000000 in
theorem rmrnn (l : Launch) (Z : State) (a0 : Array Value) (hw : ∀ d ∈ tables_1, d.before a0 Z = true) (ws : List Jvm.Cond) (x : Addr) (y : Addr) (h0 : Heap) (n0 : Nat) (O0 : Old Z n0 h0) :
    o_Met l Z o_m1 jdk_31_method_11_code 2 (some (.object "java/lang/Object")) ws o_R1 #[(.ref x), (.ref y)] h0 (Qrnn Z x y h0 n0) := by
  refine o_enter o_pn_1 (fun m => o_ef1 m x y) (fun p e s m below meth c s₁ hx hby hml hZ hown hnm hlk hrt X0 e0 => ?_)
  have N0 := Fr.nil n0
  have y_ := @hb _ _ hby
  have k_ := @o_k _ _ hw
  refine o_aloadN X0 hx (y_ oD1_0) rfl rfl ?_
  refine o_nonnullY (t := 13) X0 hx (y_ oD1_1) (by decide) (by decide) ?_
  refine o_aloadN X0 hx (y_ oD1_13) rfl rfl ?_
  exact o_retA X0 hx hrt hlk rfl rfl rfl (y_ oD1_14) (by decide) (by decide) (o_hQ e0 ⟨rfl, N0, rfl⟩)
abbrev Qcor (Z : State) (p9 : Int32) (h0 : Heap) (n0 : Nat) (v : Option Value) (h : Heap) (L : List Loc) : Prop := v = some (.int (o_core p9)) ∧ Fr n0 L ∧ h = h0
set_option maxRecDepth 65536 in
set_option maxHeartbeats 40000000 in
theorem rmcor (l : Launch) (Z : State) (a0 : Array Value) (hw : ∀ d ∈ tables_1, d.before a0 Z = true) (ws : List Jvm.Cond) (p9 : Int32) (h0 : Heap) (n0 : Nat) (O0 : Old Z n0 h0) :
    o_Met l Z o_m2 method_3_code 2 (some .char) ws o_R1 #[(.int p9)] h0 (Qcor Z p9 h0 n0) := by
  refine o_enter o_pn_2 (fun m => o_ef2 m p9) (fun p e s m below meth c s₁ hx hby hml hZ hown hnm hlk hrt X0 e0 => ?_)
  have N0 := Fr.nil n0
  have y_ := @hb _ _ hby
  have k_ := @o_k _ _ hw
  refine o_iloadN X0 hx (y_ oD2_0) rfl ?_
  refine o_sipush X0 hx (y_ oD2_1) (x := 255) rfl ?_
  refine o_iand X0 hx (y_ oD2_4) ?_
  refine o_i2c X0 hx (y_ oD2_5) ?_
  obtain ⟨c0, e_c0, f_c0, n_c0, l_c0, u_c0⟩ := o_chr p9
  rw [f_c0]
  refine o_istoreN X0 hx (y_ oD2_6) (A' := #[vI p9, vI c0]) rfl ?_
  refine o_iloadN X0 hx (y_ oD2_7) rfl ?_
  refine o_bipush X0 hx (y_ oD2_8) (x := 42) rfl ?_
  refine o_iC (t := 18) X0 hx (y_ oD2_10) (fun hq => ?_) (fun hq => ?_)
  · have hc10 := o_c_ne.1 hq
    refine o_iloadN X0 hx (y_ oD2_18) rfl ?_
    exact o_retN X0 hx (t := .char) hrt hlk (by simp) (y_ oD2_19) n_c0 (by decide) (by decide) (o_hQ e0 ⟨by rw [o_core, if_neg (e_c0 ▸ hc10), e_c0], N0, rfl⟩)
  have hc10 := o_c_ne.2 hq
  refine o_bipush X0 hx (y_ oD2_13) (x := 43) rfl ?_
  refine o_gO (t := 19) X0 hx (y_ oD2_15) ?_
  exact o_retN X0 hx (t := .char) hrt hlk (by simp) (y_ oD2_19) rfl (by decide) (by decide) (o_hQ e0 ⟨by rw [o_core, if_pos (e_c0 ▸ hc10)], N0, rfl⟩)
abbrev Qat (Z : State) (n : Addr) (nl : Int32) (c_ : Addr) (cl : Int32) (k : Int32) (kn : ClassId) (kc : ClassId) (n0_ : Int32) (n1_ : Int32) (n2_ : Int32) (c0_ : Int32) (c1_ : Int32) (h0 : Heap) (n0 : Nat) (v : Option Value) (h : Heap) (L : List Loc) : Prop := v = some (.int (if o_atP n0_ n1_ n2_ nl c0_ c1_ cl k then 1 else 0)) ∧ Fr n0 L ∧ h = h0
set_option maxRecDepth 65536 in
set_option maxHeartbeats 40000000 in
theorem rmat (l : Launch) (Z : State) (a0 : Array Value) (hw : ∀ d ∈ tables_1, d.before a0 Z = true) (ws : List Jvm.Cond) (n : Addr) (nl : Int32) (c_ : Addr) (cl : Int32) (k : Int32) (kn : ClassId) (kc : ClassId) (n0_ : Int32) (n1_ : Int32) (n2_ : Int32) (c0_ : Int32) (c1_ : Int32) (h0 : Heap) (n0 : Nat) (O0 : Old Z n0 h0) (V_n : Arv Z h0 n kn .char (3 : Int32) [.int n0_, .int n1_, .int n2_] (.int 0)) (V_c : Arv Z h0 c_ kc .char (2 : Int32) [.int c0_, .int c1_] (.int 0)) (hcl : cl = 0 ∨ cl = 1 ∨ cl = 2) (hnl : nl = 0 ∨ nl = 1 ∨ nl = 2 ∨ nl = 3) (hk : -2 ≤ k.toInt ∧ k.toInt ≤ 3) :
    o_Met l Z o_m3 method_4_code 5 (some .boolean) ws o_R1 #[(.ref n), (.int nl), (.ref c_), (.int cl), (.int k)] h0 (Qat Z n nl c_ cl k kn kc n0_ n1_ n2_ c0_ c1_ h0 n0) := by
  refine o_enter o_pn_2 (fun m => o_ef3 m n nl c_ cl k) (fun p e s m below meth c s₁ hx hby hml hZ hown hnm hlk hrt X0 e0 => ?_)
  have N0 := Fr.nil n0
  have y_ := @hb _ _ hby
  have k_ := @o_k _ _ hw
  refine o_iload X0 hx (y_ oD3_0) rfl ?_
  refine o_iF (t := 13) X0 hx (y_ oD3_2) (fun hq => ?_) (fun hq => ?_)
  · have hc2 := o_h_lt.1 hq
    refine o_iconst X0 hx (y_ oD3_13) (x := 0) rfl ?_
    exact o_retN X0 hx (t := .boolean) hrt hlk (by simp) (y_ oD3_14) rfl (by decide) (by decide) (o_hQ e0 ⟨by rw [if_neg (fun q => q.1 hc2)], N0, rfl⟩)
  have hc2 := o_h_lt.2 hq
  refine o_iload X0 hx (y_ oD3_5) rfl ?_
  refine o_iloadN X0 hx (y_ oD3_7) rfl ?_
  refine o_iadd X0 hx (y_ oD3_8) ?_
  refine o_iloadN X0 hx (y_ oD3_9) rfl ?_
  refine o_iC (t := 15) X0 hx (y_ oD3_10) (fun hq => ?_) (fun hq => ?_)
  · have hc10 := o_c_le.1 hq
    refine o_iloadN X0 hx (y_ oD3_15) rfl ?_
    refine o_iconst X0 hx (y_ oD3_16) (x := 1) rfl ?_
    refine o_iC (t := 30) X0 hx (y_ oD3_17) (fun hq => ?_) (fun hq => ?_)
    · have hc17 := o_c_lt.1 hq
      refine o_iloadN X0 hx (y_ oD3_30) rfl ?_
      refine o_iconst X0 hx (y_ oD3_31) (x := 2) rfl ?_
      refine o_iC (t := 47) X0 hx (y_ oD3_32) (fun hq => ?_) (fun hq => ?_)
      · have hc32 := o_c_lt.1 hq
        refine o_iconst X0 hx (y_ oD3_47) (x := 1) rfl ?_
        refine o_gO (t := 52) X0 hx (y_ oD3_48) ?_
        exact o_retN X0 hx (t := .boolean) hrt hlk (by simp) (y_ oD3_52) rfl (by decide) (by decide) (o_hQ e0 ⟨by rw [if_pos ⟨hc2, hc10, Or.inl hc17, Or.inl hc32⟩], N0, rfl⟩)
      have hc32 := o_c_lt.2 hq
      refine o_aloadN X0 hx (y_ oD3_35) rfl rfl ?_
      refine o_iload X0 hx (y_ oD3_36) rfl ?_
      refine o_iconst X0 hx (y_ oD3_38) (x := 1) rfl ?_
      refine o_iadd X0 hx (y_ oD3_39) ?_
      refine o_cload (v := (.int (o_n3 n0_ n1_ n2_ (k + (1 : Int32))))) X0 hx hZ e0 V_n (y_ oD3_40) (o_kb1 hk hcl hnl hc2 hc10 hc32) o_g3 ?_
      refine o_aloadN X0 hx (y_ oD3_41) rfl rfl ?_
      refine o_iconst X0 hx (y_ oD3_42) (x := 1) rfl ?_
      refine o_cload (v := (.int c1_)) X0 hx hZ e0 V_c (y_ oD3_43) ⟨by decide, by decide⟩ rfl ?_
      refine o_iC (t := 51) X0 hx (y_ oD3_44) (fun hq => ?_) (fun hq => ?_)
      · have hc44 := o_c_ne.1 hq
        refine o_iconst X0 hx (y_ oD3_51) (x := 0) rfl ?_
        exact o_retN X0 hx (t := .boolean) hrt hlk (by simp) (y_ oD3_52) rfl (by decide) (by decide) (o_hQ e0 ⟨by rw [if_neg (fun q => q.2.2.2.elim hc32 hc44)], N0, rfl⟩)
      have hc44 := o_c_ne.2 hq
      refine o_iconst X0 hx (y_ oD3_47) (x := 1) rfl ?_
      refine o_gO (t := 52) X0 hx (y_ oD3_48) ?_
      exact o_retN X0 hx (t := .boolean) hrt hlk (by simp) (y_ oD3_52) rfl (by decide) (by decide) (o_hQ e0 ⟨by rw [if_pos ⟨hc2, hc10, Or.inl hc17, Or.inr hc44⟩], N0, rfl⟩)
    have hc17 := o_c_lt.2 hq
    refine o_aloadN X0 hx (y_ oD3_20) rfl rfl ?_
    refine o_iload X0 hx (y_ oD3_21) rfl ?_
    refine o_cload (v := (.int (o_n3 n0_ n1_ n2_ k))) X0 hx hZ e0 V_n (y_ oD3_23) (o_kb hk hcl hnl hc2 hc10 hc17) o_g3 ?_
    refine o_aloadN X0 hx (y_ oD3_24) rfl rfl ?_
    refine o_iconst X0 hx (y_ oD3_25) (x := 0) rfl ?_
    refine o_cload (v := (.int c0_)) X0 hx hZ e0 V_c (y_ oD3_26) ⟨by decide, by decide⟩ rfl ?_
    refine o_iC (t := 51) X0 hx (y_ oD3_27) (fun hq => ?_) (fun hq => ?_)
    · have hc27 := o_c_ne.1 hq
      refine o_iconst X0 hx (y_ oD3_51) (x := 0) rfl ?_
      exact o_retN X0 hx (t := .boolean) hrt hlk (by simp) (y_ oD3_52) rfl (by decide) (by decide) (o_hQ e0 ⟨by rw [if_neg (fun q => q.2.2.1.elim hc17 hc27)], N0, rfl⟩)
    have hc27 := o_c_ne.2 hq
    refine o_iloadN X0 hx (y_ oD3_30) rfl ?_
    refine o_iconst X0 hx (y_ oD3_31) (x := 2) rfl ?_
    refine o_iC (t := 47) X0 hx (y_ oD3_32) (fun hq => ?_) (fun hq => ?_)
    · have hc32 := o_c_lt.1 hq
      refine o_iconst X0 hx (y_ oD3_47) (x := 1) rfl ?_
      refine o_gO (t := 52) X0 hx (y_ oD3_48) ?_
      exact o_retN X0 hx (t := .boolean) hrt hlk (by simp) (y_ oD3_52) rfl (by decide) (by decide) (o_hQ e0 ⟨by rw [if_pos ⟨hc2, hc10, Or.inr hc27, Or.inl hc32⟩], N0, rfl⟩)
    have hc32 := o_c_lt.2 hq
    refine o_aloadN X0 hx (y_ oD3_35) rfl rfl ?_
    refine o_iload X0 hx (y_ oD3_36) rfl ?_
    refine o_iconst X0 hx (y_ oD3_38) (x := 1) rfl ?_
    refine o_iadd X0 hx (y_ oD3_39) ?_
    refine o_cload (v := (.int (o_n3 n0_ n1_ n2_ (k + (1 : Int32))))) X0 hx hZ e0 V_n (y_ oD3_40) (o_kb1 hk hcl hnl hc2 hc10 hc32) o_g3 ?_
    refine o_aloadN X0 hx (y_ oD3_41) rfl rfl ?_
    refine o_iconst X0 hx (y_ oD3_42) (x := 1) rfl ?_
    refine o_cload (v := (.int c1_)) X0 hx hZ e0 V_c (y_ oD3_43) ⟨by decide, by decide⟩ rfl ?_
    refine o_iC (t := 51) X0 hx (y_ oD3_44) (fun hq => ?_) (fun hq => ?_)
    · have hc44 := o_c_ne.1 hq
      refine o_iconst X0 hx (y_ oD3_51) (x := 0) rfl ?_
      exact o_retN X0 hx (t := .boolean) hrt hlk (by simp) (y_ oD3_52) rfl (by decide) (by decide) (o_hQ e0 ⟨by rw [if_neg (fun q => q.2.2.2.elim hc32 hc44)], N0, rfl⟩)
    have hc44 := o_c_ne.2 hq
    refine o_iconst X0 hx (y_ oD3_47) (x := 1) rfl ?_
    refine o_gO (t := 52) X0 hx (y_ oD3_48) ?_
    exact o_retN X0 hx (t := .boolean) hrt hlk (by simp) (y_ oD3_52) rfl (by decide) (by decide) (o_hQ e0 ⟨by rw [if_pos ⟨hc2, hc10, Or.inr hc27, Or.inr hc44⟩], N0, rfl⟩)
  have hc10 := o_c_le.2 hq
  refine o_iconst X0 hx (y_ oD3_13) (x := 0) rfl ?_
  exact o_retN X0 hx (t := .boolean) hrt hlk (by simp) (y_ oD3_14) rfl (by decide) (by decide) (o_hQ e0 ⟨by rw [if_neg (fun q => q.2.1 hc10)], N0, rfl⟩)
abbrev Qse4 (Z : State) (x : Addr) (a : Addr) (h0 : Heap) (n0 : Nat) (v : Option Value) (h : Heap) (L : List Loc) : Prop := v = none ∧ Fr n0 L ∧ Keep h0 h [x] ∧ ∃ t, t ≠ x ∧ o_Str Z h x t []
set_option maxRecDepth 65536 in
set_option maxHeartbeats 40000000 in
theorem rmse4 (l : Launch) (Z : State) (a0 : Array Value) (hw : ∀ d ∈ tables_1, d.before a0 Z = true) (ws : List Jvm.Cond) (x : Addr) (a : Addr) (h0 : Heap) (n0 : Nat) (O0 : Old Z n0 h0) (E_x : Exa Z h0 x "java/lang/String") (F_v : Fld Z h0 x "java/lang/String" "value" "[B" .null) (F_c : Fld Z h0 x "java/lang/String" "coder" "B" (.int 0)) (g_x : n0 ≤ x) :
    o_MetH o_EL l Z o_m4 jdk_42_method_149_code 6 none ws o_R2 #[(.ref x), (.ref a), (.int 0), (.int 0), .null] h0 (Qse4 Z x a h0 n0) := by
  refine o_enterH o_pn_3 (fun m => o_ef4 m x a) (fun p e s m below meth c s₁ hx hby hml hZ hown hnm hlk hrt X0 e0 hS0 hk0 C0 => ?_)
  have N0 := Fr.nil n0
  have y_ := @hb _ _ hby
  have k_ := @o_k _ _ hw
  have hEL := o_EWs hw
  refine o_aloadN X0 hx (y_ oD4_0) rfl rfl ?_
  refine o_initO (W := 0) X0 hx hZ hown (k_ 18 rfl) (k_ 19 rfl) (k_ 20 rfl) e0 (by rw [hml]; rfl) (y_ oD4_1) (by decide) (Nat.le_of_eq rfl) (by decide) (fun T1 X1 e1 => ?_)
  refine o_iloadN X1 hx (y_ oD4_4) rfl ?_
  refine o_iFF X1 hx (y_ oD4_5) ?_
  refine o_aloadN X1 hx (y_ oD4_8) rfl rfl ?_
  have sfx : Safe Z o_EL s.vm h0 x := (o_safeN hZ.alike E_x F_v)
  refine o_ldcH (n := 0) (vs := []) (z := 0) X1 hx hZ hown (k_ 101 rfl) (fun d hd => hw d (o_strat d hd)) e1 hS0 hk0 hEL (by decide) C0.1 ⟨by decide, by decide⟩ (by decide) (by decide) (y_ oD4_9) (by decide) (by decide) (by decide) (by decide) (fun a2 b2 kb2 T2 k2 X2 E2 hS2 hk2 hZ2 hown2 Ex2 Co2 Va2 Av2 hC2 Li2 Sa2 => ?_)
  have O2 := Old.ext O0 E2
  have C3 := CHr.trans C0 (hC2)
  have sf4 := (CHr.safe (hC2) E_x.lt sfx)
  show o_G p e below _ T2 (mkF m 11 #[vR x, vR a, vI 0, vI 0, .val .null, .unset] [(.ref a2), (.ref x)])
  refine o_getF X2 hx hZ2 hown2 (host := "") (Or.inl (k_ 35 rfl)) Via.refl rfl Va2 (y_ oD4_11) (fun T5 X5 e5 => ?_)
  have c6 := (Exa.ext E2 E_x)
  have c7 := (Fld.ext E2 F_v)
  refine o_putF X5 hx hZ2 hown2 (host := "") (Or.inl (k_ 35 rfl)) Via.refl e5 c7 c6 (Or.inr ⟨(k_ 36 rfl), rfl, hnm⟩) (k_ 9 rfl) (ty := (.array .byte)) (by decide) rfl rfl (y_ oD4_14) (fun T8 h8 X8 e8 W8 => ?_)
  have F8 := Fld.same W8 c7
  have N8 := Fr.snoc X8 N0 g_x
  have O8 := Old.wr O2 W8 g_x
  have C9 := CHr.trans C3 (CHr.wr W8 sf4 C3.1)
  have sf10 := (Safe.wr W8 sf4 C3.1 sf4)
  refine o_aloadN X8 hx (y_ oD4_17) rfl rfl ?_
  refine o_ldcA X8 hx hZ2 hown2 (k_ 101 rfl) Li2 (y_ oD4_18) ?_
  have c12 := (Fld.other W8 Co2 (Or.inl (Ne.symm (Sa2 _ sf4).1)))
  refine o_getF X8 hx hZ2 hown2 (host := "") (Or.inl (k_ 33 rfl)) Via.refl e8 c12 (y_ oD4_20) (fun T13 X13 e13 => ?_)
  have c14 := (Exa.wr W8 c6)
  have c15 := (Fld.other W8 (Fld.ext E2 F_c) (Or.inr (slot_ne (Or.inr (k_ 34 rfl)) (Or.inr (k_ 36 rfl)) (by decide) (t := .byte) (t' := (.array .byte)) (by decide) (by decide))))
  refine o_putFN (v' := (.int 0)) X13 hx hZ2 hown2 (k_ 33 rfl) Via.refl e13 c15 c14 (Or.inr ⟨(k_ 34 rfl), rfl, hnm⟩) (k_ 9 rfl) (ty := .byte) (by decide) rfl rfl (y_ oD4_23) (fun T16 h16 X16 e16 W16 => ?_)
  have F16 := Fld.same W16 c15
  have N16 := Fr.snoc X16 N8 g_x
  have O16 := Old.wr O8 W16 g_x
  have C17 := CHr.trans C9 (CHr.wr W16 sf10 C9.1)
  have sf18 := (Safe.wr W16 sf10 C9.1 sf10)
  have kp19 := Keep.ext (Keep.refl h0 [x]) E2
  have kp20 := Keep.wr kp19 W8 (Or.inl (List.mem_of_getElem? (i := 0) rfl))
  have kp21 := Keep.wr kp20 W16 (Or.inl (List.mem_of_getElem? (i := 0) rfl))
  have c22 := (Exa.wr W16 c14)
  have c23 := (Fld.other W16 F8 (Or.inr (slot_ne (Or.inr (k_ 36 rfl)) (Or.inr (k_ 34 rfl)) (by decide) (t := (.array .byte)) (t' := .byte) (by decide) (by decide))))
  have c24 := (Arv.other (Arv.other Av2 W8 (Ne.symm (Sa2 _ sf4).2)) W16 (Ne.symm (Sa2 _ sf4).2))
  exact o_retVH X16 hx hS2 (by rw [e16]; exact (Nat.le_trans (Nat.le_trans hk2 (Keep.of_wr W8).1) (Keep.of_wr W16).1)) hZ2 hEL (by rw [e16]; exact C17) hrt hlk (y_ oD4_26) (by decide) (by decide) (o_hQ e16 ⟨rfl, N16, kp21, b2, Ne.symm (Sa2 _ sf4).2, c22, F16, c23, ⟨_, c24⟩, o_cs0, by decide⟩)
abbrev Qse (Z : State) (x : Addr) (a : Addr) (ka : ClassId) (h0 : Heap) (n0 : Nat) (v : Option Value) (h : Heap) (L : List Loc) : Prop := v = none ∧ Fr n0 L ∧ Keep h0 h [x] ∧ ∃ t, t ≠ x ∧ o_Str Z h x t []
set_option maxRecDepth 65536 in
set_option maxHeartbeats 40000000 in
theorem rmse (l : Launch) (Z : State) (a0 : Array Value) (hw : ∀ d ∈ tables_1, d.before a0 Z = true) (ws : List Jvm.Cond) (x : Addr) (a : Addr) (ka : ClassId) (h0 : Heap) (n0 : Nat) (O0 : Old Z n0 h0) (E_x : Exa Z h0 x "java/lang/String") (F_v : Fld Z h0 x "java/lang/String" "value" "[B" .null) (F_c : Fld Z h0 x "java/lang/String" "coder" "B" (.int 0)) (g_x : n0 ≤ x) (V_a : Arv Z h0 a ka .char (0 : Int32) [] (.int 0)) :
    o_MetH o_EL l Z o_m5 jdk_42_method_3_code 2 none ws o_R3 #[(.ref x), (.ref a)] h0 (Qse Z x a ka h0 n0) := by
  refine o_enterH o_pn_3 (fun m => o_ef1 m x a) (fun p e s m below meth c s₁ hx hby hml hZ hown hnm hlk hrt X0 e0 hS0 hk0 C0 => ?_)
  have N0 := Fr.nil n0
  have y_ := @hb _ _ hby
  have k_ := @o_k _ _ hw
  have hEL := o_EWs hw
  refine o_aloadN X0 hx (y_ oD5_0) rfl rfl ?_
  refine o_aloadN X0 hx (y_ oD5_1) rfl rfl ?_
  refine o_iconst X0 hx (y_ oD5_2) (x := 0) rfl ?_
  refine o_aloadN X0 hx (y_ oD5_3) rfl rfl ?_
  refine o_alen (n := 0) X0 hx hZ e0 V_a (y_ oD5_4) ?_
  refine o_anull X0 hx (y_ oD5_5) ?_
  refine o_initH (y := o_m4) (b := x) (argsL := [(.ref a), (.int 0), (.int 0), .null]) (S := []) (W := 0) rfl X0 hx hZ hS0 hown (k_ 14 rfl) (k_ 15 rfl) (k_ 17 rfl) (by decide) (backOfSH (W := 0) (rmse4 l Z a0 hw [] x a h0 n0 O0 E_x F_v F_c g_x) hZ (k_ 17 rfl) (k_ 10 rfl) (by decide) (by decide) hEL C0.1) e0 hk0 (by rw [hml]; rfl) (lenOf o_pd__28_5bCIILjava_2flang_2fVoid_3b_29V rfl) rfl (Nat.le_of_eq rfl) (y_ oD5_6) (by decide) (by decide) (fun T1 L1 v1 k1 X1 hS1 hk1 hZ1 hown1 hQ1 hC1 => ?_)
  obtain ⟨rfl, N1q, Kp1, t1, hne1, Sf1⟩ := hQ1
  have N1 := Fr.app N0 N1q
  have O2 := Old.keep O0 Kp1 (allS g_x all0)
  have C3 := CHr.trans C0 (hC1)
  show o_G p e below _ T1 (mkF m 9 #[vR x, vR a] [])
  have kp4 := Keep.trans (Keep.refl h0 [x]) Kp1 (allS (Or.inl (List.mem_of_getElem? (i := 0) rfl)) all0)
  exact o_retVH X1 hx hS1 hk1 hZ1 hEL (by exact C3) hrt hlk (y_ oD5_9) (by decide) (by decide) ⟨rfl, N1, kp4, t1, hne1, Sf1⟩
abbrev Qixt0_1 (Z : State) (a : Addr) (b : Addr) (ka : ClassId) (kb : ClassId) (s0 : Int32) (h0 : Heap) (n0 : Nat) (v : Option Value) (h : Heap) (L : List Loc) : Prop := ∃ r : Int32, v = some (.int r) ∧ Fr n0 L ∧ h = h0 ∧ (r < 0 ↔ ¬ o_occ ([] : List Int32) ([s0] : List Int32) = true)
set_option maxRecDepth 65536 in
set_option maxHeartbeats 40000000 in
theorem rmixt0_1 (l : Launch) (Z : State) (a0 : Array Value) (hw : ∀ d ∈ tables_1, d.before a0 Z = true) (ws : List Jvm.Cond) (a : Addr) (b : Addr) (ka : ClassId) (kb : ClassId) (s0 : Int32) (h0 : Heap) (n0 : Nat) (O0 : Old Z n0 h0) (V_a : Arv Z h0 a ka .byte (0 : Int32) [] (.int 0)) (V_b : Arv Z h0 b kb .byte (1 : Int32) [.int s0] (.int 0)) :
    o_Met l Z o_m6 jdk_43_method_24_code 2 (some .int) ws o_R4 #[(.ref a), (.ref b)] h0 (Qixt0_1 Z a b ka kb s0 h0 n0) := by
  refine o_enter o_pn_4 (fun m => o_ef1 m a b) (fun p e s m below meth c s₁ hx hby hml hZ hown hnm hlk hrt X0 e0 => ?_)
  have N0 := Fr.nil n0
  have y_ := @hb _ _ hby
  have k_ := @o_k _ _ hw
  refine o_aloadN X0 hx (y_ oD6_0) rfl rfl ?_
  refine o_alen (n := 1) X0 hx hZ e0 V_b (y_ oD6_1) ?_
  refine o_iFT (t := 7) X0 hx (y_ oD6_2) ?_
  refine o_aloadN X0 hx (y_ oD6_7) rfl rfl ?_
  refine o_alen (n := 0) X0 hx hZ e0 V_a (y_ oD6_8) ?_
  refine o_iFF X0 hx (y_ oD6_9) ?_
  refine o_iconst X0 hx (y_ oD6_12) (x := (-1 : Int32)) rfl ?_
  exact o_retI X0 hx hrt hlk (y_ oD6_13) (by decide) (by decide) (o_hQ e0 ⟨_, rfl, N0, rfl, by simp [o_occ, o_pref]⟩)
abbrev Qcod (Z : State) (x : Addr) (zC_ : Int32) (h0 : Heap) (n0 : Nat) (v : Option Value) (h : Heap) (L : List Loc) : Prop := v = some (.int 0) ∧ Fr n0 L ∧ h = h0
set_option maxRecDepth 65536 in
set_option maxHeartbeats 40000000 in
theorem rmcod (l : Launch) (Z : State) (a0 : Array Value) (hw : ∀ d ∈ tables_1, d.before a0 Z = true) (ws : List Jvm.Cond) (x : Addr) (zC_ : Int32) (h0 : Heap) (n0 : Nat) (O0 : Old Z n0 h0) (C_x : Fld Z h0 x "java/lang/String" "coder" "B" (.int 0)) (SC_ : o_SC Z zC_) (hC_ : ¬ zC_ = 0) :
    o_Met l Z o_m8 jdk_42_method_152_code 1 (some .byte) ws o_R1 #[(.ref x)] h0 (Qcod Z x zC_ h0 n0) := by
  refine o_enter o_pn_3 (fun m => o_ef0 m x) (fun p e s m below meth c s₁ hx hby hml hZ hown hnm hlk hrt X0 e0 => ?_)
  have N0 := Fr.nil n0
  have y_ := @hb _ _ hby
  have k_ := @o_k _ _ hw
  refine o_getS X0 hx hZ hown (host := "") (Or.inl (k_ 21 rfl)) Via.refl e0 (Sta.ext O0.2 SC_) (y_ oD7_0) (fun T1 X1 e1 => ?_)
  refine o_iF (t := 13) X1 hx (y_ oD7_3) (fun hq => ?_) (fun hq => ?_)
  · have hc3 := o_h_eq.1 hq
    exact absurd hc3 hC_
  have hc3 := o_h_eq.2 hq
  refine o_aloadN X1 hx (y_ oD7_6) rfl rfl ?_
  refine o_getF X1 hx hZ hown (host := "") (Or.inl (k_ 33 rfl)) Via.refl e1 C_x (y_ oD7_7) (fun T2 X2 e2 => ?_)
  refine o_gO (t := 14) X2 hx (y_ oD7_10) ?_
  exact o_retN X2 hx (t := .byte) hrt hlk (by simp) (y_ oD7_14) rfl (by decide) (by decide) (o_hQ e2 ⟨rfl, N0, rfl⟩)
abbrev Qisl (Z : State) (x : Addr) (zC_ : Int32) (h0 : Heap) (n0 : Nat) (v : Option Value) (h : Heap) (L : List Loc) : Prop := v = some (.int 1) ∧ Fr n0 L ∧ h = h0
set_option maxRecDepth 65536 in
set_option maxHeartbeats 40000000 in
theorem rmisl (l : Launch) (Z : State) (a0 : Array Value) (hw : ∀ d ∈ tables_1, d.before a0 Z = true) (ws : List Jvm.Cond) (x : Addr) (zC_ : Int32) (h0 : Heap) (n0 : Nat) (O0 : Old Z n0 h0) (C_x : Fld Z h0 x "java/lang/String" "coder" "B" (.int 0)) (SC_ : o_SC Z zC_) (hC_ : ¬ zC_ = 0) :
    o_Met l Z o_m9 jdk_42_method_154_code 1 (some .boolean) ws o_R1 #[(.ref x)] h0 (Qisl Z x zC_ h0 n0) := by
  refine o_enter o_pn_3 (fun m => o_ef0 m x) (fun p e s m below meth c s₁ hx hby hml hZ hown hnm hlk hrt X0 e0 => ?_)
  have N0 := Fr.nil n0
  have y_ := @hb _ _ hby
  have k_ := @o_k _ _ hw
  refine o_getS X0 hx hZ hown (host := "") (Or.inl (k_ 21 rfl)) Via.refl e0 (Sta.ext O0.2 SC_) (y_ oD8_0) (fun T1 X1 e1 => ?_)
  refine o_iF (t := 17) X1 hx (y_ oD8_3) (fun hq => ?_) (fun hq => ?_)
  · have hc3 := o_h_eq.1 hq
    exact absurd hc3 hC_
  have hc3 := o_h_eq.2 hq
  refine o_aloadN X1 hx (y_ oD8_6) rfl rfl ?_
  refine o_getF X1 hx hZ hown (host := "") (Or.inl (k_ 33 rfl)) Via.refl e1 C_x (y_ oD8_7) (fun T2 X2 e2 => ?_)
  refine o_iFF X2 hx (y_ oD8_10) ?_
  refine o_iconst X2 hx (y_ oD8_13) (x := 1) rfl ?_
  refine o_gO (t := 18) X2 hx (y_ oD8_14) ?_
  exact o_retN X2 hx (t := .boolean) hrt hlk (by simp) (y_ oD8_18) rfl (by decide) (by decide) (o_hQ e2 ⟨rfl, N0, rfl⟩)
abbrev Qixs0_1 (Z : State) (x : Addr) (y : Addr) (t : Addr) (u : Addr) (d0 : Int32) (zC_ : Int32) (h0 : Heap) (n0 : Nat) (v : Option Value) (h : Heap) (L : List Loc) : Prop := ∃ r : Int32, v = some (.int r) ∧ Fr n0 L ∧ h = h0 ∧ (r < 0 ↔ ¬ o_occ ([] : List Int32) ([d0] : List Int32) = true)
set_option maxRecDepth 65536 in
set_option maxHeartbeats 40000000 in
theorem rmixs0_1 (l : Launch) (Z : State) (a0 : Array Value) (hw : ∀ d ∈ tables_1, d.before a0 Z = true) (ws : List Jvm.Cond) (x : Addr) (y : Addr) (t : Addr) (u : Addr) (d0 : Int32) (zC_ : Int32) (h0 : Heap) (n0 : Nat) (O0 : Old Z n0 h0) (S_x : o_Str Z h0 x t ([] : List Int32)) (S_y : o_Str Z h0 y u ([d0] : List Int32)) (SC_ : o_SC Z zC_) (hC_ : ¬ zC_ = 0) :
    o_Met l Z o_m7 jdk_42_method_84_code 3 (some .int) ws o_R5 #[(.ref x), (.ref y)] h0 (Qixs0_1 Z x y t u d0 zC_ h0 n0) := by
  refine o_enter o_pn_3 (fun m => o_ef5 m x y) (fun p e s m below meth c s₁ hx hby hml hZ hown hnm hlk hrt X0 e0 => ?_)
  have N0 := Fr.nil n0
  have y_ := @hb _ _ hby
  have k_ := @o_k _ _ hw
  refine o_aloadN X0 hx (y_ oD9_0) rfl rfl ?_
  refine o_vir (y := o_m8) (b := x) (argsL := []) (S := []) (W := 0) X0 hx hZ hown (k_ 73 rfl) (k_ 74 rfl) (k_ 76 rfl) (k_ 75 rfl) (backOf (W := 0) (rmcod l Z a0 hw [] x zC_ h0 n0 O0 S_x.2.1 SC_ hC_) hZ (k_ 77 rfl) (k_ 10 rfl) (by decide) (by decide)) e0 S_x.1 hml (lenOf o_pd__28_29B rfl) (y_ oD9_1) (fun T1 L1 v1 X1 hQ1 => ?_)
  obtain ⟨rfl, N1q, hh1⟩ := hQ1
  have N1 := Fr.app N0 N1q
  show o_G p e below _ T1 (mkF m 4 #[vR x, vR y, .unset] [(.int 0)])
  refine o_istoreN X1 hx (y_ oD9_4) (A' := #[vR x, vR y, vI 0]) rfl ?_
  refine o_iloadN X1 hx (y_ oD9_5) rfl ?_
  refine o_aloadN X1 hx (y_ oD9_6) rfl rfl ?_
  refine o_vir (y := o_m8) (b := y) (argsL := []) (S := [(.int 0)]) (W := 1) X1 hx hZ hown (k_ 73 rfl) (k_ 74 rfl) (k_ 76 rfl) (k_ 75 rfl) (backOf (W := 1) (rmcod l Z a0 hw [] y zC_ h0 n0 O0 S_y.2.1 SC_ hC_) hZ (k_ 77 rfl) (k_ 10 rfl) (by decide) (by decide)) hh1 S_y.1 hml (lenOf o_pd__28_29B rfl) (y_ oD9_7) (fun T2 L2 v2 X2 hQ2 => ?_)
  obtain ⟨rfl, N2q, hh2⟩ := hQ2
  have N2 := Fr.app N1 N2q
  show o_G p e below _ T2 (mkF m 10 #[vR x, vR y, vI 0] [(.int 0), (.int 0)])
  refine o_iCF X2 hx (y_ oD9_10) ?_
  refine o_aloadN X2 hx (y_ oD9_13) rfl rfl ?_
  refine o_vir (y := o_m9) (b := x) (argsL := []) (S := []) (W := 0) X2 hx hZ hown (k_ 78 rfl) (k_ 79 rfl) (k_ 81 rfl) (k_ 80 rfl) (backOf (W := 0) (rmisl l Z a0 hw [] x zC_ h0 n0 O0 S_x.2.1 SC_ hC_) hZ (k_ 82 rfl) (k_ 10 rfl) (by decide) (by decide)) hh2 S_x.1 hml (lenOf o_pd__28_29Z rfl) (y_ oD9_14) (fun T3 L3 v3 X3 hQ3 => ?_)
  obtain ⟨rfl, N3q, hh3⟩ := hQ3
  have N3 := Fr.app N2 N3q
  show o_G p e below _ T3 (mkF m 17 #[vR x, vR y, vI 0] [(.int 1)])
  refine o_iFF X3 hx (y_ oD9_17) ?_
  obtain ⟨kb4, Bv4⟩ := S_x.2.2.2.1
  have Bw4 : Arv Z h0 t kb4 .byte (0 : Int32) [] (.int 0) := Bv4
  obtain ⟨kb5, Bv5⟩ := S_y.2.2.2.1
  have Bw5 : Arv Z h0 u kb5 .byte (1 : Int32) [.int d0.toInt8.toInt32] (.int 0) := Bv5
  refine o_aloadN X3 hx (y_ oD9_20) rfl rfl ?_
  refine o_getF X3 hx hZ hown (host := "") (Or.inl (k_ 35 rfl)) Via.refl hh3 S_x.2.2.1 (y_ oD9_21) (fun T6 X6 e6 => ?_)
  refine o_aloadN X6 hx (y_ oD9_24) rfl rfl ?_
  refine o_getF X6 hx hZ hown (host := "") (Or.inl (k_ 35 rfl)) Via.refl e6 S_y.2.2.1 (y_ oD9_25) (fun T7 X7 e7 => ?_)
  refine o_sta (y := o_m6) (argsL := [(.ref t), (.ref u)]) (S := []) (W := 0) X7 hx hZ hown (k_ 83 rfl) (k_ 84 rfl) (k_ 85 rfl) (k_ 86 rfl) (backOf (W := 0) (rmixt0_1 l Z a0 hw [] t u kb4 kb5 (d0.toInt8.toInt32) h0 n0 O0 Bw4 Bw5) hZ (k_ 86 rfl) (k_ 85 rfl) (by decide) (by decide)) e7 hml (lenOf o_pd__28_5bB_5bB_29I rfl) (y_ oD9_28) (fun T8 L8 v8 X8 hQ8 => ?_)
  obtain ⟨r8, rfl, N8q, hh8, hr8⟩ := hQ8
  have N8 := Fr.app N3 N8q
  show o_G p e below _ T8 (mkF m 31 #[vR x, vR y, vI 0] [(.int r8)])
  refine o_gO (t := 45) X8 hx (y_ oD9_31) ?_
  exact o_retI X8 hx hrt hlk (y_ oD9_45) (by decide) (by decide) (o_hQ hh8 ⟨_, rfl, N8, rfl, by rw [← o_occ_b ([] : List Int32) ([d0] : List Int32) S_x.2.2.2.2.1 S_y.2.2.2.2.1]; exact hr8⟩)
abbrev Qtos (Z : State) (x : Addr) (h0 : Heap) (n0 : Nat) (v : Option Value) (h : Heap) (L : List Loc) : Prop := v = some (.ref x) ∧ Fr n0 L ∧ h = h0
set_option maxRecDepth 65536 in
set_option maxHeartbeats 40000000 in
theorem rmtos (l : Launch) (Z : State) (a0 : Array Value) (hw : ∀ d ∈ tables_1, d.before a0 Z = true) (ws : List Jvm.Cond) (x : Addr) (h0 : Heap) (n0 : Nat) (O0 : Old Z n0 h0) :
    o_Met l Z o_m11 jdk_42_method_126_code 1 (some (.object "java/lang/String")) ws o_R1 #[(.ref x)] h0 (Qtos Z x h0 n0) := by
  refine o_enter o_pn_3 (fun m => o_ef0 m x) (fun p e s m below meth c s₁ hx hby hml hZ hown hnm hlk hrt X0 e0 => ?_)
  have N0 := Fr.nil n0
  have y_ := @hb _ _ hby
  have k_ := @o_k _ _ hw
  refine o_aloadN X0 hx (y_ oD10_0) rfl rfl ?_
  exact o_retA X0 hx hrt hlk rfl rfl rfl (y_ oD10_1) (by decide) (by decide) (o_hQ e0 ⟨rfl, N0, rfl⟩)
abbrev Qcon0_1 (Z : State) (x : Addr) (y : Addr) (t : Addr) (u : Addr) (d0 : Int32) (zC_ : Int32) (h0 : Heap) (n0 : Nat) (v : Option Value) (h : Heap) (L : List Loc) : Prop := v = some (.int (if o_occ ([] : List Int32) ([d0] : List Int32) = true then 1 else 0)) ∧ Fr n0 L ∧ h = h0
set_option maxRecDepth 65536 in
set_option maxHeartbeats 40000000 in
theorem rmcon0_1 (l : Launch) (Z : State) (a0 : Array Value) (hw : ∀ d ∈ tables_1, d.before a0 Z = true) (ws : List Jvm.Cond) (x : Addr) (y : Addr) (t : Addr) (u : Addr) (d0 : Int32) (zC_ : Int32) (h0 : Heap) (n0 : Nat) (O0 : Old Z n0 h0) (S_x : o_Str Z h0 x t ([] : List Int32)) (S_y : o_Str Z h0 y u ([d0] : List Int32)) (SC_ : o_SC Z zC_) (hC_ : ¬ zC_ = 0) :
    o_Met l Z o_m10 jdk_42_method_97_code 2 (some .boolean) ws o_R6 #[(.ref x), (.ref y)] h0 (Qcon0_1 Z x y t u d0 zC_ h0 n0) := by
  refine o_enter o_pn_3 (fun m => o_ef1 m x y) (fun p e s m below meth c s₁ hx hby hml hZ hown hnm hlk hrt X0 e0 => ?_)
  have N0 := Fr.nil n0
  have y_ := @hb _ _ hby
  have k_ := @o_k _ _ hw
  refine o_aloadN X0 hx (y_ oD11_0) rfl rfl ?_
  refine o_aloadN X0 hx (y_ oD11_1) rfl rfl ?_
  refine o_iface (xi := o_m12) (y := o_m11) (b := y) (argsL := []) (S := [(.ref x)]) (W := 1) X0 hx hZ hown (k_ 59 rfl) (k_ 60 rfl) (mvT hZ (k_ 61 rfl)) (k_ 62 rfl) (k_ 63 rfl) (k_ 64 rfl) (k_ 65 rfl) (k_ 66 rfl) (by decide) (backOf (W := 1) (rmtos l Z a0 hw [] y h0 n0 O0) hZ (k_ 67 rfl) (k_ 10 rfl) (by decide) (by decide)) e0 S_y.1 (by rw [hml]; rfl) (lenOf o_pd__28_29Ljava_2flang_2fString_3b rfl) rfl (Nat.le_of_eq rfl) (y_ oD11_2) (by decide) (by decide) (fun T1 L1 v1 X1 hQ1 => ?_)
  obtain ⟨rfl, N1q, hh1⟩ := hQ1
  have N1 := Fr.app N0 N1q
  show o_G p e below _ T1 (mkF m 7 #[vR x, vR y] [(.ref y), (.ref x)])
  refine o_vir (y := o_m7) (b := x) (argsL := [(.ref y)]) (S := []) (W := 0) X1 hx hZ hown (k_ 68 rfl) (k_ 69 rfl) (k_ 71 rfl) (k_ 70 rfl) (backOf (W := 0) (rmixs0_1 l Z a0 hw [] x y t u d0 zC_ h0 n0 O0 S_x S_y SC_ hC_) hZ (k_ 72 rfl) (k_ 10 rfl) (by decide) (by decide)) hh1 S_x.1 hml (lenOf o_pd__28Ljava_2flang_2fString_3b_29I rfl) (y_ oD11_7) (fun T2 L2 v2 X2 hQ2 => ?_)
  obtain ⟨r2, rfl, N2q, hh2, hr2⟩ := hQ2
  have N2 := Fr.app N1 N2q
  show o_G p e below _ T2 (mkF m 10 #[vR x, vR y] [(.int r2)])
  refine o_iF (t := 17) X2 hx (y_ oD11_10) (fun hq => ?_) (fun hq => ?_)
  · have hc10 := o_h_lt.1 hq
    refine o_iconst X2 hx (y_ oD11_17) (x := 0) rfl ?_
    exact o_retN X2 hx (t := .boolean) hrt hlk (by simp) (y_ oD11_18) rfl (by decide) (by decide) (o_hQ hh2 ⟨by rw [if_neg (hr2.mp hc10)], N2, rfl⟩)
  have hc10 := o_h_lt.2 hq
  refine o_iconst X2 hx (y_ oD11_13) (x := 1) rfl ?_
  refine o_gO (t := 18) X2 hx (y_ oD11_14) ?_
  exact o_retN X2 hx (t := .boolean) hrt hlk (by simp) (y_ oD11_18) rfl (by decide) (by decide) (o_hQ hh2 ⟨by rw [if_pos (Classical.byContradiction fun q => hc10 (hr2.mpr q))], N2, rfl⟩)
abbrev Qixt0_2 (Z : State) (a : Addr) (b : Addr) (ka : ClassId) (kb : ClassId) (s0 : Int32) (s1 : Int32) (h0 : Heap) (n0 : Nat) (v : Option Value) (h : Heap) (L : List Loc) : Prop := ∃ r : Int32, v = some (.int r) ∧ Fr n0 L ∧ h = h0 ∧ (r < 0 ↔ ¬ o_occ ([] : List Int32) ([s0, s1] : List Int32) = true)
set_option maxRecDepth 65536 in
set_option maxHeartbeats 40000000 in
theorem rmixt0_2 (l : Launch) (Z : State) (a0 : Array Value) (hw : ∀ d ∈ tables_1, d.before a0 Z = true) (ws : List Jvm.Cond) (a : Addr) (b : Addr) (ka : ClassId) (kb : ClassId) (s0 : Int32) (s1 : Int32) (h0 : Heap) (n0 : Nat) (O0 : Old Z n0 h0) (V_a : Arv Z h0 a ka .byte (0 : Int32) [] (.int 0)) (V_b : Arv Z h0 b kb .byte (2 : Int32) [.int s0, .int s1] (.int 0)) :
    o_Met l Z o_m6 jdk_43_method_24_code 2 (some .int) ws o_R4 #[(.ref a), (.ref b)] h0 (Qixt0_2 Z a b ka kb s0 s1 h0 n0) := by
  refine o_enter o_pn_4 (fun m => o_ef1 m a b) (fun p e s m below meth c s₁ hx hby hml hZ hown hnm hlk hrt X0 e0 => ?_)
  have N0 := Fr.nil n0
  have y_ := @hb _ _ hby
  have k_ := @o_k _ _ hw
  refine o_aloadN X0 hx (y_ oD6_0) rfl rfl ?_
  refine o_alen (n := 2) X0 hx hZ e0 V_b (y_ oD6_1) ?_
  refine o_iFT (t := 7) X0 hx (y_ oD6_2) ?_
  refine o_aloadN X0 hx (y_ oD6_7) rfl rfl ?_
  refine o_alen (n := 0) X0 hx hZ e0 V_a (y_ oD6_8) ?_
  refine o_iFF X0 hx (y_ oD6_9) ?_
  refine o_iconst X0 hx (y_ oD6_12) (x := (-1 : Int32)) rfl ?_
  exact o_retI X0 hx hrt hlk (y_ oD6_13) (by decide) (by decide) (o_hQ e0 ⟨_, rfl, N0, rfl, by simp [o_occ, o_pref]⟩)
abbrev Qixs0_2 (Z : State) (x : Addr) (y : Addr) (t : Addr) (u : Addr) (d0 : Int32) (d1 : Int32) (zC_ : Int32) (h0 : Heap) (n0 : Nat) (v : Option Value) (h : Heap) (L : List Loc) : Prop := ∃ r : Int32, v = some (.int r) ∧ Fr n0 L ∧ h = h0 ∧ (r < 0 ↔ ¬ o_occ ([] : List Int32) ([d0, d1] : List Int32) = true)
set_option maxRecDepth 65536 in
set_option maxHeartbeats 40000000 in
theorem rmixs0_2 (l : Launch) (Z : State) (a0 : Array Value) (hw : ∀ d ∈ tables_1, d.before a0 Z = true) (ws : List Jvm.Cond) (x : Addr) (y : Addr) (t : Addr) (u : Addr) (d0 : Int32) (d1 : Int32) (zC_ : Int32) (h0 : Heap) (n0 : Nat) (O0 : Old Z n0 h0) (S_x : o_Str Z h0 x t ([] : List Int32)) (S_y : o_Str Z h0 y u ([d0, d1] : List Int32)) (SC_ : o_SC Z zC_) (hC_ : ¬ zC_ = 0) :
    o_Met l Z o_m7 jdk_42_method_84_code 3 (some .int) ws o_R5 #[(.ref x), (.ref y)] h0 (Qixs0_2 Z x y t u d0 d1 zC_ h0 n0) := by
  refine o_enter o_pn_3 (fun m => o_ef5 m x y) (fun p e s m below meth c s₁ hx hby hml hZ hown hnm hlk hrt X0 e0 => ?_)
  have N0 := Fr.nil n0
  have y_ := @hb _ _ hby
  have k_ := @o_k _ _ hw
  refine o_aloadN X0 hx (y_ oD9_0) rfl rfl ?_
  refine o_vir (y := o_m8) (b := x) (argsL := []) (S := []) (W := 0) X0 hx hZ hown (k_ 73 rfl) (k_ 74 rfl) (k_ 76 rfl) (k_ 75 rfl) (backOf (W := 0) (rmcod l Z a0 hw [] x zC_ h0 n0 O0 S_x.2.1 SC_ hC_) hZ (k_ 77 rfl) (k_ 10 rfl) (by decide) (by decide)) e0 S_x.1 hml (lenOf o_pd__28_29B rfl) (y_ oD9_1) (fun T1 L1 v1 X1 hQ1 => ?_)
  obtain ⟨rfl, N1q, hh1⟩ := hQ1
  have N1 := Fr.app N0 N1q
  show o_G p e below _ T1 (mkF m 4 #[vR x, vR y, .unset] [(.int 0)])
  refine o_istoreN X1 hx (y_ oD9_4) (A' := #[vR x, vR y, vI 0]) rfl ?_
  refine o_iloadN X1 hx (y_ oD9_5) rfl ?_
  refine o_aloadN X1 hx (y_ oD9_6) rfl rfl ?_
  refine o_vir (y := o_m8) (b := y) (argsL := []) (S := [(.int 0)]) (W := 1) X1 hx hZ hown (k_ 73 rfl) (k_ 74 rfl) (k_ 76 rfl) (k_ 75 rfl) (backOf (W := 1) (rmcod l Z a0 hw [] y zC_ h0 n0 O0 S_y.2.1 SC_ hC_) hZ (k_ 77 rfl) (k_ 10 rfl) (by decide) (by decide)) hh1 S_y.1 hml (lenOf o_pd__28_29B rfl) (y_ oD9_7) (fun T2 L2 v2 X2 hQ2 => ?_)
  obtain ⟨rfl, N2q, hh2⟩ := hQ2
  have N2 := Fr.app N1 N2q
  show o_G p e below _ T2 (mkF m 10 #[vR x, vR y, vI 0] [(.int 0), (.int 0)])
  refine o_iCF X2 hx (y_ oD9_10) ?_
  refine o_aloadN X2 hx (y_ oD9_13) rfl rfl ?_
  refine o_vir (y := o_m9) (b := x) (argsL := []) (S := []) (W := 0) X2 hx hZ hown (k_ 78 rfl) (k_ 79 rfl) (k_ 81 rfl) (k_ 80 rfl) (backOf (W := 0) (rmisl l Z a0 hw [] x zC_ h0 n0 O0 S_x.2.1 SC_ hC_) hZ (k_ 82 rfl) (k_ 10 rfl) (by decide) (by decide)) hh2 S_x.1 hml (lenOf o_pd__28_29Z rfl) (y_ oD9_14) (fun T3 L3 v3 X3 hQ3 => ?_)
  obtain ⟨rfl, N3q, hh3⟩ := hQ3
  have N3 := Fr.app N2 N3q
  show o_G p e below _ T3 (mkF m 17 #[vR x, vR y, vI 0] [(.int 1)])
  refine o_iFF X3 hx (y_ oD9_17) ?_
  obtain ⟨kb4, Bv4⟩ := S_x.2.2.2.1
  have Bw4 : Arv Z h0 t kb4 .byte (0 : Int32) [] (.int 0) := Bv4
  obtain ⟨kb5, Bv5⟩ := S_y.2.2.2.1
  have Bw5 : Arv Z h0 u kb5 .byte (2 : Int32) [.int d0.toInt8.toInt32, .int d1.toInt8.toInt32] (.int 0) := Bv5
  refine o_aloadN X3 hx (y_ oD9_20) rfl rfl ?_
  refine o_getF X3 hx hZ hown (host := "") (Or.inl (k_ 35 rfl)) Via.refl hh3 S_x.2.2.1 (y_ oD9_21) (fun T6 X6 e6 => ?_)
  refine o_aloadN X6 hx (y_ oD9_24) rfl rfl ?_
  refine o_getF X6 hx hZ hown (host := "") (Or.inl (k_ 35 rfl)) Via.refl e6 S_y.2.2.1 (y_ oD9_25) (fun T7 X7 e7 => ?_)
  refine o_sta (y := o_m6) (argsL := [(.ref t), (.ref u)]) (S := []) (W := 0) X7 hx hZ hown (k_ 83 rfl) (k_ 84 rfl) (k_ 85 rfl) (k_ 86 rfl) (backOf (W := 0) (rmixt0_2 l Z a0 hw [] t u kb4 kb5 (d0.toInt8.toInt32) (d1.toInt8.toInt32) h0 n0 O0 Bw4 Bw5) hZ (k_ 86 rfl) (k_ 85 rfl) (by decide) (by decide)) e7 hml (lenOf o_pd__28_5bB_5bB_29I rfl) (y_ oD9_28) (fun T8 L8 v8 X8 hQ8 => ?_)
  obtain ⟨r8, rfl, N8q, hh8, hr8⟩ := hQ8
  have N8 := Fr.app N3 N8q
  show o_G p e below _ T8 (mkF m 31 #[vR x, vR y, vI 0] [(.int r8)])
  refine o_gO (t := 45) X8 hx (y_ oD9_31) ?_
  exact o_retI X8 hx hrt hlk (y_ oD9_45) (by decide) (by decide) (o_hQ hh8 ⟨_, rfl, N8, rfl, by rw [← o_occ_b ([] : List Int32) ([d0, d1] : List Int32) S_x.2.2.2.2.1 S_y.2.2.2.2.1]; exact hr8⟩)
abbrev Qcon0_2 (Z : State) (x : Addr) (y : Addr) (t : Addr) (u : Addr) (d0 : Int32) (d1 : Int32) (zC_ : Int32) (h0 : Heap) (n0 : Nat) (v : Option Value) (h : Heap) (L : List Loc) : Prop := v = some (.int (if o_occ ([] : List Int32) ([d0, d1] : List Int32) = true then 1 else 0)) ∧ Fr n0 L ∧ h = h0
set_option maxRecDepth 65536 in
set_option maxHeartbeats 40000000 in
theorem rmcon0_2 (l : Launch) (Z : State) (a0 : Array Value) (hw : ∀ d ∈ tables_1, d.before a0 Z = true) (ws : List Jvm.Cond) (x : Addr) (y : Addr) (t : Addr) (u : Addr) (d0 : Int32) (d1 : Int32) (zC_ : Int32) (h0 : Heap) (n0 : Nat) (O0 : Old Z n0 h0) (S_x : o_Str Z h0 x t ([] : List Int32)) (S_y : o_Str Z h0 y u ([d0, d1] : List Int32)) (SC_ : o_SC Z zC_) (hC_ : ¬ zC_ = 0) :
    o_Met l Z o_m10 jdk_42_method_97_code 2 (some .boolean) ws o_R6 #[(.ref x), (.ref y)] h0 (Qcon0_2 Z x y t u d0 d1 zC_ h0 n0) := by
  refine o_enter o_pn_3 (fun m => o_ef1 m x y) (fun p e s m below meth c s₁ hx hby hml hZ hown hnm hlk hrt X0 e0 => ?_)
  have N0 := Fr.nil n0
  have y_ := @hb _ _ hby
  have k_ := @o_k _ _ hw
  refine o_aloadN X0 hx (y_ oD11_0) rfl rfl ?_
  refine o_aloadN X0 hx (y_ oD11_1) rfl rfl ?_
  refine o_iface (xi := o_m12) (y := o_m11) (b := y) (argsL := []) (S := [(.ref x)]) (W := 1) X0 hx hZ hown (k_ 59 rfl) (k_ 60 rfl) (mvT hZ (k_ 61 rfl)) (k_ 62 rfl) (k_ 63 rfl) (k_ 64 rfl) (k_ 65 rfl) (k_ 66 rfl) (by decide) (backOf (W := 1) (rmtos l Z a0 hw [] y h0 n0 O0) hZ (k_ 67 rfl) (k_ 10 rfl) (by decide) (by decide)) e0 S_y.1 (by rw [hml]; rfl) (lenOf o_pd__28_29Ljava_2flang_2fString_3b rfl) rfl (Nat.le_of_eq rfl) (y_ oD11_2) (by decide) (by decide) (fun T1 L1 v1 X1 hQ1 => ?_)
  obtain ⟨rfl, N1q, hh1⟩ := hQ1
  have N1 := Fr.app N0 N1q
  show o_G p e below _ T1 (mkF m 7 #[vR x, vR y] [(.ref y), (.ref x)])
  refine o_vir (y := o_m7) (b := x) (argsL := [(.ref y)]) (S := []) (W := 0) X1 hx hZ hown (k_ 68 rfl) (k_ 69 rfl) (k_ 71 rfl) (k_ 70 rfl) (backOf (W := 0) (rmixs0_2 l Z a0 hw [] x y t u d0 d1 zC_ h0 n0 O0 S_x S_y SC_ hC_) hZ (k_ 72 rfl) (k_ 10 rfl) (by decide) (by decide)) hh1 S_x.1 hml (lenOf o_pd__28Ljava_2flang_2fString_3b_29I rfl) (y_ oD11_7) (fun T2 L2 v2 X2 hQ2 => ?_)
  obtain ⟨r2, rfl, N2q, hh2, hr2⟩ := hQ2
  have N2 := Fr.app N1 N2q
  show o_G p e below _ T2 (mkF m 10 #[vR x, vR y] [(.int r2)])
  refine o_iF (t := 17) X2 hx (y_ oD11_10) (fun hq => ?_) (fun hq => ?_)
  · have hc10 := o_h_lt.1 hq
    refine o_iconst X2 hx (y_ oD11_17) (x := 0) rfl ?_
    exact o_retN X2 hx (t := .boolean) hrt hlk (by simp) (y_ oD11_18) rfl (by decide) (by decide) (o_hQ hh2 ⟨by rw [if_neg (hr2.mp hc10)], N2, rfl⟩)
  have hc10 := o_h_lt.2 hq
  refine o_iconst X2 hx (y_ oD11_13) (x := 1) rfl ?_
  refine o_gO (t := 18) X2 hx (y_ oD11_14) ?_
  exact o_retN X2 hx (t := .boolean) hrt hlk (by simp) (y_ oD11_18) rfl (by decide) (by decide) (o_hQ hh2 ⟨by rw [if_pos (Classical.byContradiction fun q => hc10 (hr2.mpr q))], N2, rfl⟩)
abbrev Qixf1_1 (Z : State) (a : Addr) (b : Addr) (ka : ClassId) (kb : ClassId) (v0 : Int32) (s0 : Int32) (h0 : Heap) (n0 : Nat) (v : Option Value) (h : Heap) (L : List Loc) : Prop := ∃ r : Int32, v = some (.int r) ∧ Fr n0 L ∧ h = h0 ∧ (r < 0 ↔ ¬ o_occ ([v0] : List Int32) ([s0] : List Int32) = true)
set_option maxRecDepth 65536 in
set_option maxHeartbeats 40000000 in
theorem rmixf1_1 (l : Launch) (Z : State) (a0 : Array Value) (hw : ∀ d ∈ tables_1, d.before a0 Z = true) (ws : List Jvm.Cond) (a : Addr) (b : Addr) (ka : ClassId) (kb : ClassId) (v0 : Int32) (s0 : Int32) (h0 : Heap) (n0 : Nat) (O0 : Old Z n0 h0) (V_a : Arv Z h0 a ka .byte (1 : Int32) [.int v0] (.int 0)) (V_b : Arv Z h0 b kb .byte (1 : Int32) [.int s0] (.int 0)) :
    o_Met l Z o_m13 jdk_43_method_25_code 11 (some .int) ws o_R1 #[(.ref a), (.int 1), (.ref b), (.int 1), (.int 0)] h0 (Qixf1_1 Z a b ka kb v0 s0 h0 n0) := by
  refine o_enter o_pn_4 (fun m => o_ef6 m a b) (fun p e s m below meth c s₁ hx hby hml hZ hown hnm hlk hrt X0 e0 => ?_)
  have N0 := Fr.nil n0
  have y_ := @hb _ _ hby
  have k_ := @o_k _ _ hw
  refine o_aloadN X0 hx (y_ oD12_0) rfl rfl ?_
  refine o_iconst X0 hx (y_ oD12_1) (x := 0) rfl ?_
  refine o_bload (v := (.int s0)) X0 hx hZ e0 V_b (y_ oD12_2) ⟨by decide, by decide⟩ rfl ?_
  refine o_istore X0 hx (y_ oD12_3) (A' := #[vR a, vI 1, vR b, vI 1, vI 0, vI s0, .unset, .unset, .unset, .unset, .unset]) rfl ?_
  refine o_iloadN X0 hx (y_ oD12_5) rfl ?_
  refine o_iloadN X0 hx (y_ oD12_6) rfl ?_
  refine o_isub X0 hx (y_ oD12_7) ?_
  refine o_valE (z := 0) (by decide) ?_
  refine o_istore X0 hx (y_ oD12_8) (A' := #[vR a, vI 1, vR b, vI 1, vI 0, vI s0, vI 0, .unset, .unset, .unset, .unset]) rfl ?_
  refine o_iload X0 hx (y_ oD12_10) rfl ?_
  refine o_istore X0 hx (y_ oD12_12) (A' := #[vR a, vI 1, vR b, vI 1, vI 0, vI s0, vI 0, vI 0, .unset, .unset, .unset]) rfl ?_
  refine o_iload X0 hx (y_ oD12_14) rfl ?_
  refine o_iload X0 hx (y_ oD12_16) rfl ?_
  refine o_iCF X0 hx (y_ oD12_18) ?_
  refine o_aloadN X0 hx (y_ oD12_21) rfl rfl ?_
  refine o_iload X0 hx (y_ oD12_22) rfl ?_
  refine o_bload (v := (.int v0)) X0 hx hZ e0 V_a (y_ oD12_24) ⟨by decide, by decide⟩ rfl ?_
  refine o_iload X0 hx (y_ oD12_25) rfl ?_
  refine o_iC (t := 52) X0 hx (y_ oD12_27) (fun hq => ?_) (fun hq => ?_)
  · have hc27_1 := o_c_eq.1 hq
    refine o_iload X0 hx (y_ oD12_52) rfl ?_
    refine o_iload X0 hx (y_ oD12_54) rfl ?_
    refine o_iCF X0 hx (y_ oD12_56) ?_
    refine o_iload X0 hx (y_ oD12_59) rfl ?_
    refine o_iconst X0 hx (y_ oD12_61) (x := 1) rfl ?_
    refine o_iadd X0 hx (y_ oD12_62) ?_
    refine o_valE (z := 1) (by decide) ?_
    refine o_istore X0 hx (y_ oD12_63) (A' := #[vR a, vI 1, vR b, vI 1, vI 0, vI s0, vI 0, vI 0, vI 1, .unset, .unset]) rfl ?_
    refine o_iload X0 hx (y_ oD12_65) rfl ?_
    refine o_iloadN X0 hx (y_ oD12_67) rfl ?_
    refine o_iadd X0 hx (y_ oD12_68) ?_
    refine o_valE (z := 2) (by decide) ?_
    refine o_iconst X0 hx (y_ oD12_69) (x := 1) rfl ?_
    refine o_isub X0 hx (y_ oD12_70) ?_
    refine o_valE (z := 1) (by decide) ?_
    refine o_istore X0 hx (y_ oD12_71) (A' := #[vR a, vI 1, vR b, vI 1, vI 0, vI s0, vI 0, vI 0, vI 1, vI 1, .unset]) rfl ?_
    refine o_iconst X0 hx (y_ oD12_73) (x := 1) rfl ?_
    refine o_istore X0 hx (y_ oD12_74) (A' := #[vR a, vI 1, vR b, vI 1, vI 0, vI s0, vI 0, vI 0, vI 1, vI 1, vI 1]) rfl ?_
    refine o_iload X0 hx (y_ oD12_76) rfl ?_
    refine o_iload X0 hx (y_ oD12_78) rfl ?_
    refine o_iCT (t := 103) X0 hx (y_ oD12_80) ?_
    refine o_iload X0 hx (y_ oD12_103) rfl ?_
    refine o_iload X0 hx (y_ oD12_105) rfl ?_
    refine o_iCF X0 hx (y_ oD12_107) ?_
    refine o_iload X0 hx (y_ oD12_110) rfl ?_
    exact o_retI X0 hx hrt hlk (y_ oD12_112) (by decide) (by decide) (o_hQ e0 ⟨_, rfl, N0, rfl, (o_lf0 v0 s0 hc27_1)⟩)
  have hc27_1 := o_c_eq.2 hq
  refine o_iincK X0 hx (y_ oD12_30) (y := 1) rfl rfl (z := 1) (by decide) (A' := #[vR a, vI 1, vR b, vI 1, vI 0, vI s0, vI 0, vI 1, .unset, .unset, .unset]) rfl ?_
  refine o_iload X0 hx (y_ oD12_33) rfl ?_
  refine o_iload X0 hx (y_ oD12_35) rfl ?_
  refine o_iCT (t := 52) X0 hx (y_ oD12_37) ?_
  refine o_iload X0 hx (y_ oD12_52) rfl ?_
  refine o_iload X0 hx (y_ oD12_54) rfl ?_
  refine o_iCT (t := 113) X0 hx (y_ oD12_56) ?_
  refine o_iincK X0 hx (y_ oD12_113) (y := 1) rfl rfl (z := 2) (by decide) (A' := #[vR a, vI 1, vR b, vI 1, vI 0, vI s0, vI 0, vI 2, .unset, .unset, .unset]) rfl ?_
  refine o_gO (t := 14) X0 hx (y_ oD12_116) ?_
  refine o_iload X0 hx (y_ oD12_14) rfl ?_
  refine o_iload X0 hx (y_ oD12_16) rfl ?_
  refine o_iCT (t := 119) X0 hx (y_ oD12_18) ?_
  refine o_iconst X0 hx (y_ oD12_119) (x := (-1 : Int32)) rfl ?_
  exact o_retI X0 hx hrt hlk (y_ oD12_120) (by decide) (by decide) (o_hQ e0 ⟨_, rfl, N0, rfl, (o_lf1 v0 s0 hc27_1)⟩)
abbrev Qixt1_1 (Z : State) (a : Addr) (b : Addr) (ka : ClassId) (kb : ClassId) (v0 : Int32) (s0 : Int32) (h0 : Heap) (n0 : Nat) (v : Option Value) (h : Heap) (L : List Loc) : Prop := ∃ r : Int32, v = some (.int r) ∧ Fr n0 L ∧ h = h0 ∧ (r < 0 ↔ ¬ o_occ ([v0] : List Int32) ([s0] : List Int32) = true)
set_option maxRecDepth 65536 in
set_option maxHeartbeats 40000000 in
theorem rmixt1_1 (l : Launch) (Z : State) (a0 : Array Value) (hw : ∀ d ∈ tables_1, d.before a0 Z = true) (ws : List Jvm.Cond) (a : Addr) (b : Addr) (ka : ClassId) (kb : ClassId) (v0 : Int32) (s0 : Int32) (h0 : Heap) (n0 : Nat) (O0 : Old Z n0 h0) (V_a : Arv Z h0 a ka .byte (1 : Int32) [.int v0] (.int 0)) (V_b : Arv Z h0 b kb .byte (1 : Int32) [.int s0] (.int 0)) :
    o_Met l Z o_m6 jdk_43_method_24_code 2 (some .int) ws o_R4 #[(.ref a), (.ref b)] h0 (Qixt1_1 Z a b ka kb v0 s0 h0 n0) := by
  refine o_enter o_pn_4 (fun m => o_ef1 m a b) (fun p e s m below meth c s₁ hx hby hml hZ hown hnm hlk hrt X0 e0 => ?_)
  have N0 := Fr.nil n0
  have y_ := @hb _ _ hby
  have k_ := @o_k _ _ hw
  refine o_aloadN X0 hx (y_ oD6_0) rfl rfl ?_
  refine o_alen (n := 1) X0 hx hZ e0 V_b (y_ oD6_1) ?_
  refine o_iFT (t := 7) X0 hx (y_ oD6_2) ?_
  refine o_aloadN X0 hx (y_ oD6_7) rfl rfl ?_
  refine o_alen (n := 1) X0 hx hZ e0 V_a (y_ oD6_8) ?_
  refine o_iFT (t := 14) X0 hx (y_ oD6_9) ?_
  refine o_aloadN X0 hx (y_ oD6_14) rfl rfl ?_
  refine o_aloadN X0 hx (y_ oD6_15) rfl rfl ?_
  refine o_alen (n := 1) X0 hx hZ e0 V_a (y_ oD6_16) ?_
  refine o_aloadN X0 hx (y_ oD6_17) rfl rfl ?_
  refine o_aloadN X0 hx (y_ oD6_18) rfl rfl ?_
  refine o_alen (n := 1) X0 hx hZ e0 V_b (y_ oD6_19) ?_
  refine o_iconst X0 hx (y_ oD6_20) (x := 0) rfl ?_
  refine o_sta (y := o_m13) (argsL := [(.ref a), (.int 1), (.ref b), (.int 1), (.int 0)]) (S := []) (W := 0) X0 hx hZ hown (k_ 87 rfl) (k_ 88 rfl) (k_ 85 rfl) (k_ 89 rfl) (backOf (W := 0) (rmixf1_1 l Z a0 hw [] a b ka kb v0 s0 h0 n0 O0 V_a V_b) hZ (k_ 89 rfl) (k_ 85 rfl) (by decide) (by decide)) e0 hml (lenOf o_pd__28_5bBI_5bBII_29I rfl) (y_ oD6_21) (fun T1 L1 v1 X1 hQ1 => ?_)
  obtain ⟨r1, rfl, N1q, hh1, hr1⟩ := hQ1
  have N1 := Fr.app N0 N1q
  show o_G p e below _ T1 (mkF m 24 #[vR a, vR b] [(.int r1)])
  exact o_retI X1 hx hrt hlk (y_ oD6_24) (by decide) (by decide) (o_hQ hh1 ⟨_, rfl, N1, rfl, hr1⟩)
abbrev Qixs1_1 (Z : State) (x : Addr) (y : Addr) (t : Addr) (u : Addr) (c0 : Int32) (d0 : Int32) (zC_ : Int32) (h0 : Heap) (n0 : Nat) (v : Option Value) (h : Heap) (L : List Loc) : Prop := ∃ r : Int32, v = some (.int r) ∧ Fr n0 L ∧ h = h0 ∧ (r < 0 ↔ ¬ o_occ ([c0] : List Int32) ([d0] : List Int32) = true)
set_option maxRecDepth 65536 in
set_option maxHeartbeats 40000000 in
theorem rmixs1_1 (l : Launch) (Z : State) (a0 : Array Value) (hw : ∀ d ∈ tables_1, d.before a0 Z = true) (ws : List Jvm.Cond) (x : Addr) (y : Addr) (t : Addr) (u : Addr) (c0 : Int32) (d0 : Int32) (zC_ : Int32) (h0 : Heap) (n0 : Nat) (O0 : Old Z n0 h0) (S_x : o_Str Z h0 x t ([c0] : List Int32)) (S_y : o_Str Z h0 y u ([d0] : List Int32)) (SC_ : o_SC Z zC_) (hC_ : ¬ zC_ = 0) :
    o_Met l Z o_m7 jdk_42_method_84_code 3 (some .int) ws o_R5 #[(.ref x), (.ref y)] h0 (Qixs1_1 Z x y t u c0 d0 zC_ h0 n0) := by
  refine o_enter o_pn_3 (fun m => o_ef5 m x y) (fun p e s m below meth c s₁ hx hby hml hZ hown hnm hlk hrt X0 e0 => ?_)
  have N0 := Fr.nil n0
  have y_ := @hb _ _ hby
  have k_ := @o_k _ _ hw
  refine o_aloadN X0 hx (y_ oD9_0) rfl rfl ?_
  refine o_vir (y := o_m8) (b := x) (argsL := []) (S := []) (W := 0) X0 hx hZ hown (k_ 73 rfl) (k_ 74 rfl) (k_ 76 rfl) (k_ 75 rfl) (backOf (W := 0) (rmcod l Z a0 hw [] x zC_ h0 n0 O0 S_x.2.1 SC_ hC_) hZ (k_ 77 rfl) (k_ 10 rfl) (by decide) (by decide)) e0 S_x.1 hml (lenOf o_pd__28_29B rfl) (y_ oD9_1) (fun T1 L1 v1 X1 hQ1 => ?_)
  obtain ⟨rfl, N1q, hh1⟩ := hQ1
  have N1 := Fr.app N0 N1q
  show o_G p e below _ T1 (mkF m 4 #[vR x, vR y, .unset] [(.int 0)])
  refine o_istoreN X1 hx (y_ oD9_4) (A' := #[vR x, vR y, vI 0]) rfl ?_
  refine o_iloadN X1 hx (y_ oD9_5) rfl ?_
  refine o_aloadN X1 hx (y_ oD9_6) rfl rfl ?_
  refine o_vir (y := o_m8) (b := y) (argsL := []) (S := [(.int 0)]) (W := 1) X1 hx hZ hown (k_ 73 rfl) (k_ 74 rfl) (k_ 76 rfl) (k_ 75 rfl) (backOf (W := 1) (rmcod l Z a0 hw [] y zC_ h0 n0 O0 S_y.2.1 SC_ hC_) hZ (k_ 77 rfl) (k_ 10 rfl) (by decide) (by decide)) hh1 S_y.1 hml (lenOf o_pd__28_29B rfl) (y_ oD9_7) (fun T2 L2 v2 X2 hQ2 => ?_)
  obtain ⟨rfl, N2q, hh2⟩ := hQ2
  have N2 := Fr.app N1 N2q
  show o_G p e below _ T2 (mkF m 10 #[vR x, vR y, vI 0] [(.int 0), (.int 0)])
  refine o_iCF X2 hx (y_ oD9_10) ?_
  refine o_aloadN X2 hx (y_ oD9_13) rfl rfl ?_
  refine o_vir (y := o_m9) (b := x) (argsL := []) (S := []) (W := 0) X2 hx hZ hown (k_ 78 rfl) (k_ 79 rfl) (k_ 81 rfl) (k_ 80 rfl) (backOf (W := 0) (rmisl l Z a0 hw [] x zC_ h0 n0 O0 S_x.2.1 SC_ hC_) hZ (k_ 82 rfl) (k_ 10 rfl) (by decide) (by decide)) hh2 S_x.1 hml (lenOf o_pd__28_29Z rfl) (y_ oD9_14) (fun T3 L3 v3 X3 hQ3 => ?_)
  obtain ⟨rfl, N3q, hh3⟩ := hQ3
  have N3 := Fr.app N2 N3q
  show o_G p e below _ T3 (mkF m 17 #[vR x, vR y, vI 0] [(.int 1)])
  refine o_iFF X3 hx (y_ oD9_17) ?_
  obtain ⟨kb4, Bv4⟩ := S_x.2.2.2.1
  have Bw4 : Arv Z h0 t kb4 .byte (1 : Int32) [.int c0.toInt8.toInt32] (.int 0) := Bv4
  obtain ⟨kb5, Bv5⟩ := S_y.2.2.2.1
  have Bw5 : Arv Z h0 u kb5 .byte (1 : Int32) [.int d0.toInt8.toInt32] (.int 0) := Bv5
  refine o_aloadN X3 hx (y_ oD9_20) rfl rfl ?_
  refine o_getF X3 hx hZ hown (host := "") (Or.inl (k_ 35 rfl)) Via.refl hh3 S_x.2.2.1 (y_ oD9_21) (fun T6 X6 e6 => ?_)
  refine o_aloadN X6 hx (y_ oD9_24) rfl rfl ?_
  refine o_getF X6 hx hZ hown (host := "") (Or.inl (k_ 35 rfl)) Via.refl e6 S_y.2.2.1 (y_ oD9_25) (fun T7 X7 e7 => ?_)
  refine o_sta (y := o_m6) (argsL := [(.ref t), (.ref u)]) (S := []) (W := 0) X7 hx hZ hown (k_ 83 rfl) (k_ 84 rfl) (k_ 85 rfl) (k_ 86 rfl) (backOf (W := 0) (rmixt1_1 l Z a0 hw [] t u kb4 kb5 (c0.toInt8.toInt32) (d0.toInt8.toInt32) h0 n0 O0 Bw4 Bw5) hZ (k_ 86 rfl) (k_ 85 rfl) (by decide) (by decide)) e7 hml (lenOf o_pd__28_5bB_5bB_29I rfl) (y_ oD9_28) (fun T8 L8 v8 X8 hQ8 => ?_)
  obtain ⟨r8, rfl, N8q, hh8, hr8⟩ := hQ8
  have N8 := Fr.app N3 N8q
  show o_G p e below _ T8 (mkF m 31 #[vR x, vR y, vI 0] [(.int r8)])
  refine o_gO (t := 45) X8 hx (y_ oD9_31) ?_
  exact o_retI X8 hx hrt hlk (y_ oD9_45) (by decide) (by decide) (o_hQ hh8 ⟨_, rfl, N8, rfl, by rw [← o_occ_b ([c0] : List Int32) ([d0] : List Int32) S_x.2.2.2.2.1 S_y.2.2.2.2.1]; exact hr8⟩)
abbrev Qcon1_1 (Z : State) (x : Addr) (y : Addr) (t : Addr) (u : Addr) (c0 : Int32) (d0 : Int32) (zC_ : Int32) (h0 : Heap) (n0 : Nat) (v : Option Value) (h : Heap) (L : List Loc) : Prop := v = some (.int (if o_occ ([c0] : List Int32) ([d0] : List Int32) = true then 1 else 0)) ∧ Fr n0 L ∧ h = h0
set_option maxRecDepth 65536 in
set_option maxHeartbeats 40000000 in
theorem rmcon1_1 (l : Launch) (Z : State) (a0 : Array Value) (hw : ∀ d ∈ tables_1, d.before a0 Z = true) (ws : List Jvm.Cond) (x : Addr) (y : Addr) (t : Addr) (u : Addr) (c0 : Int32) (d0 : Int32) (zC_ : Int32) (h0 : Heap) (n0 : Nat) (O0 : Old Z n0 h0) (S_x : o_Str Z h0 x t ([c0] : List Int32)) (S_y : o_Str Z h0 y u ([d0] : List Int32)) (SC_ : o_SC Z zC_) (hC_ : ¬ zC_ = 0) :
    o_Met l Z o_m10 jdk_42_method_97_code 2 (some .boolean) ws o_R6 #[(.ref x), (.ref y)] h0 (Qcon1_1 Z x y t u c0 d0 zC_ h0 n0) := by
  refine o_enter o_pn_3 (fun m => o_ef1 m x y) (fun p e s m below meth c s₁ hx hby hml hZ hown hnm hlk hrt X0 e0 => ?_)
  have N0 := Fr.nil n0
  have y_ := @hb _ _ hby
  have k_ := @o_k _ _ hw
  refine o_aloadN X0 hx (y_ oD11_0) rfl rfl ?_
  refine o_aloadN X0 hx (y_ oD11_1) rfl rfl ?_
  refine o_iface (xi := o_m12) (y := o_m11) (b := y) (argsL := []) (S := [(.ref x)]) (W := 1) X0 hx hZ hown (k_ 59 rfl) (k_ 60 rfl) (mvT hZ (k_ 61 rfl)) (k_ 62 rfl) (k_ 63 rfl) (k_ 64 rfl) (k_ 65 rfl) (k_ 66 rfl) (by decide) (backOf (W := 1) (rmtos l Z a0 hw [] y h0 n0 O0) hZ (k_ 67 rfl) (k_ 10 rfl) (by decide) (by decide)) e0 S_y.1 (by rw [hml]; rfl) (lenOf o_pd__28_29Ljava_2flang_2fString_3b rfl) rfl (Nat.le_of_eq rfl) (y_ oD11_2) (by decide) (by decide) (fun T1 L1 v1 X1 hQ1 => ?_)
  obtain ⟨rfl, N1q, hh1⟩ := hQ1
  have N1 := Fr.app N0 N1q
  show o_G p e below _ T1 (mkF m 7 #[vR x, vR y] [(.ref y), (.ref x)])
  refine o_vir (y := o_m7) (b := x) (argsL := [(.ref y)]) (S := []) (W := 0) X1 hx hZ hown (k_ 68 rfl) (k_ 69 rfl) (k_ 71 rfl) (k_ 70 rfl) (backOf (W := 0) (rmixs1_1 l Z a0 hw [] x y t u c0 d0 zC_ h0 n0 O0 S_x S_y SC_ hC_) hZ (k_ 72 rfl) (k_ 10 rfl) (by decide) (by decide)) hh1 S_x.1 hml (lenOf o_pd__28Ljava_2flang_2fString_3b_29I rfl) (y_ oD11_7) (fun T2 L2 v2 X2 hQ2 => ?_)
  obtain ⟨r2, rfl, N2q, hh2, hr2⟩ := hQ2
  have N2 := Fr.app N1 N2q
  show o_G p e below _ T2 (mkF m 10 #[vR x, vR y] [(.int r2)])
  refine o_iF (t := 17) X2 hx (y_ oD11_10) (fun hq => ?_) (fun hq => ?_)
  · have hc10 := o_h_lt.1 hq
    refine o_iconst X2 hx (y_ oD11_17) (x := 0) rfl ?_
    exact o_retN X2 hx (t := .boolean) hrt hlk (by simp) (y_ oD11_18) rfl (by decide) (by decide) (o_hQ hh2 ⟨by rw [if_neg (hr2.mp hc10)], N2, rfl⟩)
  have hc10 := o_h_lt.2 hq
  refine o_iconst X2 hx (y_ oD11_13) (x := 1) rfl ?_
  refine o_gO (t := 18) X2 hx (y_ oD11_14) ?_
  exact o_retN X2 hx (t := .boolean) hrt hlk (by simp) (y_ oD11_18) rfl (by decide) (by decide) (o_hQ hh2 ⟨by rw [if_pos (Classical.byContradiction fun q => hc10 (hr2.mpr q))], N2, rfl⟩)
abbrev Qixf1_2 (Z : State) (a : Addr) (b : Addr) (ka : ClassId) (kb : ClassId) (v0 : Int32) (s0 : Int32) (s1 : Int32) (h0 : Heap) (n0 : Nat) (v : Option Value) (h : Heap) (L : List Loc) : Prop := ∃ r : Int32, v = some (.int r) ∧ Fr n0 L ∧ h = h0 ∧ (r < 0 ↔ ¬ o_occ ([v0] : List Int32) ([s0, s1] : List Int32) = true)
set_option maxRecDepth 65536 in
set_option maxHeartbeats 40000000 in
theorem rmixf1_2 (l : Launch) (Z : State) (a0 : Array Value) (hw : ∀ d ∈ tables_1, d.before a0 Z = true) (ws : List Jvm.Cond) (a : Addr) (b : Addr) (ka : ClassId) (kb : ClassId) (v0 : Int32) (s0 : Int32) (s1 : Int32) (h0 : Heap) (n0 : Nat) (O0 : Old Z n0 h0) (V_a : Arv Z h0 a ka .byte (1 : Int32) [.int v0] (.int 0)) (V_b : Arv Z h0 b kb .byte (2 : Int32) [.int s0, .int s1] (.int 0)) :
    o_Met l Z o_m13 jdk_43_method_25_code 11 (some .int) ws o_R1 #[(.ref a), (.int 1), (.ref b), (.int 2), (.int 0)] h0 (Qixf1_2 Z a b ka kb v0 s0 s1 h0 n0) := by
  refine o_enter o_pn_4 (fun m => o_ef7 m a b) (fun p e s m below meth c s₁ hx hby hml hZ hown hnm hlk hrt X0 e0 => ?_)
  have N0 := Fr.nil n0
  have y_ := @hb _ _ hby
  have k_ := @o_k _ _ hw
  refine o_aloadN X0 hx (y_ oD12_0) rfl rfl ?_
  refine o_iconst X0 hx (y_ oD12_1) (x := 0) rfl ?_
  refine o_bload (v := (.int s0)) X0 hx hZ e0 V_b (y_ oD12_2) ⟨by decide, by decide⟩ rfl ?_
  refine o_istore X0 hx (y_ oD12_3) (A' := #[vR a, vI 1, vR b, vI 2, vI 0, vI s0, .unset, .unset, .unset, .unset, .unset]) rfl ?_
  refine o_iloadN X0 hx (y_ oD12_5) rfl ?_
  refine o_iloadN X0 hx (y_ oD12_6) rfl ?_
  refine o_isub X0 hx (y_ oD12_7) ?_
  refine o_valE (z := (-1 : Int32)) (by decide) ?_
  refine o_istore X0 hx (y_ oD12_8) (A' := #[vR a, vI 1, vR b, vI 2, vI 0, vI s0, vI (-1), .unset, .unset, .unset, .unset]) rfl ?_
  refine o_iload X0 hx (y_ oD12_10) rfl ?_
  refine o_istore X0 hx (y_ oD12_12) (A' := #[vR a, vI 1, vR b, vI 2, vI 0, vI s0, vI (-1), vI 0, .unset, .unset, .unset]) rfl ?_
  refine o_iload X0 hx (y_ oD12_14) rfl ?_
  refine o_iload X0 hx (y_ oD12_16) rfl ?_
  refine o_iCT (t := 119) X0 hx (y_ oD12_18) ?_
  refine o_iconst X0 hx (y_ oD12_119) (x := (-1 : Int32)) rfl ?_
  exact o_retI X0 hx hrt hlk (y_ oD12_120) (by decide) (by decide) (o_hQ e0 ⟨_, rfl, N0, rfl, (o_lf2 v0 s0 s1)⟩)
abbrev Qixt1_2 (Z : State) (a : Addr) (b : Addr) (ka : ClassId) (kb : ClassId) (v0 : Int32) (s0 : Int32) (s1 : Int32) (h0 : Heap) (n0 : Nat) (v : Option Value) (h : Heap) (L : List Loc) : Prop := ∃ r : Int32, v = some (.int r) ∧ Fr n0 L ∧ h = h0 ∧ (r < 0 ↔ ¬ o_occ ([v0] : List Int32) ([s0, s1] : List Int32) = true)
set_option maxRecDepth 65536 in
set_option maxHeartbeats 40000000 in
theorem rmixt1_2 (l : Launch) (Z : State) (a0 : Array Value) (hw : ∀ d ∈ tables_1, d.before a0 Z = true) (ws : List Jvm.Cond) (a : Addr) (b : Addr) (ka : ClassId) (kb : ClassId) (v0 : Int32) (s0 : Int32) (s1 : Int32) (h0 : Heap) (n0 : Nat) (O0 : Old Z n0 h0) (V_a : Arv Z h0 a ka .byte (1 : Int32) [.int v0] (.int 0)) (V_b : Arv Z h0 b kb .byte (2 : Int32) [.int s0, .int s1] (.int 0)) :
    o_Met l Z o_m6 jdk_43_method_24_code 2 (some .int) ws o_R4 #[(.ref a), (.ref b)] h0 (Qixt1_2 Z a b ka kb v0 s0 s1 h0 n0) := by
  refine o_enter o_pn_4 (fun m => o_ef1 m a b) (fun p e s m below meth c s₁ hx hby hml hZ hown hnm hlk hrt X0 e0 => ?_)
  have N0 := Fr.nil n0
  have y_ := @hb _ _ hby
  have k_ := @o_k _ _ hw
  refine o_aloadN X0 hx (y_ oD6_0) rfl rfl ?_
  refine o_alen (n := 2) X0 hx hZ e0 V_b (y_ oD6_1) ?_
  refine o_iFT (t := 7) X0 hx (y_ oD6_2) ?_
  refine o_aloadN X0 hx (y_ oD6_7) rfl rfl ?_
  refine o_alen (n := 1) X0 hx hZ e0 V_a (y_ oD6_8) ?_
  refine o_iFT (t := 14) X0 hx (y_ oD6_9) ?_
  refine o_aloadN X0 hx (y_ oD6_14) rfl rfl ?_
  refine o_aloadN X0 hx (y_ oD6_15) rfl rfl ?_
  refine o_alen (n := 1) X0 hx hZ e0 V_a (y_ oD6_16) ?_
  refine o_aloadN X0 hx (y_ oD6_17) rfl rfl ?_
  refine o_aloadN X0 hx (y_ oD6_18) rfl rfl ?_
  refine o_alen (n := 2) X0 hx hZ e0 V_b (y_ oD6_19) ?_
  refine o_iconst X0 hx (y_ oD6_20) (x := 0) rfl ?_
  refine o_sta (y := o_m13) (argsL := [(.ref a), (.int 1), (.ref b), (.int 2), (.int 0)]) (S := []) (W := 0) X0 hx hZ hown (k_ 87 rfl) (k_ 88 rfl) (k_ 85 rfl) (k_ 89 rfl) (backOf (W := 0) (rmixf1_2 l Z a0 hw [] a b ka kb v0 s0 s1 h0 n0 O0 V_a V_b) hZ (k_ 89 rfl) (k_ 85 rfl) (by decide) (by decide)) e0 hml (lenOf o_pd__28_5bBI_5bBII_29I rfl) (y_ oD6_21) (fun T1 L1 v1 X1 hQ1 => ?_)
  obtain ⟨r1, rfl, N1q, hh1, hr1⟩ := hQ1
  have N1 := Fr.app N0 N1q
  show o_G p e below _ T1 (mkF m 24 #[vR a, vR b] [(.int r1)])
  exact o_retI X1 hx hrt hlk (y_ oD6_24) (by decide) (by decide) (o_hQ hh1 ⟨_, rfl, N1, rfl, hr1⟩)
abbrev Qixs1_2 (Z : State) (x : Addr) (y : Addr) (t : Addr) (u : Addr) (c0 : Int32) (d0 : Int32) (d1 : Int32) (zC_ : Int32) (h0 : Heap) (n0 : Nat) (v : Option Value) (h : Heap) (L : List Loc) : Prop := ∃ r : Int32, v = some (.int r) ∧ Fr n0 L ∧ h = h0 ∧ (r < 0 ↔ ¬ o_occ ([c0] : List Int32) ([d0, d1] : List Int32) = true)
set_option maxRecDepth 65536 in
set_option maxHeartbeats 40000000 in
theorem rmixs1_2 (l : Launch) (Z : State) (a0 : Array Value) (hw : ∀ d ∈ tables_1, d.before a0 Z = true) (ws : List Jvm.Cond) (x : Addr) (y : Addr) (t : Addr) (u : Addr) (c0 : Int32) (d0 : Int32) (d1 : Int32) (zC_ : Int32) (h0 : Heap) (n0 : Nat) (O0 : Old Z n0 h0) (S_x : o_Str Z h0 x t ([c0] : List Int32)) (S_y : o_Str Z h0 y u ([d0, d1] : List Int32)) (SC_ : o_SC Z zC_) (hC_ : ¬ zC_ = 0) :
    o_Met l Z o_m7 jdk_42_method_84_code 3 (some .int) ws o_R5 #[(.ref x), (.ref y)] h0 (Qixs1_2 Z x y t u c0 d0 d1 zC_ h0 n0) := by
  refine o_enter o_pn_3 (fun m => o_ef5 m x y) (fun p e s m below meth c s₁ hx hby hml hZ hown hnm hlk hrt X0 e0 => ?_)
  have N0 := Fr.nil n0
  have y_ := @hb _ _ hby
  have k_ := @o_k _ _ hw
  refine o_aloadN X0 hx (y_ oD9_0) rfl rfl ?_
  refine o_vir (y := o_m8) (b := x) (argsL := []) (S := []) (W := 0) X0 hx hZ hown (k_ 73 rfl) (k_ 74 rfl) (k_ 76 rfl) (k_ 75 rfl) (backOf (W := 0) (rmcod l Z a0 hw [] x zC_ h0 n0 O0 S_x.2.1 SC_ hC_) hZ (k_ 77 rfl) (k_ 10 rfl) (by decide) (by decide)) e0 S_x.1 hml (lenOf o_pd__28_29B rfl) (y_ oD9_1) (fun T1 L1 v1 X1 hQ1 => ?_)
  obtain ⟨rfl, N1q, hh1⟩ := hQ1
  have N1 := Fr.app N0 N1q
  show o_G p e below _ T1 (mkF m 4 #[vR x, vR y, .unset] [(.int 0)])
  refine o_istoreN X1 hx (y_ oD9_4) (A' := #[vR x, vR y, vI 0]) rfl ?_
  refine o_iloadN X1 hx (y_ oD9_5) rfl ?_
  refine o_aloadN X1 hx (y_ oD9_6) rfl rfl ?_
  refine o_vir (y := o_m8) (b := y) (argsL := []) (S := [(.int 0)]) (W := 1) X1 hx hZ hown (k_ 73 rfl) (k_ 74 rfl) (k_ 76 rfl) (k_ 75 rfl) (backOf (W := 1) (rmcod l Z a0 hw [] y zC_ h0 n0 O0 S_y.2.1 SC_ hC_) hZ (k_ 77 rfl) (k_ 10 rfl) (by decide) (by decide)) hh1 S_y.1 hml (lenOf o_pd__28_29B rfl) (y_ oD9_7) (fun T2 L2 v2 X2 hQ2 => ?_)
  obtain ⟨rfl, N2q, hh2⟩ := hQ2
  have N2 := Fr.app N1 N2q
  show o_G p e below _ T2 (mkF m 10 #[vR x, vR y, vI 0] [(.int 0), (.int 0)])
  refine o_iCF X2 hx (y_ oD9_10) ?_
  refine o_aloadN X2 hx (y_ oD9_13) rfl rfl ?_
  refine o_vir (y := o_m9) (b := x) (argsL := []) (S := []) (W := 0) X2 hx hZ hown (k_ 78 rfl) (k_ 79 rfl) (k_ 81 rfl) (k_ 80 rfl) (backOf (W := 0) (rmisl l Z a0 hw [] x zC_ h0 n0 O0 S_x.2.1 SC_ hC_) hZ (k_ 82 rfl) (k_ 10 rfl) (by decide) (by decide)) hh2 S_x.1 hml (lenOf o_pd__28_29Z rfl) (y_ oD9_14) (fun T3 L3 v3 X3 hQ3 => ?_)
  obtain ⟨rfl, N3q, hh3⟩ := hQ3
  have N3 := Fr.app N2 N3q
  show o_G p e below _ T3 (mkF m 17 #[vR x, vR y, vI 0] [(.int 1)])
  refine o_iFF X3 hx (y_ oD9_17) ?_
  obtain ⟨kb4, Bv4⟩ := S_x.2.2.2.1
  have Bw4 : Arv Z h0 t kb4 .byte (1 : Int32) [.int c0.toInt8.toInt32] (.int 0) := Bv4
  obtain ⟨kb5, Bv5⟩ := S_y.2.2.2.1
  have Bw5 : Arv Z h0 u kb5 .byte (2 : Int32) [.int d0.toInt8.toInt32, .int d1.toInt8.toInt32] (.int 0) := Bv5
  refine o_aloadN X3 hx (y_ oD9_20) rfl rfl ?_
  refine o_getF X3 hx hZ hown (host := "") (Or.inl (k_ 35 rfl)) Via.refl hh3 S_x.2.2.1 (y_ oD9_21) (fun T6 X6 e6 => ?_)
  refine o_aloadN X6 hx (y_ oD9_24) rfl rfl ?_
  refine o_getF X6 hx hZ hown (host := "") (Or.inl (k_ 35 rfl)) Via.refl e6 S_y.2.2.1 (y_ oD9_25) (fun T7 X7 e7 => ?_)
  refine o_sta (y := o_m6) (argsL := [(.ref t), (.ref u)]) (S := []) (W := 0) X7 hx hZ hown (k_ 83 rfl) (k_ 84 rfl) (k_ 85 rfl) (k_ 86 rfl) (backOf (W := 0) (rmixt1_2 l Z a0 hw [] t u kb4 kb5 (c0.toInt8.toInt32) (d0.toInt8.toInt32) (d1.toInt8.toInt32) h0 n0 O0 Bw4 Bw5) hZ (k_ 86 rfl) (k_ 85 rfl) (by decide) (by decide)) e7 hml (lenOf o_pd__28_5bB_5bB_29I rfl) (y_ oD9_28) (fun T8 L8 v8 X8 hQ8 => ?_)
  obtain ⟨r8, rfl, N8q, hh8, hr8⟩ := hQ8
  have N8 := Fr.app N3 N8q
  show o_G p e below _ T8 (mkF m 31 #[vR x, vR y, vI 0] [(.int r8)])
  refine o_gO (t := 45) X8 hx (y_ oD9_31) ?_
  exact o_retI X8 hx hrt hlk (y_ oD9_45) (by decide) (by decide) (o_hQ hh8 ⟨_, rfl, N8, rfl, by rw [← o_occ_b ([c0] : List Int32) ([d0, d1] : List Int32) S_x.2.2.2.2.1 S_y.2.2.2.2.1]; exact hr8⟩)
abbrev Qcon1_2 (Z : State) (x : Addr) (y : Addr) (t : Addr) (u : Addr) (c0 : Int32) (d0 : Int32) (d1 : Int32) (zC_ : Int32) (h0 : Heap) (n0 : Nat) (v : Option Value) (h : Heap) (L : List Loc) : Prop := v = some (.int (if o_occ ([c0] : List Int32) ([d0, d1] : List Int32) = true then 1 else 0)) ∧ Fr n0 L ∧ h = h0
set_option maxRecDepth 65536 in
set_option maxHeartbeats 40000000 in
theorem rmcon1_2 (l : Launch) (Z : State) (a0 : Array Value) (hw : ∀ d ∈ tables_1, d.before a0 Z = true) (ws : List Jvm.Cond) (x : Addr) (y : Addr) (t : Addr) (u : Addr) (c0 : Int32) (d0 : Int32) (d1 : Int32) (zC_ : Int32) (h0 : Heap) (n0 : Nat) (O0 : Old Z n0 h0) (S_x : o_Str Z h0 x t ([c0] : List Int32)) (S_y : o_Str Z h0 y u ([d0, d1] : List Int32)) (SC_ : o_SC Z zC_) (hC_ : ¬ zC_ = 0) :
    o_Met l Z o_m10 jdk_42_method_97_code 2 (some .boolean) ws o_R6 #[(.ref x), (.ref y)] h0 (Qcon1_2 Z x y t u c0 d0 d1 zC_ h0 n0) := by
  refine o_enter o_pn_3 (fun m => o_ef1 m x y) (fun p e s m below meth c s₁ hx hby hml hZ hown hnm hlk hrt X0 e0 => ?_)
  have N0 := Fr.nil n0
  have y_ := @hb _ _ hby
  have k_ := @o_k _ _ hw
  refine o_aloadN X0 hx (y_ oD11_0) rfl rfl ?_
  refine o_aloadN X0 hx (y_ oD11_1) rfl rfl ?_
  refine o_iface (xi := o_m12) (y := o_m11) (b := y) (argsL := []) (S := [(.ref x)]) (W := 1) X0 hx hZ hown (k_ 59 rfl) (k_ 60 rfl) (mvT hZ (k_ 61 rfl)) (k_ 62 rfl) (k_ 63 rfl) (k_ 64 rfl) (k_ 65 rfl) (k_ 66 rfl) (by decide) (backOf (W := 1) (rmtos l Z a0 hw [] y h0 n0 O0) hZ (k_ 67 rfl) (k_ 10 rfl) (by decide) (by decide)) e0 S_y.1 (by rw [hml]; rfl) (lenOf o_pd__28_29Ljava_2flang_2fString_3b rfl) rfl (Nat.le_of_eq rfl) (y_ oD11_2) (by decide) (by decide) (fun T1 L1 v1 X1 hQ1 => ?_)
  obtain ⟨rfl, N1q, hh1⟩ := hQ1
  have N1 := Fr.app N0 N1q
  show o_G p e below _ T1 (mkF m 7 #[vR x, vR y] [(.ref y), (.ref x)])
  refine o_vir (y := o_m7) (b := x) (argsL := [(.ref y)]) (S := []) (W := 0) X1 hx hZ hown (k_ 68 rfl) (k_ 69 rfl) (k_ 71 rfl) (k_ 70 rfl) (backOf (W := 0) (rmixs1_2 l Z a0 hw [] x y t u c0 d0 d1 zC_ h0 n0 O0 S_x S_y SC_ hC_) hZ (k_ 72 rfl) (k_ 10 rfl) (by decide) (by decide)) hh1 S_x.1 hml (lenOf o_pd__28Ljava_2flang_2fString_3b_29I rfl) (y_ oD11_7) (fun T2 L2 v2 X2 hQ2 => ?_)
  obtain ⟨r2, rfl, N2q, hh2, hr2⟩ := hQ2
  have N2 := Fr.app N1 N2q
  show o_G p e below _ T2 (mkF m 10 #[vR x, vR y] [(.int r2)])
  refine o_iF (t := 17) X2 hx (y_ oD11_10) (fun hq => ?_) (fun hq => ?_)
  · have hc10 := o_h_lt.1 hq
    refine o_iconst X2 hx (y_ oD11_17) (x := 0) rfl ?_
    exact o_retN X2 hx (t := .boolean) hrt hlk (by simp) (y_ oD11_18) rfl (by decide) (by decide) (o_hQ hh2 ⟨by rw [if_neg (hr2.mp hc10)], N2, rfl⟩)
  have hc10 := o_h_lt.2 hq
  refine o_iconst X2 hx (y_ oD11_13) (x := 1) rfl ?_
  refine o_gO (t := 18) X2 hx (y_ oD11_14) ?_
  exact o_retN X2 hx (t := .boolean) hrt hlk (by simp) (y_ oD11_18) rfl (by decide) (by decide) (o_hQ hh2 ⟨by rw [if_pos (Classical.byContradiction fun q => hc10 (hr2.mpr q))], N2, rfl⟩)
abbrev Qixf2_1 (Z : State) (a : Addr) (b : Addr) (ka : ClassId) (kb : ClassId) (v0 : Int32) (v1 : Int32) (s0 : Int32) (h0 : Heap) (n0 : Nat) (v : Option Value) (h : Heap) (L : List Loc) : Prop := ∃ r : Int32, v = some (.int r) ∧ Fr n0 L ∧ h = h0 ∧ (r < 0 ↔ ¬ o_occ ([v0, v1] : List Int32) ([s0] : List Int32) = true)
set_option maxRecDepth 65536 in
set_option maxHeartbeats 40000000 in
theorem rmixf2_1 (l : Launch) (Z : State) (a0 : Array Value) (hw : ∀ d ∈ tables_1, d.before a0 Z = true) (ws : List Jvm.Cond) (a : Addr) (b : Addr) (ka : ClassId) (kb : ClassId) (v0 : Int32) (v1 : Int32) (s0 : Int32) (h0 : Heap) (n0 : Nat) (O0 : Old Z n0 h0) (V_a : Arv Z h0 a ka .byte (2 : Int32) [.int v0, .int v1] (.int 0)) (V_b : Arv Z h0 b kb .byte (1 : Int32) [.int s0] (.int 0)) :
    o_Met l Z o_m13 jdk_43_method_25_code 11 (some .int) ws o_R1 #[(.ref a), (.int 2), (.ref b), (.int 1), (.int 0)] h0 (Qixf2_1 Z a b ka kb v0 v1 s0 h0 n0) := by
  refine o_enter o_pn_4 (fun m => o_ef8 m a b) (fun p e s m below meth c s₁ hx hby hml hZ hown hnm hlk hrt X0 e0 => ?_)
  have N0 := Fr.nil n0
  have y_ := @hb _ _ hby
  have k_ := @o_k _ _ hw
  refine o_aloadN X0 hx (y_ oD12_0) rfl rfl ?_
  refine o_iconst X0 hx (y_ oD12_1) (x := 0) rfl ?_
  refine o_bload (v := (.int s0)) X0 hx hZ e0 V_b (y_ oD12_2) ⟨by decide, by decide⟩ rfl ?_
  refine o_istore X0 hx (y_ oD12_3) (A' := #[vR a, vI 2, vR b, vI 1, vI 0, vI s0, .unset, .unset, .unset, .unset, .unset]) rfl ?_
  refine o_iloadN X0 hx (y_ oD12_5) rfl ?_
  refine o_iloadN X0 hx (y_ oD12_6) rfl ?_
  refine o_isub X0 hx (y_ oD12_7) ?_
  refine o_valE (z := 1) (by decide) ?_
  refine o_istore X0 hx (y_ oD12_8) (A' := #[vR a, vI 2, vR b, vI 1, vI 0, vI s0, vI 1, .unset, .unset, .unset, .unset]) rfl ?_
  refine o_iload X0 hx (y_ oD12_10) rfl ?_
  refine o_istore X0 hx (y_ oD12_12) (A' := #[vR a, vI 2, vR b, vI 1, vI 0, vI s0, vI 1, vI 0, .unset, .unset, .unset]) rfl ?_
  refine o_iload X0 hx (y_ oD12_14) rfl ?_
  refine o_iload X0 hx (y_ oD12_16) rfl ?_
  refine o_iCF X0 hx (y_ oD12_18) ?_
  refine o_aloadN X0 hx (y_ oD12_21) rfl rfl ?_
  refine o_iload X0 hx (y_ oD12_22) rfl ?_
  refine o_bload (v := (.int v0)) X0 hx hZ e0 V_a (y_ oD12_24) ⟨by decide, by decide⟩ rfl ?_
  refine o_iload X0 hx (y_ oD12_25) rfl ?_
  refine o_iC (t := 52) X0 hx (y_ oD12_27) (fun hq => ?_) (fun hq => ?_)
  · have hc27_1 := o_c_eq.1 hq
    refine o_iload X0 hx (y_ oD12_52) rfl ?_
    refine o_iload X0 hx (y_ oD12_54) rfl ?_
    refine o_iCF X0 hx (y_ oD12_56) ?_
    refine o_iload X0 hx (y_ oD12_59) rfl ?_
    refine o_iconst X0 hx (y_ oD12_61) (x := 1) rfl ?_
    refine o_iadd X0 hx (y_ oD12_62) ?_
    refine o_valE (z := 1) (by decide) ?_
    refine o_istore X0 hx (y_ oD12_63) (A' := #[vR a, vI 2, vR b, vI 1, vI 0, vI s0, vI 1, vI 0, vI 1, .unset, .unset]) rfl ?_
    refine o_iload X0 hx (y_ oD12_65) rfl ?_
    refine o_iloadN X0 hx (y_ oD12_67) rfl ?_
    refine o_iadd X0 hx (y_ oD12_68) ?_
    refine o_valE (z := 2) (by decide) ?_
    refine o_iconst X0 hx (y_ oD12_69) (x := 1) rfl ?_
    refine o_isub X0 hx (y_ oD12_70) ?_
    refine o_valE (z := 1) (by decide) ?_
    refine o_istore X0 hx (y_ oD12_71) (A' := #[vR a, vI 2, vR b, vI 1, vI 0, vI s0, vI 1, vI 0, vI 1, vI 1, .unset]) rfl ?_
    refine o_iconst X0 hx (y_ oD12_73) (x := 1) rfl ?_
    refine o_istore X0 hx (y_ oD12_74) (A' := #[vR a, vI 2, vR b, vI 1, vI 0, vI s0, vI 1, vI 0, vI 1, vI 1, vI 1]) rfl ?_
    refine o_iload X0 hx (y_ oD12_76) rfl ?_
    refine o_iload X0 hx (y_ oD12_78) rfl ?_
    refine o_iCT (t := 103) X0 hx (y_ oD12_80) ?_
    refine o_iload X0 hx (y_ oD12_103) rfl ?_
    refine o_iload X0 hx (y_ oD12_105) rfl ?_
    refine o_iCF X0 hx (y_ oD12_107) ?_
    refine o_iload X0 hx (y_ oD12_110) rfl ?_
    exact o_retI X0 hx hrt hlk (y_ oD12_112) (by decide) (by decide) (o_hQ e0 ⟨_, rfl, N0, rfl, (o_lf3 v0 v1 s0 hc27_1)⟩)
  have hc27_1 := o_c_eq.2 hq
  refine o_iincK X0 hx (y_ oD12_30) (y := 1) rfl rfl (z := 1) (by decide) (A' := #[vR a, vI 2, vR b, vI 1, vI 0, vI s0, vI 1, vI 1, .unset, .unset, .unset]) rfl ?_
  refine o_iload X0 hx (y_ oD12_33) rfl ?_
  refine o_iload X0 hx (y_ oD12_35) rfl ?_
  refine o_iCF X0 hx (y_ oD12_37) ?_
  refine o_aloadN X0 hx (y_ oD12_40) rfl rfl ?_
  refine o_iload X0 hx (y_ oD12_41) rfl ?_
  refine o_bload (v := (.int v1)) X0 hx hZ e0 V_a (y_ oD12_43) ⟨by decide, by decide⟩ rfl ?_
  refine o_iload X0 hx (y_ oD12_44) rfl ?_
  refine o_iC (t := 52) X0 hx (y_ oD12_46) (fun hq => ?_) (fun hq => ?_)
  · have hc46_2 := o_c_eq.1 hq
    refine o_iload X0 hx (y_ oD12_52) rfl ?_
    refine o_iload X0 hx (y_ oD12_54) rfl ?_
    refine o_iCF X0 hx (y_ oD12_56) ?_
    refine o_iload X0 hx (y_ oD12_59) rfl ?_
    refine o_iconst X0 hx (y_ oD12_61) (x := 1) rfl ?_
    refine o_iadd X0 hx (y_ oD12_62) ?_
    refine o_valE (z := 2) (by decide) ?_
    refine o_istore X0 hx (y_ oD12_63) (A' := #[vR a, vI 2, vR b, vI 1, vI 0, vI s0, vI 1, vI 1, vI 2, .unset, .unset]) rfl ?_
    refine o_iload X0 hx (y_ oD12_65) rfl ?_
    refine o_iloadN X0 hx (y_ oD12_67) rfl ?_
    refine o_iadd X0 hx (y_ oD12_68) ?_
    refine o_valE (z := 3) (by decide) ?_
    refine o_iconst X0 hx (y_ oD12_69) (x := 1) rfl ?_
    refine o_isub X0 hx (y_ oD12_70) ?_
    refine o_valE (z := 2) (by decide) ?_
    refine o_istore X0 hx (y_ oD12_71) (A' := #[vR a, vI 2, vR b, vI 1, vI 0, vI s0, vI 1, vI 1, vI 2, vI 2, .unset]) rfl ?_
    refine o_iconst X0 hx (y_ oD12_73) (x := 1) rfl ?_
    refine o_istore X0 hx (y_ oD12_74) (A' := #[vR a, vI 2, vR b, vI 1, vI 0, vI s0, vI 1, vI 1, vI 2, vI 2, vI 1]) rfl ?_
    refine o_iload X0 hx (y_ oD12_76) rfl ?_
    refine o_iload X0 hx (y_ oD12_78) rfl ?_
    refine o_iCT (t := 103) X0 hx (y_ oD12_80) ?_
    refine o_iload X0 hx (y_ oD12_103) rfl ?_
    refine o_iload X0 hx (y_ oD12_105) rfl ?_
    refine o_iCF X0 hx (y_ oD12_107) ?_
    refine o_iload X0 hx (y_ oD12_110) rfl ?_
    exact o_retI X0 hx hrt hlk (y_ oD12_112) (by decide) (by decide) (o_hQ e0 ⟨_, rfl, N0, rfl, (o_lf4 v0 v1 s0 hc27_1 hc46_2)⟩)
  have hc46_2 := o_c_eq.2 hq
  refine o_gO (t := 30) X0 hx (y_ oD12_49) ?_
  refine o_iincK X0 hx (y_ oD12_30) (y := 1) rfl rfl (z := 2) (by decide) (A' := #[vR a, vI 2, vR b, vI 1, vI 0, vI s0, vI 1, vI 2, .unset, .unset, .unset]) rfl ?_
  refine o_iload X0 hx (y_ oD12_33) rfl ?_
  refine o_iload X0 hx (y_ oD12_35) rfl ?_
  refine o_iCT (t := 52) X0 hx (y_ oD12_37) ?_
  refine o_iload X0 hx (y_ oD12_52) rfl ?_
  refine o_iload X0 hx (y_ oD12_54) rfl ?_
  refine o_iCT (t := 113) X0 hx (y_ oD12_56) ?_
  refine o_iincK X0 hx (y_ oD12_113) (y := 1) rfl rfl (z := 3) (by decide) (A' := #[vR a, vI 2, vR b, vI 1, vI 0, vI s0, vI 1, vI 3, .unset, .unset, .unset]) rfl ?_
  refine o_gO (t := 14) X0 hx (y_ oD12_116) ?_
  refine o_iload X0 hx (y_ oD12_14) rfl ?_
  refine o_iload X0 hx (y_ oD12_16) rfl ?_
  refine o_iCT (t := 119) X0 hx (y_ oD12_18) ?_
  refine o_iconst X0 hx (y_ oD12_119) (x := (-1 : Int32)) rfl ?_
  exact o_retI X0 hx hrt hlk (y_ oD12_120) (by decide) (by decide) (o_hQ e0 ⟨_, rfl, N0, rfl, (o_lf5 v0 v1 s0 hc27_1 hc46_2)⟩)
abbrev Qixt2_1 (Z : State) (a : Addr) (b : Addr) (ka : ClassId) (kb : ClassId) (v0 : Int32) (v1 : Int32) (s0 : Int32) (h0 : Heap) (n0 : Nat) (v : Option Value) (h : Heap) (L : List Loc) : Prop := ∃ r : Int32, v = some (.int r) ∧ Fr n0 L ∧ h = h0 ∧ (r < 0 ↔ ¬ o_occ ([v0, v1] : List Int32) ([s0] : List Int32) = true)
set_option maxRecDepth 65536 in
set_option maxHeartbeats 40000000 in
theorem rmixt2_1 (l : Launch) (Z : State) (a0 : Array Value) (hw : ∀ d ∈ tables_1, d.before a0 Z = true) (ws : List Jvm.Cond) (a : Addr) (b : Addr) (ka : ClassId) (kb : ClassId) (v0 : Int32) (v1 : Int32) (s0 : Int32) (h0 : Heap) (n0 : Nat) (O0 : Old Z n0 h0) (V_a : Arv Z h0 a ka .byte (2 : Int32) [.int v0, .int v1] (.int 0)) (V_b : Arv Z h0 b kb .byte (1 : Int32) [.int s0] (.int 0)) :
    o_Met l Z o_m6 jdk_43_method_24_code 2 (some .int) ws o_R4 #[(.ref a), (.ref b)] h0 (Qixt2_1 Z a b ka kb v0 v1 s0 h0 n0) := by
  refine o_enter o_pn_4 (fun m => o_ef1 m a b) (fun p e s m below meth c s₁ hx hby hml hZ hown hnm hlk hrt X0 e0 => ?_)
  have N0 := Fr.nil n0
  have y_ := @hb _ _ hby
  have k_ := @o_k _ _ hw
  refine o_aloadN X0 hx (y_ oD6_0) rfl rfl ?_
  refine o_alen (n := 1) X0 hx hZ e0 V_b (y_ oD6_1) ?_
  refine o_iFT (t := 7) X0 hx (y_ oD6_2) ?_
  refine o_aloadN X0 hx (y_ oD6_7) rfl rfl ?_
  refine o_alen (n := 2) X0 hx hZ e0 V_a (y_ oD6_8) ?_
  refine o_iFT (t := 14) X0 hx (y_ oD6_9) ?_
  refine o_aloadN X0 hx (y_ oD6_14) rfl rfl ?_
  refine o_aloadN X0 hx (y_ oD6_15) rfl rfl ?_
  refine o_alen (n := 2) X0 hx hZ e0 V_a (y_ oD6_16) ?_
  refine o_aloadN X0 hx (y_ oD6_17) rfl rfl ?_
  refine o_aloadN X0 hx (y_ oD6_18) rfl rfl ?_
  refine o_alen (n := 1) X0 hx hZ e0 V_b (y_ oD6_19) ?_
  refine o_iconst X0 hx (y_ oD6_20) (x := 0) rfl ?_
  refine o_sta (y := o_m13) (argsL := [(.ref a), (.int 2), (.ref b), (.int 1), (.int 0)]) (S := []) (W := 0) X0 hx hZ hown (k_ 87 rfl) (k_ 88 rfl) (k_ 85 rfl) (k_ 89 rfl) (backOf (W := 0) (rmixf2_1 l Z a0 hw [] a b ka kb v0 v1 s0 h0 n0 O0 V_a V_b) hZ (k_ 89 rfl) (k_ 85 rfl) (by decide) (by decide)) e0 hml (lenOf o_pd__28_5bBI_5bBII_29I rfl) (y_ oD6_21) (fun T1 L1 v1 X1 hQ1 => ?_)
  obtain ⟨r1, rfl, N1q, hh1, hr1⟩ := hQ1
  have N1 := Fr.app N0 N1q
  show o_G p e below _ T1 (mkF m 24 #[vR a, vR b] [(.int r1)])
  exact o_retI X1 hx hrt hlk (y_ oD6_24) (by decide) (by decide) (o_hQ hh1 ⟨_, rfl, N1, rfl, hr1⟩)
abbrev Qixs2_1 (Z : State) (x : Addr) (y : Addr) (t : Addr) (u : Addr) (c0 : Int32) (c1 : Int32) (d0 : Int32) (zC_ : Int32) (h0 : Heap) (n0 : Nat) (v : Option Value) (h : Heap) (L : List Loc) : Prop := ∃ r : Int32, v = some (.int r) ∧ Fr n0 L ∧ h = h0 ∧ (r < 0 ↔ ¬ o_occ ([c0, c1] : List Int32) ([d0] : List Int32) = true)
set_option maxRecDepth 65536 in
set_option maxHeartbeats 40000000 in
theorem rmixs2_1 (l : Launch) (Z : State) (a0 : Array Value) (hw : ∀ d ∈ tables_1, d.before a0 Z = true) (ws : List Jvm.Cond) (x : Addr) (y : Addr) (t : Addr) (u : Addr) (c0 : Int32) (c1 : Int32) (d0 : Int32) (zC_ : Int32) (h0 : Heap) (n0 : Nat) (O0 : Old Z n0 h0) (S_x : o_Str Z h0 x t ([c0, c1] : List Int32)) (S_y : o_Str Z h0 y u ([d0] : List Int32)) (SC_ : o_SC Z zC_) (hC_ : ¬ zC_ = 0) :
    o_Met l Z o_m7 jdk_42_method_84_code 3 (some .int) ws o_R5 #[(.ref x), (.ref y)] h0 (Qixs2_1 Z x y t u c0 c1 d0 zC_ h0 n0) := by
  refine o_enter o_pn_3 (fun m => o_ef5 m x y) (fun p e s m below meth c s₁ hx hby hml hZ hown hnm hlk hrt X0 e0 => ?_)
  have N0 := Fr.nil n0
  have y_ := @hb _ _ hby
  have k_ := @o_k _ _ hw
  refine o_aloadN X0 hx (y_ oD9_0) rfl rfl ?_
  refine o_vir (y := o_m8) (b := x) (argsL := []) (S := []) (W := 0) X0 hx hZ hown (k_ 73 rfl) (k_ 74 rfl) (k_ 76 rfl) (k_ 75 rfl) (backOf (W := 0) (rmcod l Z a0 hw [] x zC_ h0 n0 O0 S_x.2.1 SC_ hC_) hZ (k_ 77 rfl) (k_ 10 rfl) (by decide) (by decide)) e0 S_x.1 hml (lenOf o_pd__28_29B rfl) (y_ oD9_1) (fun T1 L1 v1 X1 hQ1 => ?_)
  obtain ⟨rfl, N1q, hh1⟩ := hQ1
  have N1 := Fr.app N0 N1q
  show o_G p e below _ T1 (mkF m 4 #[vR x, vR y, .unset] [(.int 0)])
  refine o_istoreN X1 hx (y_ oD9_4) (A' := #[vR x, vR y, vI 0]) rfl ?_
  refine o_iloadN X1 hx (y_ oD9_5) rfl ?_
  refine o_aloadN X1 hx (y_ oD9_6) rfl rfl ?_
  refine o_vir (y := o_m8) (b := y) (argsL := []) (S := [(.int 0)]) (W := 1) X1 hx hZ hown (k_ 73 rfl) (k_ 74 rfl) (k_ 76 rfl) (k_ 75 rfl) (backOf (W := 1) (rmcod l Z a0 hw [] y zC_ h0 n0 O0 S_y.2.1 SC_ hC_) hZ (k_ 77 rfl) (k_ 10 rfl) (by decide) (by decide)) hh1 S_y.1 hml (lenOf o_pd__28_29B rfl) (y_ oD9_7) (fun T2 L2 v2 X2 hQ2 => ?_)
  obtain ⟨rfl, N2q, hh2⟩ := hQ2
  have N2 := Fr.app N1 N2q
  show o_G p e below _ T2 (mkF m 10 #[vR x, vR y, vI 0] [(.int 0), (.int 0)])
  refine o_iCF X2 hx (y_ oD9_10) ?_
  refine o_aloadN X2 hx (y_ oD9_13) rfl rfl ?_
  refine o_vir (y := o_m9) (b := x) (argsL := []) (S := []) (W := 0) X2 hx hZ hown (k_ 78 rfl) (k_ 79 rfl) (k_ 81 rfl) (k_ 80 rfl) (backOf (W := 0) (rmisl l Z a0 hw [] x zC_ h0 n0 O0 S_x.2.1 SC_ hC_) hZ (k_ 82 rfl) (k_ 10 rfl) (by decide) (by decide)) hh2 S_x.1 hml (lenOf o_pd__28_29Z rfl) (y_ oD9_14) (fun T3 L3 v3 X3 hQ3 => ?_)
  obtain ⟨rfl, N3q, hh3⟩ := hQ3
  have N3 := Fr.app N2 N3q
  show o_G p e below _ T3 (mkF m 17 #[vR x, vR y, vI 0] [(.int 1)])
  refine o_iFF X3 hx (y_ oD9_17) ?_
  obtain ⟨kb4, Bv4⟩ := S_x.2.2.2.1
  have Bw4 : Arv Z h0 t kb4 .byte (2 : Int32) [.int c0.toInt8.toInt32, .int c1.toInt8.toInt32] (.int 0) := Bv4
  obtain ⟨kb5, Bv5⟩ := S_y.2.2.2.1
  have Bw5 : Arv Z h0 u kb5 .byte (1 : Int32) [.int d0.toInt8.toInt32] (.int 0) := Bv5
  refine o_aloadN X3 hx (y_ oD9_20) rfl rfl ?_
  refine o_getF X3 hx hZ hown (host := "") (Or.inl (k_ 35 rfl)) Via.refl hh3 S_x.2.2.1 (y_ oD9_21) (fun T6 X6 e6 => ?_)
  refine o_aloadN X6 hx (y_ oD9_24) rfl rfl ?_
  refine o_getF X6 hx hZ hown (host := "") (Or.inl (k_ 35 rfl)) Via.refl e6 S_y.2.2.1 (y_ oD9_25) (fun T7 X7 e7 => ?_)
  refine o_sta (y := o_m6) (argsL := [(.ref t), (.ref u)]) (S := []) (W := 0) X7 hx hZ hown (k_ 83 rfl) (k_ 84 rfl) (k_ 85 rfl) (k_ 86 rfl) (backOf (W := 0) (rmixt2_1 l Z a0 hw [] t u kb4 kb5 (c0.toInt8.toInt32) (c1.toInt8.toInt32) (d0.toInt8.toInt32) h0 n0 O0 Bw4 Bw5) hZ (k_ 86 rfl) (k_ 85 rfl) (by decide) (by decide)) e7 hml (lenOf o_pd__28_5bB_5bB_29I rfl) (y_ oD9_28) (fun T8 L8 v8 X8 hQ8 => ?_)
  obtain ⟨r8, rfl, N8q, hh8, hr8⟩ := hQ8
  have N8 := Fr.app N3 N8q
  show o_G p e below _ T8 (mkF m 31 #[vR x, vR y, vI 0] [(.int r8)])
  refine o_gO (t := 45) X8 hx (y_ oD9_31) ?_
  exact o_retI X8 hx hrt hlk (y_ oD9_45) (by decide) (by decide) (o_hQ hh8 ⟨_, rfl, N8, rfl, by rw [← o_occ_b ([c0, c1] : List Int32) ([d0] : List Int32) S_x.2.2.2.2.1 S_y.2.2.2.2.1]; exact hr8⟩)
abbrev Qcon2_1 (Z : State) (x : Addr) (y : Addr) (t : Addr) (u : Addr) (c0 : Int32) (c1 : Int32) (d0 : Int32) (zC_ : Int32) (h0 : Heap) (n0 : Nat) (v : Option Value) (h : Heap) (L : List Loc) : Prop := v = some (.int (if o_occ ([c0, c1] : List Int32) ([d0] : List Int32) = true then 1 else 0)) ∧ Fr n0 L ∧ h = h0
set_option maxRecDepth 65536 in
set_option maxHeartbeats 40000000 in
theorem rmcon2_1 (l : Launch) (Z : State) (a0 : Array Value) (hw : ∀ d ∈ tables_1, d.before a0 Z = true) (ws : List Jvm.Cond) (x : Addr) (y : Addr) (t : Addr) (u : Addr) (c0 : Int32) (c1 : Int32) (d0 : Int32) (zC_ : Int32) (h0 : Heap) (n0 : Nat) (O0 : Old Z n0 h0) (S_x : o_Str Z h0 x t ([c0, c1] : List Int32)) (S_y : o_Str Z h0 y u ([d0] : List Int32)) (SC_ : o_SC Z zC_) (hC_ : ¬ zC_ = 0) :
    o_Met l Z o_m10 jdk_42_method_97_code 2 (some .boolean) ws o_R6 #[(.ref x), (.ref y)] h0 (Qcon2_1 Z x y t u c0 c1 d0 zC_ h0 n0) := by
  refine o_enter o_pn_3 (fun m => o_ef1 m x y) (fun p e s m below meth c s₁ hx hby hml hZ hown hnm hlk hrt X0 e0 => ?_)
  have N0 := Fr.nil n0
  have y_ := @hb _ _ hby
  have k_ := @o_k _ _ hw
  refine o_aloadN X0 hx (y_ oD11_0) rfl rfl ?_
  refine o_aloadN X0 hx (y_ oD11_1) rfl rfl ?_
  refine o_iface (xi := o_m12) (y := o_m11) (b := y) (argsL := []) (S := [(.ref x)]) (W := 1) X0 hx hZ hown (k_ 59 rfl) (k_ 60 rfl) (mvT hZ (k_ 61 rfl)) (k_ 62 rfl) (k_ 63 rfl) (k_ 64 rfl) (k_ 65 rfl) (k_ 66 rfl) (by decide) (backOf (W := 1) (rmtos l Z a0 hw [] y h0 n0 O0) hZ (k_ 67 rfl) (k_ 10 rfl) (by decide) (by decide)) e0 S_y.1 (by rw [hml]; rfl) (lenOf o_pd__28_29Ljava_2flang_2fString_3b rfl) rfl (Nat.le_of_eq rfl) (y_ oD11_2) (by decide) (by decide) (fun T1 L1 v1 X1 hQ1 => ?_)
  obtain ⟨rfl, N1q, hh1⟩ := hQ1
  have N1 := Fr.app N0 N1q
  show o_G p e below _ T1 (mkF m 7 #[vR x, vR y] [(.ref y), (.ref x)])
  refine o_vir (y := o_m7) (b := x) (argsL := [(.ref y)]) (S := []) (W := 0) X1 hx hZ hown (k_ 68 rfl) (k_ 69 rfl) (k_ 71 rfl) (k_ 70 rfl) (backOf (W := 0) (rmixs2_1 l Z a0 hw [] x y t u c0 c1 d0 zC_ h0 n0 O0 S_x S_y SC_ hC_) hZ (k_ 72 rfl) (k_ 10 rfl) (by decide) (by decide)) hh1 S_x.1 hml (lenOf o_pd__28Ljava_2flang_2fString_3b_29I rfl) (y_ oD11_7) (fun T2 L2 v2 X2 hQ2 => ?_)
  obtain ⟨r2, rfl, N2q, hh2, hr2⟩ := hQ2
  have N2 := Fr.app N1 N2q
  show o_G p e below _ T2 (mkF m 10 #[vR x, vR y] [(.int r2)])
  refine o_iF (t := 17) X2 hx (y_ oD11_10) (fun hq => ?_) (fun hq => ?_)
  · have hc10 := o_h_lt.1 hq
    refine o_iconst X2 hx (y_ oD11_17) (x := 0) rfl ?_
    exact o_retN X2 hx (t := .boolean) hrt hlk (by simp) (y_ oD11_18) rfl (by decide) (by decide) (o_hQ hh2 ⟨by rw [if_neg (hr2.mp hc10)], N2, rfl⟩)
  have hc10 := o_h_lt.2 hq
  refine o_iconst X2 hx (y_ oD11_13) (x := 1) rfl ?_
  refine o_gO (t := 18) X2 hx (y_ oD11_14) ?_
  exact o_retN X2 hx (t := .boolean) hrt hlk (by simp) (y_ oD11_18) rfl (by decide) (by decide) (o_hQ hh2 ⟨by rw [if_pos (Classical.byContradiction fun q => hc10 (hr2.mpr q))], N2, rfl⟩)
abbrev Qixf2_2 (Z : State) (a : Addr) (b : Addr) (ka : ClassId) (kb : ClassId) (v0 : Int32) (v1 : Int32) (s0 : Int32) (s1 : Int32) (h0 : Heap) (n0 : Nat) (v : Option Value) (h : Heap) (L : List Loc) : Prop := ∃ r : Int32, v = some (.int r) ∧ Fr n0 L ∧ h = h0 ∧ (r < 0 ↔ ¬ o_occ ([v0, v1] : List Int32) ([s0, s1] : List Int32) = true)
set_option maxRecDepth 65536 in
set_option maxHeartbeats 40000000 in
theorem rmixf2_2 (l : Launch) (Z : State) (a0 : Array Value) (hw : ∀ d ∈ tables_1, d.before a0 Z = true) (ws : List Jvm.Cond) (a : Addr) (b : Addr) (ka : ClassId) (kb : ClassId) (v0 : Int32) (v1 : Int32) (s0 : Int32) (s1 : Int32) (h0 : Heap) (n0 : Nat) (O0 : Old Z n0 h0) (V_a : Arv Z h0 a ka .byte (2 : Int32) [.int v0, .int v1] (.int 0)) (V_b : Arv Z h0 b kb .byte (2 : Int32) [.int s0, .int s1] (.int 0)) :
    o_Met l Z o_m13 jdk_43_method_25_code 11 (some .int) ws o_R1 #[(.ref a), (.int 2), (.ref b), (.int 2), (.int 0)] h0 (Qixf2_2 Z a b ka kb v0 v1 s0 s1 h0 n0) := by
  refine o_enter o_pn_4 (fun m => o_ef9 m a b) (fun p e s m below meth c s₁ hx hby hml hZ hown hnm hlk hrt X0 e0 => ?_)
  have N0 := Fr.nil n0
  have y_ := @hb _ _ hby
  have k_ := @o_k _ _ hw
  refine o_aloadN X0 hx (y_ oD12_0) rfl rfl ?_
  refine o_iconst X0 hx (y_ oD12_1) (x := 0) rfl ?_
  refine o_bload (v := (.int s0)) X0 hx hZ e0 V_b (y_ oD12_2) ⟨by decide, by decide⟩ rfl ?_
  refine o_istore X0 hx (y_ oD12_3) (A' := #[vR a, vI 2, vR b, vI 2, vI 0, vI s0, .unset, .unset, .unset, .unset, .unset]) rfl ?_
  refine o_iloadN X0 hx (y_ oD12_5) rfl ?_
  refine o_iloadN X0 hx (y_ oD12_6) rfl ?_
  refine o_isub X0 hx (y_ oD12_7) ?_
  refine o_valE (z := 0) (by decide) ?_
  refine o_istore X0 hx (y_ oD12_8) (A' := #[vR a, vI 2, vR b, vI 2, vI 0, vI s0, vI 0, .unset, .unset, .unset, .unset]) rfl ?_
  refine o_iload X0 hx (y_ oD12_10) rfl ?_
  refine o_istore X0 hx (y_ oD12_12) (A' := #[vR a, vI 2, vR b, vI 2, vI 0, vI s0, vI 0, vI 0, .unset, .unset, .unset]) rfl ?_
  refine o_iload X0 hx (y_ oD12_14) rfl ?_
  refine o_iload X0 hx (y_ oD12_16) rfl ?_
  refine o_iCF X0 hx (y_ oD12_18) ?_
  refine o_aloadN X0 hx (y_ oD12_21) rfl rfl ?_
  refine o_iload X0 hx (y_ oD12_22) rfl ?_
  refine o_bload (v := (.int v0)) X0 hx hZ e0 V_a (y_ oD12_24) ⟨by decide, by decide⟩ rfl ?_
  refine o_iload X0 hx (y_ oD12_25) rfl ?_
  refine o_iC (t := 52) X0 hx (y_ oD12_27) (fun hq => ?_) (fun hq => ?_)
  · have hc27_1 := o_c_eq.1 hq
    refine o_iload X0 hx (y_ oD12_52) rfl ?_
    refine o_iload X0 hx (y_ oD12_54) rfl ?_
    refine o_iCF X0 hx (y_ oD12_56) ?_
    refine o_iload X0 hx (y_ oD12_59) rfl ?_
    refine o_iconst X0 hx (y_ oD12_61) (x := 1) rfl ?_
    refine o_iadd X0 hx (y_ oD12_62) ?_
    refine o_valE (z := 1) (by decide) ?_
    refine o_istore X0 hx (y_ oD12_63) (A' := #[vR a, vI 2, vR b, vI 2, vI 0, vI s0, vI 0, vI 0, vI 1, .unset, .unset]) rfl ?_
    refine o_iload X0 hx (y_ oD12_65) rfl ?_
    refine o_iloadN X0 hx (y_ oD12_67) rfl ?_
    refine o_iadd X0 hx (y_ oD12_68) ?_
    refine o_valE (z := 3) (by decide) ?_
    refine o_iconst X0 hx (y_ oD12_69) (x := 1) rfl ?_
    refine o_isub X0 hx (y_ oD12_70) ?_
    refine o_valE (z := 2) (by decide) ?_
    refine o_istore X0 hx (y_ oD12_71) (A' := #[vR a, vI 2, vR b, vI 2, vI 0, vI s0, vI 0, vI 0, vI 1, vI 2, .unset]) rfl ?_
    refine o_iconst X0 hx (y_ oD12_73) (x := 1) rfl ?_
    refine o_istore X0 hx (y_ oD12_74) (A' := #[vR a, vI 2, vR b, vI 2, vI 0, vI s0, vI 0, vI 0, vI 1, vI 2, vI 1]) rfl ?_
    refine o_iload X0 hx (y_ oD12_76) rfl ?_
    refine o_iload X0 hx (y_ oD12_78) rfl ?_
    refine o_iCF X0 hx (y_ oD12_80) ?_
    refine o_aloadN X0 hx (y_ oD12_83) rfl rfl ?_
    refine o_iload X0 hx (y_ oD12_84) rfl ?_
    refine o_bload (v := (.int v1)) X0 hx hZ e0 V_a (y_ oD12_86) ⟨by decide, by decide⟩ rfl ?_
    refine o_aloadN X0 hx (y_ oD12_87) rfl rfl ?_
    refine o_iload X0 hx (y_ oD12_88) rfl ?_
    refine o_bload (v := (.int s1)) X0 hx hZ e0 V_b (y_ oD12_90) ⟨by decide, by decide⟩ rfl ?_
    refine o_iC (t := 103) X0 hx (y_ oD12_91) (fun hq => ?_) (fun hq => ?_)
    · have hc91_2 := o_c_ne.1 hq
      refine o_iload X0 hx (y_ oD12_103) rfl ?_
      refine o_iload X0 hx (y_ oD12_105) rfl ?_
      refine o_iCT (t := 113) X0 hx (y_ oD12_107) ?_
      refine o_iincK X0 hx (y_ oD12_113) (y := 1) rfl rfl (z := 1) (by decide) (A' := #[vR a, vI 2, vR b, vI 2, vI 0, vI s0, vI 0, vI 1, vI 1, vI 2, vI 1]) rfl ?_
      refine o_gO (t := 14) X0 hx (y_ oD12_116) ?_
      refine o_iload X0 hx (y_ oD12_14) rfl ?_
      refine o_iload X0 hx (y_ oD12_16) rfl ?_
      refine o_iCT (t := 119) X0 hx (y_ oD12_18) ?_
      refine o_iconst X0 hx (y_ oD12_119) (x := (-1 : Int32)) rfl ?_
      exact o_retI X0 hx hrt hlk (y_ oD12_120) (by decide) (by decide) (o_hQ e0 ⟨_, rfl, N0, rfl, (o_lf6 v0 v1 s0 s1 hc27_1 hc91_2)⟩)
    have hc91_2 := o_c_ne.2 hq
    refine o_iincK X0 hx (y_ oD12_94) (y := 1) rfl rfl (z := 2) (by decide) (A' := #[vR a, vI 2, vR b, vI 2, vI 0, vI s0, vI 0, vI 0, vI 2, vI 2, vI 1]) rfl ?_
    refine o_iincK X0 hx (y_ oD12_97) (y := 1) rfl rfl (z := 2) (by decide) (A' := #[vR a, vI 2, vR b, vI 2, vI 0, vI s0, vI 0, vI 0, vI 2, vI 2, vI 2]) rfl ?_
    refine o_gO (t := 76) X0 hx (y_ oD12_100) ?_
    refine o_iload X0 hx (y_ oD12_76) rfl ?_
    refine o_iload X0 hx (y_ oD12_78) rfl ?_
    refine o_iCT (t := 103) X0 hx (y_ oD12_80) ?_
    refine o_iload X0 hx (y_ oD12_103) rfl ?_
    refine o_iload X0 hx (y_ oD12_105) rfl ?_
    refine o_iCF X0 hx (y_ oD12_107) ?_
    refine o_iload X0 hx (y_ oD12_110) rfl ?_
    exact o_retI X0 hx hrt hlk (y_ oD12_112) (by decide) (by decide) (o_hQ e0 ⟨_, rfl, N0, rfl, (o_lf7 v0 v1 s0 s1 hc27_1 hc91_2)⟩)
  have hc27_1 := o_c_eq.2 hq
  refine o_iincK X0 hx (y_ oD12_30) (y := 1) rfl rfl (z := 1) (by decide) (A' := #[vR a, vI 2, vR b, vI 2, vI 0, vI s0, vI 0, vI 1, .unset, .unset, .unset]) rfl ?_
  refine o_iload X0 hx (y_ oD12_33) rfl ?_
  refine o_iload X0 hx (y_ oD12_35) rfl ?_
  refine o_iCT (t := 52) X0 hx (y_ oD12_37) ?_
  refine o_iload X0 hx (y_ oD12_52) rfl ?_
  refine o_iload X0 hx (y_ oD12_54) rfl ?_
  refine o_iCT (t := 113) X0 hx (y_ oD12_56) ?_
  refine o_iincK X0 hx (y_ oD12_113) (y := 1) rfl rfl (z := 2) (by decide) (A' := #[vR a, vI 2, vR b, vI 2, vI 0, vI s0, vI 0, vI 2, .unset, .unset, .unset]) rfl ?_
  refine o_gO (t := 14) X0 hx (y_ oD12_116) ?_
  refine o_iload X0 hx (y_ oD12_14) rfl ?_
  refine o_iload X0 hx (y_ oD12_16) rfl ?_
  refine o_iCT (t := 119) X0 hx (y_ oD12_18) ?_
  refine o_iconst X0 hx (y_ oD12_119) (x := (-1 : Int32)) rfl ?_
  exact o_retI X0 hx hrt hlk (y_ oD12_120) (by decide) (by decide) (o_hQ e0 ⟨_, rfl, N0, rfl, (o_lf8 v0 v1 s0 s1 hc27_1)⟩)
abbrev Qixt2_2 (Z : State) (a : Addr) (b : Addr) (ka : ClassId) (kb : ClassId) (v0 : Int32) (v1 : Int32) (s0 : Int32) (s1 : Int32) (h0 : Heap) (n0 : Nat) (v : Option Value) (h : Heap) (L : List Loc) : Prop := ∃ r : Int32, v = some (.int r) ∧ Fr n0 L ∧ h = h0 ∧ (r < 0 ↔ ¬ o_occ ([v0, v1] : List Int32) ([s0, s1] : List Int32) = true)
set_option maxRecDepth 65536 in
set_option maxHeartbeats 40000000 in
theorem rmixt2_2 (l : Launch) (Z : State) (a0 : Array Value) (hw : ∀ d ∈ tables_1, d.before a0 Z = true) (ws : List Jvm.Cond) (a : Addr) (b : Addr) (ka : ClassId) (kb : ClassId) (v0 : Int32) (v1 : Int32) (s0 : Int32) (s1 : Int32) (h0 : Heap) (n0 : Nat) (O0 : Old Z n0 h0) (V_a : Arv Z h0 a ka .byte (2 : Int32) [.int v0, .int v1] (.int 0)) (V_b : Arv Z h0 b kb .byte (2 : Int32) [.int s0, .int s1] (.int 0)) :
    o_Met l Z o_m6 jdk_43_method_24_code 2 (some .int) ws o_R4 #[(.ref a), (.ref b)] h0 (Qixt2_2 Z a b ka kb v0 v1 s0 s1 h0 n0) := by
  refine o_enter o_pn_4 (fun m => o_ef1 m a b) (fun p e s m below meth c s₁ hx hby hml hZ hown hnm hlk hrt X0 e0 => ?_)
  have N0 := Fr.nil n0
  have y_ := @hb _ _ hby
  have k_ := @o_k _ _ hw
  refine o_aloadN X0 hx (y_ oD6_0) rfl rfl ?_
  refine o_alen (n := 2) X0 hx hZ e0 V_b (y_ oD6_1) ?_
  refine o_iFT (t := 7) X0 hx (y_ oD6_2) ?_
  refine o_aloadN X0 hx (y_ oD6_7) rfl rfl ?_
  refine o_alen (n := 2) X0 hx hZ e0 V_a (y_ oD6_8) ?_
  refine o_iFT (t := 14) X0 hx (y_ oD6_9) ?_
  refine o_aloadN X0 hx (y_ oD6_14) rfl rfl ?_
  refine o_aloadN X0 hx (y_ oD6_15) rfl rfl ?_
  refine o_alen (n := 2) X0 hx hZ e0 V_a (y_ oD6_16) ?_
  refine o_aloadN X0 hx (y_ oD6_17) rfl rfl ?_
  refine o_aloadN X0 hx (y_ oD6_18) rfl rfl ?_
  refine o_alen (n := 2) X0 hx hZ e0 V_b (y_ oD6_19) ?_
  refine o_iconst X0 hx (y_ oD6_20) (x := 0) rfl ?_
  refine o_sta (y := o_m13) (argsL := [(.ref a), (.int 2), (.ref b), (.int 2), (.int 0)]) (S := []) (W := 0) X0 hx hZ hown (k_ 87 rfl) (k_ 88 rfl) (k_ 85 rfl) (k_ 89 rfl) (backOf (W := 0) (rmixf2_2 l Z a0 hw [] a b ka kb v0 v1 s0 s1 h0 n0 O0 V_a V_b) hZ (k_ 89 rfl) (k_ 85 rfl) (by decide) (by decide)) e0 hml (lenOf o_pd__28_5bBI_5bBII_29I rfl) (y_ oD6_21) (fun T1 L1 v1 X1 hQ1 => ?_)
  obtain ⟨r1, rfl, N1q, hh1, hr1⟩ := hQ1
  have N1 := Fr.app N0 N1q
  show o_G p e below _ T1 (mkF m 24 #[vR a, vR b] [(.int r1)])
  exact o_retI X1 hx hrt hlk (y_ oD6_24) (by decide) (by decide) (o_hQ hh1 ⟨_, rfl, N1, rfl, hr1⟩)
abbrev Qixs2_2 (Z : State) (x : Addr) (y : Addr) (t : Addr) (u : Addr) (c0 : Int32) (c1 : Int32) (d0 : Int32) (d1 : Int32) (zC_ : Int32) (h0 : Heap) (n0 : Nat) (v : Option Value) (h : Heap) (L : List Loc) : Prop := ∃ r : Int32, v = some (.int r) ∧ Fr n0 L ∧ h = h0 ∧ (r < 0 ↔ ¬ o_occ ([c0, c1] : List Int32) ([d0, d1] : List Int32) = true)
set_option maxRecDepth 65536 in
set_option maxHeartbeats 40000000 in
theorem rmixs2_2 (l : Launch) (Z : State) (a0 : Array Value) (hw : ∀ d ∈ tables_1, d.before a0 Z = true) (ws : List Jvm.Cond) (x : Addr) (y : Addr) (t : Addr) (u : Addr) (c0 : Int32) (c1 : Int32) (d0 : Int32) (d1 : Int32) (zC_ : Int32) (h0 : Heap) (n0 : Nat) (O0 : Old Z n0 h0) (S_x : o_Str Z h0 x t ([c0, c1] : List Int32)) (S_y : o_Str Z h0 y u ([d0, d1] : List Int32)) (SC_ : o_SC Z zC_) (hC_ : ¬ zC_ = 0) :
    o_Met l Z o_m7 jdk_42_method_84_code 3 (some .int) ws o_R5 #[(.ref x), (.ref y)] h0 (Qixs2_2 Z x y t u c0 c1 d0 d1 zC_ h0 n0) := by
  refine o_enter o_pn_3 (fun m => o_ef5 m x y) (fun p e s m below meth c s₁ hx hby hml hZ hown hnm hlk hrt X0 e0 => ?_)
  have N0 := Fr.nil n0
  have y_ := @hb _ _ hby
  have k_ := @o_k _ _ hw
  refine o_aloadN X0 hx (y_ oD9_0) rfl rfl ?_
  refine o_vir (y := o_m8) (b := x) (argsL := []) (S := []) (W := 0) X0 hx hZ hown (k_ 73 rfl) (k_ 74 rfl) (k_ 76 rfl) (k_ 75 rfl) (backOf (W := 0) (rmcod l Z a0 hw [] x zC_ h0 n0 O0 S_x.2.1 SC_ hC_) hZ (k_ 77 rfl) (k_ 10 rfl) (by decide) (by decide)) e0 S_x.1 hml (lenOf o_pd__28_29B rfl) (y_ oD9_1) (fun T1 L1 v1 X1 hQ1 => ?_)
  obtain ⟨rfl, N1q, hh1⟩ := hQ1
  have N1 := Fr.app N0 N1q
  show o_G p e below _ T1 (mkF m 4 #[vR x, vR y, .unset] [(.int 0)])
  refine o_istoreN X1 hx (y_ oD9_4) (A' := #[vR x, vR y, vI 0]) rfl ?_
  refine o_iloadN X1 hx (y_ oD9_5) rfl ?_
  refine o_aloadN X1 hx (y_ oD9_6) rfl rfl ?_
  refine o_vir (y := o_m8) (b := y) (argsL := []) (S := [(.int 0)]) (W := 1) X1 hx hZ hown (k_ 73 rfl) (k_ 74 rfl) (k_ 76 rfl) (k_ 75 rfl) (backOf (W := 1) (rmcod l Z a0 hw [] y zC_ h0 n0 O0 S_y.2.1 SC_ hC_) hZ (k_ 77 rfl) (k_ 10 rfl) (by decide) (by decide)) hh1 S_y.1 hml (lenOf o_pd__28_29B rfl) (y_ oD9_7) (fun T2 L2 v2 X2 hQ2 => ?_)
  obtain ⟨rfl, N2q, hh2⟩ := hQ2
  have N2 := Fr.app N1 N2q
  show o_G p e below _ T2 (mkF m 10 #[vR x, vR y, vI 0] [(.int 0), (.int 0)])
  refine o_iCF X2 hx (y_ oD9_10) ?_
  refine o_aloadN X2 hx (y_ oD9_13) rfl rfl ?_
  refine o_vir (y := o_m9) (b := x) (argsL := []) (S := []) (W := 0) X2 hx hZ hown (k_ 78 rfl) (k_ 79 rfl) (k_ 81 rfl) (k_ 80 rfl) (backOf (W := 0) (rmisl l Z a0 hw [] x zC_ h0 n0 O0 S_x.2.1 SC_ hC_) hZ (k_ 82 rfl) (k_ 10 rfl) (by decide) (by decide)) hh2 S_x.1 hml (lenOf o_pd__28_29Z rfl) (y_ oD9_14) (fun T3 L3 v3 X3 hQ3 => ?_)
  obtain ⟨rfl, N3q, hh3⟩ := hQ3
  have N3 := Fr.app N2 N3q
  show o_G p e below _ T3 (mkF m 17 #[vR x, vR y, vI 0] [(.int 1)])
  refine o_iFF X3 hx (y_ oD9_17) ?_
  obtain ⟨kb4, Bv4⟩ := S_x.2.2.2.1
  have Bw4 : Arv Z h0 t kb4 .byte (2 : Int32) [.int c0.toInt8.toInt32, .int c1.toInt8.toInt32] (.int 0) := Bv4
  obtain ⟨kb5, Bv5⟩ := S_y.2.2.2.1
  have Bw5 : Arv Z h0 u kb5 .byte (2 : Int32) [.int d0.toInt8.toInt32, .int d1.toInt8.toInt32] (.int 0) := Bv5
  refine o_aloadN X3 hx (y_ oD9_20) rfl rfl ?_
  refine o_getF X3 hx hZ hown (host := "") (Or.inl (k_ 35 rfl)) Via.refl hh3 S_x.2.2.1 (y_ oD9_21) (fun T6 X6 e6 => ?_)
  refine o_aloadN X6 hx (y_ oD9_24) rfl rfl ?_
  refine o_getF X6 hx hZ hown (host := "") (Or.inl (k_ 35 rfl)) Via.refl e6 S_y.2.2.1 (y_ oD9_25) (fun T7 X7 e7 => ?_)
  refine o_sta (y := o_m6) (argsL := [(.ref t), (.ref u)]) (S := []) (W := 0) X7 hx hZ hown (k_ 83 rfl) (k_ 84 rfl) (k_ 85 rfl) (k_ 86 rfl) (backOf (W := 0) (rmixt2_2 l Z a0 hw [] t u kb4 kb5 (c0.toInt8.toInt32) (c1.toInt8.toInt32) (d0.toInt8.toInt32) (d1.toInt8.toInt32) h0 n0 O0 Bw4 Bw5) hZ (k_ 86 rfl) (k_ 85 rfl) (by decide) (by decide)) e7 hml (lenOf o_pd__28_5bB_5bB_29I rfl) (y_ oD9_28) (fun T8 L8 v8 X8 hQ8 => ?_)
  obtain ⟨r8, rfl, N8q, hh8, hr8⟩ := hQ8
  have N8 := Fr.app N3 N8q
  show o_G p e below _ T8 (mkF m 31 #[vR x, vR y, vI 0] [(.int r8)])
  refine o_gO (t := 45) X8 hx (y_ oD9_31) ?_
  exact o_retI X8 hx hrt hlk (y_ oD9_45) (by decide) (by decide) (o_hQ hh8 ⟨_, rfl, N8, rfl, by rw [← o_occ_b ([c0, c1] : List Int32) ([d0, d1] : List Int32) S_x.2.2.2.2.1 S_y.2.2.2.2.1]; exact hr8⟩)
abbrev Qcon2_2 (Z : State) (x : Addr) (y : Addr) (t : Addr) (u : Addr) (c0 : Int32) (c1 : Int32) (d0 : Int32) (d1 : Int32) (zC_ : Int32) (h0 : Heap) (n0 : Nat) (v : Option Value) (h : Heap) (L : List Loc) : Prop := v = some (.int (if o_occ ([c0, c1] : List Int32) ([d0, d1] : List Int32) = true then 1 else 0)) ∧ Fr n0 L ∧ h = h0
set_option maxRecDepth 65536 in
set_option maxHeartbeats 40000000 in
theorem rmcon2_2 (l : Launch) (Z : State) (a0 : Array Value) (hw : ∀ d ∈ tables_1, d.before a0 Z = true) (ws : List Jvm.Cond) (x : Addr) (y : Addr) (t : Addr) (u : Addr) (c0 : Int32) (c1 : Int32) (d0 : Int32) (d1 : Int32) (zC_ : Int32) (h0 : Heap) (n0 : Nat) (O0 : Old Z n0 h0) (S_x : o_Str Z h0 x t ([c0, c1] : List Int32)) (S_y : o_Str Z h0 y u ([d0, d1] : List Int32)) (SC_ : o_SC Z zC_) (hC_ : ¬ zC_ = 0) :
    o_Met l Z o_m10 jdk_42_method_97_code 2 (some .boolean) ws o_R6 #[(.ref x), (.ref y)] h0 (Qcon2_2 Z x y t u c0 c1 d0 d1 zC_ h0 n0) := by
  refine o_enter o_pn_3 (fun m => o_ef1 m x y) (fun p e s m below meth c s₁ hx hby hml hZ hown hnm hlk hrt X0 e0 => ?_)
  have N0 := Fr.nil n0
  have y_ := @hb _ _ hby
  have k_ := @o_k _ _ hw
  refine o_aloadN X0 hx (y_ oD11_0) rfl rfl ?_
  refine o_aloadN X0 hx (y_ oD11_1) rfl rfl ?_
  refine o_iface (xi := o_m12) (y := o_m11) (b := y) (argsL := []) (S := [(.ref x)]) (W := 1) X0 hx hZ hown (k_ 59 rfl) (k_ 60 rfl) (mvT hZ (k_ 61 rfl)) (k_ 62 rfl) (k_ 63 rfl) (k_ 64 rfl) (k_ 65 rfl) (k_ 66 rfl) (by decide) (backOf (W := 1) (rmtos l Z a0 hw [] y h0 n0 O0) hZ (k_ 67 rfl) (k_ 10 rfl) (by decide) (by decide)) e0 S_y.1 (by rw [hml]; rfl) (lenOf o_pd__28_29Ljava_2flang_2fString_3b rfl) rfl (Nat.le_of_eq rfl) (y_ oD11_2) (by decide) (by decide) (fun T1 L1 v1 X1 hQ1 => ?_)
  obtain ⟨rfl, N1q, hh1⟩ := hQ1
  have N1 := Fr.app N0 N1q
  show o_G p e below _ T1 (mkF m 7 #[vR x, vR y] [(.ref y), (.ref x)])
  refine o_vir (y := o_m7) (b := x) (argsL := [(.ref y)]) (S := []) (W := 0) X1 hx hZ hown (k_ 68 rfl) (k_ 69 rfl) (k_ 71 rfl) (k_ 70 rfl) (backOf (W := 0) (rmixs2_2 l Z a0 hw [] x y t u c0 c1 d0 d1 zC_ h0 n0 O0 S_x S_y SC_ hC_) hZ (k_ 72 rfl) (k_ 10 rfl) (by decide) (by decide)) hh1 S_x.1 hml (lenOf o_pd__28Ljava_2flang_2fString_3b_29I rfl) (y_ oD11_7) (fun T2 L2 v2 X2 hQ2 => ?_)
  obtain ⟨r2, rfl, N2q, hh2, hr2⟩ := hQ2
  have N2 := Fr.app N1 N2q
  show o_G p e below _ T2 (mkF m 10 #[vR x, vR y] [(.int r2)])
  refine o_iF (t := 17) X2 hx (y_ oD11_10) (fun hq => ?_) (fun hq => ?_)
  · have hc10 := o_h_lt.1 hq
    refine o_iconst X2 hx (y_ oD11_17) (x := 0) rfl ?_
    exact o_retN X2 hx (t := .boolean) hrt hlk (by simp) (y_ oD11_18) rfl (by decide) (by decide) (o_hQ hh2 ⟨by rw [if_neg (hr2.mp hc10)], N2, rfl⟩)
  have hc10 := o_h_lt.2 hq
  refine o_iconst X2 hx (y_ oD11_13) (x := 1) rfl ?_
  refine o_gO (t := 18) X2 hx (y_ oD11_14) ?_
  exact o_retN X2 hx (t := .boolean) hrt hlk (by simp) (y_ oD11_18) rfl (by decide) (by decide) (o_hQ hh2 ⟨by rw [if_pos (Classical.byContradiction fun q => hc10 (hr2.mpr q))], N2, rfl⟩)
abbrev Qixf3_1 (Z : State) (a : Addr) (b : Addr) (ka : ClassId) (kb : ClassId) (v0 : Int32) (v1 : Int32) (v2 : Int32) (s0 : Int32) (h0 : Heap) (n0 : Nat) (v : Option Value) (h : Heap) (L : List Loc) : Prop := ∃ r : Int32, v = some (.int r) ∧ Fr n0 L ∧ h = h0 ∧ (r < 0 ↔ ¬ o_occ ([v0, v1, v2] : List Int32) ([s0] : List Int32) = true)
set_option maxRecDepth 65536 in
set_option maxHeartbeats 40000000 in
theorem rmixf3_1 (l : Launch) (Z : State) (a0 : Array Value) (hw : ∀ d ∈ tables_1, d.before a0 Z = true) (ws : List Jvm.Cond) (a : Addr) (b : Addr) (ka : ClassId) (kb : ClassId) (v0 : Int32) (v1 : Int32) (v2 : Int32) (s0 : Int32) (h0 : Heap) (n0 : Nat) (O0 : Old Z n0 h0) (V_a : Arv Z h0 a ka .byte (3 : Int32) [.int v0, .int v1, .int v2] (.int 0)) (V_b : Arv Z h0 b kb .byte (1 : Int32) [.int s0] (.int 0)) :
    o_Met l Z o_m13 jdk_43_method_25_code 11 (some .int) ws o_R1 #[(.ref a), (.int 3), (.ref b), (.int 1), (.int 0)] h0 (Qixf3_1 Z a b ka kb v0 v1 v2 s0 h0 n0) := by
  refine o_enter o_pn_4 (fun m => o_ef10 m a b) (fun p e s m below meth c s₁ hx hby hml hZ hown hnm hlk hrt X0 e0 => ?_)
  have N0 := Fr.nil n0
  have y_ := @hb _ _ hby
  have k_ := @o_k _ _ hw
  refine o_aloadN X0 hx (y_ oD12_0) rfl rfl ?_
  refine o_iconst X0 hx (y_ oD12_1) (x := 0) rfl ?_
  refine o_bload (v := (.int s0)) X0 hx hZ e0 V_b (y_ oD12_2) ⟨by decide, by decide⟩ rfl ?_
  refine o_istore X0 hx (y_ oD12_3) (A' := #[vR a, vI 3, vR b, vI 1, vI 0, vI s0, .unset, .unset, .unset, .unset, .unset]) rfl ?_
  refine o_iloadN X0 hx (y_ oD12_5) rfl ?_
  refine o_iloadN X0 hx (y_ oD12_6) rfl ?_
  refine o_isub X0 hx (y_ oD12_7) ?_
  refine o_valE (z := 2) (by decide) ?_
  refine o_istore X0 hx (y_ oD12_8) (A' := #[vR a, vI 3, vR b, vI 1, vI 0, vI s0, vI 2, .unset, .unset, .unset, .unset]) rfl ?_
  refine o_iload X0 hx (y_ oD12_10) rfl ?_
  refine o_istore X0 hx (y_ oD12_12) (A' := #[vR a, vI 3, vR b, vI 1, vI 0, vI s0, vI 2, vI 0, .unset, .unset, .unset]) rfl ?_
  refine o_iload X0 hx (y_ oD12_14) rfl ?_
  refine o_iload X0 hx (y_ oD12_16) rfl ?_
  refine o_iCF X0 hx (y_ oD12_18) ?_
  refine o_aloadN X0 hx (y_ oD12_21) rfl rfl ?_
  refine o_iload X0 hx (y_ oD12_22) rfl ?_
  refine o_bload (v := (.int v0)) X0 hx hZ e0 V_a (y_ oD12_24) ⟨by decide, by decide⟩ rfl ?_
  refine o_iload X0 hx (y_ oD12_25) rfl ?_
  refine o_iC (t := 52) X0 hx (y_ oD12_27) (fun hq => ?_) (fun hq => ?_)
  · have hc27_1 := o_c_eq.1 hq
    refine o_iload X0 hx (y_ oD12_52) rfl ?_
    refine o_iload X0 hx (y_ oD12_54) rfl ?_
    refine o_iCF X0 hx (y_ oD12_56) ?_
    refine o_iload X0 hx (y_ oD12_59) rfl ?_
    refine o_iconst X0 hx (y_ oD12_61) (x := 1) rfl ?_
    refine o_iadd X0 hx (y_ oD12_62) ?_
    refine o_valE (z := 1) (by decide) ?_
    refine o_istore X0 hx (y_ oD12_63) (A' := #[vR a, vI 3, vR b, vI 1, vI 0, vI s0, vI 2, vI 0, vI 1, .unset, .unset]) rfl ?_
    refine o_iload X0 hx (y_ oD12_65) rfl ?_
    refine o_iloadN X0 hx (y_ oD12_67) rfl ?_
    refine o_iadd X0 hx (y_ oD12_68) ?_
    refine o_valE (z := 2) (by decide) ?_
    refine o_iconst X0 hx (y_ oD12_69) (x := 1) rfl ?_
    refine o_isub X0 hx (y_ oD12_70) ?_
    refine o_valE (z := 1) (by decide) ?_
    refine o_istore X0 hx (y_ oD12_71) (A' := #[vR a, vI 3, vR b, vI 1, vI 0, vI s0, vI 2, vI 0, vI 1, vI 1, .unset]) rfl ?_
    refine o_iconst X0 hx (y_ oD12_73) (x := 1) rfl ?_
    refine o_istore X0 hx (y_ oD12_74) (A' := #[vR a, vI 3, vR b, vI 1, vI 0, vI s0, vI 2, vI 0, vI 1, vI 1, vI 1]) rfl ?_
    refine o_iload X0 hx (y_ oD12_76) rfl ?_
    refine o_iload X0 hx (y_ oD12_78) rfl ?_
    refine o_iCT (t := 103) X0 hx (y_ oD12_80) ?_
    refine o_iload X0 hx (y_ oD12_103) rfl ?_
    refine o_iload X0 hx (y_ oD12_105) rfl ?_
    refine o_iCF X0 hx (y_ oD12_107) ?_
    refine o_iload X0 hx (y_ oD12_110) rfl ?_
    exact o_retI X0 hx hrt hlk (y_ oD12_112) (by decide) (by decide) (o_hQ e0 ⟨_, rfl, N0, rfl, (o_lf9 v0 v1 v2 s0 hc27_1)⟩)
  have hc27_1 := o_c_eq.2 hq
  refine o_iincK X0 hx (y_ oD12_30) (y := 1) rfl rfl (z := 1) (by decide) (A' := #[vR a, vI 3, vR b, vI 1, vI 0, vI s0, vI 2, vI 1, .unset, .unset, .unset]) rfl ?_
  refine o_iload X0 hx (y_ oD12_33) rfl ?_
  refine o_iload X0 hx (y_ oD12_35) rfl ?_
  refine o_iCF X0 hx (y_ oD12_37) ?_
  refine o_aloadN X0 hx (y_ oD12_40) rfl rfl ?_
  refine o_iload X0 hx (y_ oD12_41) rfl ?_
  refine o_bload (v := (.int v1)) X0 hx hZ e0 V_a (y_ oD12_43) ⟨by decide, by decide⟩ rfl ?_
  refine o_iload X0 hx (y_ oD12_44) rfl ?_
  refine o_iC (t := 52) X0 hx (y_ oD12_46) (fun hq => ?_) (fun hq => ?_)
  · have hc46_2 := o_c_eq.1 hq
    refine o_iload X0 hx (y_ oD12_52) rfl ?_
    refine o_iload X0 hx (y_ oD12_54) rfl ?_
    refine o_iCF X0 hx (y_ oD12_56) ?_
    refine o_iload X0 hx (y_ oD12_59) rfl ?_
    refine o_iconst X0 hx (y_ oD12_61) (x := 1) rfl ?_
    refine o_iadd X0 hx (y_ oD12_62) ?_
    refine o_valE (z := 2) (by decide) ?_
    refine o_istore X0 hx (y_ oD12_63) (A' := #[vR a, vI 3, vR b, vI 1, vI 0, vI s0, vI 2, vI 1, vI 2, .unset, .unset]) rfl ?_
    refine o_iload X0 hx (y_ oD12_65) rfl ?_
    refine o_iloadN X0 hx (y_ oD12_67) rfl ?_
    refine o_iadd X0 hx (y_ oD12_68) ?_
    refine o_valE (z := 3) (by decide) ?_
    refine o_iconst X0 hx (y_ oD12_69) (x := 1) rfl ?_
    refine o_isub X0 hx (y_ oD12_70) ?_
    refine o_valE (z := 2) (by decide) ?_
    refine o_istore X0 hx (y_ oD12_71) (A' := #[vR a, vI 3, vR b, vI 1, vI 0, vI s0, vI 2, vI 1, vI 2, vI 2, .unset]) rfl ?_
    refine o_iconst X0 hx (y_ oD12_73) (x := 1) rfl ?_
    refine o_istore X0 hx (y_ oD12_74) (A' := #[vR a, vI 3, vR b, vI 1, vI 0, vI s0, vI 2, vI 1, vI 2, vI 2, vI 1]) rfl ?_
    refine o_iload X0 hx (y_ oD12_76) rfl ?_
    refine o_iload X0 hx (y_ oD12_78) rfl ?_
    refine o_iCT (t := 103) X0 hx (y_ oD12_80) ?_
    refine o_iload X0 hx (y_ oD12_103) rfl ?_
    refine o_iload X0 hx (y_ oD12_105) rfl ?_
    refine o_iCF X0 hx (y_ oD12_107) ?_
    refine o_iload X0 hx (y_ oD12_110) rfl ?_
    exact o_retI X0 hx hrt hlk (y_ oD12_112) (by decide) (by decide) (o_hQ e0 ⟨_, rfl, N0, rfl, (o_lf10 v0 v1 v2 s0 hc27_1 hc46_2)⟩)
  have hc46_2 := o_c_eq.2 hq
  refine o_gO (t := 30) X0 hx (y_ oD12_49) ?_
  refine o_iincK X0 hx (y_ oD12_30) (y := 1) rfl rfl (z := 2) (by decide) (A' := #[vR a, vI 3, vR b, vI 1, vI 0, vI s0, vI 2, vI 2, .unset, .unset, .unset]) rfl ?_
  refine o_iload X0 hx (y_ oD12_33) rfl ?_
  refine o_iload X0 hx (y_ oD12_35) rfl ?_
  refine o_iCF X0 hx (y_ oD12_37) ?_
  refine o_aloadN X0 hx (y_ oD12_40) rfl rfl ?_
  refine o_iload X0 hx (y_ oD12_41) rfl ?_
  refine o_bload (v := (.int v2)) X0 hx hZ e0 V_a (y_ oD12_43) ⟨by decide, by decide⟩ rfl ?_
  refine o_iload X0 hx (y_ oD12_44) rfl ?_
  refine o_iC (t := 52) X0 hx (y_ oD12_46) (fun hq => ?_) (fun hq => ?_)
  · have hc46_3 := o_c_eq.1 hq
    refine o_iload X0 hx (y_ oD12_52) rfl ?_
    refine o_iload X0 hx (y_ oD12_54) rfl ?_
    refine o_iCF X0 hx (y_ oD12_56) ?_
    refine o_iload X0 hx (y_ oD12_59) rfl ?_
    refine o_iconst X0 hx (y_ oD12_61) (x := 1) rfl ?_
    refine o_iadd X0 hx (y_ oD12_62) ?_
    refine o_valE (z := 3) (by decide) ?_
    refine o_istore X0 hx (y_ oD12_63) (A' := #[vR a, vI 3, vR b, vI 1, vI 0, vI s0, vI 2, vI 2, vI 3, .unset, .unset]) rfl ?_
    refine o_iload X0 hx (y_ oD12_65) rfl ?_
    refine o_iloadN X0 hx (y_ oD12_67) rfl ?_
    refine o_iadd X0 hx (y_ oD12_68) ?_
    refine o_valE (z := 4) (by decide) ?_
    refine o_iconst X0 hx (y_ oD12_69) (x := 1) rfl ?_
    refine o_isub X0 hx (y_ oD12_70) ?_
    refine o_valE (z := 3) (by decide) ?_
    refine o_istore X0 hx (y_ oD12_71) (A' := #[vR a, vI 3, vR b, vI 1, vI 0, vI s0, vI 2, vI 2, vI 3, vI 3, .unset]) rfl ?_
    refine o_iconst X0 hx (y_ oD12_73) (x := 1) rfl ?_
    refine o_istore X0 hx (y_ oD12_74) (A' := #[vR a, vI 3, vR b, vI 1, vI 0, vI s0, vI 2, vI 2, vI 3, vI 3, vI 1]) rfl ?_
    refine o_iload X0 hx (y_ oD12_76) rfl ?_
    refine o_iload X0 hx (y_ oD12_78) rfl ?_
    refine o_iCT (t := 103) X0 hx (y_ oD12_80) ?_
    refine o_iload X0 hx (y_ oD12_103) rfl ?_
    refine o_iload X0 hx (y_ oD12_105) rfl ?_
    refine o_iCF X0 hx (y_ oD12_107) ?_
    refine o_iload X0 hx (y_ oD12_110) rfl ?_
    exact o_retI X0 hx hrt hlk (y_ oD12_112) (by decide) (by decide) (o_hQ e0 ⟨_, rfl, N0, rfl, (o_lf11 v0 v1 v2 s0 hc27_1 hc46_2 hc46_3)⟩)
  have hc46_3 := o_c_eq.2 hq
  refine o_gO (t := 30) X0 hx (y_ oD12_49) ?_
  refine o_iincK X0 hx (y_ oD12_30) (y := 1) rfl rfl (z := 3) (by decide) (A' := #[vR a, vI 3, vR b, vI 1, vI 0, vI s0, vI 2, vI 3, .unset, .unset, .unset]) rfl ?_
  refine o_iload X0 hx (y_ oD12_33) rfl ?_
  refine o_iload X0 hx (y_ oD12_35) rfl ?_
  refine o_iCT (t := 52) X0 hx (y_ oD12_37) ?_
  refine o_iload X0 hx (y_ oD12_52) rfl ?_
  refine o_iload X0 hx (y_ oD12_54) rfl ?_
  refine o_iCT (t := 113) X0 hx (y_ oD12_56) ?_
  refine o_iincK X0 hx (y_ oD12_113) (y := 1) rfl rfl (z := 4) (by decide) (A' := #[vR a, vI 3, vR b, vI 1, vI 0, vI s0, vI 2, vI 4, .unset, .unset, .unset]) rfl ?_
  refine o_gO (t := 14) X0 hx (y_ oD12_116) ?_
  refine o_iload X0 hx (y_ oD12_14) rfl ?_
  refine o_iload X0 hx (y_ oD12_16) rfl ?_
  refine o_iCT (t := 119) X0 hx (y_ oD12_18) ?_
  refine o_iconst X0 hx (y_ oD12_119) (x := (-1 : Int32)) rfl ?_
  exact o_retI X0 hx hrt hlk (y_ oD12_120) (by decide) (by decide) (o_hQ e0 ⟨_, rfl, N0, rfl, (o_lf12 v0 v1 v2 s0 hc27_1 hc46_2 hc46_3)⟩)
abbrev Qixt3_1 (Z : State) (a : Addr) (b : Addr) (ka : ClassId) (kb : ClassId) (v0 : Int32) (v1 : Int32) (v2 : Int32) (s0 : Int32) (h0 : Heap) (n0 : Nat) (v : Option Value) (h : Heap) (L : List Loc) : Prop := ∃ r : Int32, v = some (.int r) ∧ Fr n0 L ∧ h = h0 ∧ (r < 0 ↔ ¬ o_occ ([v0, v1, v2] : List Int32) ([s0] : List Int32) = true)
set_option maxRecDepth 65536 in
set_option maxHeartbeats 40000000 in
theorem rmixt3_1 (l : Launch) (Z : State) (a0 : Array Value) (hw : ∀ d ∈ tables_1, d.before a0 Z = true) (ws : List Jvm.Cond) (a : Addr) (b : Addr) (ka : ClassId) (kb : ClassId) (v0 : Int32) (v1 : Int32) (v2 : Int32) (s0 : Int32) (h0 : Heap) (n0 : Nat) (O0 : Old Z n0 h0) (V_a : Arv Z h0 a ka .byte (3 : Int32) [.int v0, .int v1, .int v2] (.int 0)) (V_b : Arv Z h0 b kb .byte (1 : Int32) [.int s0] (.int 0)) :
    o_Met l Z o_m6 jdk_43_method_24_code 2 (some .int) ws o_R4 #[(.ref a), (.ref b)] h0 (Qixt3_1 Z a b ka kb v0 v1 v2 s0 h0 n0) := by
  refine o_enter o_pn_4 (fun m => o_ef1 m a b) (fun p e s m below meth c s₁ hx hby hml hZ hown hnm hlk hrt X0 e0 => ?_)
  have N0 := Fr.nil n0
  have y_ := @hb _ _ hby
  have k_ := @o_k _ _ hw
  refine o_aloadN X0 hx (y_ oD6_0) rfl rfl ?_
  refine o_alen (n := 1) X0 hx hZ e0 V_b (y_ oD6_1) ?_
  refine o_iFT (t := 7) X0 hx (y_ oD6_2) ?_
  refine o_aloadN X0 hx (y_ oD6_7) rfl rfl ?_
  refine o_alen (n := 3) X0 hx hZ e0 V_a (y_ oD6_8) ?_
  refine o_iFT (t := 14) X0 hx (y_ oD6_9) ?_
  refine o_aloadN X0 hx (y_ oD6_14) rfl rfl ?_
  refine o_aloadN X0 hx (y_ oD6_15) rfl rfl ?_
  refine o_alen (n := 3) X0 hx hZ e0 V_a (y_ oD6_16) ?_
  refine o_aloadN X0 hx (y_ oD6_17) rfl rfl ?_
  refine o_aloadN X0 hx (y_ oD6_18) rfl rfl ?_
  refine o_alen (n := 1) X0 hx hZ e0 V_b (y_ oD6_19) ?_
  refine o_iconst X0 hx (y_ oD6_20) (x := 0) rfl ?_
  refine o_sta (y := o_m13) (argsL := [(.ref a), (.int 3), (.ref b), (.int 1), (.int 0)]) (S := []) (W := 0) X0 hx hZ hown (k_ 87 rfl) (k_ 88 rfl) (k_ 85 rfl) (k_ 89 rfl) (backOf (W := 0) (rmixf3_1 l Z a0 hw [] a b ka kb v0 v1 v2 s0 h0 n0 O0 V_a V_b) hZ (k_ 89 rfl) (k_ 85 rfl) (by decide) (by decide)) e0 hml (lenOf o_pd__28_5bBI_5bBII_29I rfl) (y_ oD6_21) (fun T1 L1 v1 X1 hQ1 => ?_)
  obtain ⟨r1, rfl, N1q, hh1, hr1⟩ := hQ1
  have N1 := Fr.app N0 N1q
  show o_G p e below _ T1 (mkF m 24 #[vR a, vR b] [(.int r1)])
  exact o_retI X1 hx hrt hlk (y_ oD6_24) (by decide) (by decide) (o_hQ hh1 ⟨_, rfl, N1, rfl, hr1⟩)
abbrev Qixs3_1 (Z : State) (x : Addr) (y : Addr) (t : Addr) (u : Addr) (c0 : Int32) (c1 : Int32) (c2 : Int32) (d0 : Int32) (zC_ : Int32) (h0 : Heap) (n0 : Nat) (v : Option Value) (h : Heap) (L : List Loc) : Prop := ∃ r : Int32, v = some (.int r) ∧ Fr n0 L ∧ h = h0 ∧ (r < 0 ↔ ¬ o_occ ([c0, c1, c2] : List Int32) ([d0] : List Int32) = true)
set_option maxRecDepth 65536 in
set_option maxHeartbeats 40000000 in
theorem rmixs3_1 (l : Launch) (Z : State) (a0 : Array Value) (hw : ∀ d ∈ tables_1, d.before a0 Z = true) (ws : List Jvm.Cond) (x : Addr) (y : Addr) (t : Addr) (u : Addr) (c0 : Int32) (c1 : Int32) (c2 : Int32) (d0 : Int32) (zC_ : Int32) (h0 : Heap) (n0 : Nat) (O0 : Old Z n0 h0) (S_x : o_Str Z h0 x t ([c0, c1, c2] : List Int32)) (S_y : o_Str Z h0 y u ([d0] : List Int32)) (SC_ : o_SC Z zC_) (hC_ : ¬ zC_ = 0) :
    o_Met l Z o_m7 jdk_42_method_84_code 3 (some .int) ws o_R5 #[(.ref x), (.ref y)] h0 (Qixs3_1 Z x y t u c0 c1 c2 d0 zC_ h0 n0) := by
  refine o_enter o_pn_3 (fun m => o_ef5 m x y) (fun p e s m below meth c s₁ hx hby hml hZ hown hnm hlk hrt X0 e0 => ?_)
  have N0 := Fr.nil n0
  have y_ := @hb _ _ hby
  have k_ := @o_k _ _ hw
  refine o_aloadN X0 hx (y_ oD9_0) rfl rfl ?_
  refine o_vir (y := o_m8) (b := x) (argsL := []) (S := []) (W := 0) X0 hx hZ hown (k_ 73 rfl) (k_ 74 rfl) (k_ 76 rfl) (k_ 75 rfl) (backOf (W := 0) (rmcod l Z a0 hw [] x zC_ h0 n0 O0 S_x.2.1 SC_ hC_) hZ (k_ 77 rfl) (k_ 10 rfl) (by decide) (by decide)) e0 S_x.1 hml (lenOf o_pd__28_29B rfl) (y_ oD9_1) (fun T1 L1 v1 X1 hQ1 => ?_)
  obtain ⟨rfl, N1q, hh1⟩ := hQ1
  have N1 := Fr.app N0 N1q
  show o_G p e below _ T1 (mkF m 4 #[vR x, vR y, .unset] [(.int 0)])
  refine o_istoreN X1 hx (y_ oD9_4) (A' := #[vR x, vR y, vI 0]) rfl ?_
  refine o_iloadN X1 hx (y_ oD9_5) rfl ?_
  refine o_aloadN X1 hx (y_ oD9_6) rfl rfl ?_
  refine o_vir (y := o_m8) (b := y) (argsL := []) (S := [(.int 0)]) (W := 1) X1 hx hZ hown (k_ 73 rfl) (k_ 74 rfl) (k_ 76 rfl) (k_ 75 rfl) (backOf (W := 1) (rmcod l Z a0 hw [] y zC_ h0 n0 O0 S_y.2.1 SC_ hC_) hZ (k_ 77 rfl) (k_ 10 rfl) (by decide) (by decide)) hh1 S_y.1 hml (lenOf o_pd__28_29B rfl) (y_ oD9_7) (fun T2 L2 v2 X2 hQ2 => ?_)
  obtain ⟨rfl, N2q, hh2⟩ := hQ2
  have N2 := Fr.app N1 N2q
  show o_G p e below _ T2 (mkF m 10 #[vR x, vR y, vI 0] [(.int 0), (.int 0)])
  refine o_iCF X2 hx (y_ oD9_10) ?_
  refine o_aloadN X2 hx (y_ oD9_13) rfl rfl ?_
  refine o_vir (y := o_m9) (b := x) (argsL := []) (S := []) (W := 0) X2 hx hZ hown (k_ 78 rfl) (k_ 79 rfl) (k_ 81 rfl) (k_ 80 rfl) (backOf (W := 0) (rmisl l Z a0 hw [] x zC_ h0 n0 O0 S_x.2.1 SC_ hC_) hZ (k_ 82 rfl) (k_ 10 rfl) (by decide) (by decide)) hh2 S_x.1 hml (lenOf o_pd__28_29Z rfl) (y_ oD9_14) (fun T3 L3 v3 X3 hQ3 => ?_)
  obtain ⟨rfl, N3q, hh3⟩ := hQ3
  have N3 := Fr.app N2 N3q
  show o_G p e below _ T3 (mkF m 17 #[vR x, vR y, vI 0] [(.int 1)])
  refine o_iFF X3 hx (y_ oD9_17) ?_
  obtain ⟨kb4, Bv4⟩ := S_x.2.2.2.1
  have Bw4 : Arv Z h0 t kb4 .byte (3 : Int32) [.int c0.toInt8.toInt32, .int c1.toInt8.toInt32, .int c2.toInt8.toInt32] (.int 0) := Bv4
  obtain ⟨kb5, Bv5⟩ := S_y.2.2.2.1
  have Bw5 : Arv Z h0 u kb5 .byte (1 : Int32) [.int d0.toInt8.toInt32] (.int 0) := Bv5
  refine o_aloadN X3 hx (y_ oD9_20) rfl rfl ?_
  refine o_getF X3 hx hZ hown (host := "") (Or.inl (k_ 35 rfl)) Via.refl hh3 S_x.2.2.1 (y_ oD9_21) (fun T6 X6 e6 => ?_)
  refine o_aloadN X6 hx (y_ oD9_24) rfl rfl ?_
  refine o_getF X6 hx hZ hown (host := "") (Or.inl (k_ 35 rfl)) Via.refl e6 S_y.2.2.1 (y_ oD9_25) (fun T7 X7 e7 => ?_)
  refine o_sta (y := o_m6) (argsL := [(.ref t), (.ref u)]) (S := []) (W := 0) X7 hx hZ hown (k_ 83 rfl) (k_ 84 rfl) (k_ 85 rfl) (k_ 86 rfl) (backOf (W := 0) (rmixt3_1 l Z a0 hw [] t u kb4 kb5 (c0.toInt8.toInt32) (c1.toInt8.toInt32) (c2.toInt8.toInt32) (d0.toInt8.toInt32) h0 n0 O0 Bw4 Bw5) hZ (k_ 86 rfl) (k_ 85 rfl) (by decide) (by decide)) e7 hml (lenOf o_pd__28_5bB_5bB_29I rfl) (y_ oD9_28) (fun T8 L8 v8 X8 hQ8 => ?_)
  obtain ⟨r8, rfl, N8q, hh8, hr8⟩ := hQ8
  have N8 := Fr.app N3 N8q
  show o_G p e below _ T8 (mkF m 31 #[vR x, vR y, vI 0] [(.int r8)])
  refine o_gO (t := 45) X8 hx (y_ oD9_31) ?_
  exact o_retI X8 hx hrt hlk (y_ oD9_45) (by decide) (by decide) (o_hQ hh8 ⟨_, rfl, N8, rfl, by rw [← o_occ_b ([c0, c1, c2] : List Int32) ([d0] : List Int32) S_x.2.2.2.2.1 S_y.2.2.2.2.1]; exact hr8⟩)
abbrev Qcon3_1 (Z : State) (x : Addr) (y : Addr) (t : Addr) (u : Addr) (c0 : Int32) (c1 : Int32) (c2 : Int32) (d0 : Int32) (zC_ : Int32) (h0 : Heap) (n0 : Nat) (v : Option Value) (h : Heap) (L : List Loc) : Prop := v = some (.int (if o_occ ([c0, c1, c2] : List Int32) ([d0] : List Int32) = true then 1 else 0)) ∧ Fr n0 L ∧ h = h0
set_option maxRecDepth 65536 in
set_option maxHeartbeats 40000000 in
theorem rmcon3_1 (l : Launch) (Z : State) (a0 : Array Value) (hw : ∀ d ∈ tables_1, d.before a0 Z = true) (ws : List Jvm.Cond) (x : Addr) (y : Addr) (t : Addr) (u : Addr) (c0 : Int32) (c1 : Int32) (c2 : Int32) (d0 : Int32) (zC_ : Int32) (h0 : Heap) (n0 : Nat) (O0 : Old Z n0 h0) (S_x : o_Str Z h0 x t ([c0, c1, c2] : List Int32)) (S_y : o_Str Z h0 y u ([d0] : List Int32)) (SC_ : o_SC Z zC_) (hC_ : ¬ zC_ = 0) :
    o_Met l Z o_m10 jdk_42_method_97_code 2 (some .boolean) ws o_R6 #[(.ref x), (.ref y)] h0 (Qcon3_1 Z x y t u c0 c1 c2 d0 zC_ h0 n0) := by
  refine o_enter o_pn_3 (fun m => o_ef1 m x y) (fun p e s m below meth c s₁ hx hby hml hZ hown hnm hlk hrt X0 e0 => ?_)
  have N0 := Fr.nil n0
  have y_ := @hb _ _ hby
  have k_ := @o_k _ _ hw
  refine o_aloadN X0 hx (y_ oD11_0) rfl rfl ?_
  refine o_aloadN X0 hx (y_ oD11_1) rfl rfl ?_
  refine o_iface (xi := o_m12) (y := o_m11) (b := y) (argsL := []) (S := [(.ref x)]) (W := 1) X0 hx hZ hown (k_ 59 rfl) (k_ 60 rfl) (mvT hZ (k_ 61 rfl)) (k_ 62 rfl) (k_ 63 rfl) (k_ 64 rfl) (k_ 65 rfl) (k_ 66 rfl) (by decide) (backOf (W := 1) (rmtos l Z a0 hw [] y h0 n0 O0) hZ (k_ 67 rfl) (k_ 10 rfl) (by decide) (by decide)) e0 S_y.1 (by rw [hml]; rfl) (lenOf o_pd__28_29Ljava_2flang_2fString_3b rfl) rfl (Nat.le_of_eq rfl) (y_ oD11_2) (by decide) (by decide) (fun T1 L1 v1 X1 hQ1 => ?_)
  obtain ⟨rfl, N1q, hh1⟩ := hQ1
  have N1 := Fr.app N0 N1q
  show o_G p e below _ T1 (mkF m 7 #[vR x, vR y] [(.ref y), (.ref x)])
  refine o_vir (y := o_m7) (b := x) (argsL := [(.ref y)]) (S := []) (W := 0) X1 hx hZ hown (k_ 68 rfl) (k_ 69 rfl) (k_ 71 rfl) (k_ 70 rfl) (backOf (W := 0) (rmixs3_1 l Z a0 hw [] x y t u c0 c1 c2 d0 zC_ h0 n0 O0 S_x S_y SC_ hC_) hZ (k_ 72 rfl) (k_ 10 rfl) (by decide) (by decide)) hh1 S_x.1 hml (lenOf o_pd__28Ljava_2flang_2fString_3b_29I rfl) (y_ oD11_7) (fun T2 L2 v2 X2 hQ2 => ?_)
  obtain ⟨r2, rfl, N2q, hh2, hr2⟩ := hQ2
  have N2 := Fr.app N1 N2q
  show o_G p e below _ T2 (mkF m 10 #[vR x, vR y] [(.int r2)])
  refine o_iF (t := 17) X2 hx (y_ oD11_10) (fun hq => ?_) (fun hq => ?_)
  · have hc10 := o_h_lt.1 hq
    refine o_iconst X2 hx (y_ oD11_17) (x := 0) rfl ?_
    exact o_retN X2 hx (t := .boolean) hrt hlk (by simp) (y_ oD11_18) rfl (by decide) (by decide) (o_hQ hh2 ⟨by rw [if_neg (hr2.mp hc10)], N2, rfl⟩)
  have hc10 := o_h_lt.2 hq
  refine o_iconst X2 hx (y_ oD11_13) (x := 1) rfl ?_
  refine o_gO (t := 18) X2 hx (y_ oD11_14) ?_
  exact o_retN X2 hx (t := .boolean) hrt hlk (by simp) (y_ oD11_18) rfl (by decide) (by decide) (o_hQ hh2 ⟨by rw [if_pos (Classical.byContradiction fun q => hc10 (hr2.mpr q))], N2, rfl⟩)
abbrev Qixf3_2 (Z : State) (a : Addr) (b : Addr) (ka : ClassId) (kb : ClassId) (v0 : Int32) (v1 : Int32) (v2 : Int32) (s0 : Int32) (s1 : Int32) (h0 : Heap) (n0 : Nat) (v : Option Value) (h : Heap) (L : List Loc) : Prop := ∃ r : Int32, v = some (.int r) ∧ Fr n0 L ∧ h = h0 ∧ (r < 0 ↔ ¬ o_occ ([v0, v1, v2] : List Int32) ([s0, s1] : List Int32) = true)
set_option maxRecDepth 65536 in
set_option maxHeartbeats 40000000 in
theorem rmixf3_2 (l : Launch) (Z : State) (a0 : Array Value) (hw : ∀ d ∈ tables_1, d.before a0 Z = true) (ws : List Jvm.Cond) (a : Addr) (b : Addr) (ka : ClassId) (kb : ClassId) (v0 : Int32) (v1 : Int32) (v2 : Int32) (s0 : Int32) (s1 : Int32) (h0 : Heap) (n0 : Nat) (O0 : Old Z n0 h0) (V_a : Arv Z h0 a ka .byte (3 : Int32) [.int v0, .int v1, .int v2] (.int 0)) (V_b : Arv Z h0 b kb .byte (2 : Int32) [.int s0, .int s1] (.int 0)) :
    o_Met l Z o_m13 jdk_43_method_25_code 11 (some .int) ws o_R1 #[(.ref a), (.int 3), (.ref b), (.int 2), (.int 0)] h0 (Qixf3_2 Z a b ka kb v0 v1 v2 s0 s1 h0 n0) := by
  refine o_enter o_pn_4 (fun m => o_ef11 m a b) (fun p e s m below meth c s₁ hx hby hml hZ hown hnm hlk hrt X0 e0 => ?_)
  have N0 := Fr.nil n0
  have y_ := @hb _ _ hby
  have k_ := @o_k _ _ hw
  refine o_aloadN X0 hx (y_ oD12_0) rfl rfl ?_
  refine o_iconst X0 hx (y_ oD12_1) (x := 0) rfl ?_
  refine o_bload (v := (.int s0)) X0 hx hZ e0 V_b (y_ oD12_2) ⟨by decide, by decide⟩ rfl ?_
  refine o_istore X0 hx (y_ oD12_3) (A' := #[vR a, vI 3, vR b, vI 2, vI 0, vI s0, .unset, .unset, .unset, .unset, .unset]) rfl ?_
  refine o_iloadN X0 hx (y_ oD12_5) rfl ?_
  refine o_iloadN X0 hx (y_ oD12_6) rfl ?_
  refine o_isub X0 hx (y_ oD12_7) ?_
  refine o_valE (z := 1) (by decide) ?_
  refine o_istore X0 hx (y_ oD12_8) (A' := #[vR a, vI 3, vR b, vI 2, vI 0, vI s0, vI 1, .unset, .unset, .unset, .unset]) rfl ?_
  refine o_iload X0 hx (y_ oD12_10) rfl ?_
  refine o_istore X0 hx (y_ oD12_12) (A' := #[vR a, vI 3, vR b, vI 2, vI 0, vI s0, vI 1, vI 0, .unset, .unset, .unset]) rfl ?_
  refine o_iload X0 hx (y_ oD12_14) rfl ?_
  refine o_iload X0 hx (y_ oD12_16) rfl ?_
  refine o_iCF X0 hx (y_ oD12_18) ?_
  refine o_aloadN X0 hx (y_ oD12_21) rfl rfl ?_
  refine o_iload X0 hx (y_ oD12_22) rfl ?_
  refine o_bload (v := (.int v0)) X0 hx hZ e0 V_a (y_ oD12_24) ⟨by decide, by decide⟩ rfl ?_
  refine o_iload X0 hx (y_ oD12_25) rfl ?_
  refine o_iC (t := 52) X0 hx (y_ oD12_27) (fun hq => ?_) (fun hq => ?_)
  · have hc27_1 := o_c_eq.1 hq
    refine o_iload X0 hx (y_ oD12_52) rfl ?_
    refine o_iload X0 hx (y_ oD12_54) rfl ?_
    refine o_iCF X0 hx (y_ oD12_56) ?_
    refine o_iload X0 hx (y_ oD12_59) rfl ?_
    refine o_iconst X0 hx (y_ oD12_61) (x := 1) rfl ?_
    refine o_iadd X0 hx (y_ oD12_62) ?_
    refine o_valE (z := 1) (by decide) ?_
    refine o_istore X0 hx (y_ oD12_63) (A' := #[vR a, vI 3, vR b, vI 2, vI 0, vI s0, vI 1, vI 0, vI 1, .unset, .unset]) rfl ?_
    refine o_iload X0 hx (y_ oD12_65) rfl ?_
    refine o_iloadN X0 hx (y_ oD12_67) rfl ?_
    refine o_iadd X0 hx (y_ oD12_68) ?_
    refine o_valE (z := 3) (by decide) ?_
    refine o_iconst X0 hx (y_ oD12_69) (x := 1) rfl ?_
    refine o_isub X0 hx (y_ oD12_70) ?_
    refine o_valE (z := 2) (by decide) ?_
    refine o_istore X0 hx (y_ oD12_71) (A' := #[vR a, vI 3, vR b, vI 2, vI 0, vI s0, vI 1, vI 0, vI 1, vI 2, .unset]) rfl ?_
    refine o_iconst X0 hx (y_ oD12_73) (x := 1) rfl ?_
    refine o_istore X0 hx (y_ oD12_74) (A' := #[vR a, vI 3, vR b, vI 2, vI 0, vI s0, vI 1, vI 0, vI 1, vI 2, vI 1]) rfl ?_
    refine o_iload X0 hx (y_ oD12_76) rfl ?_
    refine o_iload X0 hx (y_ oD12_78) rfl ?_
    refine o_iCF X0 hx (y_ oD12_80) ?_
    refine o_aloadN X0 hx (y_ oD12_83) rfl rfl ?_
    refine o_iload X0 hx (y_ oD12_84) rfl ?_
    refine o_bload (v := (.int v1)) X0 hx hZ e0 V_a (y_ oD12_86) ⟨by decide, by decide⟩ rfl ?_
    refine o_aloadN X0 hx (y_ oD12_87) rfl rfl ?_
    refine o_iload X0 hx (y_ oD12_88) rfl ?_
    refine o_bload (v := (.int s1)) X0 hx hZ e0 V_b (y_ oD12_90) ⟨by decide, by decide⟩ rfl ?_
    refine o_iC (t := 103) X0 hx (y_ oD12_91) (fun hq => ?_) (fun hq => ?_)
    · have hc91_2 := o_c_ne.1 hq
      refine o_iload X0 hx (y_ oD12_103) rfl ?_
      refine o_iload X0 hx (y_ oD12_105) rfl ?_
      refine o_iCT (t := 113) X0 hx (y_ oD12_107) ?_
      refine o_iincK X0 hx (y_ oD12_113) (y := 1) rfl rfl (z := 1) (by decide) (A' := #[vR a, vI 3, vR b, vI 2, vI 0, vI s0, vI 1, vI 1, vI 1, vI 2, vI 1]) rfl ?_
      refine o_gO (t := 14) X0 hx (y_ oD12_116) ?_
      refine o_iload X0 hx (y_ oD12_14) rfl ?_
      refine o_iload X0 hx (y_ oD12_16) rfl ?_
      refine o_iCF X0 hx (y_ oD12_18) ?_
      refine o_aloadN X0 hx (y_ oD12_21) rfl rfl ?_
      refine o_iload X0 hx (y_ oD12_22) rfl ?_
      refine o_bload (v := (.int v1)) X0 hx hZ e0 V_a (y_ oD12_24) ⟨by decide, by decide⟩ rfl ?_
      refine o_iload X0 hx (y_ oD12_25) rfl ?_
      refine o_iC (t := 52) X0 hx (y_ oD12_27) (fun hq => ?_) (fun hq => ?_)
      · have hc27_3 := o_c_eq.1 hq
        refine o_iload X0 hx (y_ oD12_52) rfl ?_
        refine o_iload X0 hx (y_ oD12_54) rfl ?_
        refine o_iCF X0 hx (y_ oD12_56) ?_
        refine o_iload X0 hx (y_ oD12_59) rfl ?_
        refine o_iconst X0 hx (y_ oD12_61) (x := 1) rfl ?_
        refine o_iadd X0 hx (y_ oD12_62) ?_
        refine o_valE (z := 2) (by decide) ?_
        refine o_istore X0 hx (y_ oD12_63) (A' := #[vR a, vI 3, vR b, vI 2, vI 0, vI s0, vI 1, vI 1, vI 2, vI 2, vI 1]) rfl ?_
        refine o_iload X0 hx (y_ oD12_65) rfl ?_
        refine o_iloadN X0 hx (y_ oD12_67) rfl ?_
        refine o_iadd X0 hx (y_ oD12_68) ?_
        refine o_valE (z := 4) (by decide) ?_
        refine o_iconst X0 hx (y_ oD12_69) (x := 1) rfl ?_
        refine o_isub X0 hx (y_ oD12_70) ?_
        refine o_valE (z := 3) (by decide) ?_
        refine o_istore X0 hx (y_ oD12_71) (A' := #[vR a, vI 3, vR b, vI 2, vI 0, vI s0, vI 1, vI 1, vI 2, vI 3, vI 1]) rfl ?_
        refine o_iconst X0 hx (y_ oD12_73) (x := 1) rfl ?_
        refine o_istore X0 hx (y_ oD12_74) (A' := #[vR a, vI 3, vR b, vI 2, vI 0, vI s0, vI 1, vI 1, vI 2, vI 3, vI 1]) rfl ?_
        refine o_iload X0 hx (y_ oD12_76) rfl ?_
        refine o_iload X0 hx (y_ oD12_78) rfl ?_
        refine o_iCF X0 hx (y_ oD12_80) ?_
        refine o_aloadN X0 hx (y_ oD12_83) rfl rfl ?_
        refine o_iload X0 hx (y_ oD12_84) rfl ?_
        refine o_bload (v := (.int v2)) X0 hx hZ e0 V_a (y_ oD12_86) ⟨by decide, by decide⟩ rfl ?_
        refine o_aloadN X0 hx (y_ oD12_87) rfl rfl ?_
        refine o_iload X0 hx (y_ oD12_88) rfl ?_
        refine o_bload (v := (.int s1)) X0 hx hZ e0 V_b (y_ oD12_90) ⟨by decide, by decide⟩ rfl ?_
        refine o_iC (t := 103) X0 hx (y_ oD12_91) (fun hq => ?_) (fun hq => ?_)
        · have hc91_4 := o_c_ne.1 hq
          refine o_iload X0 hx (y_ oD12_103) rfl ?_
          refine o_iload X0 hx (y_ oD12_105) rfl ?_
          refine o_iCT (t := 113) X0 hx (y_ oD12_107) ?_
          refine o_iincK X0 hx (y_ oD12_113) (y := 1) rfl rfl (z := 2) (by decide) (A' := #[vR a, vI 3, vR b, vI 2, vI 0, vI s0, vI 1, vI 2, vI 2, vI 3, vI 1]) rfl ?_
          refine o_gO (t := 14) X0 hx (y_ oD12_116) ?_
          refine o_iload X0 hx (y_ oD12_14) rfl ?_
          refine o_iload X0 hx (y_ oD12_16) rfl ?_
          refine o_iCT (t := 119) X0 hx (y_ oD12_18) ?_
          refine o_iconst X0 hx (y_ oD12_119) (x := (-1 : Int32)) rfl ?_
          exact o_retI X0 hx hrt hlk (y_ oD12_120) (by decide) (by decide) (o_hQ e0 ⟨_, rfl, N0, rfl, (o_lf13 v0 v1 v2 s0 s1 hc27_1 hc91_2 hc27_3 hc91_4)⟩)
        have hc91_4 := o_c_ne.2 hq
        refine o_iincK X0 hx (y_ oD12_94) (y := 1) rfl rfl (z := 3) (by decide) (A' := #[vR a, vI 3, vR b, vI 2, vI 0, vI s0, vI 1, vI 1, vI 3, vI 3, vI 1]) rfl ?_
        refine o_iincK X0 hx (y_ oD12_97) (y := 1) rfl rfl (z := 2) (by decide) (A' := #[vR a, vI 3, vR b, vI 2, vI 0, vI s0, vI 1, vI 1, vI 3, vI 3, vI 2]) rfl ?_
        refine o_gO (t := 76) X0 hx (y_ oD12_100) ?_
        refine o_iload X0 hx (y_ oD12_76) rfl ?_
        refine o_iload X0 hx (y_ oD12_78) rfl ?_
        refine o_iCT (t := 103) X0 hx (y_ oD12_80) ?_
        refine o_iload X0 hx (y_ oD12_103) rfl ?_
        refine o_iload X0 hx (y_ oD12_105) rfl ?_
        refine o_iCF X0 hx (y_ oD12_107) ?_
        refine o_iload X0 hx (y_ oD12_110) rfl ?_
        exact o_retI X0 hx hrt hlk (y_ oD12_112) (by decide) (by decide) (o_hQ e0 ⟨_, rfl, N0, rfl, (o_lf14 v0 v1 v2 s0 s1 hc27_1 hc91_2 hc27_3 hc91_4)⟩)
      have hc27_3 := o_c_eq.2 hq
      refine o_iincK X0 hx (y_ oD12_30) (y := 1) rfl rfl (z := 2) (by decide) (A' := #[vR a, vI 3, vR b, vI 2, vI 0, vI s0, vI 1, vI 2, vI 1, vI 2, vI 1]) rfl ?_
      refine o_iload X0 hx (y_ oD12_33) rfl ?_
      refine o_iload X0 hx (y_ oD12_35) rfl ?_
      refine o_iCT (t := 52) X0 hx (y_ oD12_37) ?_
      refine o_iload X0 hx (y_ oD12_52) rfl ?_
      refine o_iload X0 hx (y_ oD12_54) rfl ?_
      refine o_iCT (t := 113) X0 hx (y_ oD12_56) ?_
      refine o_iincK X0 hx (y_ oD12_113) (y := 1) rfl rfl (z := 3) (by decide) (A' := #[vR a, vI 3, vR b, vI 2, vI 0, vI s0, vI 1, vI 3, vI 1, vI 2, vI 1]) rfl ?_
      refine o_gO (t := 14) X0 hx (y_ oD12_116) ?_
      refine o_iload X0 hx (y_ oD12_14) rfl ?_
      refine o_iload X0 hx (y_ oD12_16) rfl ?_
      refine o_iCT (t := 119) X0 hx (y_ oD12_18) ?_
      refine o_iconst X0 hx (y_ oD12_119) (x := (-1 : Int32)) rfl ?_
      exact o_retI X0 hx hrt hlk (y_ oD12_120) (by decide) (by decide) (o_hQ e0 ⟨_, rfl, N0, rfl, (o_lf15 v0 v1 v2 s0 s1 hc27_1 hc91_2 hc27_3)⟩)
    have hc91_2 := o_c_ne.2 hq
    refine o_iincK X0 hx (y_ oD12_94) (y := 1) rfl rfl (z := 2) (by decide) (A' := #[vR a, vI 3, vR b, vI 2, vI 0, vI s0, vI 1, vI 0, vI 2, vI 2, vI 1]) rfl ?_
    refine o_iincK X0 hx (y_ oD12_97) (y := 1) rfl rfl (z := 2) (by decide) (A' := #[vR a, vI 3, vR b, vI 2, vI 0, vI s0, vI 1, vI 0, vI 2, vI 2, vI 2]) rfl ?_
    refine o_gO (t := 76) X0 hx (y_ oD12_100) ?_
    refine o_iload X0 hx (y_ oD12_76) rfl ?_
    refine o_iload X0 hx (y_ oD12_78) rfl ?_
    refine o_iCT (t := 103) X0 hx (y_ oD12_80) ?_
    refine o_iload X0 hx (y_ oD12_103) rfl ?_
    refine o_iload X0 hx (y_ oD12_105) rfl ?_
    refine o_iCF X0 hx (y_ oD12_107) ?_
    refine o_iload X0 hx (y_ oD12_110) rfl ?_
    exact o_retI X0 hx hrt hlk (y_ oD12_112) (by decide) (by decide) (o_hQ e0 ⟨_, rfl, N0, rfl, (o_lf16 v0 v1 v2 s0 s1 hc27_1 hc91_2)⟩)
  have hc27_1 := o_c_eq.2 hq
  refine o_iincK X0 hx (y_ oD12_30) (y := 1) rfl rfl (z := 1) (by decide) (A' := #[vR a, vI 3, vR b, vI 2, vI 0, vI s0, vI 1, vI 1, .unset, .unset, .unset]) rfl ?_
  refine o_iload X0 hx (y_ oD12_33) rfl ?_
  refine o_iload X0 hx (y_ oD12_35) rfl ?_
  refine o_iCF X0 hx (y_ oD12_37) ?_
  refine o_aloadN X0 hx (y_ oD12_40) rfl rfl ?_
  refine o_iload X0 hx (y_ oD12_41) rfl ?_
  refine o_bload (v := (.int v1)) X0 hx hZ e0 V_a (y_ oD12_43) ⟨by decide, by decide⟩ rfl ?_
  refine o_iload X0 hx (y_ oD12_44) rfl ?_
  refine o_iC (t := 52) X0 hx (y_ oD12_46) (fun hq => ?_) (fun hq => ?_)
  · have hc46_5 := o_c_eq.1 hq
    refine o_iload X0 hx (y_ oD12_52) rfl ?_
    refine o_iload X0 hx (y_ oD12_54) rfl ?_
    refine o_iCF X0 hx (y_ oD12_56) ?_
    refine o_iload X0 hx (y_ oD12_59) rfl ?_
    refine o_iconst X0 hx (y_ oD12_61) (x := 1) rfl ?_
    refine o_iadd X0 hx (y_ oD12_62) ?_
    refine o_valE (z := 2) (by decide) ?_
    refine o_istore X0 hx (y_ oD12_63) (A' := #[vR a, vI 3, vR b, vI 2, vI 0, vI s0, vI 1, vI 1, vI 2, .unset, .unset]) rfl ?_
    refine o_iload X0 hx (y_ oD12_65) rfl ?_
    refine o_iloadN X0 hx (y_ oD12_67) rfl ?_
    refine o_iadd X0 hx (y_ oD12_68) ?_
    refine o_valE (z := 4) (by decide) ?_
    refine o_iconst X0 hx (y_ oD12_69) (x := 1) rfl ?_
    refine o_isub X0 hx (y_ oD12_70) ?_
    refine o_valE (z := 3) (by decide) ?_
    refine o_istore X0 hx (y_ oD12_71) (A' := #[vR a, vI 3, vR b, vI 2, vI 0, vI s0, vI 1, vI 1, vI 2, vI 3, .unset]) rfl ?_
    refine o_iconst X0 hx (y_ oD12_73) (x := 1) rfl ?_
    refine o_istore X0 hx (y_ oD12_74) (A' := #[vR a, vI 3, vR b, vI 2, vI 0, vI s0, vI 1, vI 1, vI 2, vI 3, vI 1]) rfl ?_
    refine o_iload X0 hx (y_ oD12_76) rfl ?_
    refine o_iload X0 hx (y_ oD12_78) rfl ?_
    refine o_iCF X0 hx (y_ oD12_80) ?_
    refine o_aloadN X0 hx (y_ oD12_83) rfl rfl ?_
    refine o_iload X0 hx (y_ oD12_84) rfl ?_
    refine o_bload (v := (.int v2)) X0 hx hZ e0 V_a (y_ oD12_86) ⟨by decide, by decide⟩ rfl ?_
    refine o_aloadN X0 hx (y_ oD12_87) rfl rfl ?_
    refine o_iload X0 hx (y_ oD12_88) rfl ?_
    refine o_bload (v := (.int s1)) X0 hx hZ e0 V_b (y_ oD12_90) ⟨by decide, by decide⟩ rfl ?_
    refine o_iC (t := 103) X0 hx (y_ oD12_91) (fun hq => ?_) (fun hq => ?_)
    · have hc91_6 := o_c_ne.1 hq
      refine o_iload X0 hx (y_ oD12_103) rfl ?_
      refine o_iload X0 hx (y_ oD12_105) rfl ?_
      refine o_iCT (t := 113) X0 hx (y_ oD12_107) ?_
      refine o_iincK X0 hx (y_ oD12_113) (y := 1) rfl rfl (z := 2) (by decide) (A' := #[vR a, vI 3, vR b, vI 2, vI 0, vI s0, vI 1, vI 2, vI 2, vI 3, vI 1]) rfl ?_
      refine o_gO (t := 14) X0 hx (y_ oD12_116) ?_
      refine o_iload X0 hx (y_ oD12_14) rfl ?_
      refine o_iload X0 hx (y_ oD12_16) rfl ?_
      refine o_iCT (t := 119) X0 hx (y_ oD12_18) ?_
      refine o_iconst X0 hx (y_ oD12_119) (x := (-1 : Int32)) rfl ?_
      exact o_retI X0 hx hrt hlk (y_ oD12_120) (by decide) (by decide) (o_hQ e0 ⟨_, rfl, N0, rfl, (o_lf17 v0 v1 v2 s0 s1 hc27_1 hc46_5 hc91_6)⟩)
    have hc91_6 := o_c_ne.2 hq
    refine o_iincK X0 hx (y_ oD12_94) (y := 1) rfl rfl (z := 3) (by decide) (A' := #[vR a, vI 3, vR b, vI 2, vI 0, vI s0, vI 1, vI 1, vI 3, vI 3, vI 1]) rfl ?_
    refine o_iincK X0 hx (y_ oD12_97) (y := 1) rfl rfl (z := 2) (by decide) (A' := #[vR a, vI 3, vR b, vI 2, vI 0, vI s0, vI 1, vI 1, vI 3, vI 3, vI 2]) rfl ?_
    refine o_gO (t := 76) X0 hx (y_ oD12_100) ?_
    refine o_iload X0 hx (y_ oD12_76) rfl ?_
    refine o_iload X0 hx (y_ oD12_78) rfl ?_
    refine o_iCT (t := 103) X0 hx (y_ oD12_80) ?_
    refine o_iload X0 hx (y_ oD12_103) rfl ?_
    refine o_iload X0 hx (y_ oD12_105) rfl ?_
    refine o_iCF X0 hx (y_ oD12_107) ?_
    refine o_iload X0 hx (y_ oD12_110) rfl ?_
    exact o_retI X0 hx hrt hlk (y_ oD12_112) (by decide) (by decide) (o_hQ e0 ⟨_, rfl, N0, rfl, (o_lf18 v0 v1 v2 s0 s1 hc27_1 hc46_5 hc91_6)⟩)
  have hc46_5 := o_c_eq.2 hq
  refine o_gO (t := 30) X0 hx (y_ oD12_49) ?_
  refine o_iincK X0 hx (y_ oD12_30) (y := 1) rfl rfl (z := 2) (by decide) (A' := #[vR a, vI 3, vR b, vI 2, vI 0, vI s0, vI 1, vI 2, .unset, .unset, .unset]) rfl ?_
  refine o_iload X0 hx (y_ oD12_33) rfl ?_
  refine o_iload X0 hx (y_ oD12_35) rfl ?_
  refine o_iCT (t := 52) X0 hx (y_ oD12_37) ?_
  refine o_iload X0 hx (y_ oD12_52) rfl ?_
  refine o_iload X0 hx (y_ oD12_54) rfl ?_
  refine o_iCT (t := 113) X0 hx (y_ oD12_56) ?_
  refine o_iincK X0 hx (y_ oD12_113) (y := 1) rfl rfl (z := 3) (by decide) (A' := #[vR a, vI 3, vR b, vI 2, vI 0, vI s0, vI 1, vI 3, .unset, .unset, .unset]) rfl ?_
  refine o_gO (t := 14) X0 hx (y_ oD12_116) ?_
  refine o_iload X0 hx (y_ oD12_14) rfl ?_
  refine o_iload X0 hx (y_ oD12_16) rfl ?_
  refine o_iCT (t := 119) X0 hx (y_ oD12_18) ?_
  refine o_iconst X0 hx (y_ oD12_119) (x := (-1 : Int32)) rfl ?_
  exact o_retI X0 hx hrt hlk (y_ oD12_120) (by decide) (by decide) (o_hQ e0 ⟨_, rfl, N0, rfl, (o_lf19 v0 v1 v2 s0 s1 hc27_1 hc46_5)⟩)
abbrev Qixt3_2 (Z : State) (a : Addr) (b : Addr) (ka : ClassId) (kb : ClassId) (v0 : Int32) (v1 : Int32) (v2 : Int32) (s0 : Int32) (s1 : Int32) (h0 : Heap) (n0 : Nat) (v : Option Value) (h : Heap) (L : List Loc) : Prop := ∃ r : Int32, v = some (.int r) ∧ Fr n0 L ∧ h = h0 ∧ (r < 0 ↔ ¬ o_occ ([v0, v1, v2] : List Int32) ([s0, s1] : List Int32) = true)
set_option maxRecDepth 65536 in
set_option maxHeartbeats 40000000 in
theorem rmixt3_2 (l : Launch) (Z : State) (a0 : Array Value) (hw : ∀ d ∈ tables_1, d.before a0 Z = true) (ws : List Jvm.Cond) (a : Addr) (b : Addr) (ka : ClassId) (kb : ClassId) (v0 : Int32) (v1 : Int32) (v2 : Int32) (s0 : Int32) (s1 : Int32) (h0 : Heap) (n0 : Nat) (O0 : Old Z n0 h0) (V_a : Arv Z h0 a ka .byte (3 : Int32) [.int v0, .int v1, .int v2] (.int 0)) (V_b : Arv Z h0 b kb .byte (2 : Int32) [.int s0, .int s1] (.int 0)) :
    o_Met l Z o_m6 jdk_43_method_24_code 2 (some .int) ws o_R4 #[(.ref a), (.ref b)] h0 (Qixt3_2 Z a b ka kb v0 v1 v2 s0 s1 h0 n0) := by
  refine o_enter o_pn_4 (fun m => o_ef1 m a b) (fun p e s m below meth c s₁ hx hby hml hZ hown hnm hlk hrt X0 e0 => ?_)
  have N0 := Fr.nil n0
  have y_ := @hb _ _ hby
  have k_ := @o_k _ _ hw
  refine o_aloadN X0 hx (y_ oD6_0) rfl rfl ?_
  refine o_alen (n := 2) X0 hx hZ e0 V_b (y_ oD6_1) ?_
  refine o_iFT (t := 7) X0 hx (y_ oD6_2) ?_
  refine o_aloadN X0 hx (y_ oD6_7) rfl rfl ?_
  refine o_alen (n := 3) X0 hx hZ e0 V_a (y_ oD6_8) ?_
  refine o_iFT (t := 14) X0 hx (y_ oD6_9) ?_
  refine o_aloadN X0 hx (y_ oD6_14) rfl rfl ?_
  refine o_aloadN X0 hx (y_ oD6_15) rfl rfl ?_
  refine o_alen (n := 3) X0 hx hZ e0 V_a (y_ oD6_16) ?_
  refine o_aloadN X0 hx (y_ oD6_17) rfl rfl ?_
  refine o_aloadN X0 hx (y_ oD6_18) rfl rfl ?_
  refine o_alen (n := 2) X0 hx hZ e0 V_b (y_ oD6_19) ?_
  refine o_iconst X0 hx (y_ oD6_20) (x := 0) rfl ?_
  refine o_sta (y := o_m13) (argsL := [(.ref a), (.int 3), (.ref b), (.int 2), (.int 0)]) (S := []) (W := 0) X0 hx hZ hown (k_ 87 rfl) (k_ 88 rfl) (k_ 85 rfl) (k_ 89 rfl) (backOf (W := 0) (rmixf3_2 l Z a0 hw [] a b ka kb v0 v1 v2 s0 s1 h0 n0 O0 V_a V_b) hZ (k_ 89 rfl) (k_ 85 rfl) (by decide) (by decide)) e0 hml (lenOf o_pd__28_5bBI_5bBII_29I rfl) (y_ oD6_21) (fun T1 L1 v1 X1 hQ1 => ?_)
  obtain ⟨r1, rfl, N1q, hh1, hr1⟩ := hQ1
  have N1 := Fr.app N0 N1q
  show o_G p e below _ T1 (mkF m 24 #[vR a, vR b] [(.int r1)])
  exact o_retI X1 hx hrt hlk (y_ oD6_24) (by decide) (by decide) (o_hQ hh1 ⟨_, rfl, N1, rfl, hr1⟩)
abbrev Qixs3_2 (Z : State) (x : Addr) (y : Addr) (t : Addr) (u : Addr) (c0 : Int32) (c1 : Int32) (c2 : Int32) (d0 : Int32) (d1 : Int32) (zC_ : Int32) (h0 : Heap) (n0 : Nat) (v : Option Value) (h : Heap) (L : List Loc) : Prop := ∃ r : Int32, v = some (.int r) ∧ Fr n0 L ∧ h = h0 ∧ (r < 0 ↔ ¬ o_occ ([c0, c1, c2] : List Int32) ([d0, d1] : List Int32) = true)
set_option maxRecDepth 65536 in
set_option maxHeartbeats 40000000 in
theorem rmixs3_2 (l : Launch) (Z : State) (a0 : Array Value) (hw : ∀ d ∈ tables_1, d.before a0 Z = true) (ws : List Jvm.Cond) (x : Addr) (y : Addr) (t : Addr) (u : Addr) (c0 : Int32) (c1 : Int32) (c2 : Int32) (d0 : Int32) (d1 : Int32) (zC_ : Int32) (h0 : Heap) (n0 : Nat) (O0 : Old Z n0 h0) (S_x : o_Str Z h0 x t ([c0, c1, c2] : List Int32)) (S_y : o_Str Z h0 y u ([d0, d1] : List Int32)) (SC_ : o_SC Z zC_) (hC_ : ¬ zC_ = 0) :
    o_Met l Z o_m7 jdk_42_method_84_code 3 (some .int) ws o_R5 #[(.ref x), (.ref y)] h0 (Qixs3_2 Z x y t u c0 c1 c2 d0 d1 zC_ h0 n0) := by
  refine o_enter o_pn_3 (fun m => o_ef5 m x y) (fun p e s m below meth c s₁ hx hby hml hZ hown hnm hlk hrt X0 e0 => ?_)
  have N0 := Fr.nil n0
  have y_ := @hb _ _ hby
  have k_ := @o_k _ _ hw
  refine o_aloadN X0 hx (y_ oD9_0) rfl rfl ?_
  refine o_vir (y := o_m8) (b := x) (argsL := []) (S := []) (W := 0) X0 hx hZ hown (k_ 73 rfl) (k_ 74 rfl) (k_ 76 rfl) (k_ 75 rfl) (backOf (W := 0) (rmcod l Z a0 hw [] x zC_ h0 n0 O0 S_x.2.1 SC_ hC_) hZ (k_ 77 rfl) (k_ 10 rfl) (by decide) (by decide)) e0 S_x.1 hml (lenOf o_pd__28_29B rfl) (y_ oD9_1) (fun T1 L1 v1 X1 hQ1 => ?_)
  obtain ⟨rfl, N1q, hh1⟩ := hQ1
  have N1 := Fr.app N0 N1q
  show o_G p e below _ T1 (mkF m 4 #[vR x, vR y, .unset] [(.int 0)])
  refine o_istoreN X1 hx (y_ oD9_4) (A' := #[vR x, vR y, vI 0]) rfl ?_
  refine o_iloadN X1 hx (y_ oD9_5) rfl ?_
  refine o_aloadN X1 hx (y_ oD9_6) rfl rfl ?_
  refine o_vir (y := o_m8) (b := y) (argsL := []) (S := [(.int 0)]) (W := 1) X1 hx hZ hown (k_ 73 rfl) (k_ 74 rfl) (k_ 76 rfl) (k_ 75 rfl) (backOf (W := 1) (rmcod l Z a0 hw [] y zC_ h0 n0 O0 S_y.2.1 SC_ hC_) hZ (k_ 77 rfl) (k_ 10 rfl) (by decide) (by decide)) hh1 S_y.1 hml (lenOf o_pd__28_29B rfl) (y_ oD9_7) (fun T2 L2 v2 X2 hQ2 => ?_)
  obtain ⟨rfl, N2q, hh2⟩ := hQ2
  have N2 := Fr.app N1 N2q
  show o_G p e below _ T2 (mkF m 10 #[vR x, vR y, vI 0] [(.int 0), (.int 0)])
  refine o_iCF X2 hx (y_ oD9_10) ?_
  refine o_aloadN X2 hx (y_ oD9_13) rfl rfl ?_
  refine o_vir (y := o_m9) (b := x) (argsL := []) (S := []) (W := 0) X2 hx hZ hown (k_ 78 rfl) (k_ 79 rfl) (k_ 81 rfl) (k_ 80 rfl) (backOf (W := 0) (rmisl l Z a0 hw [] x zC_ h0 n0 O0 S_x.2.1 SC_ hC_) hZ (k_ 82 rfl) (k_ 10 rfl) (by decide) (by decide)) hh2 S_x.1 hml (lenOf o_pd__28_29Z rfl) (y_ oD9_14) (fun T3 L3 v3 X3 hQ3 => ?_)
  obtain ⟨rfl, N3q, hh3⟩ := hQ3
  have N3 := Fr.app N2 N3q
  show o_G p e below _ T3 (mkF m 17 #[vR x, vR y, vI 0] [(.int 1)])
  refine o_iFF X3 hx (y_ oD9_17) ?_
  obtain ⟨kb4, Bv4⟩ := S_x.2.2.2.1
  have Bw4 : Arv Z h0 t kb4 .byte (3 : Int32) [.int c0.toInt8.toInt32, .int c1.toInt8.toInt32, .int c2.toInt8.toInt32] (.int 0) := Bv4
  obtain ⟨kb5, Bv5⟩ := S_y.2.2.2.1
  have Bw5 : Arv Z h0 u kb5 .byte (2 : Int32) [.int d0.toInt8.toInt32, .int d1.toInt8.toInt32] (.int 0) := Bv5
  refine o_aloadN X3 hx (y_ oD9_20) rfl rfl ?_
  refine o_getF X3 hx hZ hown (host := "") (Or.inl (k_ 35 rfl)) Via.refl hh3 S_x.2.2.1 (y_ oD9_21) (fun T6 X6 e6 => ?_)
  refine o_aloadN X6 hx (y_ oD9_24) rfl rfl ?_
  refine o_getF X6 hx hZ hown (host := "") (Or.inl (k_ 35 rfl)) Via.refl e6 S_y.2.2.1 (y_ oD9_25) (fun T7 X7 e7 => ?_)
  refine o_sta (y := o_m6) (argsL := [(.ref t), (.ref u)]) (S := []) (W := 0) X7 hx hZ hown (k_ 83 rfl) (k_ 84 rfl) (k_ 85 rfl) (k_ 86 rfl) (backOf (W := 0) (rmixt3_2 l Z a0 hw [] t u kb4 kb5 (c0.toInt8.toInt32) (c1.toInt8.toInt32) (c2.toInt8.toInt32) (d0.toInt8.toInt32) (d1.toInt8.toInt32) h0 n0 O0 Bw4 Bw5) hZ (k_ 86 rfl) (k_ 85 rfl) (by decide) (by decide)) e7 hml (lenOf o_pd__28_5bB_5bB_29I rfl) (y_ oD9_28) (fun T8 L8 v8 X8 hQ8 => ?_)
  obtain ⟨r8, rfl, N8q, hh8, hr8⟩ := hQ8
  have N8 := Fr.app N3 N8q
  show o_G p e below _ T8 (mkF m 31 #[vR x, vR y, vI 0] [(.int r8)])
  refine o_gO (t := 45) X8 hx (y_ oD9_31) ?_
  exact o_retI X8 hx hrt hlk (y_ oD9_45) (by decide) (by decide) (o_hQ hh8 ⟨_, rfl, N8, rfl, by rw [← o_occ_b ([c0, c1, c2] : List Int32) ([d0, d1] : List Int32) S_x.2.2.2.2.1 S_y.2.2.2.2.1]; exact hr8⟩)
abbrev Qcon3_2 (Z : State) (x : Addr) (y : Addr) (t : Addr) (u : Addr) (c0 : Int32) (c1 : Int32) (c2 : Int32) (d0 : Int32) (d1 : Int32) (zC_ : Int32) (h0 : Heap) (n0 : Nat) (v : Option Value) (h : Heap) (L : List Loc) : Prop := v = some (.int (if o_occ ([c0, c1, c2] : List Int32) ([d0, d1] : List Int32) = true then 1 else 0)) ∧ Fr n0 L ∧ h = h0
set_option maxRecDepth 65536 in
set_option maxHeartbeats 40000000 in
theorem rmcon3_2 (l : Launch) (Z : State) (a0 : Array Value) (hw : ∀ d ∈ tables_1, d.before a0 Z = true) (ws : List Jvm.Cond) (x : Addr) (y : Addr) (t : Addr) (u : Addr) (c0 : Int32) (c1 : Int32) (c2 : Int32) (d0 : Int32) (d1 : Int32) (zC_ : Int32) (h0 : Heap) (n0 : Nat) (O0 : Old Z n0 h0) (S_x : o_Str Z h0 x t ([c0, c1, c2] : List Int32)) (S_y : o_Str Z h0 y u ([d0, d1] : List Int32)) (SC_ : o_SC Z zC_) (hC_ : ¬ zC_ = 0) :
    o_Met l Z o_m10 jdk_42_method_97_code 2 (some .boolean) ws o_R6 #[(.ref x), (.ref y)] h0 (Qcon3_2 Z x y t u c0 c1 c2 d0 d1 zC_ h0 n0) := by
  refine o_enter o_pn_3 (fun m => o_ef1 m x y) (fun p e s m below meth c s₁ hx hby hml hZ hown hnm hlk hrt X0 e0 => ?_)
  have N0 := Fr.nil n0
  have y_ := @hb _ _ hby
  have k_ := @o_k _ _ hw
  refine o_aloadN X0 hx (y_ oD11_0) rfl rfl ?_
  refine o_aloadN X0 hx (y_ oD11_1) rfl rfl ?_
  refine o_iface (xi := o_m12) (y := o_m11) (b := y) (argsL := []) (S := [(.ref x)]) (W := 1) X0 hx hZ hown (k_ 59 rfl) (k_ 60 rfl) (mvT hZ (k_ 61 rfl)) (k_ 62 rfl) (k_ 63 rfl) (k_ 64 rfl) (k_ 65 rfl) (k_ 66 rfl) (by decide) (backOf (W := 1) (rmtos l Z a0 hw [] y h0 n0 O0) hZ (k_ 67 rfl) (k_ 10 rfl) (by decide) (by decide)) e0 S_y.1 (by rw [hml]; rfl) (lenOf o_pd__28_29Ljava_2flang_2fString_3b rfl) rfl (Nat.le_of_eq rfl) (y_ oD11_2) (by decide) (by decide) (fun T1 L1 v1 X1 hQ1 => ?_)
  obtain ⟨rfl, N1q, hh1⟩ := hQ1
  have N1 := Fr.app N0 N1q
  show o_G p e below _ T1 (mkF m 7 #[vR x, vR y] [(.ref y), (.ref x)])
  refine o_vir (y := o_m7) (b := x) (argsL := [(.ref y)]) (S := []) (W := 0) X1 hx hZ hown (k_ 68 rfl) (k_ 69 rfl) (k_ 71 rfl) (k_ 70 rfl) (backOf (W := 0) (rmixs3_2 l Z a0 hw [] x y t u c0 c1 c2 d0 d1 zC_ h0 n0 O0 S_x S_y SC_ hC_) hZ (k_ 72 rfl) (k_ 10 rfl) (by decide) (by decide)) hh1 S_x.1 hml (lenOf o_pd__28Ljava_2flang_2fString_3b_29I rfl) (y_ oD11_7) (fun T2 L2 v2 X2 hQ2 => ?_)
  obtain ⟨r2, rfl, N2q, hh2, hr2⟩ := hQ2
  have N2 := Fr.app N1 N2q
  show o_G p e below _ T2 (mkF m 10 #[vR x, vR y] [(.int r2)])
  refine o_iF (t := 17) X2 hx (y_ oD11_10) (fun hq => ?_) (fun hq => ?_)
  · have hc10 := o_h_lt.1 hq
    refine o_iconst X2 hx (y_ oD11_17) (x := 0) rfl ?_
    exact o_retN X2 hx (t := .boolean) hrt hlk (by simp) (y_ oD11_18) rfl (by decide) (by decide) (o_hQ hh2 ⟨by rw [if_neg (hr2.mp hc10)], N2, rfl⟩)
  have hc10 := o_h_lt.2 hq
  refine o_iconst X2 hx (y_ oD11_13) (x := 1) rfl ?_
  refine o_gO (t := 18) X2 hx (y_ oD11_14) ?_
  exact o_retN X2 hx (t := .boolean) hrt hlk (by simp) (y_ oD11_18) rfl (by decide) (by decide) (o_hQ hh2 ⟨by rw [if_pos (Classical.byContradiction fun q => hc10 (hr2.mpr q))], N2, rfl⟩)
abbrev Qmis0_0_0 (Z : State) (a : Addr) (b : Addr) (ka : ClassId) (kb : ClassId) (h0 : Heap) (n0 : Nat) (v : Option Value) (h : Heap) (L : List Loc) : Prop := ∃ r : Int32, v = some (.int r) ∧ Fr n0 L ∧ h = h0 ∧ (r < 0 ↔ o_pref ([] : List Int32) ([] : List Int32) = true)
set_option maxRecDepth 65536 in
set_option maxHeartbeats 40000000 in
theorem rmmis0_0_0 (l : Launch) (Z : State) (a0 : Array Value) (hw : ∀ d ∈ tables_1, d.before a0 Z = true) (ws : List Jvm.Cond) (a : Addr) (b : Addr) (ka : ClassId) (kb : ClassId) (h0 : Heap) (n0 : Nat) (O0 : Old Z n0 h0) (V_a : Arv Z h0 a ka .byte (0 : Int32) [] (.int 0)) (V_b : Arv Z h0 b kb .byte (0 : Int32) [] (.int 0)) :
    o_Met l Z o_m14 jdk_48_method_14_code 8 (some .int) ws o_R1 #[(.ref a), (.int 0), (.ref b), (.int 0), (.int 0)] h0 (Qmis0_0_0 Z a b ka kb h0 n0) := by
  refine o_enter o_pn_5 (fun m => o_ef12 m a b) (fun p e s m below meth c s₁ hx hby hml hZ hown hnm hlk hrt X0 e0 => ?_)
  have N0 := Fr.nil n0
  have y_ := @hb _ _ hby
  have k_ := @o_k _ _ hw
  refine o_iconst X0 hx (y_ oD13_0) (x := 0) rfl ?_
  refine o_istore X0 hx (y_ oD13_1) (A' := #[vR a, vI 0, vR b, vI 0, vI 0, vI 0, .unset, .unset]) rfl ?_
  refine o_iload X0 hx (y_ oD13_3) rfl ?_
  refine o_bipush X0 hx (y_ oD13_5) (x := 7) rfl ?_
  refine o_iCT (t := 70) X0 hx (y_ oD13_7) ?_
  refine o_iload X0 hx (y_ oD13_70) rfl ?_
  refine o_iload X0 hx (y_ oD13_72) rfl ?_
  refine o_iCT (t := 101) X0 hx (y_ oD13_74) ?_
  refine o_iconst X0 hx (y_ oD13_101) (x := (-1 : Int32)) rfl ?_
  exact o_retI X0 hx hrt hlk (y_ oD13_102) (by decide) (by decide) (o_hQ e0 ⟨_, rfl, N0, rfl, (o_lf20)⟩)
abbrev Qsw0_0_0 (Z : State) (x : Addr) (y : Addr) (t : Addr) (u : Addr) (zC_ : Int32) (h0 : Heap) (n0 : Nat) (v : Option Value) (h : Heap) (L : List Loc) : Prop := v = some (.int (if o_pref ([] : List Int32) ([] : List Int32) = true then 1 else 0)) ∧ Fr n0 L ∧ h = h0
set_option maxRecDepth 65536 in
set_option maxHeartbeats 40000000 in
theorem rmsw0_0_0 (l : Launch) (Z : State) (a0 : Array Value) (hw : ∀ d ∈ tables_1, d.before a0 Z = true) (ws : List Jvm.Cond) (x : Addr) (y : Addr) (t : Addr) (u : Addr) (zC_ : Int32) (h0 : Heap) (n0 : Nat) (O0 : Old Z n0 h0) (S_x : o_Str Z h0 x t ([] : List Int32)) (S_y : o_Str Z h0 y u ([] : List Int32)) (SC_ : o_SC Z zC_) (hC_ : ¬ zC_ = 0) :
    o_Met l Z o_m15 jdk_42_method_75_code 8 (some .boolean) ws o_R5 #[(.ref x), (.ref y), (.int 0)] h0 (Qsw0_0_0 Z x y t u zC_ h0 n0) := by
  refine o_enter o_pn_3 (fun m => o_ef13 m x y) (fun p e s m below meth c s₁ hx hby hml hZ hown hnm hlk hrt X0 e0 => ?_)
  have N0 := Fr.nil n0
  have y_ := @hb _ _ hby
  have k_ := @o_k _ _ hw
  refine o_iloadN X0 hx (y_ oD14_0) rfl ?_
  refine o_iFF X0 hx (y_ oD14_1) ?_
  refine o_iloadN X0 hx (y_ oD14_4) rfl ?_
  refine o_aloadN X0 hx (y_ oD14_5) rfl rfl ?_
  refine o_vir (y := o_m16) (b := x) (argsL := []) (S := [(.int 0)]) (W := 1) X0 hx hZ hown (k_ 112 rfl) (k_ 113 rfl) (k_ 115 rfl) (k_ 114 rfl) (o_lenB (W := 1) hZ hw (k_ 9 rfl) O0 S_x SC_ hC_ (by decide) (by decide)) e0 S_x.1 hml (lenOf o_pd__28_29I rfl) (y_ oD14_6) (fun T1 L1 v1 X1 hQ1 => ?_)
  obtain ⟨rfl, rfl, hh1⟩ := hQ1
  have N1 := Fr.app N0 (Fr.nil n0)
  show o_G p e below _ T1 (mkF m 9 #[vR x, vR y, vI 0, .unset, .unset, .unset, .unset, .unset] [(.int 0), (.int 0)])
  refine o_aloadN X1 hx (y_ oD14_9) rfl rfl ?_
  refine o_vir (y := o_m16) (b := y) (argsL := []) (S := [(.int 0), (.int 0)]) (W := 2) X1 hx hZ hown (k_ 112 rfl) (k_ 113 rfl) (k_ 115 rfl) (k_ 114 rfl) (o_lenB (W := 2) hZ hw (k_ 9 rfl) O0 S_y SC_ hC_ (by decide) (by decide)) hh1 S_y.1 hml (lenOf o_pd__28_29I rfl) (y_ oD14_10) (fun T2 L2 v2 X2 hQ2 => ?_)
  obtain ⟨rfl, rfl, hh2⟩ := hQ2
  have N2 := Fr.app N1 (Fr.nil n0)
  show o_G p e below _ T2 (mkF m 13 #[vR x, vR y, vI 0, .unset, .unset, .unset, .unset, .unset] [(.int 0), (.int 0), (.int 0)])
  refine o_isub X2 hx (y_ oD14_13) ?_
  refine o_valE (z := 0) (by decide) ?_
  refine o_iCT (t := 19) X2 hx (y_ oD14_14) ?_
  obtain ⟨kb3, Bv3⟩ := S_x.2.2.2.1
  have Bw3 : Arv Z h0 t kb3 .byte (0 : Int32) [] (.int 0) := Bv3
  obtain ⟨kb4, Bv4⟩ := S_y.2.2.2.1
  have Bw4 : Arv Z h0 u kb4 .byte (0 : Int32) [] (.int 0) := Bv4
  refine o_aloadN X2 hx (y_ oD14_19) rfl rfl ?_
  refine o_getF X2 hx hZ hown (host := "") (Or.inl (k_ 35 rfl)) Via.refl hh2 S_x.2.2.1 (y_ oD14_20) (fun T5 X5 e5 => ?_)
  refine o_astoreN X5 hx (y_ oD14_23) rfl (A' := #[vR x, vR y, vI 0, vR t, .unset, .unset, .unset, .unset]) rfl ?_
  refine o_aloadN X5 hx (y_ oD14_24) rfl rfl ?_
  refine o_getF X5 hx hZ hown (host := "") (Or.inl (k_ 35 rfl)) Via.refl e5 S_y.2.2.1 (y_ oD14_25) (fun T6 X6 e6 => ?_)
  refine o_astore X6 hx (y_ oD14_28) rfl (A' := #[vR x, vR y, vI 0, vR t, vR u, .unset, .unset, .unset]) rfl ?_
  refine o_iconst X6 hx (y_ oD14_30) (x := 0) rfl ?_
  refine o_istore X6 hx (y_ oD14_31) (A' := #[vR x, vR y, vI 0, vR t, vR u, vI 0, .unset, .unset]) rfl ?_
  refine o_aload X6 hx (y_ oD14_33) rfl rfl ?_
  refine o_alen (n := 0) X6 hx hZ e6 Bw4 (y_ oD14_35) ?_
  refine o_istore X6 hx (y_ oD14_36) (A' := #[vR x, vR y, vI 0, vR t, vR u, vI 0, vI 0, .unset]) rfl ?_
  refine o_aloadN X6 hx (y_ oD14_38) rfl rfl ?_
  refine o_vir (y := o_m8) (b := x) (argsL := []) (S := []) (W := 0) X6 hx hZ hown (k_ 73 rfl) (k_ 74 rfl) (k_ 76 rfl) (k_ 75 rfl) (backOf (W := 0) (rmcod l Z a0 hw [] x zC_ h0 n0 O0 S_x.2.1 SC_ hC_) hZ (k_ 77 rfl) (k_ 10 rfl) (by decide) (by decide)) e6 S_x.1 hml (lenOf o_pd__28_29B rfl) (y_ oD14_39) (fun T7 L7 v7 X7 hQ7 => ?_)
  obtain ⟨rfl, N7q, hh7⟩ := hQ7
  have N7 := Fr.app N2 N7q
  show o_G p e below _ T7 (mkF m 42 #[vR x, vR y, vI 0, vR t, vR u, vI 0, vI 0, .unset] [(.int 0)])
  refine o_istore X7 hx (y_ oD14_42) (A' := #[vR x, vR y, vI 0, vR t, vR u, vI 0, vI 0, vI 0]) rfl ?_
  refine o_iload X7 hx (y_ oD14_44) rfl ?_
  refine o_aloadN X7 hx (y_ oD14_46) rfl rfl ?_
  refine o_vir (y := o_m8) (b := y) (argsL := []) (S := [(.int 0)]) (W := 1) X7 hx hZ hown (k_ 73 rfl) (k_ 74 rfl) (k_ 76 rfl) (k_ 75 rfl) (backOf (W := 1) (rmcod l Z a0 hw [] y zC_ h0 n0 O0 S_y.2.1 SC_ hC_) hZ (k_ 77 rfl) (k_ 10 rfl) (by decide) (by decide)) hh7 S_y.1 hml (lenOf o_pd__28_29B rfl) (y_ oD14_47) (fun T8 L8 v8 X8 hQ8 => ?_)
  obtain ⟨rfl, N8q, hh8⟩ := hQ8
  have N8 := Fr.app N7 N8q
  show o_G p e below _ T8 (mkF m 50 #[vR x, vR y, vI 0, vR t, vR u, vI 0, vI 0, vI 0] [(.int 0), (.int 0)])
  refine o_iCF X8 hx (y_ oD14_50) ?_
  refine o_iload X8 hx (y_ oD14_53) rfl ?_
  refine o_iconst X8 hx (y_ oD14_55) (x := 1) rfl ?_
  refine o_iCT (t := 63) X8 hx (y_ oD14_56) ?_
  refine o_aloadN X8 hx (y_ oD14_63) rfl rfl ?_
  refine o_iloadN X8 hx (y_ oD14_64) rfl ?_
  refine o_aload X8 hx (y_ oD14_65) rfl rfl ?_
  refine o_iconst X8 hx (y_ oD14_67) (x := 0) rfl ?_
  refine o_iload X8 hx (y_ oD14_68) rfl ?_
  refine o_sta (y := o_m14) (argsL := [(.ref t), (.int 0), (.ref u), (.int 0), (.int 0)]) (S := []) (W := 0) X8 hx hZ hown (k_ 125 rfl) (k_ 126 rfl) (k_ 127 rfl) (k_ 128 rfl) (backOf (W := 0) (rmmis0_0_0 l Z a0 hw [] t u kb3 kb4  h0 n0 O0 Bw3 Bw4) hZ (k_ 128 rfl) (k_ 127 rfl) (by decide) (by decide)) hh8 hml (lenOf o_pd__28_5bBI_5bBII_29I rfl) (y_ oD14_70) (fun T9 L9 v9 X9 hQ9 => ?_)
  obtain ⟨r9, rfl, N9q, hh9, hr9⟩ := hQ9
  have N9 := Fr.app N8 N9q
  show o_G p e below _ T9 (mkF m 73 #[vR x, vR y, vI 0, vR t, vR u, vI 0, vI 0, vI 0] [(.int r9)])
  refine o_iF (t := 80) X9 hx (y_ oD14_73) (fun hq => ?_) (fun hq => ?_)
  · have hc73 := o_h_ge.1 hq
    refine o_iconst X9 hx (y_ oD14_80) (x := 0) rfl ?_
    exact o_retN X9 hx (t := .boolean) hrt hlk (by simp) (y_ oD14_81) rfl (by decide) (by decide) (o_hQ hh9 ⟨by rw [if_neg (fun q => hc73 (hr9.mpr ((o_pref_b ([] : List Int32) ([] : List Int32) (fun c hc => S_x.2.2.2.2.1 c (List.mem_of_mem_drop (i := 0) hc)) S_y.2.2.2.2.1).symm ▸ q)))], N9, rfl⟩)
  have hc73 := o_h_ge.2 hq
  refine o_iconst X9 hx (y_ oD14_76) (x := 1) rfl ?_
  refine o_gO (t := 81) X9 hx (y_ oD14_77) ?_
  exact o_retN X9 hx (t := .boolean) hrt hlk (by simp) (y_ oD14_81) rfl (by decide) (by decide) (o_hQ hh9 ⟨by rw [if_pos ((o_pref_b ([] : List Int32) ([] : List Int32) (fun c hc => S_x.2.2.2.2.1 c (List.mem_of_mem_drop (i := 0) hc)) S_y.2.2.2.2.1) ▸ hr9.mp hc73)], N9, rfl⟩)
abbrev Qen0_0 (Z : State) (x : Addr) (y : Addr) (t : Addr) (u : Addr) (zC_ : Int32) (h0 : Heap) (n0 : Nat) (v : Option Value) (h : Heap) (L : List Loc) : Prop := v = some (.int (if o_pref ([] : List Int32) ([] : List Int32) = true then 1 else 0)) ∧ Fr n0 L ∧ h = h0
set_option maxRecDepth 65536 in
set_option maxHeartbeats 40000000 in
theorem rmen0_0 (l : Launch) (Z : State) (a0 : Array Value) (hw : ∀ d ∈ tables_1, d.before a0 Z = true) (ws : List Jvm.Cond) (x : Addr) (y : Addr) (t : Addr) (u : Addr) (zC_ : Int32) (h0 : Heap) (n0 : Nat) (O0 : Old Z n0 h0) (S_x : o_Str Z h0 x t ([] : List Int32)) (S_y : o_Str Z h0 y u ([] : List Int32)) (SC_ : o_SC Z zC_) (hC_ : ¬ zC_ = 0) :
    o_Met l Z o_m17 jdk_42_method_77_code 2 (some .boolean) ws o_R6 #[(.ref x), (.ref y)] h0 (Qen0_0 Z x y t u zC_ h0 n0) := by
  refine o_enter o_pn_3 (fun m => o_ef1 m x y) (fun p e s m below meth c s₁ hx hby hml hZ hown hnm hlk hrt X0 e0 => ?_)
  have N0 := Fr.nil n0
  have y_ := @hb _ _ hby
  have k_ := @o_k _ _ hw
  refine o_aloadN X0 hx (y_ oD15_0) rfl rfl ?_
  refine o_aloadN X0 hx (y_ oD15_1) rfl rfl ?_
  refine o_aloadN X0 hx (y_ oD15_2) rfl rfl ?_
  refine o_vir (y := o_m16) (b := x) (argsL := []) (S := [(.ref y), (.ref x)]) (W := 2) X0 hx hZ hown (k_ 112 rfl) (k_ 113 rfl) (k_ 115 rfl) (k_ 114 rfl) (o_lenB (W := 2) hZ hw (k_ 9 rfl) O0 S_x SC_ hC_ (by decide) (by decide)) e0 S_x.1 hml (lenOf o_pd__28_29I rfl) (y_ oD15_3) (fun T1 L1 v1 X1 hQ1 => ?_)
  obtain ⟨rfl, rfl, hh1⟩ := hQ1
  have N1 := Fr.app N0 (Fr.nil n0)
  show o_G p e below _ T1 (mkF m 6 #[vR x, vR y] [(.int 0), (.ref y), (.ref x)])
  refine o_aloadN X1 hx (y_ oD15_6) rfl rfl ?_
  refine o_vir (y := o_m16) (b := y) (argsL := []) (S := [(.int 0), (.ref y), (.ref x)]) (W := 3) X1 hx hZ hown (k_ 112 rfl) (k_ 113 rfl) (k_ 115 rfl) (k_ 114 rfl) (o_lenB (W := 3) hZ hw (k_ 9 rfl) O0 S_y SC_ hC_ (by decide) (by decide)) hh1 S_y.1 hml (lenOf o_pd__28_29I rfl) (y_ oD15_7) (fun T2 L2 v2 X2 hQ2 => ?_)
  obtain ⟨rfl, rfl, hh2⟩ := hQ2
  have N2 := Fr.app N1 (Fr.nil n0)
  show o_G p e below _ T2 (mkF m 10 #[vR x, vR y] [(.int 0), (.int 0), (.ref y), (.ref x)])
  refine o_isub X2 hx (y_ oD15_10) ?_
  refine o_valE (z := 0) (by decide) ?_
  refine o_vir (y := o_m15) (b := x) (argsL := [(.ref y), (.int 0)]) (S := []) (W := 0) X2 hx hZ hown (k_ 117 rfl) (k_ 118 rfl) (k_ 120 rfl) (k_ 119 rfl) (backOf (W := 0) (rmsw0_0_0 l Z a0 hw [] x y t u  zC_ h0 n0 O0 S_x S_y SC_ hC_) hZ (k_ 121 rfl) (k_ 10 rfl) (by decide) (by decide)) hh2 S_x.1 hml (lenOf o_pd__28Ljava_2flang_2fString_3bI_29Z rfl) (y_ oD15_11) (fun T3 L3 v3 X3 hQ3 => ?_)
  obtain ⟨rfl, N3q, hh3⟩ := hQ3
  have N3 := Fr.app N2 N3q
  show o_G p e below _ T3 (mkF m 14 #[vR x, vR y] [(.int (if o_pref ([] : List Int32) ([] : List Int32) = true then 1 else 0 : Int32))])
  exact o_retN X3 hx (t := .boolean) hrt hlk (by simp) (y_ oD15_14) o_narB (by decide) (by decide) (o_hQ hh3 ⟨rfl, N3, rfl⟩)
abbrev Qsw0_1_m1 (Z : State) (x : Addr) (y : Addr) (t : Addr) (u : Addr) (d0 : Int32) (zC_ : Int32) (h0 : Heap) (n0 : Nat) (v : Option Value) (h : Heap) (L : List Loc) : Prop := v = some (.int 0) ∧ Fr n0 L ∧ h = h0
set_option maxRecDepth 65536 in
set_option maxHeartbeats 40000000 in
theorem rmsw0_1_m1 (l : Launch) (Z : State) (a0 : Array Value) (hw : ∀ d ∈ tables_1, d.before a0 Z = true) (ws : List Jvm.Cond) (x : Addr) (y : Addr) (t : Addr) (u : Addr) (d0 : Int32) (zC_ : Int32) (h0 : Heap) (n0 : Nat) (O0 : Old Z n0 h0) (S_x : o_Str Z h0 x t ([] : List Int32)) (S_y : o_Str Z h0 y u ([d0] : List Int32)) (SC_ : o_SC Z zC_) (hC_ : ¬ zC_ = 0) :
    o_Met l Z o_m15 jdk_42_method_75_code 8 (some .boolean) ws o_R5 #[(.ref x), (.ref y), (.int (-1))] h0 (Qsw0_1_m1 Z x y t u d0 zC_ h0 n0) := by
  refine o_enter o_pn_3 (fun m => o_ef14 m x y) (fun p e s m below meth c s₁ hx hby hml hZ hown hnm hlk hrt X0 e0 => ?_)
  have N0 := Fr.nil n0
  have y_ := @hb _ _ hby
  have k_ := @o_k _ _ hw
  refine o_iloadN X0 hx (y_ oD14_0) rfl ?_
  refine o_iFT (t := 17) X0 hx (y_ oD14_1) ?_
  refine o_iconst X0 hx (y_ oD14_17) (x := 0) rfl ?_
  exact o_retN X0 hx (t := .boolean) hrt hlk (by simp) (y_ oD14_18) rfl (by decide) (by decide) (o_hQ e0 ⟨rfl, N0, rfl⟩)
abbrev Qen0_1 (Z : State) (x : Addr) (y : Addr) (t : Addr) (u : Addr) (d0 : Int32) (zC_ : Int32) (h0 : Heap) (n0 : Nat) (v : Option Value) (h : Heap) (L : List Loc) : Prop := v = some (.int 0) ∧ Fr n0 L ∧ h = h0
set_option maxRecDepth 65536 in
set_option maxHeartbeats 40000000 in
theorem rmen0_1 (l : Launch) (Z : State) (a0 : Array Value) (hw : ∀ d ∈ tables_1, d.before a0 Z = true) (ws : List Jvm.Cond) (x : Addr) (y : Addr) (t : Addr) (u : Addr) (d0 : Int32) (zC_ : Int32) (h0 : Heap) (n0 : Nat) (O0 : Old Z n0 h0) (S_x : o_Str Z h0 x t ([] : List Int32)) (S_y : o_Str Z h0 y u ([d0] : List Int32)) (SC_ : o_SC Z zC_) (hC_ : ¬ zC_ = 0) :
    o_Met l Z o_m17 jdk_42_method_77_code 2 (some .boolean) ws o_R6 #[(.ref x), (.ref y)] h0 (Qen0_1 Z x y t u d0 zC_ h0 n0) := by
  refine o_enter o_pn_3 (fun m => o_ef1 m x y) (fun p e s m below meth c s₁ hx hby hml hZ hown hnm hlk hrt X0 e0 => ?_)
  have N0 := Fr.nil n0
  have y_ := @hb _ _ hby
  have k_ := @o_k _ _ hw
  refine o_aloadN X0 hx (y_ oD15_0) rfl rfl ?_
  refine o_aloadN X0 hx (y_ oD15_1) rfl rfl ?_
  refine o_aloadN X0 hx (y_ oD15_2) rfl rfl ?_
  refine o_vir (y := o_m16) (b := x) (argsL := []) (S := [(.ref y), (.ref x)]) (W := 2) X0 hx hZ hown (k_ 112 rfl) (k_ 113 rfl) (k_ 115 rfl) (k_ 114 rfl) (o_lenB (W := 2) hZ hw (k_ 9 rfl) O0 S_x SC_ hC_ (by decide) (by decide)) e0 S_x.1 hml (lenOf o_pd__28_29I rfl) (y_ oD15_3) (fun T1 L1 v1 X1 hQ1 => ?_)
  obtain ⟨rfl, rfl, hh1⟩ := hQ1
  have N1 := Fr.app N0 (Fr.nil n0)
  show o_G p e below _ T1 (mkF m 6 #[vR x, vR y] [(.int 0), (.ref y), (.ref x)])
  refine o_aloadN X1 hx (y_ oD15_6) rfl rfl ?_
  refine o_vir (y := o_m16) (b := y) (argsL := []) (S := [(.int 0), (.ref y), (.ref x)]) (W := 3) X1 hx hZ hown (k_ 112 rfl) (k_ 113 rfl) (k_ 115 rfl) (k_ 114 rfl) (o_lenB (W := 3) hZ hw (k_ 9 rfl) O0 S_y SC_ hC_ (by decide) (by decide)) hh1 S_y.1 hml (lenOf o_pd__28_29I rfl) (y_ oD15_7) (fun T2 L2 v2 X2 hQ2 => ?_)
  obtain ⟨rfl, rfl, hh2⟩ := hQ2
  have N2 := Fr.app N1 (Fr.nil n0)
  show o_G p e below _ T2 (mkF m 10 #[vR x, vR y] [(.int 1), (.int 0), (.ref y), (.ref x)])
  refine o_isub X2 hx (y_ oD15_10) ?_
  refine o_valE (z := (-1 : Int32)) (by decide) ?_
  refine o_vir (y := o_m15) (b := x) (argsL := [(.ref y), (.int (-1))]) (S := []) (W := 0) X2 hx hZ hown (k_ 117 rfl) (k_ 118 rfl) (k_ 120 rfl) (k_ 119 rfl) (backOf (W := 0) (rmsw0_1_m1 l Z a0 hw [] x y t u d0 zC_ h0 n0 O0 S_x S_y SC_ hC_) hZ (k_ 121 rfl) (k_ 10 rfl) (by decide) (by decide)) hh2 S_x.1 hml (lenOf o_pd__28Ljava_2flang_2fString_3bI_29Z rfl) (y_ oD15_11) (fun T3 L3 v3 X3 hQ3 => ?_)
  obtain ⟨rfl, N3q, hh3⟩ := hQ3
  have N3 := Fr.app N2 N3q
  show o_G p e below _ T3 (mkF m 14 #[vR x, vR y] [(.int 0)])
  exact o_retN X3 hx (t := .boolean) hrt hlk (by simp) (y_ oD15_14) rfl (by decide) (by decide) (o_hQ hh3 ⟨rfl, N3, rfl⟩)
abbrev Qsw0_1_0 (Z : State) (x : Addr) (y : Addr) (t : Addr) (u : Addr) (d0 : Int32) (zC_ : Int32) (h0 : Heap) (n0 : Nat) (v : Option Value) (h : Heap) (L : List Loc) : Prop := v = some (.int 0) ∧ Fr n0 L ∧ h = h0
set_option maxRecDepth 65536 in
set_option maxHeartbeats 40000000 in
theorem rmsw0_1_0 (l : Launch) (Z : State) (a0 : Array Value) (hw : ∀ d ∈ tables_1, d.before a0 Z = true) (ws : List Jvm.Cond) (x : Addr) (y : Addr) (t : Addr) (u : Addr) (d0 : Int32) (zC_ : Int32) (h0 : Heap) (n0 : Nat) (O0 : Old Z n0 h0) (S_x : o_Str Z h0 x t ([] : List Int32)) (S_y : o_Str Z h0 y u ([d0] : List Int32)) (SC_ : o_SC Z zC_) (hC_ : ¬ zC_ = 0) :
    o_Met l Z o_m15 jdk_42_method_75_code 8 (some .boolean) ws o_R5 #[(.ref x), (.ref y), (.int 0)] h0 (Qsw0_1_0 Z x y t u d0 zC_ h0 n0) := by
  refine o_enter o_pn_3 (fun m => o_ef13 m x y) (fun p e s m below meth c s₁ hx hby hml hZ hown hnm hlk hrt X0 e0 => ?_)
  have N0 := Fr.nil n0
  have y_ := @hb _ _ hby
  have k_ := @o_k _ _ hw
  refine o_iloadN X0 hx (y_ oD14_0) rfl ?_
  refine o_iFF X0 hx (y_ oD14_1) ?_
  refine o_iloadN X0 hx (y_ oD14_4) rfl ?_
  refine o_aloadN X0 hx (y_ oD14_5) rfl rfl ?_
  refine o_vir (y := o_m16) (b := x) (argsL := []) (S := [(.int 0)]) (W := 1) X0 hx hZ hown (k_ 112 rfl) (k_ 113 rfl) (k_ 115 rfl) (k_ 114 rfl) (o_lenB (W := 1) hZ hw (k_ 9 rfl) O0 S_x SC_ hC_ (by decide) (by decide)) e0 S_x.1 hml (lenOf o_pd__28_29I rfl) (y_ oD14_6) (fun T1 L1 v1 X1 hQ1 => ?_)
  obtain ⟨rfl, rfl, hh1⟩ := hQ1
  have N1 := Fr.app N0 (Fr.nil n0)
  show o_G p e below _ T1 (mkF m 9 #[vR x, vR y, vI 0, .unset, .unset, .unset, .unset, .unset] [(.int 0), (.int 0)])
  refine o_aloadN X1 hx (y_ oD14_9) rfl rfl ?_
  refine o_vir (y := o_m16) (b := y) (argsL := []) (S := [(.int 0), (.int 0)]) (W := 2) X1 hx hZ hown (k_ 112 rfl) (k_ 113 rfl) (k_ 115 rfl) (k_ 114 rfl) (o_lenB (W := 2) hZ hw (k_ 9 rfl) O0 S_y SC_ hC_ (by decide) (by decide)) hh1 S_y.1 hml (lenOf o_pd__28_29I rfl) (y_ oD14_10) (fun T2 L2 v2 X2 hQ2 => ?_)
  obtain ⟨rfl, rfl, hh2⟩ := hQ2
  have N2 := Fr.app N1 (Fr.nil n0)
  show o_G p e below _ T2 (mkF m 13 #[vR x, vR y, vI 0, .unset, .unset, .unset, .unset, .unset] [(.int 1), (.int 0), (.int 0)])
  refine o_isub X2 hx (y_ oD14_13) ?_
  refine o_valE (z := (-1 : Int32)) (by decide) ?_
  refine o_iCF X2 hx (y_ oD14_14) ?_
  refine o_iconst X2 hx (y_ oD14_17) (x := 0) rfl ?_
  exact o_retN X2 hx (t := .boolean) hrt hlk (by simp) (y_ oD14_18) rfl (by decide) (by decide) (o_hQ hh2 ⟨rfl, N2, rfl⟩)
abbrev Qst0_1 (Z : State) (x : Addr) (y : Addr) (t : Addr) (u : Addr) (d0 : Int32) (zC_ : Int32) (h0 : Heap) (n0 : Nat) (v : Option Value) (h : Heap) (L : List Loc) : Prop := v = some (.int 0) ∧ Fr n0 L ∧ h = h0
set_option maxRecDepth 65536 in
set_option maxHeartbeats 40000000 in
theorem rmst0_1 (l : Launch) (Z : State) (a0 : Array Value) (hw : ∀ d ∈ tables_1, d.before a0 Z = true) (ws : List Jvm.Cond) (x : Addr) (y : Addr) (t : Addr) (u : Addr) (d0 : Int32) (zC_ : Int32) (h0 : Heap) (n0 : Nat) (O0 : Old Z n0 h0) (S_x : o_Str Z h0 x t ([] : List Int32)) (S_y : o_Str Z h0 y u ([d0] : List Int32)) (SC_ : o_SC Z zC_) (hC_ : ¬ zC_ = 0) :
    o_Met l Z o_m18 jdk_42_method_76_code 2 (some .boolean) ws o_R6 #[(.ref x), (.ref y)] h0 (Qst0_1 Z x y t u d0 zC_ h0 n0) := by
  refine o_enter o_pn_3 (fun m => o_ef1 m x y) (fun p e s m below meth c s₁ hx hby hml hZ hown hnm hlk hrt X0 e0 => ?_)
  have N0 := Fr.nil n0
  have y_ := @hb _ _ hby
  have k_ := @o_k _ _ hw
  refine o_aloadN X0 hx (y_ oD16_0) rfl rfl ?_
  refine o_aloadN X0 hx (y_ oD16_1) rfl rfl ?_
  refine o_iconst X0 hx (y_ oD16_2) (x := 0) rfl ?_
  refine o_vir (y := o_m15) (b := x) (argsL := [(.ref y), (.int 0)]) (S := []) (W := 0) X0 hx hZ hown (k_ 117 rfl) (k_ 118 rfl) (k_ 120 rfl) (k_ 119 rfl) (backOf (W := 0) (rmsw0_1_0 l Z a0 hw [] x y t u d0 zC_ h0 n0 O0 S_x S_y SC_ hC_) hZ (k_ 121 rfl) (k_ 10 rfl) (by decide) (by decide)) e0 S_x.1 hml (lenOf o_pd__28Ljava_2flang_2fString_3bI_29Z rfl) (y_ oD16_3) (fun T1 L1 v1 X1 hQ1 => ?_)
  obtain ⟨rfl, N1q, hh1⟩ := hQ1
  have N1 := Fr.app N0 N1q
  show o_G p e below _ T1 (mkF m 6 #[vR x, vR y] [(.int 0)])
  exact o_retN X1 hx (t := .boolean) hrt hlk (by simp) (y_ oD16_6) rfl (by decide) (by decide) (o_hQ hh1 ⟨rfl, N1, rfl⟩)
abbrev Qsw0_2_m2 (Z : State) (x : Addr) (y : Addr) (t : Addr) (u : Addr) (d0 : Int32) (d1 : Int32) (zC_ : Int32) (h0 : Heap) (n0 : Nat) (v : Option Value) (h : Heap) (L : List Loc) : Prop := v = some (.int 0) ∧ Fr n0 L ∧ h = h0
set_option maxRecDepth 65536 in
set_option maxHeartbeats 40000000 in
theorem rmsw0_2_m2 (l : Launch) (Z : State) (a0 : Array Value) (hw : ∀ d ∈ tables_1, d.before a0 Z = true) (ws : List Jvm.Cond) (x : Addr) (y : Addr) (t : Addr) (u : Addr) (d0 : Int32) (d1 : Int32) (zC_ : Int32) (h0 : Heap) (n0 : Nat) (O0 : Old Z n0 h0) (S_x : o_Str Z h0 x t ([] : List Int32)) (S_y : o_Str Z h0 y u ([d0, d1] : List Int32)) (SC_ : o_SC Z zC_) (hC_ : ¬ zC_ = 0) :
    o_Met l Z o_m15 jdk_42_method_75_code 8 (some .boolean) ws o_R5 #[(.ref x), (.ref y), (.int (-2))] h0 (Qsw0_2_m2 Z x y t u d0 d1 zC_ h0 n0) := by
  refine o_enter o_pn_3 (fun m => o_ef15 m x y) (fun p e s m below meth c s₁ hx hby hml hZ hown hnm hlk hrt X0 e0 => ?_)
  have N0 := Fr.nil n0
  have y_ := @hb _ _ hby
  have k_ := @o_k _ _ hw
  refine o_iloadN X0 hx (y_ oD14_0) rfl ?_
  refine o_iFT (t := 17) X0 hx (y_ oD14_1) ?_
  refine o_iconst X0 hx (y_ oD14_17) (x := 0) rfl ?_
  exact o_retN X0 hx (t := .boolean) hrt hlk (by simp) (y_ oD14_18) rfl (by decide) (by decide) (o_hQ e0 ⟨rfl, N0, rfl⟩)
abbrev Qen0_2 (Z : State) (x : Addr) (y : Addr) (t : Addr) (u : Addr) (d0 : Int32) (d1 : Int32) (zC_ : Int32) (h0 : Heap) (n0 : Nat) (v : Option Value) (h : Heap) (L : List Loc) : Prop := v = some (.int 0) ∧ Fr n0 L ∧ h = h0
set_option maxRecDepth 65536 in
set_option maxHeartbeats 40000000 in
theorem rmen0_2 (l : Launch) (Z : State) (a0 : Array Value) (hw : ∀ d ∈ tables_1, d.before a0 Z = true) (ws : List Jvm.Cond) (x : Addr) (y : Addr) (t : Addr) (u : Addr) (d0 : Int32) (d1 : Int32) (zC_ : Int32) (h0 : Heap) (n0 : Nat) (O0 : Old Z n0 h0) (S_x : o_Str Z h0 x t ([] : List Int32)) (S_y : o_Str Z h0 y u ([d0, d1] : List Int32)) (SC_ : o_SC Z zC_) (hC_ : ¬ zC_ = 0) :
    o_Met l Z o_m17 jdk_42_method_77_code 2 (some .boolean) ws o_R6 #[(.ref x), (.ref y)] h0 (Qen0_2 Z x y t u d0 d1 zC_ h0 n0) := by
  refine o_enter o_pn_3 (fun m => o_ef1 m x y) (fun p e s m below meth c s₁ hx hby hml hZ hown hnm hlk hrt X0 e0 => ?_)
  have N0 := Fr.nil n0
  have y_ := @hb _ _ hby
  have k_ := @o_k _ _ hw
  refine o_aloadN X0 hx (y_ oD15_0) rfl rfl ?_
  refine o_aloadN X0 hx (y_ oD15_1) rfl rfl ?_
  refine o_aloadN X0 hx (y_ oD15_2) rfl rfl ?_
  refine o_vir (y := o_m16) (b := x) (argsL := []) (S := [(.ref y), (.ref x)]) (W := 2) X0 hx hZ hown (k_ 112 rfl) (k_ 113 rfl) (k_ 115 rfl) (k_ 114 rfl) (o_lenB (W := 2) hZ hw (k_ 9 rfl) O0 S_x SC_ hC_ (by decide) (by decide)) e0 S_x.1 hml (lenOf o_pd__28_29I rfl) (y_ oD15_3) (fun T1 L1 v1 X1 hQ1 => ?_)
  obtain ⟨rfl, rfl, hh1⟩ := hQ1
  have N1 := Fr.app N0 (Fr.nil n0)
  show o_G p e below _ T1 (mkF m 6 #[vR x, vR y] [(.int 0), (.ref y), (.ref x)])
  refine o_aloadN X1 hx (y_ oD15_6) rfl rfl ?_
  refine o_vir (y := o_m16) (b := y) (argsL := []) (S := [(.int 0), (.ref y), (.ref x)]) (W := 3) X1 hx hZ hown (k_ 112 rfl) (k_ 113 rfl) (k_ 115 rfl) (k_ 114 rfl) (o_lenB (W := 3) hZ hw (k_ 9 rfl) O0 S_y SC_ hC_ (by decide) (by decide)) hh1 S_y.1 hml (lenOf o_pd__28_29I rfl) (y_ oD15_7) (fun T2 L2 v2 X2 hQ2 => ?_)
  obtain ⟨rfl, rfl, hh2⟩ := hQ2
  have N2 := Fr.app N1 (Fr.nil n0)
  show o_G p e below _ T2 (mkF m 10 #[vR x, vR y] [(.int 2), (.int 0), (.ref y), (.ref x)])
  refine o_isub X2 hx (y_ oD15_10) ?_
  refine o_valE (z := (-2 : Int32)) (by decide) ?_
  refine o_vir (y := o_m15) (b := x) (argsL := [(.ref y), (.int (-2))]) (S := []) (W := 0) X2 hx hZ hown (k_ 117 rfl) (k_ 118 rfl) (k_ 120 rfl) (k_ 119 rfl) (backOf (W := 0) (rmsw0_2_m2 l Z a0 hw [] x y t u d0 d1 zC_ h0 n0 O0 S_x S_y SC_ hC_) hZ (k_ 121 rfl) (k_ 10 rfl) (by decide) (by decide)) hh2 S_x.1 hml (lenOf o_pd__28Ljava_2flang_2fString_3bI_29Z rfl) (y_ oD15_11) (fun T3 L3 v3 X3 hQ3 => ?_)
  obtain ⟨rfl, N3q, hh3⟩ := hQ3
  have N3 := Fr.app N2 N3q
  show o_G p e below _ T3 (mkF m 14 #[vR x, vR y] [(.int 0)])
  exact o_retN X3 hx (t := .boolean) hrt hlk (by simp) (y_ oD15_14) rfl (by decide) (by decide) (o_hQ hh3 ⟨rfl, N3, rfl⟩)
abbrev Qsw0_2_0 (Z : State) (x : Addr) (y : Addr) (t : Addr) (u : Addr) (d0 : Int32) (d1 : Int32) (zC_ : Int32) (h0 : Heap) (n0 : Nat) (v : Option Value) (h : Heap) (L : List Loc) : Prop := v = some (.int 0) ∧ Fr n0 L ∧ h = h0
set_option maxRecDepth 65536 in
set_option maxHeartbeats 40000000 in
theorem rmsw0_2_0 (l : Launch) (Z : State) (a0 : Array Value) (hw : ∀ d ∈ tables_1, d.before a0 Z = true) (ws : List Jvm.Cond) (x : Addr) (y : Addr) (t : Addr) (u : Addr) (d0 : Int32) (d1 : Int32) (zC_ : Int32) (h0 : Heap) (n0 : Nat) (O0 : Old Z n0 h0) (S_x : o_Str Z h0 x t ([] : List Int32)) (S_y : o_Str Z h0 y u ([d0, d1] : List Int32)) (SC_ : o_SC Z zC_) (hC_ : ¬ zC_ = 0) :
    o_Met l Z o_m15 jdk_42_method_75_code 8 (some .boolean) ws o_R5 #[(.ref x), (.ref y), (.int 0)] h0 (Qsw0_2_0 Z x y t u d0 d1 zC_ h0 n0) := by
  refine o_enter o_pn_3 (fun m => o_ef13 m x y) (fun p e s m below meth c s₁ hx hby hml hZ hown hnm hlk hrt X0 e0 => ?_)
  have N0 := Fr.nil n0
  have y_ := @hb _ _ hby
  have k_ := @o_k _ _ hw
  refine o_iloadN X0 hx (y_ oD14_0) rfl ?_
  refine o_iFF X0 hx (y_ oD14_1) ?_
  refine o_iloadN X0 hx (y_ oD14_4) rfl ?_
  refine o_aloadN X0 hx (y_ oD14_5) rfl rfl ?_
  refine o_vir (y := o_m16) (b := x) (argsL := []) (S := [(.int 0)]) (W := 1) X0 hx hZ hown (k_ 112 rfl) (k_ 113 rfl) (k_ 115 rfl) (k_ 114 rfl) (o_lenB (W := 1) hZ hw (k_ 9 rfl) O0 S_x SC_ hC_ (by decide) (by decide)) e0 S_x.1 hml (lenOf o_pd__28_29I rfl) (y_ oD14_6) (fun T1 L1 v1 X1 hQ1 => ?_)
  obtain ⟨rfl, rfl, hh1⟩ := hQ1
  have N1 := Fr.app N0 (Fr.nil n0)
  show o_G p e below _ T1 (mkF m 9 #[vR x, vR y, vI 0, .unset, .unset, .unset, .unset, .unset] [(.int 0), (.int 0)])
  refine o_aloadN X1 hx (y_ oD14_9) rfl rfl ?_
  refine o_vir (y := o_m16) (b := y) (argsL := []) (S := [(.int 0), (.int 0)]) (W := 2) X1 hx hZ hown (k_ 112 rfl) (k_ 113 rfl) (k_ 115 rfl) (k_ 114 rfl) (o_lenB (W := 2) hZ hw (k_ 9 rfl) O0 S_y SC_ hC_ (by decide) (by decide)) hh1 S_y.1 hml (lenOf o_pd__28_29I rfl) (y_ oD14_10) (fun T2 L2 v2 X2 hQ2 => ?_)
  obtain ⟨rfl, rfl, hh2⟩ := hQ2
  have N2 := Fr.app N1 (Fr.nil n0)
  show o_G p e below _ T2 (mkF m 13 #[vR x, vR y, vI 0, .unset, .unset, .unset, .unset, .unset] [(.int 2), (.int 0), (.int 0)])
  refine o_isub X2 hx (y_ oD14_13) ?_
  refine o_valE (z := (-2 : Int32)) (by decide) ?_
  refine o_iCF X2 hx (y_ oD14_14) ?_
  refine o_iconst X2 hx (y_ oD14_17) (x := 0) rfl ?_
  exact o_retN X2 hx (t := .boolean) hrt hlk (by simp) (y_ oD14_18) rfl (by decide) (by decide) (o_hQ hh2 ⟨rfl, N2, rfl⟩)
abbrev Qst0_2 (Z : State) (x : Addr) (y : Addr) (t : Addr) (u : Addr) (d0 : Int32) (d1 : Int32) (zC_ : Int32) (h0 : Heap) (n0 : Nat) (v : Option Value) (h : Heap) (L : List Loc) : Prop := v = some (.int 0) ∧ Fr n0 L ∧ h = h0
set_option maxRecDepth 65536 in
set_option maxHeartbeats 40000000 in
theorem rmst0_2 (l : Launch) (Z : State) (a0 : Array Value) (hw : ∀ d ∈ tables_1, d.before a0 Z = true) (ws : List Jvm.Cond) (x : Addr) (y : Addr) (t : Addr) (u : Addr) (d0 : Int32) (d1 : Int32) (zC_ : Int32) (h0 : Heap) (n0 : Nat) (O0 : Old Z n0 h0) (S_x : o_Str Z h0 x t ([] : List Int32)) (S_y : o_Str Z h0 y u ([d0, d1] : List Int32)) (SC_ : o_SC Z zC_) (hC_ : ¬ zC_ = 0) :
    o_Met l Z o_m18 jdk_42_method_76_code 2 (some .boolean) ws o_R6 #[(.ref x), (.ref y)] h0 (Qst0_2 Z x y t u d0 d1 zC_ h0 n0) := by
  refine o_enter o_pn_3 (fun m => o_ef1 m x y) (fun p e s m below meth c s₁ hx hby hml hZ hown hnm hlk hrt X0 e0 => ?_)
  have N0 := Fr.nil n0
  have y_ := @hb _ _ hby
  have k_ := @o_k _ _ hw
  refine o_aloadN X0 hx (y_ oD16_0) rfl rfl ?_
  refine o_aloadN X0 hx (y_ oD16_1) rfl rfl ?_
  refine o_iconst X0 hx (y_ oD16_2) (x := 0) rfl ?_
  refine o_vir (y := o_m15) (b := x) (argsL := [(.ref y), (.int 0)]) (S := []) (W := 0) X0 hx hZ hown (k_ 117 rfl) (k_ 118 rfl) (k_ 120 rfl) (k_ 119 rfl) (backOf (W := 0) (rmsw0_2_0 l Z a0 hw [] x y t u d0 d1 zC_ h0 n0 O0 S_x S_y SC_ hC_) hZ (k_ 121 rfl) (k_ 10 rfl) (by decide) (by decide)) e0 S_x.1 hml (lenOf o_pd__28Ljava_2flang_2fString_3bI_29Z rfl) (y_ oD16_3) (fun T1 L1 v1 X1 hQ1 => ?_)
  obtain ⟨rfl, N1q, hh1⟩ := hQ1
  have N1 := Fr.app N0 N1q
  show o_G p e below _ T1 (mkF m 6 #[vR x, vR y] [(.int 0)])
  exact o_retN X1 hx (t := .boolean) hrt hlk (by simp) (y_ oD16_6) rfl (by decide) (by decide) (o_hQ hh1 ⟨rfl, N1, rfl⟩)
abbrev Qmis1_0_1 (Z : State) (a : Addr) (b : Addr) (ka : ClassId) (kb : ClassId) (v0 : Int32) (h0 : Heap) (n0 : Nat) (v : Option Value) (h : Heap) (L : List Loc) : Prop := ∃ r : Int32, v = some (.int r) ∧ Fr n0 L ∧ h = h0 ∧ (r < 0 ↔ o_pref ([] : List Int32) ([] : List Int32) = true)
set_option maxRecDepth 65536 in
set_option maxHeartbeats 40000000 in
theorem rmmis1_0_1 (l : Launch) (Z : State) (a0 : Array Value) (hw : ∀ d ∈ tables_1, d.before a0 Z = true) (ws : List Jvm.Cond) (a : Addr) (b : Addr) (ka : ClassId) (kb : ClassId) (v0 : Int32) (h0 : Heap) (n0 : Nat) (O0 : Old Z n0 h0) (V_a : Arv Z h0 a ka .byte (1 : Int32) [.int v0] (.int 0)) (V_b : Arv Z h0 b kb .byte (0 : Int32) [] (.int 0)) :
    o_Met l Z o_m14 jdk_48_method_14_code 8 (some .int) ws o_R1 #[(.ref a), (.int 1), (.ref b), (.int 0), (.int 0)] h0 (Qmis1_0_1 Z a b ka kb v0 h0 n0) := by
  refine o_enter o_pn_5 (fun m => o_ef16 m a b) (fun p e s m below meth c s₁ hx hby hml hZ hown hnm hlk hrt X0 e0 => ?_)
  have N0 := Fr.nil n0
  have y_ := @hb _ _ hby
  have k_ := @o_k _ _ hw
  refine o_iconst X0 hx (y_ oD13_0) (x := 0) rfl ?_
  refine o_istore X0 hx (y_ oD13_1) (A' := #[vR a, vI 1, vR b, vI 0, vI 0, vI 0, .unset, .unset]) rfl ?_
  refine o_iload X0 hx (y_ oD13_3) rfl ?_
  refine o_bipush X0 hx (y_ oD13_5) (x := 7) rfl ?_
  refine o_iCT (t := 70) X0 hx (y_ oD13_7) ?_
  refine o_iload X0 hx (y_ oD13_70) rfl ?_
  refine o_iload X0 hx (y_ oD13_72) rfl ?_
  refine o_iCT (t := 101) X0 hx (y_ oD13_74) ?_
  refine o_iconst X0 hx (y_ oD13_101) (x := (-1 : Int32)) rfl ?_
  exact o_retI X0 hx hrt hlk (y_ oD13_102) (by decide) (by decide) (o_hQ e0 ⟨_, rfl, N0, rfl, (o_lf21 v0)⟩)
abbrev Qsw1_0_1 (Z : State) (x : Addr) (y : Addr) (t : Addr) (u : Addr) (c0 : Int32) (zC_ : Int32) (h0 : Heap) (n0 : Nat) (v : Option Value) (h : Heap) (L : List Loc) : Prop := v = some (.int (if o_pref ([] : List Int32) ([] : List Int32) = true then 1 else 0)) ∧ Fr n0 L ∧ h = h0
set_option maxRecDepth 65536 in
set_option maxHeartbeats 40000000 in
theorem rmsw1_0_1 (l : Launch) (Z : State) (a0 : Array Value) (hw : ∀ d ∈ tables_1, d.before a0 Z = true) (ws : List Jvm.Cond) (x : Addr) (y : Addr) (t : Addr) (u : Addr) (c0 : Int32) (zC_ : Int32) (h0 : Heap) (n0 : Nat) (O0 : Old Z n0 h0) (S_x : o_Str Z h0 x t ([c0] : List Int32)) (S_y : o_Str Z h0 y u ([] : List Int32)) (SC_ : o_SC Z zC_) (hC_ : ¬ zC_ = 0) :
    o_Met l Z o_m15 jdk_42_method_75_code 8 (some .boolean) ws o_R5 #[(.ref x), (.ref y), (.int 1)] h0 (Qsw1_0_1 Z x y t u c0 zC_ h0 n0) := by
  refine o_enter o_pn_3 (fun m => o_ef17 m x y) (fun p e s m below meth c s₁ hx hby hml hZ hown hnm hlk hrt X0 e0 => ?_)
  have N0 := Fr.nil n0
  have y_ := @hb _ _ hby
  have k_ := @o_k _ _ hw
  refine o_iloadN X0 hx (y_ oD14_0) rfl ?_
  refine o_iFF X0 hx (y_ oD14_1) ?_
  refine o_iloadN X0 hx (y_ oD14_4) rfl ?_
  refine o_aloadN X0 hx (y_ oD14_5) rfl rfl ?_
  refine o_vir (y := o_m16) (b := x) (argsL := []) (S := [(.int 1)]) (W := 1) X0 hx hZ hown (k_ 112 rfl) (k_ 113 rfl) (k_ 115 rfl) (k_ 114 rfl) (o_lenB (W := 1) hZ hw (k_ 9 rfl) O0 S_x SC_ hC_ (by decide) (by decide)) e0 S_x.1 hml (lenOf o_pd__28_29I rfl) (y_ oD14_6) (fun T1 L1 v1 X1 hQ1 => ?_)
  obtain ⟨rfl, rfl, hh1⟩ := hQ1
  have N1 := Fr.app N0 (Fr.nil n0)
  show o_G p e below _ T1 (mkF m 9 #[vR x, vR y, vI 1, .unset, .unset, .unset, .unset, .unset] [(.int 1), (.int 1)])
  refine o_aloadN X1 hx (y_ oD14_9) rfl rfl ?_
  refine o_vir (y := o_m16) (b := y) (argsL := []) (S := [(.int 1), (.int 1)]) (W := 2) X1 hx hZ hown (k_ 112 rfl) (k_ 113 rfl) (k_ 115 rfl) (k_ 114 rfl) (o_lenB (W := 2) hZ hw (k_ 9 rfl) O0 S_y SC_ hC_ (by decide) (by decide)) hh1 S_y.1 hml (lenOf o_pd__28_29I rfl) (y_ oD14_10) (fun T2 L2 v2 X2 hQ2 => ?_)
  obtain ⟨rfl, rfl, hh2⟩ := hQ2
  have N2 := Fr.app N1 (Fr.nil n0)
  show o_G p e below _ T2 (mkF m 13 #[vR x, vR y, vI 1, .unset, .unset, .unset, .unset, .unset] [(.int 0), (.int 1), (.int 1)])
  refine o_isub X2 hx (y_ oD14_13) ?_
  refine o_valE (z := 1) (by decide) ?_
  refine o_iCT (t := 19) X2 hx (y_ oD14_14) ?_
  obtain ⟨kb3, Bv3⟩ := S_x.2.2.2.1
  have Bw3 : Arv Z h0 t kb3 .byte (1 : Int32) [.int c0.toInt8.toInt32] (.int 0) := Bv3
  obtain ⟨kb4, Bv4⟩ := S_y.2.2.2.1
  have Bw4 : Arv Z h0 u kb4 .byte (0 : Int32) [] (.int 0) := Bv4
  refine o_aloadN X2 hx (y_ oD14_19) rfl rfl ?_
  refine o_getF X2 hx hZ hown (host := "") (Or.inl (k_ 35 rfl)) Via.refl hh2 S_x.2.2.1 (y_ oD14_20) (fun T5 X5 e5 => ?_)
  refine o_astoreN X5 hx (y_ oD14_23) rfl (A' := #[vR x, vR y, vI 1, vR t, .unset, .unset, .unset, .unset]) rfl ?_
  refine o_aloadN X5 hx (y_ oD14_24) rfl rfl ?_
  refine o_getF X5 hx hZ hown (host := "") (Or.inl (k_ 35 rfl)) Via.refl e5 S_y.2.2.1 (y_ oD14_25) (fun T6 X6 e6 => ?_)
  refine o_astore X6 hx (y_ oD14_28) rfl (A' := #[vR x, vR y, vI 1, vR t, vR u, .unset, .unset, .unset]) rfl ?_
  refine o_iconst X6 hx (y_ oD14_30) (x := 0) rfl ?_
  refine o_istore X6 hx (y_ oD14_31) (A' := #[vR x, vR y, vI 1, vR t, vR u, vI 0, .unset, .unset]) rfl ?_
  refine o_aload X6 hx (y_ oD14_33) rfl rfl ?_
  refine o_alen (n := 0) X6 hx hZ e6 Bw4 (y_ oD14_35) ?_
  refine o_istore X6 hx (y_ oD14_36) (A' := #[vR x, vR y, vI 1, vR t, vR u, vI 0, vI 0, .unset]) rfl ?_
  refine o_aloadN X6 hx (y_ oD14_38) rfl rfl ?_
  refine o_vir (y := o_m8) (b := x) (argsL := []) (S := []) (W := 0) X6 hx hZ hown (k_ 73 rfl) (k_ 74 rfl) (k_ 76 rfl) (k_ 75 rfl) (backOf (W := 0) (rmcod l Z a0 hw [] x zC_ h0 n0 O0 S_x.2.1 SC_ hC_) hZ (k_ 77 rfl) (k_ 10 rfl) (by decide) (by decide)) e6 S_x.1 hml (lenOf o_pd__28_29B rfl) (y_ oD14_39) (fun T7 L7 v7 X7 hQ7 => ?_)
  obtain ⟨rfl, N7q, hh7⟩ := hQ7
  have N7 := Fr.app N2 N7q
  show o_G p e below _ T7 (mkF m 42 #[vR x, vR y, vI 1, vR t, vR u, vI 0, vI 0, .unset] [(.int 0)])
  refine o_istore X7 hx (y_ oD14_42) (A' := #[vR x, vR y, vI 1, vR t, vR u, vI 0, vI 0, vI 0]) rfl ?_
  refine o_iload X7 hx (y_ oD14_44) rfl ?_
  refine o_aloadN X7 hx (y_ oD14_46) rfl rfl ?_
  refine o_vir (y := o_m8) (b := y) (argsL := []) (S := [(.int 0)]) (W := 1) X7 hx hZ hown (k_ 73 rfl) (k_ 74 rfl) (k_ 76 rfl) (k_ 75 rfl) (backOf (W := 1) (rmcod l Z a0 hw [] y zC_ h0 n0 O0 S_y.2.1 SC_ hC_) hZ (k_ 77 rfl) (k_ 10 rfl) (by decide) (by decide)) hh7 S_y.1 hml (lenOf o_pd__28_29B rfl) (y_ oD14_47) (fun T8 L8 v8 X8 hQ8 => ?_)
  obtain ⟨rfl, N8q, hh8⟩ := hQ8
  have N8 := Fr.app N7 N8q
  show o_G p e below _ T8 (mkF m 50 #[vR x, vR y, vI 1, vR t, vR u, vI 0, vI 0, vI 0] [(.int 0), (.int 0)])
  refine o_iCF X8 hx (y_ oD14_50) ?_
  refine o_iload X8 hx (y_ oD14_53) rfl ?_
  refine o_iconst X8 hx (y_ oD14_55) (x := 1) rfl ?_
  refine o_iCT (t := 63) X8 hx (y_ oD14_56) ?_
  refine o_aloadN X8 hx (y_ oD14_63) rfl rfl ?_
  refine o_iloadN X8 hx (y_ oD14_64) rfl ?_
  refine o_aload X8 hx (y_ oD14_65) rfl rfl ?_
  refine o_iconst X8 hx (y_ oD14_67) (x := 0) rfl ?_
  refine o_iload X8 hx (y_ oD14_68) rfl ?_
  refine o_sta (y := o_m14) (argsL := [(.ref t), (.int 1), (.ref u), (.int 0), (.int 0)]) (S := []) (W := 0) X8 hx hZ hown (k_ 125 rfl) (k_ 126 rfl) (k_ 127 rfl) (k_ 128 rfl) (backOf (W := 0) (rmmis1_0_1 l Z a0 hw [] t u kb3 kb4 (c0.toInt8.toInt32) h0 n0 O0 Bw3 Bw4) hZ (k_ 128 rfl) (k_ 127 rfl) (by decide) (by decide)) hh8 hml (lenOf o_pd__28_5bBI_5bBII_29I rfl) (y_ oD14_70) (fun T9 L9 v9 X9 hQ9 => ?_)
  obtain ⟨r9, rfl, N9q, hh9, hr9⟩ := hQ9
  have N9 := Fr.app N8 N9q
  show o_G p e below _ T9 (mkF m 73 #[vR x, vR y, vI 1, vR t, vR u, vI 0, vI 0, vI 0] [(.int r9)])
  refine o_iF (t := 80) X9 hx (y_ oD14_73) (fun hq => ?_) (fun hq => ?_)
  · have hc73 := o_h_ge.1 hq
    refine o_iconst X9 hx (y_ oD14_80) (x := 0) rfl ?_
    exact o_retN X9 hx (t := .boolean) hrt hlk (by simp) (y_ oD14_81) rfl (by decide) (by decide) (o_hQ hh9 ⟨by rw [if_neg (fun q => hc73 (hr9.mpr ((o_pref_b ([] : List Int32) ([] : List Int32) (fun c hc => S_x.2.2.2.2.1 c (List.mem_of_mem_drop (i := 1) hc)) S_y.2.2.2.2.1).symm ▸ q)))], N9, rfl⟩)
  have hc73 := o_h_ge.2 hq
  refine o_iconst X9 hx (y_ oD14_76) (x := 1) rfl ?_
  refine o_gO (t := 81) X9 hx (y_ oD14_77) ?_
  exact o_retN X9 hx (t := .boolean) hrt hlk (by simp) (y_ oD14_81) rfl (by decide) (by decide) (o_hQ hh9 ⟨by rw [if_pos ((o_pref_b ([] : List Int32) ([] : List Int32) (fun c hc => S_x.2.2.2.2.1 c (List.mem_of_mem_drop (i := 1) hc)) S_y.2.2.2.2.1) ▸ hr9.mp hc73)], N9, rfl⟩)
abbrev Qen1_0 (Z : State) (x : Addr) (y : Addr) (t : Addr) (u : Addr) (c0 : Int32) (zC_ : Int32) (h0 : Heap) (n0 : Nat) (v : Option Value) (h : Heap) (L : List Loc) : Prop := v = some (.int (if o_pref ([] : List Int32) ([] : List Int32) = true then 1 else 0)) ∧ Fr n0 L ∧ h = h0
set_option maxRecDepth 65536 in
set_option maxHeartbeats 40000000 in
theorem rmen1_0 (l : Launch) (Z : State) (a0 : Array Value) (hw : ∀ d ∈ tables_1, d.before a0 Z = true) (ws : List Jvm.Cond) (x : Addr) (y : Addr) (t : Addr) (u : Addr) (c0 : Int32) (zC_ : Int32) (h0 : Heap) (n0 : Nat) (O0 : Old Z n0 h0) (S_x : o_Str Z h0 x t ([c0] : List Int32)) (S_y : o_Str Z h0 y u ([] : List Int32)) (SC_ : o_SC Z zC_) (hC_ : ¬ zC_ = 0) :
    o_Met l Z o_m17 jdk_42_method_77_code 2 (some .boolean) ws o_R6 #[(.ref x), (.ref y)] h0 (Qen1_0 Z x y t u c0 zC_ h0 n0) := by
  refine o_enter o_pn_3 (fun m => o_ef1 m x y) (fun p e s m below meth c s₁ hx hby hml hZ hown hnm hlk hrt X0 e0 => ?_)
  have N0 := Fr.nil n0
  have y_ := @hb _ _ hby
  have k_ := @o_k _ _ hw
  refine o_aloadN X0 hx (y_ oD15_0) rfl rfl ?_
  refine o_aloadN X0 hx (y_ oD15_1) rfl rfl ?_
  refine o_aloadN X0 hx (y_ oD15_2) rfl rfl ?_
  refine o_vir (y := o_m16) (b := x) (argsL := []) (S := [(.ref y), (.ref x)]) (W := 2) X0 hx hZ hown (k_ 112 rfl) (k_ 113 rfl) (k_ 115 rfl) (k_ 114 rfl) (o_lenB (W := 2) hZ hw (k_ 9 rfl) O0 S_x SC_ hC_ (by decide) (by decide)) e0 S_x.1 hml (lenOf o_pd__28_29I rfl) (y_ oD15_3) (fun T1 L1 v1 X1 hQ1 => ?_)
  obtain ⟨rfl, rfl, hh1⟩ := hQ1
  have N1 := Fr.app N0 (Fr.nil n0)
  show o_G p e below _ T1 (mkF m 6 #[vR x, vR y] [(.int 1), (.ref y), (.ref x)])
  refine o_aloadN X1 hx (y_ oD15_6) rfl rfl ?_
  refine o_vir (y := o_m16) (b := y) (argsL := []) (S := [(.int 1), (.ref y), (.ref x)]) (W := 3) X1 hx hZ hown (k_ 112 rfl) (k_ 113 rfl) (k_ 115 rfl) (k_ 114 rfl) (o_lenB (W := 3) hZ hw (k_ 9 rfl) O0 S_y SC_ hC_ (by decide) (by decide)) hh1 S_y.1 hml (lenOf o_pd__28_29I rfl) (y_ oD15_7) (fun T2 L2 v2 X2 hQ2 => ?_)
  obtain ⟨rfl, rfl, hh2⟩ := hQ2
  have N2 := Fr.app N1 (Fr.nil n0)
  show o_G p e below _ T2 (mkF m 10 #[vR x, vR y] [(.int 0), (.int 1), (.ref y), (.ref x)])
  refine o_isub X2 hx (y_ oD15_10) ?_
  refine o_valE (z := 1) (by decide) ?_
  refine o_vir (y := o_m15) (b := x) (argsL := [(.ref y), (.int 1)]) (S := []) (W := 0) X2 hx hZ hown (k_ 117 rfl) (k_ 118 rfl) (k_ 120 rfl) (k_ 119 rfl) (backOf (W := 0) (rmsw1_0_1 l Z a0 hw [] x y t u c0 zC_ h0 n0 O0 S_x S_y SC_ hC_) hZ (k_ 121 rfl) (k_ 10 rfl) (by decide) (by decide)) hh2 S_x.1 hml (lenOf o_pd__28Ljava_2flang_2fString_3bI_29Z rfl) (y_ oD15_11) (fun T3 L3 v3 X3 hQ3 => ?_)
  obtain ⟨rfl, N3q, hh3⟩ := hQ3
  have N3 := Fr.app N2 N3q
  show o_G p e below _ T3 (mkF m 14 #[vR x, vR y] [(.int (if o_pref ([] : List Int32) ([] : List Int32) = true then 1 else 0 : Int32))])
  exact o_retN X3 hx (t := .boolean) hrt hlk (by simp) (y_ oD15_14) o_narB (by decide) (by decide) (o_hQ hh3 ⟨rfl, N3, rfl⟩)
abbrev Qmis1_1_0 (Z : State) (a : Addr) (b : Addr) (ka : ClassId) (kb : ClassId) (v0 : Int32) (s0 : Int32) (h0 : Heap) (n0 : Nat) (v : Option Value) (h : Heap) (L : List Loc) : Prop := ∃ r : Int32, v = some (.int r) ∧ Fr n0 L ∧ h = h0 ∧ (r < 0 ↔ o_pref ([v0] : List Int32) ([s0] : List Int32) = true)
set_option maxRecDepth 65536 in
set_option maxHeartbeats 40000000 in
theorem rmmis1_1_0 (l : Launch) (Z : State) (a0 : Array Value) (hw : ∀ d ∈ tables_1, d.before a0 Z = true) (ws : List Jvm.Cond) (a : Addr) (b : Addr) (ka : ClassId) (kb : ClassId) (v0 : Int32) (s0 : Int32) (h0 : Heap) (n0 : Nat) (O0 : Old Z n0 h0) (V_a : Arv Z h0 a ka .byte (1 : Int32) [.int v0] (.int 0)) (V_b : Arv Z h0 b kb .byte (1 : Int32) [.int s0] (.int 0)) :
    o_Met l Z o_m14 jdk_48_method_14_code 8 (some .int) ws o_R1 #[(.ref a), (.int 0), (.ref b), (.int 0), (.int 1)] h0 (Qmis1_1_0 Z a b ka kb v0 s0 h0 n0) := by
  refine o_enter o_pn_5 (fun m => o_ef18 m a b) (fun p e s m below meth c s₁ hx hby hml hZ hown hnm hlk hrt X0 e0 => ?_)
  have N0 := Fr.nil n0
  have y_ := @hb _ _ hby
  have k_ := @o_k _ _ hw
  refine o_iconst X0 hx (y_ oD13_0) (x := 0) rfl ?_
  refine o_istore X0 hx (y_ oD13_1) (A' := #[vR a, vI 0, vR b, vI 0, vI 1, vI 0, .unset, .unset]) rfl ?_
  refine o_iload X0 hx (y_ oD13_3) rfl ?_
  refine o_bipush X0 hx (y_ oD13_5) (x := 7) rfl ?_
  refine o_iCT (t := 70) X0 hx (y_ oD13_7) ?_
  refine o_iload X0 hx (y_ oD13_70) rfl ?_
  refine o_iload X0 hx (y_ oD13_72) rfl ?_
  refine o_iCF X0 hx (y_ oD13_74) ?_
  refine o_aloadN X0 hx (y_ oD13_77) rfl rfl ?_
  refine o_iloadN X0 hx (y_ oD13_78) rfl ?_
  refine o_iload X0 hx (y_ oD13_79) rfl ?_
  refine o_iadd X0 hx (y_ oD13_81) ?_
  refine o_valE (z := 0) (by decide) ?_
  refine o_bload (v := (.int v0)) X0 hx hZ e0 V_a (y_ oD13_82) ⟨by decide, by decide⟩ rfl ?_
  refine o_aloadN X0 hx (y_ oD13_83) rfl rfl ?_
  refine o_iloadN X0 hx (y_ oD13_84) rfl ?_
  refine o_iload X0 hx (y_ oD13_85) rfl ?_
  refine o_iadd X0 hx (y_ oD13_87) ?_
  refine o_valE (z := 0) (by decide) ?_
  refine o_bload (v := (.int s0)) X0 hx hZ e0 V_b (y_ oD13_88) ⟨by decide, by decide⟩ rfl ?_
  refine o_iC (t := 95) X0 hx (y_ oD13_89) (fun hq => ?_) (fun hq => ?_)
  · have hc89_1 := o_c_eq.1 hq
    refine o_iincK X0 hx (y_ oD13_95) (y := 1) rfl rfl (z := 1) (by decide) (A' := #[vR a, vI 0, vR b, vI 0, vI 1, vI 1, .unset, .unset]) rfl ?_
    refine o_gO (t := 70) X0 hx (y_ oD13_98) ?_
    refine o_iload X0 hx (y_ oD13_70) rfl ?_
    refine o_iload X0 hx (y_ oD13_72) rfl ?_
    refine o_iCT (t := 101) X0 hx (y_ oD13_74) ?_
    refine o_iconst X0 hx (y_ oD13_101) (x := (-1 : Int32)) rfl ?_
    exact o_retI X0 hx hrt hlk (y_ oD13_102) (by decide) (by decide) (o_hQ e0 ⟨_, rfl, N0, rfl, (o_lf22 v0 s0 hc89_1)⟩)
  have hc89_1 := o_c_eq.2 hq
  refine o_iload X0 hx (y_ oD13_92) rfl ?_
  exact o_retI X0 hx hrt hlk (y_ oD13_94) (by decide) (by decide) (o_hQ e0 ⟨_, rfl, N0, rfl, (o_lf23 v0 s0 hc89_1)⟩)
abbrev Qsw1_1_0 (Z : State) (x : Addr) (y : Addr) (t : Addr) (u : Addr) (c0 : Int32) (d0 : Int32) (zC_ : Int32) (h0 : Heap) (n0 : Nat) (v : Option Value) (h : Heap) (L : List Loc) : Prop := v = some (.int (if o_pref ([c0] : List Int32) ([d0] : List Int32) = true then 1 else 0)) ∧ Fr n0 L ∧ h = h0
set_option maxRecDepth 65536 in
set_option maxHeartbeats 40000000 in
theorem rmsw1_1_0 (l : Launch) (Z : State) (a0 : Array Value) (hw : ∀ d ∈ tables_1, d.before a0 Z = true) (ws : List Jvm.Cond) (x : Addr) (y : Addr) (t : Addr) (u : Addr) (c0 : Int32) (d0 : Int32) (zC_ : Int32) (h0 : Heap) (n0 : Nat) (O0 : Old Z n0 h0) (S_x : o_Str Z h0 x t ([c0] : List Int32)) (S_y : o_Str Z h0 y u ([d0] : List Int32)) (SC_ : o_SC Z zC_) (hC_ : ¬ zC_ = 0) :
    o_Met l Z o_m15 jdk_42_method_75_code 8 (some .boolean) ws o_R5 #[(.ref x), (.ref y), (.int 0)] h0 (Qsw1_1_0 Z x y t u c0 d0 zC_ h0 n0) := by
  refine o_enter o_pn_3 (fun m => o_ef13 m x y) (fun p e s m below meth c s₁ hx hby hml hZ hown hnm hlk hrt X0 e0 => ?_)
  have N0 := Fr.nil n0
  have y_ := @hb _ _ hby
  have k_ := @o_k _ _ hw
  refine o_iloadN X0 hx (y_ oD14_0) rfl ?_
  refine o_iFF X0 hx (y_ oD14_1) ?_
  refine o_iloadN X0 hx (y_ oD14_4) rfl ?_
  refine o_aloadN X0 hx (y_ oD14_5) rfl rfl ?_
  refine o_vir (y := o_m16) (b := x) (argsL := []) (S := [(.int 0)]) (W := 1) X0 hx hZ hown (k_ 112 rfl) (k_ 113 rfl) (k_ 115 rfl) (k_ 114 rfl) (o_lenB (W := 1) hZ hw (k_ 9 rfl) O0 S_x SC_ hC_ (by decide) (by decide)) e0 S_x.1 hml (lenOf o_pd__28_29I rfl) (y_ oD14_6) (fun T1 L1 v1 X1 hQ1 => ?_)
  obtain ⟨rfl, rfl, hh1⟩ := hQ1
  have N1 := Fr.app N0 (Fr.nil n0)
  show o_G p e below _ T1 (mkF m 9 #[vR x, vR y, vI 0, .unset, .unset, .unset, .unset, .unset] [(.int 1), (.int 0)])
  refine o_aloadN X1 hx (y_ oD14_9) rfl rfl ?_
  refine o_vir (y := o_m16) (b := y) (argsL := []) (S := [(.int 1), (.int 0)]) (W := 2) X1 hx hZ hown (k_ 112 rfl) (k_ 113 rfl) (k_ 115 rfl) (k_ 114 rfl) (o_lenB (W := 2) hZ hw (k_ 9 rfl) O0 S_y SC_ hC_ (by decide) (by decide)) hh1 S_y.1 hml (lenOf o_pd__28_29I rfl) (y_ oD14_10) (fun T2 L2 v2 X2 hQ2 => ?_)
  obtain ⟨rfl, rfl, hh2⟩ := hQ2
  have N2 := Fr.app N1 (Fr.nil n0)
  show o_G p e below _ T2 (mkF m 13 #[vR x, vR y, vI 0, .unset, .unset, .unset, .unset, .unset] [(.int 1), (.int 1), (.int 0)])
  refine o_isub X2 hx (y_ oD14_13) ?_
  refine o_valE (z := 0) (by decide) ?_
  refine o_iCT (t := 19) X2 hx (y_ oD14_14) ?_
  obtain ⟨kb3, Bv3⟩ := S_x.2.2.2.1
  have Bw3 : Arv Z h0 t kb3 .byte (1 : Int32) [.int c0.toInt8.toInt32] (.int 0) := Bv3
  obtain ⟨kb4, Bv4⟩ := S_y.2.2.2.1
  have Bw4 : Arv Z h0 u kb4 .byte (1 : Int32) [.int d0.toInt8.toInt32] (.int 0) := Bv4
  refine o_aloadN X2 hx (y_ oD14_19) rfl rfl ?_
  refine o_getF X2 hx hZ hown (host := "") (Or.inl (k_ 35 rfl)) Via.refl hh2 S_x.2.2.1 (y_ oD14_20) (fun T5 X5 e5 => ?_)
  refine o_astoreN X5 hx (y_ oD14_23) rfl (A' := #[vR x, vR y, vI 0, vR t, .unset, .unset, .unset, .unset]) rfl ?_
  refine o_aloadN X5 hx (y_ oD14_24) rfl rfl ?_
  refine o_getF X5 hx hZ hown (host := "") (Or.inl (k_ 35 rfl)) Via.refl e5 S_y.2.2.1 (y_ oD14_25) (fun T6 X6 e6 => ?_)
  refine o_astore X6 hx (y_ oD14_28) rfl (A' := #[vR x, vR y, vI 0, vR t, vR u, .unset, .unset, .unset]) rfl ?_
  refine o_iconst X6 hx (y_ oD14_30) (x := 0) rfl ?_
  refine o_istore X6 hx (y_ oD14_31) (A' := #[vR x, vR y, vI 0, vR t, vR u, vI 0, .unset, .unset]) rfl ?_
  refine o_aload X6 hx (y_ oD14_33) rfl rfl ?_
  refine o_alen (n := 1) X6 hx hZ e6 Bw4 (y_ oD14_35) ?_
  refine o_istore X6 hx (y_ oD14_36) (A' := #[vR x, vR y, vI 0, vR t, vR u, vI 0, vI 1, .unset]) rfl ?_
  refine o_aloadN X6 hx (y_ oD14_38) rfl rfl ?_
  refine o_vir (y := o_m8) (b := x) (argsL := []) (S := []) (W := 0) X6 hx hZ hown (k_ 73 rfl) (k_ 74 rfl) (k_ 76 rfl) (k_ 75 rfl) (backOf (W := 0) (rmcod l Z a0 hw [] x zC_ h0 n0 O0 S_x.2.1 SC_ hC_) hZ (k_ 77 rfl) (k_ 10 rfl) (by decide) (by decide)) e6 S_x.1 hml (lenOf o_pd__28_29B rfl) (y_ oD14_39) (fun T7 L7 v7 X7 hQ7 => ?_)
  obtain ⟨rfl, N7q, hh7⟩ := hQ7
  have N7 := Fr.app N2 N7q
  show o_G p e below _ T7 (mkF m 42 #[vR x, vR y, vI 0, vR t, vR u, vI 0, vI 1, .unset] [(.int 0)])
  refine o_istore X7 hx (y_ oD14_42) (A' := #[vR x, vR y, vI 0, vR t, vR u, vI 0, vI 1, vI 0]) rfl ?_
  refine o_iload X7 hx (y_ oD14_44) rfl ?_
  refine o_aloadN X7 hx (y_ oD14_46) rfl rfl ?_
  refine o_vir (y := o_m8) (b := y) (argsL := []) (S := [(.int 0)]) (W := 1) X7 hx hZ hown (k_ 73 rfl) (k_ 74 rfl) (k_ 76 rfl) (k_ 75 rfl) (backOf (W := 1) (rmcod l Z a0 hw [] y zC_ h0 n0 O0 S_y.2.1 SC_ hC_) hZ (k_ 77 rfl) (k_ 10 rfl) (by decide) (by decide)) hh7 S_y.1 hml (lenOf o_pd__28_29B rfl) (y_ oD14_47) (fun T8 L8 v8 X8 hQ8 => ?_)
  obtain ⟨rfl, N8q, hh8⟩ := hQ8
  have N8 := Fr.app N7 N8q
  show o_G p e below _ T8 (mkF m 50 #[vR x, vR y, vI 0, vR t, vR u, vI 0, vI 1, vI 0] [(.int 0), (.int 0)])
  refine o_iCF X8 hx (y_ oD14_50) ?_
  refine o_iload X8 hx (y_ oD14_53) rfl ?_
  refine o_iconst X8 hx (y_ oD14_55) (x := 1) rfl ?_
  refine o_iCT (t := 63) X8 hx (y_ oD14_56) ?_
  refine o_aloadN X8 hx (y_ oD14_63) rfl rfl ?_
  refine o_iloadN X8 hx (y_ oD14_64) rfl ?_
  refine o_aload X8 hx (y_ oD14_65) rfl rfl ?_
  refine o_iconst X8 hx (y_ oD14_67) (x := 0) rfl ?_
  refine o_iload X8 hx (y_ oD14_68) rfl ?_
  refine o_sta (y := o_m14) (argsL := [(.ref t), (.int 0), (.ref u), (.int 0), (.int 1)]) (S := []) (W := 0) X8 hx hZ hown (k_ 125 rfl) (k_ 126 rfl) (k_ 127 rfl) (k_ 128 rfl) (backOf (W := 0) (rmmis1_1_0 l Z a0 hw [] t u kb3 kb4 (c0.toInt8.toInt32) (d0.toInt8.toInt32) h0 n0 O0 Bw3 Bw4) hZ (k_ 128 rfl) (k_ 127 rfl) (by decide) (by decide)) hh8 hml (lenOf o_pd__28_5bBI_5bBII_29I rfl) (y_ oD14_70) (fun T9 L9 v9 X9 hQ9 => ?_)
  obtain ⟨r9, rfl, N9q, hh9, hr9⟩ := hQ9
  have N9 := Fr.app N8 N9q
  show o_G p e below _ T9 (mkF m 73 #[vR x, vR y, vI 0, vR t, vR u, vI 0, vI 1, vI 0] [(.int r9)])
  refine o_iF (t := 80) X9 hx (y_ oD14_73) (fun hq => ?_) (fun hq => ?_)
  · have hc73 := o_h_ge.1 hq
    refine o_iconst X9 hx (y_ oD14_80) (x := 0) rfl ?_
    exact o_retN X9 hx (t := .boolean) hrt hlk (by simp) (y_ oD14_81) rfl (by decide) (by decide) (o_hQ hh9 ⟨by rw [if_neg (fun q => hc73 (hr9.mpr ((o_pref_b ([c0] : List Int32) ([d0] : List Int32) (fun c hc => S_x.2.2.2.2.1 c (List.mem_of_mem_drop (i := 0) hc)) S_y.2.2.2.2.1).symm ▸ q)))], N9, rfl⟩)
  have hc73 := o_h_ge.2 hq
  refine o_iconst X9 hx (y_ oD14_76) (x := 1) rfl ?_
  refine o_gO (t := 81) X9 hx (y_ oD14_77) ?_
  exact o_retN X9 hx (t := .boolean) hrt hlk (by simp) (y_ oD14_81) rfl (by decide) (by decide) (o_hQ hh9 ⟨by rw [if_pos ((o_pref_b ([c0] : List Int32) ([d0] : List Int32) (fun c hc => S_x.2.2.2.2.1 c (List.mem_of_mem_drop (i := 0) hc)) S_y.2.2.2.2.1) ▸ hr9.mp hc73)], N9, rfl⟩)
abbrev Qen1_1 (Z : State) (x : Addr) (y : Addr) (t : Addr) (u : Addr) (c0 : Int32) (d0 : Int32) (zC_ : Int32) (h0 : Heap) (n0 : Nat) (v : Option Value) (h : Heap) (L : List Loc) : Prop := v = some (.int (if o_pref ([c0] : List Int32) ([d0] : List Int32) = true then 1 else 0)) ∧ Fr n0 L ∧ h = h0
set_option maxRecDepth 65536 in
set_option maxHeartbeats 40000000 in
theorem rmen1_1 (l : Launch) (Z : State) (a0 : Array Value) (hw : ∀ d ∈ tables_1, d.before a0 Z = true) (ws : List Jvm.Cond) (x : Addr) (y : Addr) (t : Addr) (u : Addr) (c0 : Int32) (d0 : Int32) (zC_ : Int32) (h0 : Heap) (n0 : Nat) (O0 : Old Z n0 h0) (S_x : o_Str Z h0 x t ([c0] : List Int32)) (S_y : o_Str Z h0 y u ([d0] : List Int32)) (SC_ : o_SC Z zC_) (hC_ : ¬ zC_ = 0) :
    o_Met l Z o_m17 jdk_42_method_77_code 2 (some .boolean) ws o_R6 #[(.ref x), (.ref y)] h0 (Qen1_1 Z x y t u c0 d0 zC_ h0 n0) := by
  refine o_enter o_pn_3 (fun m => o_ef1 m x y) (fun p e s m below meth c s₁ hx hby hml hZ hown hnm hlk hrt X0 e0 => ?_)
  have N0 := Fr.nil n0
  have y_ := @hb _ _ hby
  have k_ := @o_k _ _ hw
  refine o_aloadN X0 hx (y_ oD15_0) rfl rfl ?_
  refine o_aloadN X0 hx (y_ oD15_1) rfl rfl ?_
  refine o_aloadN X0 hx (y_ oD15_2) rfl rfl ?_
  refine o_vir (y := o_m16) (b := x) (argsL := []) (S := [(.ref y), (.ref x)]) (W := 2) X0 hx hZ hown (k_ 112 rfl) (k_ 113 rfl) (k_ 115 rfl) (k_ 114 rfl) (o_lenB (W := 2) hZ hw (k_ 9 rfl) O0 S_x SC_ hC_ (by decide) (by decide)) e0 S_x.1 hml (lenOf o_pd__28_29I rfl) (y_ oD15_3) (fun T1 L1 v1 X1 hQ1 => ?_)
  obtain ⟨rfl, rfl, hh1⟩ := hQ1
  have N1 := Fr.app N0 (Fr.nil n0)
  show o_G p e below _ T1 (mkF m 6 #[vR x, vR y] [(.int 1), (.ref y), (.ref x)])
  refine o_aloadN X1 hx (y_ oD15_6) rfl rfl ?_
  refine o_vir (y := o_m16) (b := y) (argsL := []) (S := [(.int 1), (.ref y), (.ref x)]) (W := 3) X1 hx hZ hown (k_ 112 rfl) (k_ 113 rfl) (k_ 115 rfl) (k_ 114 rfl) (o_lenB (W := 3) hZ hw (k_ 9 rfl) O0 S_y SC_ hC_ (by decide) (by decide)) hh1 S_y.1 hml (lenOf o_pd__28_29I rfl) (y_ oD15_7) (fun T2 L2 v2 X2 hQ2 => ?_)
  obtain ⟨rfl, rfl, hh2⟩ := hQ2
  have N2 := Fr.app N1 (Fr.nil n0)
  show o_G p e below _ T2 (mkF m 10 #[vR x, vR y] [(.int 1), (.int 1), (.ref y), (.ref x)])
  refine o_isub X2 hx (y_ oD15_10) ?_
  refine o_valE (z := 0) (by decide) ?_
  refine o_vir (y := o_m15) (b := x) (argsL := [(.ref y), (.int 0)]) (S := []) (W := 0) X2 hx hZ hown (k_ 117 rfl) (k_ 118 rfl) (k_ 120 rfl) (k_ 119 rfl) (backOf (W := 0) (rmsw1_1_0 l Z a0 hw [] x y t u c0 d0 zC_ h0 n0 O0 S_x S_y SC_ hC_) hZ (k_ 121 rfl) (k_ 10 rfl) (by decide) (by decide)) hh2 S_x.1 hml (lenOf o_pd__28Ljava_2flang_2fString_3bI_29Z rfl) (y_ oD15_11) (fun T3 L3 v3 X3 hQ3 => ?_)
  obtain ⟨rfl, N3q, hh3⟩ := hQ3
  have N3 := Fr.app N2 N3q
  show o_G p e below _ T3 (mkF m 14 #[vR x, vR y] [(.int (if o_pref ([c0] : List Int32) ([d0] : List Int32) = true then 1 else 0 : Int32))])
  exact o_retN X3 hx (t := .boolean) hrt hlk (by simp) (y_ oD15_14) o_narB (by decide) (by decide) (o_hQ hh3 ⟨rfl, N3, rfl⟩)
abbrev Qst1_1 (Z : State) (x : Addr) (y : Addr) (t : Addr) (u : Addr) (c0 : Int32) (d0 : Int32) (zC_ : Int32) (h0 : Heap) (n0 : Nat) (v : Option Value) (h : Heap) (L : List Loc) : Prop := v = some (.int (if o_pref ([c0] : List Int32) ([d0] : List Int32) = true then 1 else 0)) ∧ Fr n0 L ∧ h = h0
set_option maxRecDepth 65536 in
set_option maxHeartbeats 40000000 in
theorem rmst1_1 (l : Launch) (Z : State) (a0 : Array Value) (hw : ∀ d ∈ tables_1, d.before a0 Z = true) (ws : List Jvm.Cond) (x : Addr) (y : Addr) (t : Addr) (u : Addr) (c0 : Int32) (d0 : Int32) (zC_ : Int32) (h0 : Heap) (n0 : Nat) (O0 : Old Z n0 h0) (S_x : o_Str Z h0 x t ([c0] : List Int32)) (S_y : o_Str Z h0 y u ([d0] : List Int32)) (SC_ : o_SC Z zC_) (hC_ : ¬ zC_ = 0) :
    o_Met l Z o_m18 jdk_42_method_76_code 2 (some .boolean) ws o_R6 #[(.ref x), (.ref y)] h0 (Qst1_1 Z x y t u c0 d0 zC_ h0 n0) := by
  refine o_enter o_pn_3 (fun m => o_ef1 m x y) (fun p e s m below meth c s₁ hx hby hml hZ hown hnm hlk hrt X0 e0 => ?_)
  have N0 := Fr.nil n0
  have y_ := @hb _ _ hby
  have k_ := @o_k _ _ hw
  refine o_aloadN X0 hx (y_ oD16_0) rfl rfl ?_
  refine o_aloadN X0 hx (y_ oD16_1) rfl rfl ?_
  refine o_iconst X0 hx (y_ oD16_2) (x := 0) rfl ?_
  refine o_vir (y := o_m15) (b := x) (argsL := [(.ref y), (.int 0)]) (S := []) (W := 0) X0 hx hZ hown (k_ 117 rfl) (k_ 118 rfl) (k_ 120 rfl) (k_ 119 rfl) (backOf (W := 0) (rmsw1_1_0 l Z a0 hw [] x y t u c0 d0 zC_ h0 n0 O0 S_x S_y SC_ hC_) hZ (k_ 121 rfl) (k_ 10 rfl) (by decide) (by decide)) e0 S_x.1 hml (lenOf o_pd__28Ljava_2flang_2fString_3bI_29Z rfl) (y_ oD16_3) (fun T1 L1 v1 X1 hQ1 => ?_)
  obtain ⟨rfl, N1q, hh1⟩ := hQ1
  have N1 := Fr.app N0 N1q
  show o_G p e below _ T1 (mkF m 6 #[vR x, vR y] [(.int (if o_pref ([c0] : List Int32) ([d0] : List Int32) = true then 1 else 0 : Int32))])
  exact o_retN X1 hx (t := .boolean) hrt hlk (by simp) (y_ oD16_6) o_narB (by decide) (by decide) (o_hQ hh1 ⟨rfl, N1, rfl⟩)
abbrev Qsw1_2_m1 (Z : State) (x : Addr) (y : Addr) (t : Addr) (u : Addr) (c0 : Int32) (d0 : Int32) (d1 : Int32) (zC_ : Int32) (h0 : Heap) (n0 : Nat) (v : Option Value) (h : Heap) (L : List Loc) : Prop := v = some (.int 0) ∧ Fr n0 L ∧ h = h0
set_option maxRecDepth 65536 in
set_option maxHeartbeats 40000000 in
theorem rmsw1_2_m1 (l : Launch) (Z : State) (a0 : Array Value) (hw : ∀ d ∈ tables_1, d.before a0 Z = true) (ws : List Jvm.Cond) (x : Addr) (y : Addr) (t : Addr) (u : Addr) (c0 : Int32) (d0 : Int32) (d1 : Int32) (zC_ : Int32) (h0 : Heap) (n0 : Nat) (O0 : Old Z n0 h0) (S_x : o_Str Z h0 x t ([c0] : List Int32)) (S_y : o_Str Z h0 y u ([d0, d1] : List Int32)) (SC_ : o_SC Z zC_) (hC_ : ¬ zC_ = 0) :
    o_Met l Z o_m15 jdk_42_method_75_code 8 (some .boolean) ws o_R5 #[(.ref x), (.ref y), (.int (-1))] h0 (Qsw1_2_m1 Z x y t u c0 d0 d1 zC_ h0 n0) := by
  refine o_enter o_pn_3 (fun m => o_ef14 m x y) (fun p e s m below meth c s₁ hx hby hml hZ hown hnm hlk hrt X0 e0 => ?_)
  have N0 := Fr.nil n0
  have y_ := @hb _ _ hby
  have k_ := @o_k _ _ hw
  refine o_iloadN X0 hx (y_ oD14_0) rfl ?_
  refine o_iFT (t := 17) X0 hx (y_ oD14_1) ?_
  refine o_iconst X0 hx (y_ oD14_17) (x := 0) rfl ?_
  exact o_retN X0 hx (t := .boolean) hrt hlk (by simp) (y_ oD14_18) rfl (by decide) (by decide) (o_hQ e0 ⟨rfl, N0, rfl⟩)
abbrev Qen1_2 (Z : State) (x : Addr) (y : Addr) (t : Addr) (u : Addr) (c0 : Int32) (d0 : Int32) (d1 : Int32) (zC_ : Int32) (h0 : Heap) (n0 : Nat) (v : Option Value) (h : Heap) (L : List Loc) : Prop := v = some (.int 0) ∧ Fr n0 L ∧ h = h0
set_option maxRecDepth 65536 in
set_option maxHeartbeats 40000000 in
theorem rmen1_2 (l : Launch) (Z : State) (a0 : Array Value) (hw : ∀ d ∈ tables_1, d.before a0 Z = true) (ws : List Jvm.Cond) (x : Addr) (y : Addr) (t : Addr) (u : Addr) (c0 : Int32) (d0 : Int32) (d1 : Int32) (zC_ : Int32) (h0 : Heap) (n0 : Nat) (O0 : Old Z n0 h0) (S_x : o_Str Z h0 x t ([c0] : List Int32)) (S_y : o_Str Z h0 y u ([d0, d1] : List Int32)) (SC_ : o_SC Z zC_) (hC_ : ¬ zC_ = 0) :
    o_Met l Z o_m17 jdk_42_method_77_code 2 (some .boolean) ws o_R6 #[(.ref x), (.ref y)] h0 (Qen1_2 Z x y t u c0 d0 d1 zC_ h0 n0) := by
  refine o_enter o_pn_3 (fun m => o_ef1 m x y) (fun p e s m below meth c s₁ hx hby hml hZ hown hnm hlk hrt X0 e0 => ?_)
  have N0 := Fr.nil n0
  have y_ := @hb _ _ hby
  have k_ := @o_k _ _ hw
  refine o_aloadN X0 hx (y_ oD15_0) rfl rfl ?_
  refine o_aloadN X0 hx (y_ oD15_1) rfl rfl ?_
  refine o_aloadN X0 hx (y_ oD15_2) rfl rfl ?_
  refine o_vir (y := o_m16) (b := x) (argsL := []) (S := [(.ref y), (.ref x)]) (W := 2) X0 hx hZ hown (k_ 112 rfl) (k_ 113 rfl) (k_ 115 rfl) (k_ 114 rfl) (o_lenB (W := 2) hZ hw (k_ 9 rfl) O0 S_x SC_ hC_ (by decide) (by decide)) e0 S_x.1 hml (lenOf o_pd__28_29I rfl) (y_ oD15_3) (fun T1 L1 v1 X1 hQ1 => ?_)
  obtain ⟨rfl, rfl, hh1⟩ := hQ1
  have N1 := Fr.app N0 (Fr.nil n0)
  show o_G p e below _ T1 (mkF m 6 #[vR x, vR y] [(.int 1), (.ref y), (.ref x)])
  refine o_aloadN X1 hx (y_ oD15_6) rfl rfl ?_
  refine o_vir (y := o_m16) (b := y) (argsL := []) (S := [(.int 1), (.ref y), (.ref x)]) (W := 3) X1 hx hZ hown (k_ 112 rfl) (k_ 113 rfl) (k_ 115 rfl) (k_ 114 rfl) (o_lenB (W := 3) hZ hw (k_ 9 rfl) O0 S_y SC_ hC_ (by decide) (by decide)) hh1 S_y.1 hml (lenOf o_pd__28_29I rfl) (y_ oD15_7) (fun T2 L2 v2 X2 hQ2 => ?_)
  obtain ⟨rfl, rfl, hh2⟩ := hQ2
  have N2 := Fr.app N1 (Fr.nil n0)
  show o_G p e below _ T2 (mkF m 10 #[vR x, vR y] [(.int 2), (.int 1), (.ref y), (.ref x)])
  refine o_isub X2 hx (y_ oD15_10) ?_
  refine o_valE (z := (-1 : Int32)) (by decide) ?_
  refine o_vir (y := o_m15) (b := x) (argsL := [(.ref y), (.int (-1))]) (S := []) (W := 0) X2 hx hZ hown (k_ 117 rfl) (k_ 118 rfl) (k_ 120 rfl) (k_ 119 rfl) (backOf (W := 0) (rmsw1_2_m1 l Z a0 hw [] x y t u c0 d0 d1 zC_ h0 n0 O0 S_x S_y SC_ hC_) hZ (k_ 121 rfl) (k_ 10 rfl) (by decide) (by decide)) hh2 S_x.1 hml (lenOf o_pd__28Ljava_2flang_2fString_3bI_29Z rfl) (y_ oD15_11) (fun T3 L3 v3 X3 hQ3 => ?_)
  obtain ⟨rfl, N3q, hh3⟩ := hQ3
  have N3 := Fr.app N2 N3q
  show o_G p e below _ T3 (mkF m 14 #[vR x, vR y] [(.int 0)])
  exact o_retN X3 hx (t := .boolean) hrt hlk (by simp) (y_ oD15_14) rfl (by decide) (by decide) (o_hQ hh3 ⟨rfl, N3, rfl⟩)
abbrev Qsw1_2_0 (Z : State) (x : Addr) (y : Addr) (t : Addr) (u : Addr) (c0 : Int32) (d0 : Int32) (d1 : Int32) (zC_ : Int32) (h0 : Heap) (n0 : Nat) (v : Option Value) (h : Heap) (L : List Loc) : Prop := v = some (.int 0) ∧ Fr n0 L ∧ h = h0
set_option maxRecDepth 65536 in
set_option maxHeartbeats 40000000 in
theorem rmsw1_2_0 (l : Launch) (Z : State) (a0 : Array Value) (hw : ∀ d ∈ tables_1, d.before a0 Z = true) (ws : List Jvm.Cond) (x : Addr) (y : Addr) (t : Addr) (u : Addr) (c0 : Int32) (d0 : Int32) (d1 : Int32) (zC_ : Int32) (h0 : Heap) (n0 : Nat) (O0 : Old Z n0 h0) (S_x : o_Str Z h0 x t ([c0] : List Int32)) (S_y : o_Str Z h0 y u ([d0, d1] : List Int32)) (SC_ : o_SC Z zC_) (hC_ : ¬ zC_ = 0) :
    o_Met l Z o_m15 jdk_42_method_75_code 8 (some .boolean) ws o_R5 #[(.ref x), (.ref y), (.int 0)] h0 (Qsw1_2_0 Z x y t u c0 d0 d1 zC_ h0 n0) := by
  refine o_enter o_pn_3 (fun m => o_ef13 m x y) (fun p e s m below meth c s₁ hx hby hml hZ hown hnm hlk hrt X0 e0 => ?_)
  have N0 := Fr.nil n0
  have y_ := @hb _ _ hby
  have k_ := @o_k _ _ hw
  refine o_iloadN X0 hx (y_ oD14_0) rfl ?_
  refine o_iFF X0 hx (y_ oD14_1) ?_
  refine o_iloadN X0 hx (y_ oD14_4) rfl ?_
  refine o_aloadN X0 hx (y_ oD14_5) rfl rfl ?_
  refine o_vir (y := o_m16) (b := x) (argsL := []) (S := [(.int 0)]) (W := 1) X0 hx hZ hown (k_ 112 rfl) (k_ 113 rfl) (k_ 115 rfl) (k_ 114 rfl) (o_lenB (W := 1) hZ hw (k_ 9 rfl) O0 S_x SC_ hC_ (by decide) (by decide)) e0 S_x.1 hml (lenOf o_pd__28_29I rfl) (y_ oD14_6) (fun T1 L1 v1 X1 hQ1 => ?_)
  obtain ⟨rfl, rfl, hh1⟩ := hQ1
  have N1 := Fr.app N0 (Fr.nil n0)
  show o_G p e below _ T1 (mkF m 9 #[vR x, vR y, vI 0, .unset, .unset, .unset, .unset, .unset] [(.int 1), (.int 0)])
  refine o_aloadN X1 hx (y_ oD14_9) rfl rfl ?_
  refine o_vir (y := o_m16) (b := y) (argsL := []) (S := [(.int 1), (.int 0)]) (W := 2) X1 hx hZ hown (k_ 112 rfl) (k_ 113 rfl) (k_ 115 rfl) (k_ 114 rfl) (o_lenB (W := 2) hZ hw (k_ 9 rfl) O0 S_y SC_ hC_ (by decide) (by decide)) hh1 S_y.1 hml (lenOf o_pd__28_29I rfl) (y_ oD14_10) (fun T2 L2 v2 X2 hQ2 => ?_)
  obtain ⟨rfl, rfl, hh2⟩ := hQ2
  have N2 := Fr.app N1 (Fr.nil n0)
  show o_G p e below _ T2 (mkF m 13 #[vR x, vR y, vI 0, .unset, .unset, .unset, .unset, .unset] [(.int 2), (.int 1), (.int 0)])
  refine o_isub X2 hx (y_ oD14_13) ?_
  refine o_valE (z := (-1 : Int32)) (by decide) ?_
  refine o_iCF X2 hx (y_ oD14_14) ?_
  refine o_iconst X2 hx (y_ oD14_17) (x := 0) rfl ?_
  exact o_retN X2 hx (t := .boolean) hrt hlk (by simp) (y_ oD14_18) rfl (by decide) (by decide) (o_hQ hh2 ⟨rfl, N2, rfl⟩)
abbrev Qst1_2 (Z : State) (x : Addr) (y : Addr) (t : Addr) (u : Addr) (c0 : Int32) (d0 : Int32) (d1 : Int32) (zC_ : Int32) (h0 : Heap) (n0 : Nat) (v : Option Value) (h : Heap) (L : List Loc) : Prop := v = some (.int 0) ∧ Fr n0 L ∧ h = h0
set_option maxRecDepth 65536 in
set_option maxHeartbeats 40000000 in
theorem rmst1_2 (l : Launch) (Z : State) (a0 : Array Value) (hw : ∀ d ∈ tables_1, d.before a0 Z = true) (ws : List Jvm.Cond) (x : Addr) (y : Addr) (t : Addr) (u : Addr) (c0 : Int32) (d0 : Int32) (d1 : Int32) (zC_ : Int32) (h0 : Heap) (n0 : Nat) (O0 : Old Z n0 h0) (S_x : o_Str Z h0 x t ([c0] : List Int32)) (S_y : o_Str Z h0 y u ([d0, d1] : List Int32)) (SC_ : o_SC Z zC_) (hC_ : ¬ zC_ = 0) :
    o_Met l Z o_m18 jdk_42_method_76_code 2 (some .boolean) ws o_R6 #[(.ref x), (.ref y)] h0 (Qst1_2 Z x y t u c0 d0 d1 zC_ h0 n0) := by
  refine o_enter o_pn_3 (fun m => o_ef1 m x y) (fun p e s m below meth c s₁ hx hby hml hZ hown hnm hlk hrt X0 e0 => ?_)
  have N0 := Fr.nil n0
  have y_ := @hb _ _ hby
  have k_ := @o_k _ _ hw
  refine o_aloadN X0 hx (y_ oD16_0) rfl rfl ?_
  refine o_aloadN X0 hx (y_ oD16_1) rfl rfl ?_
  refine o_iconst X0 hx (y_ oD16_2) (x := 0) rfl ?_
  refine o_vir (y := o_m15) (b := x) (argsL := [(.ref y), (.int 0)]) (S := []) (W := 0) X0 hx hZ hown (k_ 117 rfl) (k_ 118 rfl) (k_ 120 rfl) (k_ 119 rfl) (backOf (W := 0) (rmsw1_2_0 l Z a0 hw [] x y t u c0 d0 d1 zC_ h0 n0 O0 S_x S_y SC_ hC_) hZ (k_ 121 rfl) (k_ 10 rfl) (by decide) (by decide)) e0 S_x.1 hml (lenOf o_pd__28Ljava_2flang_2fString_3bI_29Z rfl) (y_ oD16_3) (fun T1 L1 v1 X1 hQ1 => ?_)
  obtain ⟨rfl, N1q, hh1⟩ := hQ1
  have N1 := Fr.app N0 N1q
  show o_G p e below _ T1 (mkF m 6 #[vR x, vR y] [(.int 0)])
  exact o_retN X1 hx (t := .boolean) hrt hlk (by simp) (y_ oD16_6) rfl (by decide) (by decide) (o_hQ hh1 ⟨rfl, N1, rfl⟩)
abbrev Qmis2_0_2 (Z : State) (a : Addr) (b : Addr) (ka : ClassId) (kb : ClassId) (v0 : Int32) (v1 : Int32) (h0 : Heap) (n0 : Nat) (v : Option Value) (h : Heap) (L : List Loc) : Prop := ∃ r : Int32, v = some (.int r) ∧ Fr n0 L ∧ h = h0 ∧ (r < 0 ↔ o_pref ([] : List Int32) ([] : List Int32) = true)
set_option maxRecDepth 65536 in
set_option maxHeartbeats 40000000 in
theorem rmmis2_0_2 (l : Launch) (Z : State) (a0 : Array Value) (hw : ∀ d ∈ tables_1, d.before a0 Z = true) (ws : List Jvm.Cond) (a : Addr) (b : Addr) (ka : ClassId) (kb : ClassId) (v0 : Int32) (v1 : Int32) (h0 : Heap) (n0 : Nat) (O0 : Old Z n0 h0) (V_a : Arv Z h0 a ka .byte (2 : Int32) [.int v0, .int v1] (.int 0)) (V_b : Arv Z h0 b kb .byte (0 : Int32) [] (.int 0)) :
    o_Met l Z o_m14 jdk_48_method_14_code 8 (some .int) ws o_R1 #[(.ref a), (.int 2), (.ref b), (.int 0), (.int 0)] h0 (Qmis2_0_2 Z a b ka kb v0 v1 h0 n0) := by
  refine o_enter o_pn_5 (fun m => o_ef19 m a b) (fun p e s m below meth c s₁ hx hby hml hZ hown hnm hlk hrt X0 e0 => ?_)
  have N0 := Fr.nil n0
  have y_ := @hb _ _ hby
  have k_ := @o_k _ _ hw
  refine o_iconst X0 hx (y_ oD13_0) (x := 0) rfl ?_
  refine o_istore X0 hx (y_ oD13_1) (A' := #[vR a, vI 2, vR b, vI 0, vI 0, vI 0, .unset, .unset]) rfl ?_
  refine o_iload X0 hx (y_ oD13_3) rfl ?_
  refine o_bipush X0 hx (y_ oD13_5) (x := 7) rfl ?_
  refine o_iCT (t := 70) X0 hx (y_ oD13_7) ?_
  refine o_iload X0 hx (y_ oD13_70) rfl ?_
  refine o_iload X0 hx (y_ oD13_72) rfl ?_
  refine o_iCT (t := 101) X0 hx (y_ oD13_74) ?_
  refine o_iconst X0 hx (y_ oD13_101) (x := (-1 : Int32)) rfl ?_
  exact o_retI X0 hx hrt hlk (y_ oD13_102) (by decide) (by decide) (o_hQ e0 ⟨_, rfl, N0, rfl, (o_lf24 v0 v1)⟩)
abbrev Qsw2_0_2 (Z : State) (x : Addr) (y : Addr) (t : Addr) (u : Addr) (c0 : Int32) (c1 : Int32) (zC_ : Int32) (h0 : Heap) (n0 : Nat) (v : Option Value) (h : Heap) (L : List Loc) : Prop := v = some (.int (if o_pref ([] : List Int32) ([] : List Int32) = true then 1 else 0)) ∧ Fr n0 L ∧ h = h0
set_option maxRecDepth 65536 in
set_option maxHeartbeats 40000000 in
theorem rmsw2_0_2 (l : Launch) (Z : State) (a0 : Array Value) (hw : ∀ d ∈ tables_1, d.before a0 Z = true) (ws : List Jvm.Cond) (x : Addr) (y : Addr) (t : Addr) (u : Addr) (c0 : Int32) (c1 : Int32) (zC_ : Int32) (h0 : Heap) (n0 : Nat) (O0 : Old Z n0 h0) (S_x : o_Str Z h0 x t ([c0, c1] : List Int32)) (S_y : o_Str Z h0 y u ([] : List Int32)) (SC_ : o_SC Z zC_) (hC_ : ¬ zC_ = 0) :
    o_Met l Z o_m15 jdk_42_method_75_code 8 (some .boolean) ws o_R5 #[(.ref x), (.ref y), (.int 2)] h0 (Qsw2_0_2 Z x y t u c0 c1 zC_ h0 n0) := by
  refine o_enter o_pn_3 (fun m => o_ef20 m x y) (fun p e s m below meth c s₁ hx hby hml hZ hown hnm hlk hrt X0 e0 => ?_)
  have N0 := Fr.nil n0
  have y_ := @hb _ _ hby
  have k_ := @o_k _ _ hw
  refine o_iloadN X0 hx (y_ oD14_0) rfl ?_
  refine o_iFF X0 hx (y_ oD14_1) ?_
  refine o_iloadN X0 hx (y_ oD14_4) rfl ?_
  refine o_aloadN X0 hx (y_ oD14_5) rfl rfl ?_
  refine o_vir (y := o_m16) (b := x) (argsL := []) (S := [(.int 2)]) (W := 1) X0 hx hZ hown (k_ 112 rfl) (k_ 113 rfl) (k_ 115 rfl) (k_ 114 rfl) (o_lenB (W := 1) hZ hw (k_ 9 rfl) O0 S_x SC_ hC_ (by decide) (by decide)) e0 S_x.1 hml (lenOf o_pd__28_29I rfl) (y_ oD14_6) (fun T1 L1 v1 X1 hQ1 => ?_)
  obtain ⟨rfl, rfl, hh1⟩ := hQ1
  have N1 := Fr.app N0 (Fr.nil n0)
  show o_G p e below _ T1 (mkF m 9 #[vR x, vR y, vI 2, .unset, .unset, .unset, .unset, .unset] [(.int 2), (.int 2)])
  refine o_aloadN X1 hx (y_ oD14_9) rfl rfl ?_
  refine o_vir (y := o_m16) (b := y) (argsL := []) (S := [(.int 2), (.int 2)]) (W := 2) X1 hx hZ hown (k_ 112 rfl) (k_ 113 rfl) (k_ 115 rfl) (k_ 114 rfl) (o_lenB (W := 2) hZ hw (k_ 9 rfl) O0 S_y SC_ hC_ (by decide) (by decide)) hh1 S_y.1 hml (lenOf o_pd__28_29I rfl) (y_ oD14_10) (fun T2 L2 v2 X2 hQ2 => ?_)
  obtain ⟨rfl, rfl, hh2⟩ := hQ2
  have N2 := Fr.app N1 (Fr.nil n0)
  show o_G p e below _ T2 (mkF m 13 #[vR x, vR y, vI 2, .unset, .unset, .unset, .unset, .unset] [(.int 0), (.int 2), (.int 2)])
  refine o_isub X2 hx (y_ oD14_13) ?_
  refine o_valE (z := 2) (by decide) ?_
  refine o_iCT (t := 19) X2 hx (y_ oD14_14) ?_
  obtain ⟨kb3, Bv3⟩ := S_x.2.2.2.1
  have Bw3 : Arv Z h0 t kb3 .byte (2 : Int32) [.int c0.toInt8.toInt32, .int c1.toInt8.toInt32] (.int 0) := Bv3
  obtain ⟨kb4, Bv4⟩ := S_y.2.2.2.1
  have Bw4 : Arv Z h0 u kb4 .byte (0 : Int32) [] (.int 0) := Bv4
  refine o_aloadN X2 hx (y_ oD14_19) rfl rfl ?_
  refine o_getF X2 hx hZ hown (host := "") (Or.inl (k_ 35 rfl)) Via.refl hh2 S_x.2.2.1 (y_ oD14_20) (fun T5 X5 e5 => ?_)
  refine o_astoreN X5 hx (y_ oD14_23) rfl (A' := #[vR x, vR y, vI 2, vR t, .unset, .unset, .unset, .unset]) rfl ?_
  refine o_aloadN X5 hx (y_ oD14_24) rfl rfl ?_
  refine o_getF X5 hx hZ hown (host := "") (Or.inl (k_ 35 rfl)) Via.refl e5 S_y.2.2.1 (y_ oD14_25) (fun T6 X6 e6 => ?_)
  refine o_astore X6 hx (y_ oD14_28) rfl (A' := #[vR x, vR y, vI 2, vR t, vR u, .unset, .unset, .unset]) rfl ?_
  refine o_iconst X6 hx (y_ oD14_30) (x := 0) rfl ?_
  refine o_istore X6 hx (y_ oD14_31) (A' := #[vR x, vR y, vI 2, vR t, vR u, vI 0, .unset, .unset]) rfl ?_
  refine o_aload X6 hx (y_ oD14_33) rfl rfl ?_
  refine o_alen (n := 0) X6 hx hZ e6 Bw4 (y_ oD14_35) ?_
  refine o_istore X6 hx (y_ oD14_36) (A' := #[vR x, vR y, vI 2, vR t, vR u, vI 0, vI 0, .unset]) rfl ?_
  refine o_aloadN X6 hx (y_ oD14_38) rfl rfl ?_
  refine o_vir (y := o_m8) (b := x) (argsL := []) (S := []) (W := 0) X6 hx hZ hown (k_ 73 rfl) (k_ 74 rfl) (k_ 76 rfl) (k_ 75 rfl) (backOf (W := 0) (rmcod l Z a0 hw [] x zC_ h0 n0 O0 S_x.2.1 SC_ hC_) hZ (k_ 77 rfl) (k_ 10 rfl) (by decide) (by decide)) e6 S_x.1 hml (lenOf o_pd__28_29B rfl) (y_ oD14_39) (fun T7 L7 v7 X7 hQ7 => ?_)
  obtain ⟨rfl, N7q, hh7⟩ := hQ7
  have N7 := Fr.app N2 N7q
  show o_G p e below _ T7 (mkF m 42 #[vR x, vR y, vI 2, vR t, vR u, vI 0, vI 0, .unset] [(.int 0)])
  refine o_istore X7 hx (y_ oD14_42) (A' := #[vR x, vR y, vI 2, vR t, vR u, vI 0, vI 0, vI 0]) rfl ?_
  refine o_iload X7 hx (y_ oD14_44) rfl ?_
  refine o_aloadN X7 hx (y_ oD14_46) rfl rfl ?_
  refine o_vir (y := o_m8) (b := y) (argsL := []) (S := [(.int 0)]) (W := 1) X7 hx hZ hown (k_ 73 rfl) (k_ 74 rfl) (k_ 76 rfl) (k_ 75 rfl) (backOf (W := 1) (rmcod l Z a0 hw [] y zC_ h0 n0 O0 S_y.2.1 SC_ hC_) hZ (k_ 77 rfl) (k_ 10 rfl) (by decide) (by decide)) hh7 S_y.1 hml (lenOf o_pd__28_29B rfl) (y_ oD14_47) (fun T8 L8 v8 X8 hQ8 => ?_)
  obtain ⟨rfl, N8q, hh8⟩ := hQ8
  have N8 := Fr.app N7 N8q
  show o_G p e below _ T8 (mkF m 50 #[vR x, vR y, vI 2, vR t, vR u, vI 0, vI 0, vI 0] [(.int 0), (.int 0)])
  refine o_iCF X8 hx (y_ oD14_50) ?_
  refine o_iload X8 hx (y_ oD14_53) rfl ?_
  refine o_iconst X8 hx (y_ oD14_55) (x := 1) rfl ?_
  refine o_iCT (t := 63) X8 hx (y_ oD14_56) ?_
  refine o_aloadN X8 hx (y_ oD14_63) rfl rfl ?_
  refine o_iloadN X8 hx (y_ oD14_64) rfl ?_
  refine o_aload X8 hx (y_ oD14_65) rfl rfl ?_
  refine o_iconst X8 hx (y_ oD14_67) (x := 0) rfl ?_
  refine o_iload X8 hx (y_ oD14_68) rfl ?_
  refine o_sta (y := o_m14) (argsL := [(.ref t), (.int 2), (.ref u), (.int 0), (.int 0)]) (S := []) (W := 0) X8 hx hZ hown (k_ 125 rfl) (k_ 126 rfl) (k_ 127 rfl) (k_ 128 rfl) (backOf (W := 0) (rmmis2_0_2 l Z a0 hw [] t u kb3 kb4 (c0.toInt8.toInt32) (c1.toInt8.toInt32) h0 n0 O0 Bw3 Bw4) hZ (k_ 128 rfl) (k_ 127 rfl) (by decide) (by decide)) hh8 hml (lenOf o_pd__28_5bBI_5bBII_29I rfl) (y_ oD14_70) (fun T9 L9 v9 X9 hQ9 => ?_)
  obtain ⟨r9, rfl, N9q, hh9, hr9⟩ := hQ9
  have N9 := Fr.app N8 N9q
  show o_G p e below _ T9 (mkF m 73 #[vR x, vR y, vI 2, vR t, vR u, vI 0, vI 0, vI 0] [(.int r9)])
  refine o_iF (t := 80) X9 hx (y_ oD14_73) (fun hq => ?_) (fun hq => ?_)
  · have hc73 := o_h_ge.1 hq
    refine o_iconst X9 hx (y_ oD14_80) (x := 0) rfl ?_
    exact o_retN X9 hx (t := .boolean) hrt hlk (by simp) (y_ oD14_81) rfl (by decide) (by decide) (o_hQ hh9 ⟨by rw [if_neg (fun q => hc73 (hr9.mpr ((o_pref_b ([] : List Int32) ([] : List Int32) (fun c hc => S_x.2.2.2.2.1 c (List.mem_of_mem_drop (i := 2) hc)) S_y.2.2.2.2.1).symm ▸ q)))], N9, rfl⟩)
  have hc73 := o_h_ge.2 hq
  refine o_iconst X9 hx (y_ oD14_76) (x := 1) rfl ?_
  refine o_gO (t := 81) X9 hx (y_ oD14_77) ?_
  exact o_retN X9 hx (t := .boolean) hrt hlk (by simp) (y_ oD14_81) rfl (by decide) (by decide) (o_hQ hh9 ⟨by rw [if_pos ((o_pref_b ([] : List Int32) ([] : List Int32) (fun c hc => S_x.2.2.2.2.1 c (List.mem_of_mem_drop (i := 2) hc)) S_y.2.2.2.2.1) ▸ hr9.mp hc73)], N9, rfl⟩)
abbrev Qen2_0 (Z : State) (x : Addr) (y : Addr) (t : Addr) (u : Addr) (c0 : Int32) (c1 : Int32) (zC_ : Int32) (h0 : Heap) (n0 : Nat) (v : Option Value) (h : Heap) (L : List Loc) : Prop := v = some (.int (if o_pref ([] : List Int32) ([] : List Int32) = true then 1 else 0)) ∧ Fr n0 L ∧ h = h0
set_option maxRecDepth 65536 in
set_option maxHeartbeats 40000000 in
theorem rmen2_0 (l : Launch) (Z : State) (a0 : Array Value) (hw : ∀ d ∈ tables_1, d.before a0 Z = true) (ws : List Jvm.Cond) (x : Addr) (y : Addr) (t : Addr) (u : Addr) (c0 : Int32) (c1 : Int32) (zC_ : Int32) (h0 : Heap) (n0 : Nat) (O0 : Old Z n0 h0) (S_x : o_Str Z h0 x t ([c0, c1] : List Int32)) (S_y : o_Str Z h0 y u ([] : List Int32)) (SC_ : o_SC Z zC_) (hC_ : ¬ zC_ = 0) :
    o_Met l Z o_m17 jdk_42_method_77_code 2 (some .boolean) ws o_R6 #[(.ref x), (.ref y)] h0 (Qen2_0 Z x y t u c0 c1 zC_ h0 n0) := by
  refine o_enter o_pn_3 (fun m => o_ef1 m x y) (fun p e s m below meth c s₁ hx hby hml hZ hown hnm hlk hrt X0 e0 => ?_)
  have N0 := Fr.nil n0
  have y_ := @hb _ _ hby
  have k_ := @o_k _ _ hw
  refine o_aloadN X0 hx (y_ oD15_0) rfl rfl ?_
  refine o_aloadN X0 hx (y_ oD15_1) rfl rfl ?_
  refine o_aloadN X0 hx (y_ oD15_2) rfl rfl ?_
  refine o_vir (y := o_m16) (b := x) (argsL := []) (S := [(.ref y), (.ref x)]) (W := 2) X0 hx hZ hown (k_ 112 rfl) (k_ 113 rfl) (k_ 115 rfl) (k_ 114 rfl) (o_lenB (W := 2) hZ hw (k_ 9 rfl) O0 S_x SC_ hC_ (by decide) (by decide)) e0 S_x.1 hml (lenOf o_pd__28_29I rfl) (y_ oD15_3) (fun T1 L1 v1 X1 hQ1 => ?_)
  obtain ⟨rfl, rfl, hh1⟩ := hQ1
  have N1 := Fr.app N0 (Fr.nil n0)
  show o_G p e below _ T1 (mkF m 6 #[vR x, vR y] [(.int 2), (.ref y), (.ref x)])
  refine o_aloadN X1 hx (y_ oD15_6) rfl rfl ?_
  refine o_vir (y := o_m16) (b := y) (argsL := []) (S := [(.int 2), (.ref y), (.ref x)]) (W := 3) X1 hx hZ hown (k_ 112 rfl) (k_ 113 rfl) (k_ 115 rfl) (k_ 114 rfl) (o_lenB (W := 3) hZ hw (k_ 9 rfl) O0 S_y SC_ hC_ (by decide) (by decide)) hh1 S_y.1 hml (lenOf o_pd__28_29I rfl) (y_ oD15_7) (fun T2 L2 v2 X2 hQ2 => ?_)
  obtain ⟨rfl, rfl, hh2⟩ := hQ2
  have N2 := Fr.app N1 (Fr.nil n0)
  show o_G p e below _ T2 (mkF m 10 #[vR x, vR y] [(.int 0), (.int 2), (.ref y), (.ref x)])
  refine o_isub X2 hx (y_ oD15_10) ?_
  refine o_valE (z := 2) (by decide) ?_
  refine o_vir (y := o_m15) (b := x) (argsL := [(.ref y), (.int 2)]) (S := []) (W := 0) X2 hx hZ hown (k_ 117 rfl) (k_ 118 rfl) (k_ 120 rfl) (k_ 119 rfl) (backOf (W := 0) (rmsw2_0_2 l Z a0 hw [] x y t u c0 c1 zC_ h0 n0 O0 S_x S_y SC_ hC_) hZ (k_ 121 rfl) (k_ 10 rfl) (by decide) (by decide)) hh2 S_x.1 hml (lenOf o_pd__28Ljava_2flang_2fString_3bI_29Z rfl) (y_ oD15_11) (fun T3 L3 v3 X3 hQ3 => ?_)
  obtain ⟨rfl, N3q, hh3⟩ := hQ3
  have N3 := Fr.app N2 N3q
  show o_G p e below _ T3 (mkF m 14 #[vR x, vR y] [(.int (if o_pref ([] : List Int32) ([] : List Int32) = true then 1 else 0 : Int32))])
  exact o_retN X3 hx (t := .boolean) hrt hlk (by simp) (y_ oD15_14) o_narB (by decide) (by decide) (o_hQ hh3 ⟨rfl, N3, rfl⟩)
abbrev Qmis2_1_1 (Z : State) (a : Addr) (b : Addr) (ka : ClassId) (kb : ClassId) (v0 : Int32) (v1 : Int32) (s0 : Int32) (h0 : Heap) (n0 : Nat) (v : Option Value) (h : Heap) (L : List Loc) : Prop := ∃ r : Int32, v = some (.int r) ∧ Fr n0 L ∧ h = h0 ∧ (r < 0 ↔ o_pref ([v1] : List Int32) ([s0] : List Int32) = true)
set_option maxRecDepth 65536 in
set_option maxHeartbeats 40000000 in
theorem rmmis2_1_1 (l : Launch) (Z : State) (a0 : Array Value) (hw : ∀ d ∈ tables_1, d.before a0 Z = true) (ws : List Jvm.Cond) (a : Addr) (b : Addr) (ka : ClassId) (kb : ClassId) (v0 : Int32) (v1 : Int32) (s0 : Int32) (h0 : Heap) (n0 : Nat) (O0 : Old Z n0 h0) (V_a : Arv Z h0 a ka .byte (2 : Int32) [.int v0, .int v1] (.int 0)) (V_b : Arv Z h0 b kb .byte (1 : Int32) [.int s0] (.int 0)) :
    o_Met l Z o_m14 jdk_48_method_14_code 8 (some .int) ws o_R1 #[(.ref a), (.int 1), (.ref b), (.int 0), (.int 1)] h0 (Qmis2_1_1 Z a b ka kb v0 v1 s0 h0 n0) := by
  refine o_enter o_pn_5 (fun m => o_ef21 m a b) (fun p e s m below meth c s₁ hx hby hml hZ hown hnm hlk hrt X0 e0 => ?_)
  have N0 := Fr.nil n0
  have y_ := @hb _ _ hby
  have k_ := @o_k _ _ hw
  refine o_iconst X0 hx (y_ oD13_0) (x := 0) rfl ?_
  refine o_istore X0 hx (y_ oD13_1) (A' := #[vR a, vI 1, vR b, vI 0, vI 1, vI 0, .unset, .unset]) rfl ?_
  refine o_iload X0 hx (y_ oD13_3) rfl ?_
  refine o_bipush X0 hx (y_ oD13_5) (x := 7) rfl ?_
  refine o_iCT (t := 70) X0 hx (y_ oD13_7) ?_
  refine o_iload X0 hx (y_ oD13_70) rfl ?_
  refine o_iload X0 hx (y_ oD13_72) rfl ?_
  refine o_iCF X0 hx (y_ oD13_74) ?_
  refine o_aloadN X0 hx (y_ oD13_77) rfl rfl ?_
  refine o_iloadN X0 hx (y_ oD13_78) rfl ?_
  refine o_iload X0 hx (y_ oD13_79) rfl ?_
  refine o_iadd X0 hx (y_ oD13_81) ?_
  refine o_valE (z := 1) (by decide) ?_
  refine o_bload (v := (.int v1)) X0 hx hZ e0 V_a (y_ oD13_82) ⟨by decide, by decide⟩ rfl ?_
  refine o_aloadN X0 hx (y_ oD13_83) rfl rfl ?_
  refine o_iloadN X0 hx (y_ oD13_84) rfl ?_
  refine o_iload X0 hx (y_ oD13_85) rfl ?_
  refine o_iadd X0 hx (y_ oD13_87) ?_
  refine o_valE (z := 0) (by decide) ?_
  refine o_bload (v := (.int s0)) X0 hx hZ e0 V_b (y_ oD13_88) ⟨by decide, by decide⟩ rfl ?_
  refine o_iC (t := 95) X0 hx (y_ oD13_89) (fun hq => ?_) (fun hq => ?_)
  · have hc89_1 := o_c_eq.1 hq
    refine o_iincK X0 hx (y_ oD13_95) (y := 1) rfl rfl (z := 1) (by decide) (A' := #[vR a, vI 1, vR b, vI 0, vI 1, vI 1, .unset, .unset]) rfl ?_
    refine o_gO (t := 70) X0 hx (y_ oD13_98) ?_
    refine o_iload X0 hx (y_ oD13_70) rfl ?_
    refine o_iload X0 hx (y_ oD13_72) rfl ?_
    refine o_iCT (t := 101) X0 hx (y_ oD13_74) ?_
    refine o_iconst X0 hx (y_ oD13_101) (x := (-1 : Int32)) rfl ?_
    exact o_retI X0 hx hrt hlk (y_ oD13_102) (by decide) (by decide) (o_hQ e0 ⟨_, rfl, N0, rfl, (o_lf25 v0 v1 s0 hc89_1)⟩)
  have hc89_1 := o_c_eq.2 hq
  refine o_iload X0 hx (y_ oD13_92) rfl ?_
  exact o_retI X0 hx hrt hlk (y_ oD13_94) (by decide) (by decide) (o_hQ e0 ⟨_, rfl, N0, rfl, (o_lf26 v0 v1 s0 hc89_1)⟩)
abbrev Qsw2_1_1 (Z : State) (x : Addr) (y : Addr) (t : Addr) (u : Addr) (c0 : Int32) (c1 : Int32) (d0 : Int32) (zC_ : Int32) (h0 : Heap) (n0 : Nat) (v : Option Value) (h : Heap) (L : List Loc) : Prop := v = some (.int (if o_pref ([c1] : List Int32) ([d0] : List Int32) = true then 1 else 0)) ∧ Fr n0 L ∧ h = h0
set_option maxRecDepth 65536 in
set_option maxHeartbeats 40000000 in
theorem rmsw2_1_1 (l : Launch) (Z : State) (a0 : Array Value) (hw : ∀ d ∈ tables_1, d.before a0 Z = true) (ws : List Jvm.Cond) (x : Addr) (y : Addr) (t : Addr) (u : Addr) (c0 : Int32) (c1 : Int32) (d0 : Int32) (zC_ : Int32) (h0 : Heap) (n0 : Nat) (O0 : Old Z n0 h0) (S_x : o_Str Z h0 x t ([c0, c1] : List Int32)) (S_y : o_Str Z h0 y u ([d0] : List Int32)) (SC_ : o_SC Z zC_) (hC_ : ¬ zC_ = 0) :
    o_Met l Z o_m15 jdk_42_method_75_code 8 (some .boolean) ws o_R5 #[(.ref x), (.ref y), (.int 1)] h0 (Qsw2_1_1 Z x y t u c0 c1 d0 zC_ h0 n0) := by
  refine o_enter o_pn_3 (fun m => o_ef17 m x y) (fun p e s m below meth c s₁ hx hby hml hZ hown hnm hlk hrt X0 e0 => ?_)
  have N0 := Fr.nil n0
  have y_ := @hb _ _ hby
  have k_ := @o_k _ _ hw
  refine o_iloadN X0 hx (y_ oD14_0) rfl ?_
  refine o_iFF X0 hx (y_ oD14_1) ?_
  refine o_iloadN X0 hx (y_ oD14_4) rfl ?_
  refine o_aloadN X0 hx (y_ oD14_5) rfl rfl ?_
  refine o_vir (y := o_m16) (b := x) (argsL := []) (S := [(.int 1)]) (W := 1) X0 hx hZ hown (k_ 112 rfl) (k_ 113 rfl) (k_ 115 rfl) (k_ 114 rfl) (o_lenB (W := 1) hZ hw (k_ 9 rfl) O0 S_x SC_ hC_ (by decide) (by decide)) e0 S_x.1 hml (lenOf o_pd__28_29I rfl) (y_ oD14_6) (fun T1 L1 v1 X1 hQ1 => ?_)
  obtain ⟨rfl, rfl, hh1⟩ := hQ1
  have N1 := Fr.app N0 (Fr.nil n0)
  show o_G p e below _ T1 (mkF m 9 #[vR x, vR y, vI 1, .unset, .unset, .unset, .unset, .unset] [(.int 2), (.int 1)])
  refine o_aloadN X1 hx (y_ oD14_9) rfl rfl ?_
  refine o_vir (y := o_m16) (b := y) (argsL := []) (S := [(.int 2), (.int 1)]) (W := 2) X1 hx hZ hown (k_ 112 rfl) (k_ 113 rfl) (k_ 115 rfl) (k_ 114 rfl) (o_lenB (W := 2) hZ hw (k_ 9 rfl) O0 S_y SC_ hC_ (by decide) (by decide)) hh1 S_y.1 hml (lenOf o_pd__28_29I rfl) (y_ oD14_10) (fun T2 L2 v2 X2 hQ2 => ?_)
  obtain ⟨rfl, rfl, hh2⟩ := hQ2
  have N2 := Fr.app N1 (Fr.nil n0)
  show o_G p e below _ T2 (mkF m 13 #[vR x, vR y, vI 1, .unset, .unset, .unset, .unset, .unset] [(.int 1), (.int 2), (.int 1)])
  refine o_isub X2 hx (y_ oD14_13) ?_
  refine o_valE (z := 1) (by decide) ?_
  refine o_iCT (t := 19) X2 hx (y_ oD14_14) ?_
  obtain ⟨kb3, Bv3⟩ := S_x.2.2.2.1
  have Bw3 : Arv Z h0 t kb3 .byte (2 : Int32) [.int c0.toInt8.toInt32, .int c1.toInt8.toInt32] (.int 0) := Bv3
  obtain ⟨kb4, Bv4⟩ := S_y.2.2.2.1
  have Bw4 : Arv Z h0 u kb4 .byte (1 : Int32) [.int d0.toInt8.toInt32] (.int 0) := Bv4
  refine o_aloadN X2 hx (y_ oD14_19) rfl rfl ?_
  refine o_getF X2 hx hZ hown (host := "") (Or.inl (k_ 35 rfl)) Via.refl hh2 S_x.2.2.1 (y_ oD14_20) (fun T5 X5 e5 => ?_)
  refine o_astoreN X5 hx (y_ oD14_23) rfl (A' := #[vR x, vR y, vI 1, vR t, .unset, .unset, .unset, .unset]) rfl ?_
  refine o_aloadN X5 hx (y_ oD14_24) rfl rfl ?_
  refine o_getF X5 hx hZ hown (host := "") (Or.inl (k_ 35 rfl)) Via.refl e5 S_y.2.2.1 (y_ oD14_25) (fun T6 X6 e6 => ?_)
  refine o_astore X6 hx (y_ oD14_28) rfl (A' := #[vR x, vR y, vI 1, vR t, vR u, .unset, .unset, .unset]) rfl ?_
  refine o_iconst X6 hx (y_ oD14_30) (x := 0) rfl ?_
  refine o_istore X6 hx (y_ oD14_31) (A' := #[vR x, vR y, vI 1, vR t, vR u, vI 0, .unset, .unset]) rfl ?_
  refine o_aload X6 hx (y_ oD14_33) rfl rfl ?_
  refine o_alen (n := 1) X6 hx hZ e6 Bw4 (y_ oD14_35) ?_
  refine o_istore X6 hx (y_ oD14_36) (A' := #[vR x, vR y, vI 1, vR t, vR u, vI 0, vI 1, .unset]) rfl ?_
  refine o_aloadN X6 hx (y_ oD14_38) rfl rfl ?_
  refine o_vir (y := o_m8) (b := x) (argsL := []) (S := []) (W := 0) X6 hx hZ hown (k_ 73 rfl) (k_ 74 rfl) (k_ 76 rfl) (k_ 75 rfl) (backOf (W := 0) (rmcod l Z a0 hw [] x zC_ h0 n0 O0 S_x.2.1 SC_ hC_) hZ (k_ 77 rfl) (k_ 10 rfl) (by decide) (by decide)) e6 S_x.1 hml (lenOf o_pd__28_29B rfl) (y_ oD14_39) (fun T7 L7 v7 X7 hQ7 => ?_)
  obtain ⟨rfl, N7q, hh7⟩ := hQ7
  have N7 := Fr.app N2 N7q
  show o_G p e below _ T7 (mkF m 42 #[vR x, vR y, vI 1, vR t, vR u, vI 0, vI 1, .unset] [(.int 0)])
  refine o_istore X7 hx (y_ oD14_42) (A' := #[vR x, vR y, vI 1, vR t, vR u, vI 0, vI 1, vI 0]) rfl ?_
  refine o_iload X7 hx (y_ oD14_44) rfl ?_
  refine o_aloadN X7 hx (y_ oD14_46) rfl rfl ?_
  refine o_vir (y := o_m8) (b := y) (argsL := []) (S := [(.int 0)]) (W := 1) X7 hx hZ hown (k_ 73 rfl) (k_ 74 rfl) (k_ 76 rfl) (k_ 75 rfl) (backOf (W := 1) (rmcod l Z a0 hw [] y zC_ h0 n0 O0 S_y.2.1 SC_ hC_) hZ (k_ 77 rfl) (k_ 10 rfl) (by decide) (by decide)) hh7 S_y.1 hml (lenOf o_pd__28_29B rfl) (y_ oD14_47) (fun T8 L8 v8 X8 hQ8 => ?_)
  obtain ⟨rfl, N8q, hh8⟩ := hQ8
  have N8 := Fr.app N7 N8q
  show o_G p e below _ T8 (mkF m 50 #[vR x, vR y, vI 1, vR t, vR u, vI 0, vI 1, vI 0] [(.int 0), (.int 0)])
  refine o_iCF X8 hx (y_ oD14_50) ?_
  refine o_iload X8 hx (y_ oD14_53) rfl ?_
  refine o_iconst X8 hx (y_ oD14_55) (x := 1) rfl ?_
  refine o_iCT (t := 63) X8 hx (y_ oD14_56) ?_
  refine o_aloadN X8 hx (y_ oD14_63) rfl rfl ?_
  refine o_iloadN X8 hx (y_ oD14_64) rfl ?_
  refine o_aload X8 hx (y_ oD14_65) rfl rfl ?_
  refine o_iconst X8 hx (y_ oD14_67) (x := 0) rfl ?_
  refine o_iload X8 hx (y_ oD14_68) rfl ?_
  refine o_sta (y := o_m14) (argsL := [(.ref t), (.int 1), (.ref u), (.int 0), (.int 1)]) (S := []) (W := 0) X8 hx hZ hown (k_ 125 rfl) (k_ 126 rfl) (k_ 127 rfl) (k_ 128 rfl) (backOf (W := 0) (rmmis2_1_1 l Z a0 hw [] t u kb3 kb4 (c0.toInt8.toInt32) (c1.toInt8.toInt32) (d0.toInt8.toInt32) h0 n0 O0 Bw3 Bw4) hZ (k_ 128 rfl) (k_ 127 rfl) (by decide) (by decide)) hh8 hml (lenOf o_pd__28_5bBI_5bBII_29I rfl) (y_ oD14_70) (fun T9 L9 v9 X9 hQ9 => ?_)
  obtain ⟨r9, rfl, N9q, hh9, hr9⟩ := hQ9
  have N9 := Fr.app N8 N9q
  show o_G p e below _ T9 (mkF m 73 #[vR x, vR y, vI 1, vR t, vR u, vI 0, vI 1, vI 0] [(.int r9)])
  refine o_iF (t := 80) X9 hx (y_ oD14_73) (fun hq => ?_) (fun hq => ?_)
  · have hc73 := o_h_ge.1 hq
    refine o_iconst X9 hx (y_ oD14_80) (x := 0) rfl ?_
    exact o_retN X9 hx (t := .boolean) hrt hlk (by simp) (y_ oD14_81) rfl (by decide) (by decide) (o_hQ hh9 ⟨by rw [if_neg (fun q => hc73 (hr9.mpr ((o_pref_b ([c1] : List Int32) ([d0] : List Int32) (fun c hc => S_x.2.2.2.2.1 c (List.mem_of_mem_drop (i := 1) hc)) S_y.2.2.2.2.1).symm ▸ q)))], N9, rfl⟩)
  have hc73 := o_h_ge.2 hq
  refine o_iconst X9 hx (y_ oD14_76) (x := 1) rfl ?_
  refine o_gO (t := 81) X9 hx (y_ oD14_77) ?_
  exact o_retN X9 hx (t := .boolean) hrt hlk (by simp) (y_ oD14_81) rfl (by decide) (by decide) (o_hQ hh9 ⟨by rw [if_pos ((o_pref_b ([c1] : List Int32) ([d0] : List Int32) (fun c hc => S_x.2.2.2.2.1 c (List.mem_of_mem_drop (i := 1) hc)) S_y.2.2.2.2.1) ▸ hr9.mp hc73)], N9, rfl⟩)
abbrev Qen2_1 (Z : State) (x : Addr) (y : Addr) (t : Addr) (u : Addr) (c0 : Int32) (c1 : Int32) (d0 : Int32) (zC_ : Int32) (h0 : Heap) (n0 : Nat) (v : Option Value) (h : Heap) (L : List Loc) : Prop := v = some (.int (if o_pref ([c1] : List Int32) ([d0] : List Int32) = true then 1 else 0)) ∧ Fr n0 L ∧ h = h0
set_option maxRecDepth 65536 in
set_option maxHeartbeats 40000000 in
theorem rmen2_1 (l : Launch) (Z : State) (a0 : Array Value) (hw : ∀ d ∈ tables_1, d.before a0 Z = true) (ws : List Jvm.Cond) (x : Addr) (y : Addr) (t : Addr) (u : Addr) (c0 : Int32) (c1 : Int32) (d0 : Int32) (zC_ : Int32) (h0 : Heap) (n0 : Nat) (O0 : Old Z n0 h0) (S_x : o_Str Z h0 x t ([c0, c1] : List Int32)) (S_y : o_Str Z h0 y u ([d0] : List Int32)) (SC_ : o_SC Z zC_) (hC_ : ¬ zC_ = 0) :
    o_Met l Z o_m17 jdk_42_method_77_code 2 (some .boolean) ws o_R6 #[(.ref x), (.ref y)] h0 (Qen2_1 Z x y t u c0 c1 d0 zC_ h0 n0) := by
  refine o_enter o_pn_3 (fun m => o_ef1 m x y) (fun p e s m below meth c s₁ hx hby hml hZ hown hnm hlk hrt X0 e0 => ?_)
  have N0 := Fr.nil n0
  have y_ := @hb _ _ hby
  have k_ := @o_k _ _ hw
  refine o_aloadN X0 hx (y_ oD15_0) rfl rfl ?_
  refine o_aloadN X0 hx (y_ oD15_1) rfl rfl ?_
  refine o_aloadN X0 hx (y_ oD15_2) rfl rfl ?_
  refine o_vir (y := o_m16) (b := x) (argsL := []) (S := [(.ref y), (.ref x)]) (W := 2) X0 hx hZ hown (k_ 112 rfl) (k_ 113 rfl) (k_ 115 rfl) (k_ 114 rfl) (o_lenB (W := 2) hZ hw (k_ 9 rfl) O0 S_x SC_ hC_ (by decide) (by decide)) e0 S_x.1 hml (lenOf o_pd__28_29I rfl) (y_ oD15_3) (fun T1 L1 v1 X1 hQ1 => ?_)
  obtain ⟨rfl, rfl, hh1⟩ := hQ1
  have N1 := Fr.app N0 (Fr.nil n0)
  show o_G p e below _ T1 (mkF m 6 #[vR x, vR y] [(.int 2), (.ref y), (.ref x)])
  refine o_aloadN X1 hx (y_ oD15_6) rfl rfl ?_
  refine o_vir (y := o_m16) (b := y) (argsL := []) (S := [(.int 2), (.ref y), (.ref x)]) (W := 3) X1 hx hZ hown (k_ 112 rfl) (k_ 113 rfl) (k_ 115 rfl) (k_ 114 rfl) (o_lenB (W := 3) hZ hw (k_ 9 rfl) O0 S_y SC_ hC_ (by decide) (by decide)) hh1 S_y.1 hml (lenOf o_pd__28_29I rfl) (y_ oD15_7) (fun T2 L2 v2 X2 hQ2 => ?_)
  obtain ⟨rfl, rfl, hh2⟩ := hQ2
  have N2 := Fr.app N1 (Fr.nil n0)
  show o_G p e below _ T2 (mkF m 10 #[vR x, vR y] [(.int 1), (.int 2), (.ref y), (.ref x)])
  refine o_isub X2 hx (y_ oD15_10) ?_
  refine o_valE (z := 1) (by decide) ?_
  refine o_vir (y := o_m15) (b := x) (argsL := [(.ref y), (.int 1)]) (S := []) (W := 0) X2 hx hZ hown (k_ 117 rfl) (k_ 118 rfl) (k_ 120 rfl) (k_ 119 rfl) (backOf (W := 0) (rmsw2_1_1 l Z a0 hw [] x y t u c0 c1 d0 zC_ h0 n0 O0 S_x S_y SC_ hC_) hZ (k_ 121 rfl) (k_ 10 rfl) (by decide) (by decide)) hh2 S_x.1 hml (lenOf o_pd__28Ljava_2flang_2fString_3bI_29Z rfl) (y_ oD15_11) (fun T3 L3 v3 X3 hQ3 => ?_)
  obtain ⟨rfl, N3q, hh3⟩ := hQ3
  have N3 := Fr.app N2 N3q
  show o_G p e below _ T3 (mkF m 14 #[vR x, vR y] [(.int (if o_pref ([c1] : List Int32) ([d0] : List Int32) = true then 1 else 0 : Int32))])
  exact o_retN X3 hx (t := .boolean) hrt hlk (by simp) (y_ oD15_14) o_narB (by decide) (by decide) (o_hQ hh3 ⟨rfl, N3, rfl⟩)
abbrev Qmis2_1_0 (Z : State) (a : Addr) (b : Addr) (ka : ClassId) (kb : ClassId) (v0 : Int32) (v1 : Int32) (s0 : Int32) (h0 : Heap) (n0 : Nat) (v : Option Value) (h : Heap) (L : List Loc) : Prop := ∃ r : Int32, v = some (.int r) ∧ Fr n0 L ∧ h = h0 ∧ (r < 0 ↔ o_pref ([v0, v1] : List Int32) ([s0] : List Int32) = true)
set_option maxRecDepth 65536 in
set_option maxHeartbeats 40000000 in
theorem rmmis2_1_0 (l : Launch) (Z : State) (a0 : Array Value) (hw : ∀ d ∈ tables_1, d.before a0 Z = true) (ws : List Jvm.Cond) (a : Addr) (b : Addr) (ka : ClassId) (kb : ClassId) (v0 : Int32) (v1 : Int32) (s0 : Int32) (h0 : Heap) (n0 : Nat) (O0 : Old Z n0 h0) (V_a : Arv Z h0 a ka .byte (2 : Int32) [.int v0, .int v1] (.int 0)) (V_b : Arv Z h0 b kb .byte (1 : Int32) [.int s0] (.int 0)) :
    o_Met l Z o_m14 jdk_48_method_14_code 8 (some .int) ws o_R1 #[(.ref a), (.int 0), (.ref b), (.int 0), (.int 1)] h0 (Qmis2_1_0 Z a b ka kb v0 v1 s0 h0 n0) := by
  refine o_enter o_pn_5 (fun m => o_ef18 m a b) (fun p e s m below meth c s₁ hx hby hml hZ hown hnm hlk hrt X0 e0 => ?_)
  have N0 := Fr.nil n0
  have y_ := @hb _ _ hby
  have k_ := @o_k _ _ hw
  refine o_iconst X0 hx (y_ oD13_0) (x := 0) rfl ?_
  refine o_istore X0 hx (y_ oD13_1) (A' := #[vR a, vI 0, vR b, vI 0, vI 1, vI 0, .unset, .unset]) rfl ?_
  refine o_iload X0 hx (y_ oD13_3) rfl ?_
  refine o_bipush X0 hx (y_ oD13_5) (x := 7) rfl ?_
  refine o_iCT (t := 70) X0 hx (y_ oD13_7) ?_
  refine o_iload X0 hx (y_ oD13_70) rfl ?_
  refine o_iload X0 hx (y_ oD13_72) rfl ?_
  refine o_iCF X0 hx (y_ oD13_74) ?_
  refine o_aloadN X0 hx (y_ oD13_77) rfl rfl ?_
  refine o_iloadN X0 hx (y_ oD13_78) rfl ?_
  refine o_iload X0 hx (y_ oD13_79) rfl ?_
  refine o_iadd X0 hx (y_ oD13_81) ?_
  refine o_valE (z := 0) (by decide) ?_
  refine o_bload (v := (.int v0)) X0 hx hZ e0 V_a (y_ oD13_82) ⟨by decide, by decide⟩ rfl ?_
  refine o_aloadN X0 hx (y_ oD13_83) rfl rfl ?_
  refine o_iloadN X0 hx (y_ oD13_84) rfl ?_
  refine o_iload X0 hx (y_ oD13_85) rfl ?_
  refine o_iadd X0 hx (y_ oD13_87) ?_
  refine o_valE (z := 0) (by decide) ?_
  refine o_bload (v := (.int s0)) X0 hx hZ e0 V_b (y_ oD13_88) ⟨by decide, by decide⟩ rfl ?_
  refine o_iC (t := 95) X0 hx (y_ oD13_89) (fun hq => ?_) (fun hq => ?_)
  · have hc89_1 := o_c_eq.1 hq
    refine o_iincK X0 hx (y_ oD13_95) (y := 1) rfl rfl (z := 1) (by decide) (A' := #[vR a, vI 0, vR b, vI 0, vI 1, vI 1, .unset, .unset]) rfl ?_
    refine o_gO (t := 70) X0 hx (y_ oD13_98) ?_
    refine o_iload X0 hx (y_ oD13_70) rfl ?_
    refine o_iload X0 hx (y_ oD13_72) rfl ?_
    refine o_iCT (t := 101) X0 hx (y_ oD13_74) ?_
    refine o_iconst X0 hx (y_ oD13_101) (x := (-1 : Int32)) rfl ?_
    exact o_retI X0 hx hrt hlk (y_ oD13_102) (by decide) (by decide) (o_hQ e0 ⟨_, rfl, N0, rfl, (o_lf27 v0 v1 s0 hc89_1)⟩)
  have hc89_1 := o_c_eq.2 hq
  refine o_iload X0 hx (y_ oD13_92) rfl ?_
  exact o_retI X0 hx hrt hlk (y_ oD13_94) (by decide) (by decide) (o_hQ e0 ⟨_, rfl, N0, rfl, (o_lf28 v0 v1 s0 hc89_1)⟩)
abbrev Qsw2_1_0 (Z : State) (x : Addr) (y : Addr) (t : Addr) (u : Addr) (c0 : Int32) (c1 : Int32) (d0 : Int32) (zC_ : Int32) (h0 : Heap) (n0 : Nat) (v : Option Value) (h : Heap) (L : List Loc) : Prop := v = some (.int (if o_pref ([c0, c1] : List Int32) ([d0] : List Int32) = true then 1 else 0)) ∧ Fr n0 L ∧ h = h0
set_option maxRecDepth 65536 in
set_option maxHeartbeats 40000000 in
theorem rmsw2_1_0 (l : Launch) (Z : State) (a0 : Array Value) (hw : ∀ d ∈ tables_1, d.before a0 Z = true) (ws : List Jvm.Cond) (x : Addr) (y : Addr) (t : Addr) (u : Addr) (c0 : Int32) (c1 : Int32) (d0 : Int32) (zC_ : Int32) (h0 : Heap) (n0 : Nat) (O0 : Old Z n0 h0) (S_x : o_Str Z h0 x t ([c0, c1] : List Int32)) (S_y : o_Str Z h0 y u ([d0] : List Int32)) (SC_ : o_SC Z zC_) (hC_ : ¬ zC_ = 0) :
    o_Met l Z o_m15 jdk_42_method_75_code 8 (some .boolean) ws o_R5 #[(.ref x), (.ref y), (.int 0)] h0 (Qsw2_1_0 Z x y t u c0 c1 d0 zC_ h0 n0) := by
  refine o_enter o_pn_3 (fun m => o_ef13 m x y) (fun p e s m below meth c s₁ hx hby hml hZ hown hnm hlk hrt X0 e0 => ?_)
  have N0 := Fr.nil n0
  have y_ := @hb _ _ hby
  have k_ := @o_k _ _ hw
  refine o_iloadN X0 hx (y_ oD14_0) rfl ?_
  refine o_iFF X0 hx (y_ oD14_1) ?_
  refine o_iloadN X0 hx (y_ oD14_4) rfl ?_
  refine o_aloadN X0 hx (y_ oD14_5) rfl rfl ?_
  refine o_vir (y := o_m16) (b := x) (argsL := []) (S := [(.int 0)]) (W := 1) X0 hx hZ hown (k_ 112 rfl) (k_ 113 rfl) (k_ 115 rfl) (k_ 114 rfl) (o_lenB (W := 1) hZ hw (k_ 9 rfl) O0 S_x SC_ hC_ (by decide) (by decide)) e0 S_x.1 hml (lenOf o_pd__28_29I rfl) (y_ oD14_6) (fun T1 L1 v1 X1 hQ1 => ?_)
  obtain ⟨rfl, rfl, hh1⟩ := hQ1
  have N1 := Fr.app N0 (Fr.nil n0)
  show o_G p e below _ T1 (mkF m 9 #[vR x, vR y, vI 0, .unset, .unset, .unset, .unset, .unset] [(.int 2), (.int 0)])
  refine o_aloadN X1 hx (y_ oD14_9) rfl rfl ?_
  refine o_vir (y := o_m16) (b := y) (argsL := []) (S := [(.int 2), (.int 0)]) (W := 2) X1 hx hZ hown (k_ 112 rfl) (k_ 113 rfl) (k_ 115 rfl) (k_ 114 rfl) (o_lenB (W := 2) hZ hw (k_ 9 rfl) O0 S_y SC_ hC_ (by decide) (by decide)) hh1 S_y.1 hml (lenOf o_pd__28_29I rfl) (y_ oD14_10) (fun T2 L2 v2 X2 hQ2 => ?_)
  obtain ⟨rfl, rfl, hh2⟩ := hQ2
  have N2 := Fr.app N1 (Fr.nil n0)
  show o_G p e below _ T2 (mkF m 13 #[vR x, vR y, vI 0, .unset, .unset, .unset, .unset, .unset] [(.int 1), (.int 2), (.int 0)])
  refine o_isub X2 hx (y_ oD14_13) ?_
  refine o_valE (z := 1) (by decide) ?_
  refine o_iCT (t := 19) X2 hx (y_ oD14_14) ?_
  obtain ⟨kb3, Bv3⟩ := S_x.2.2.2.1
  have Bw3 : Arv Z h0 t kb3 .byte (2 : Int32) [.int c0.toInt8.toInt32, .int c1.toInt8.toInt32] (.int 0) := Bv3
  obtain ⟨kb4, Bv4⟩ := S_y.2.2.2.1
  have Bw4 : Arv Z h0 u kb4 .byte (1 : Int32) [.int d0.toInt8.toInt32] (.int 0) := Bv4
  refine o_aloadN X2 hx (y_ oD14_19) rfl rfl ?_
  refine o_getF X2 hx hZ hown (host := "") (Or.inl (k_ 35 rfl)) Via.refl hh2 S_x.2.2.1 (y_ oD14_20) (fun T5 X5 e5 => ?_)
  refine o_astoreN X5 hx (y_ oD14_23) rfl (A' := #[vR x, vR y, vI 0, vR t, .unset, .unset, .unset, .unset]) rfl ?_
  refine o_aloadN X5 hx (y_ oD14_24) rfl rfl ?_
  refine o_getF X5 hx hZ hown (host := "") (Or.inl (k_ 35 rfl)) Via.refl e5 S_y.2.2.1 (y_ oD14_25) (fun T6 X6 e6 => ?_)
  refine o_astore X6 hx (y_ oD14_28) rfl (A' := #[vR x, vR y, vI 0, vR t, vR u, .unset, .unset, .unset]) rfl ?_
  refine o_iconst X6 hx (y_ oD14_30) (x := 0) rfl ?_
  refine o_istore X6 hx (y_ oD14_31) (A' := #[vR x, vR y, vI 0, vR t, vR u, vI 0, .unset, .unset]) rfl ?_
  refine o_aload X6 hx (y_ oD14_33) rfl rfl ?_
  refine o_alen (n := 1) X6 hx hZ e6 Bw4 (y_ oD14_35) ?_
  refine o_istore X6 hx (y_ oD14_36) (A' := #[vR x, vR y, vI 0, vR t, vR u, vI 0, vI 1, .unset]) rfl ?_
  refine o_aloadN X6 hx (y_ oD14_38) rfl rfl ?_
  refine o_vir (y := o_m8) (b := x) (argsL := []) (S := []) (W := 0) X6 hx hZ hown (k_ 73 rfl) (k_ 74 rfl) (k_ 76 rfl) (k_ 75 rfl) (backOf (W := 0) (rmcod l Z a0 hw [] x zC_ h0 n0 O0 S_x.2.1 SC_ hC_) hZ (k_ 77 rfl) (k_ 10 rfl) (by decide) (by decide)) e6 S_x.1 hml (lenOf o_pd__28_29B rfl) (y_ oD14_39) (fun T7 L7 v7 X7 hQ7 => ?_)
  obtain ⟨rfl, N7q, hh7⟩ := hQ7
  have N7 := Fr.app N2 N7q
  show o_G p e below _ T7 (mkF m 42 #[vR x, vR y, vI 0, vR t, vR u, vI 0, vI 1, .unset] [(.int 0)])
  refine o_istore X7 hx (y_ oD14_42) (A' := #[vR x, vR y, vI 0, vR t, vR u, vI 0, vI 1, vI 0]) rfl ?_
  refine o_iload X7 hx (y_ oD14_44) rfl ?_
  refine o_aloadN X7 hx (y_ oD14_46) rfl rfl ?_
  refine o_vir (y := o_m8) (b := y) (argsL := []) (S := [(.int 0)]) (W := 1) X7 hx hZ hown (k_ 73 rfl) (k_ 74 rfl) (k_ 76 rfl) (k_ 75 rfl) (backOf (W := 1) (rmcod l Z a0 hw [] y zC_ h0 n0 O0 S_y.2.1 SC_ hC_) hZ (k_ 77 rfl) (k_ 10 rfl) (by decide) (by decide)) hh7 S_y.1 hml (lenOf o_pd__28_29B rfl) (y_ oD14_47) (fun T8 L8 v8 X8 hQ8 => ?_)
  obtain ⟨rfl, N8q, hh8⟩ := hQ8
  have N8 := Fr.app N7 N8q
  show o_G p e below _ T8 (mkF m 50 #[vR x, vR y, vI 0, vR t, vR u, vI 0, vI 1, vI 0] [(.int 0), (.int 0)])
  refine o_iCF X8 hx (y_ oD14_50) ?_
  refine o_iload X8 hx (y_ oD14_53) rfl ?_
  refine o_iconst X8 hx (y_ oD14_55) (x := 1) rfl ?_
  refine o_iCT (t := 63) X8 hx (y_ oD14_56) ?_
  refine o_aloadN X8 hx (y_ oD14_63) rfl rfl ?_
  refine o_iloadN X8 hx (y_ oD14_64) rfl ?_
  refine o_aload X8 hx (y_ oD14_65) rfl rfl ?_
  refine o_iconst X8 hx (y_ oD14_67) (x := 0) rfl ?_
  refine o_iload X8 hx (y_ oD14_68) rfl ?_
  refine o_sta (y := o_m14) (argsL := [(.ref t), (.int 0), (.ref u), (.int 0), (.int 1)]) (S := []) (W := 0) X8 hx hZ hown (k_ 125 rfl) (k_ 126 rfl) (k_ 127 rfl) (k_ 128 rfl) (backOf (W := 0) (rmmis2_1_0 l Z a0 hw [] t u kb3 kb4 (c0.toInt8.toInt32) (c1.toInt8.toInt32) (d0.toInt8.toInt32) h0 n0 O0 Bw3 Bw4) hZ (k_ 128 rfl) (k_ 127 rfl) (by decide) (by decide)) hh8 hml (lenOf o_pd__28_5bBI_5bBII_29I rfl) (y_ oD14_70) (fun T9 L9 v9 X9 hQ9 => ?_)
  obtain ⟨r9, rfl, N9q, hh9, hr9⟩ := hQ9
  have N9 := Fr.app N8 N9q
  show o_G p e below _ T9 (mkF m 73 #[vR x, vR y, vI 0, vR t, vR u, vI 0, vI 1, vI 0] [(.int r9)])
  refine o_iF (t := 80) X9 hx (y_ oD14_73) (fun hq => ?_) (fun hq => ?_)
  · have hc73 := o_h_ge.1 hq
    refine o_iconst X9 hx (y_ oD14_80) (x := 0) rfl ?_
    exact o_retN X9 hx (t := .boolean) hrt hlk (by simp) (y_ oD14_81) rfl (by decide) (by decide) (o_hQ hh9 ⟨by rw [if_neg (fun q => hc73 (hr9.mpr ((o_pref_b ([c0, c1] : List Int32) ([d0] : List Int32) (fun c hc => S_x.2.2.2.2.1 c (List.mem_of_mem_drop (i := 0) hc)) S_y.2.2.2.2.1).symm ▸ q)))], N9, rfl⟩)
  have hc73 := o_h_ge.2 hq
  refine o_iconst X9 hx (y_ oD14_76) (x := 1) rfl ?_
  refine o_gO (t := 81) X9 hx (y_ oD14_77) ?_
  exact o_retN X9 hx (t := .boolean) hrt hlk (by simp) (y_ oD14_81) rfl (by decide) (by decide) (o_hQ hh9 ⟨by rw [if_pos ((o_pref_b ([c0, c1] : List Int32) ([d0] : List Int32) (fun c hc => S_x.2.2.2.2.1 c (List.mem_of_mem_drop (i := 0) hc)) S_y.2.2.2.2.1) ▸ hr9.mp hc73)], N9, rfl⟩)
abbrev Qst2_1 (Z : State) (x : Addr) (y : Addr) (t : Addr) (u : Addr) (c0 : Int32) (c1 : Int32) (d0 : Int32) (zC_ : Int32) (h0 : Heap) (n0 : Nat) (v : Option Value) (h : Heap) (L : List Loc) : Prop := v = some (.int (if o_pref ([c0, c1] : List Int32) ([d0] : List Int32) = true then 1 else 0)) ∧ Fr n0 L ∧ h = h0
set_option maxRecDepth 65536 in
set_option maxHeartbeats 40000000 in
theorem rmst2_1 (l : Launch) (Z : State) (a0 : Array Value) (hw : ∀ d ∈ tables_1, d.before a0 Z = true) (ws : List Jvm.Cond) (x : Addr) (y : Addr) (t : Addr) (u : Addr) (c0 : Int32) (c1 : Int32) (d0 : Int32) (zC_ : Int32) (h0 : Heap) (n0 : Nat) (O0 : Old Z n0 h0) (S_x : o_Str Z h0 x t ([c0, c1] : List Int32)) (S_y : o_Str Z h0 y u ([d0] : List Int32)) (SC_ : o_SC Z zC_) (hC_ : ¬ zC_ = 0) :
    o_Met l Z o_m18 jdk_42_method_76_code 2 (some .boolean) ws o_R6 #[(.ref x), (.ref y)] h0 (Qst2_1 Z x y t u c0 c1 d0 zC_ h0 n0) := by
  refine o_enter o_pn_3 (fun m => o_ef1 m x y) (fun p e s m below meth c s₁ hx hby hml hZ hown hnm hlk hrt X0 e0 => ?_)
  have N0 := Fr.nil n0
  have y_ := @hb _ _ hby
  have k_ := @o_k _ _ hw
  refine o_aloadN X0 hx (y_ oD16_0) rfl rfl ?_
  refine o_aloadN X0 hx (y_ oD16_1) rfl rfl ?_
  refine o_iconst X0 hx (y_ oD16_2) (x := 0) rfl ?_
  refine o_vir (y := o_m15) (b := x) (argsL := [(.ref y), (.int 0)]) (S := []) (W := 0) X0 hx hZ hown (k_ 117 rfl) (k_ 118 rfl) (k_ 120 rfl) (k_ 119 rfl) (backOf (W := 0) (rmsw2_1_0 l Z a0 hw [] x y t u c0 c1 d0 zC_ h0 n0 O0 S_x S_y SC_ hC_) hZ (k_ 121 rfl) (k_ 10 rfl) (by decide) (by decide)) e0 S_x.1 hml (lenOf o_pd__28Ljava_2flang_2fString_3bI_29Z rfl) (y_ oD16_3) (fun T1 L1 v1 X1 hQ1 => ?_)
  obtain ⟨rfl, N1q, hh1⟩ := hQ1
  have N1 := Fr.app N0 N1q
  show o_G p e below _ T1 (mkF m 6 #[vR x, vR y] [(.int (if o_pref ([c0, c1] : List Int32) ([d0] : List Int32) = true then 1 else 0 : Int32))])
  exact o_retN X1 hx (t := .boolean) hrt hlk (by simp) (y_ oD16_6) o_narB (by decide) (by decide) (o_hQ hh1 ⟨rfl, N1, rfl⟩)
abbrev Qmis2_2_0 (Z : State) (a : Addr) (b : Addr) (ka : ClassId) (kb : ClassId) (v0 : Int32) (v1 : Int32) (s0 : Int32) (s1 : Int32) (h0 : Heap) (n0 : Nat) (v : Option Value) (h : Heap) (L : List Loc) : Prop := ∃ r : Int32, v = some (.int r) ∧ Fr n0 L ∧ h = h0 ∧ (r < 0 ↔ o_pref ([v0, v1] : List Int32) ([s0, s1] : List Int32) = true)
set_option maxRecDepth 65536 in
set_option maxHeartbeats 40000000 in
theorem rmmis2_2_0 (l : Launch) (Z : State) (a0 : Array Value) (hw : ∀ d ∈ tables_1, d.before a0 Z = true) (ws : List Jvm.Cond) (a : Addr) (b : Addr) (ka : ClassId) (kb : ClassId) (v0 : Int32) (v1 : Int32) (s0 : Int32) (s1 : Int32) (h0 : Heap) (n0 : Nat) (O0 : Old Z n0 h0) (V_a : Arv Z h0 a ka .byte (2 : Int32) [.int v0, .int v1] (.int 0)) (V_b : Arv Z h0 b kb .byte (2 : Int32) [.int s0, .int s1] (.int 0)) :
    o_Met l Z o_m14 jdk_48_method_14_code 8 (some .int) ws o_R1 #[(.ref a), (.int 0), (.ref b), (.int 0), (.int 2)] h0 (Qmis2_2_0 Z a b ka kb v0 v1 s0 s1 h0 n0) := by
  refine o_enter o_pn_5 (fun m => o_ef22 m a b) (fun p e s m below meth c s₁ hx hby hml hZ hown hnm hlk hrt X0 e0 => ?_)
  have N0 := Fr.nil n0
  have y_ := @hb _ _ hby
  have k_ := @o_k _ _ hw
  refine o_iconst X0 hx (y_ oD13_0) (x := 0) rfl ?_
  refine o_istore X0 hx (y_ oD13_1) (A' := #[vR a, vI 0, vR b, vI 0, vI 2, vI 0, .unset, .unset]) rfl ?_
  refine o_iload X0 hx (y_ oD13_3) rfl ?_
  refine o_bipush X0 hx (y_ oD13_5) (x := 7) rfl ?_
  refine o_iCT (t := 70) X0 hx (y_ oD13_7) ?_
  refine o_iload X0 hx (y_ oD13_70) rfl ?_
  refine o_iload X0 hx (y_ oD13_72) rfl ?_
  refine o_iCF X0 hx (y_ oD13_74) ?_
  refine o_aloadN X0 hx (y_ oD13_77) rfl rfl ?_
  refine o_iloadN X0 hx (y_ oD13_78) rfl ?_
  refine o_iload X0 hx (y_ oD13_79) rfl ?_
  refine o_iadd X0 hx (y_ oD13_81) ?_
  refine o_valE (z := 0) (by decide) ?_
  refine o_bload (v := (.int v0)) X0 hx hZ e0 V_a (y_ oD13_82) ⟨by decide, by decide⟩ rfl ?_
  refine o_aloadN X0 hx (y_ oD13_83) rfl rfl ?_
  refine o_iloadN X0 hx (y_ oD13_84) rfl ?_
  refine o_iload X0 hx (y_ oD13_85) rfl ?_
  refine o_iadd X0 hx (y_ oD13_87) ?_
  refine o_valE (z := 0) (by decide) ?_
  refine o_bload (v := (.int s0)) X0 hx hZ e0 V_b (y_ oD13_88) ⟨by decide, by decide⟩ rfl ?_
  refine o_iC (t := 95) X0 hx (y_ oD13_89) (fun hq => ?_) (fun hq => ?_)
  · have hc89_1 := o_c_eq.1 hq
    refine o_iincK X0 hx (y_ oD13_95) (y := 1) rfl rfl (z := 1) (by decide) (A' := #[vR a, vI 0, vR b, vI 0, vI 2, vI 1, .unset, .unset]) rfl ?_
    refine o_gO (t := 70) X0 hx (y_ oD13_98) ?_
    refine o_iload X0 hx (y_ oD13_70) rfl ?_
    refine o_iload X0 hx (y_ oD13_72) rfl ?_
    refine o_iCF X0 hx (y_ oD13_74) ?_
    refine o_aloadN X0 hx (y_ oD13_77) rfl rfl ?_
    refine o_iloadN X0 hx (y_ oD13_78) rfl ?_
    refine o_iload X0 hx (y_ oD13_79) rfl ?_
    refine o_iadd X0 hx (y_ oD13_81) ?_
    refine o_valE (z := 1) (by decide) ?_
    refine o_bload (v := (.int v1)) X0 hx hZ e0 V_a (y_ oD13_82) ⟨by decide, by decide⟩ rfl ?_
    refine o_aloadN X0 hx (y_ oD13_83) rfl rfl ?_
    refine o_iloadN X0 hx (y_ oD13_84) rfl ?_
    refine o_iload X0 hx (y_ oD13_85) rfl ?_
    refine o_iadd X0 hx (y_ oD13_87) ?_
    refine o_valE (z := 1) (by decide) ?_
    refine o_bload (v := (.int s1)) X0 hx hZ e0 V_b (y_ oD13_88) ⟨by decide, by decide⟩ rfl ?_
    refine o_iC (t := 95) X0 hx (y_ oD13_89) (fun hq => ?_) (fun hq => ?_)
    · have hc89_2 := o_c_eq.1 hq
      refine o_iincK X0 hx (y_ oD13_95) (y := 1) rfl rfl (z := 2) (by decide) (A' := #[vR a, vI 0, vR b, vI 0, vI 2, vI 2, .unset, .unset]) rfl ?_
      refine o_gO (t := 70) X0 hx (y_ oD13_98) ?_
      refine o_iload X0 hx (y_ oD13_70) rfl ?_
      refine o_iload X0 hx (y_ oD13_72) rfl ?_
      refine o_iCT (t := 101) X0 hx (y_ oD13_74) ?_
      refine o_iconst X0 hx (y_ oD13_101) (x := (-1 : Int32)) rfl ?_
      exact o_retI X0 hx hrt hlk (y_ oD13_102) (by decide) (by decide) (o_hQ e0 ⟨_, rfl, N0, rfl, (o_lf29 v0 v1 s0 s1 hc89_1 hc89_2)⟩)
    have hc89_2 := o_c_eq.2 hq
    refine o_iload X0 hx (y_ oD13_92) rfl ?_
    exact o_retI X0 hx hrt hlk (y_ oD13_94) (by decide) (by decide) (o_hQ e0 ⟨_, rfl, N0, rfl, (o_lf30 v0 v1 s0 s1 hc89_1 hc89_2)⟩)
  have hc89_1 := o_c_eq.2 hq
  refine o_iload X0 hx (y_ oD13_92) rfl ?_
  exact o_retI X0 hx hrt hlk (y_ oD13_94) (by decide) (by decide) (o_hQ e0 ⟨_, rfl, N0, rfl, (o_lf31 v0 v1 s0 s1 hc89_1)⟩)
abbrev Qsw2_2_0 (Z : State) (x : Addr) (y : Addr) (t : Addr) (u : Addr) (c0 : Int32) (c1 : Int32) (d0 : Int32) (d1 : Int32) (zC_ : Int32) (h0 : Heap) (n0 : Nat) (v : Option Value) (h : Heap) (L : List Loc) : Prop := v = some (.int (if o_pref ([c0, c1] : List Int32) ([d0, d1] : List Int32) = true then 1 else 0)) ∧ Fr n0 L ∧ h = h0
set_option maxRecDepth 65536 in
set_option maxHeartbeats 40000000 in
theorem rmsw2_2_0 (l : Launch) (Z : State) (a0 : Array Value) (hw : ∀ d ∈ tables_1, d.before a0 Z = true) (ws : List Jvm.Cond) (x : Addr) (y : Addr) (t : Addr) (u : Addr) (c0 : Int32) (c1 : Int32) (d0 : Int32) (d1 : Int32) (zC_ : Int32) (h0 : Heap) (n0 : Nat) (O0 : Old Z n0 h0) (S_x : o_Str Z h0 x t ([c0, c1] : List Int32)) (S_y : o_Str Z h0 y u ([d0, d1] : List Int32)) (SC_ : o_SC Z zC_) (hC_ : ¬ zC_ = 0) :
    o_Met l Z o_m15 jdk_42_method_75_code 8 (some .boolean) ws o_R5 #[(.ref x), (.ref y), (.int 0)] h0 (Qsw2_2_0 Z x y t u c0 c1 d0 d1 zC_ h0 n0) := by
  refine o_enter o_pn_3 (fun m => o_ef13 m x y) (fun p e s m below meth c s₁ hx hby hml hZ hown hnm hlk hrt X0 e0 => ?_)
  have N0 := Fr.nil n0
  have y_ := @hb _ _ hby
  have k_ := @o_k _ _ hw
  refine o_iloadN X0 hx (y_ oD14_0) rfl ?_
  refine o_iFF X0 hx (y_ oD14_1) ?_
  refine o_iloadN X0 hx (y_ oD14_4) rfl ?_
  refine o_aloadN X0 hx (y_ oD14_5) rfl rfl ?_
  refine o_vir (y := o_m16) (b := x) (argsL := []) (S := [(.int 0)]) (W := 1) X0 hx hZ hown (k_ 112 rfl) (k_ 113 rfl) (k_ 115 rfl) (k_ 114 rfl) (o_lenB (W := 1) hZ hw (k_ 9 rfl) O0 S_x SC_ hC_ (by decide) (by decide)) e0 S_x.1 hml (lenOf o_pd__28_29I rfl) (y_ oD14_6) (fun T1 L1 v1 X1 hQ1 => ?_)
  obtain ⟨rfl, rfl, hh1⟩ := hQ1
  have N1 := Fr.app N0 (Fr.nil n0)
  show o_G p e below _ T1 (mkF m 9 #[vR x, vR y, vI 0, .unset, .unset, .unset, .unset, .unset] [(.int 2), (.int 0)])
  refine o_aloadN X1 hx (y_ oD14_9) rfl rfl ?_
  refine o_vir (y := o_m16) (b := y) (argsL := []) (S := [(.int 2), (.int 0)]) (W := 2) X1 hx hZ hown (k_ 112 rfl) (k_ 113 rfl) (k_ 115 rfl) (k_ 114 rfl) (o_lenB (W := 2) hZ hw (k_ 9 rfl) O0 S_y SC_ hC_ (by decide) (by decide)) hh1 S_y.1 hml (lenOf o_pd__28_29I rfl) (y_ oD14_10) (fun T2 L2 v2 X2 hQ2 => ?_)
  obtain ⟨rfl, rfl, hh2⟩ := hQ2
  have N2 := Fr.app N1 (Fr.nil n0)
  show o_G p e below _ T2 (mkF m 13 #[vR x, vR y, vI 0, .unset, .unset, .unset, .unset, .unset] [(.int 2), (.int 2), (.int 0)])
  refine o_isub X2 hx (y_ oD14_13) ?_
  refine o_valE (z := 0) (by decide) ?_
  refine o_iCT (t := 19) X2 hx (y_ oD14_14) ?_
  obtain ⟨kb3, Bv3⟩ := S_x.2.2.2.1
  have Bw3 : Arv Z h0 t kb3 .byte (2 : Int32) [.int c0.toInt8.toInt32, .int c1.toInt8.toInt32] (.int 0) := Bv3
  obtain ⟨kb4, Bv4⟩ := S_y.2.2.2.1
  have Bw4 : Arv Z h0 u kb4 .byte (2 : Int32) [.int d0.toInt8.toInt32, .int d1.toInt8.toInt32] (.int 0) := Bv4
  refine o_aloadN X2 hx (y_ oD14_19) rfl rfl ?_
  refine o_getF X2 hx hZ hown (host := "") (Or.inl (k_ 35 rfl)) Via.refl hh2 S_x.2.2.1 (y_ oD14_20) (fun T5 X5 e5 => ?_)
  refine o_astoreN X5 hx (y_ oD14_23) rfl (A' := #[vR x, vR y, vI 0, vR t, .unset, .unset, .unset, .unset]) rfl ?_
  refine o_aloadN X5 hx (y_ oD14_24) rfl rfl ?_
  refine o_getF X5 hx hZ hown (host := "") (Or.inl (k_ 35 rfl)) Via.refl e5 S_y.2.2.1 (y_ oD14_25) (fun T6 X6 e6 => ?_)
  refine o_astore X6 hx (y_ oD14_28) rfl (A' := #[vR x, vR y, vI 0, vR t, vR u, .unset, .unset, .unset]) rfl ?_
  refine o_iconst X6 hx (y_ oD14_30) (x := 0) rfl ?_
  refine o_istore X6 hx (y_ oD14_31) (A' := #[vR x, vR y, vI 0, vR t, vR u, vI 0, .unset, .unset]) rfl ?_
  refine o_aload X6 hx (y_ oD14_33) rfl rfl ?_
  refine o_alen (n := 2) X6 hx hZ e6 Bw4 (y_ oD14_35) ?_
  refine o_istore X6 hx (y_ oD14_36) (A' := #[vR x, vR y, vI 0, vR t, vR u, vI 0, vI 2, .unset]) rfl ?_
  refine o_aloadN X6 hx (y_ oD14_38) rfl rfl ?_
  refine o_vir (y := o_m8) (b := x) (argsL := []) (S := []) (W := 0) X6 hx hZ hown (k_ 73 rfl) (k_ 74 rfl) (k_ 76 rfl) (k_ 75 rfl) (backOf (W := 0) (rmcod l Z a0 hw [] x zC_ h0 n0 O0 S_x.2.1 SC_ hC_) hZ (k_ 77 rfl) (k_ 10 rfl) (by decide) (by decide)) e6 S_x.1 hml (lenOf o_pd__28_29B rfl) (y_ oD14_39) (fun T7 L7 v7 X7 hQ7 => ?_)
  obtain ⟨rfl, N7q, hh7⟩ := hQ7
  have N7 := Fr.app N2 N7q
  show o_G p e below _ T7 (mkF m 42 #[vR x, vR y, vI 0, vR t, vR u, vI 0, vI 2, .unset] [(.int 0)])
  refine o_istore X7 hx (y_ oD14_42) (A' := #[vR x, vR y, vI 0, vR t, vR u, vI 0, vI 2, vI 0]) rfl ?_
  refine o_iload X7 hx (y_ oD14_44) rfl ?_
  refine o_aloadN X7 hx (y_ oD14_46) rfl rfl ?_
  refine o_vir (y := o_m8) (b := y) (argsL := []) (S := [(.int 0)]) (W := 1) X7 hx hZ hown (k_ 73 rfl) (k_ 74 rfl) (k_ 76 rfl) (k_ 75 rfl) (backOf (W := 1) (rmcod l Z a0 hw [] y zC_ h0 n0 O0 S_y.2.1 SC_ hC_) hZ (k_ 77 rfl) (k_ 10 rfl) (by decide) (by decide)) hh7 S_y.1 hml (lenOf o_pd__28_29B rfl) (y_ oD14_47) (fun T8 L8 v8 X8 hQ8 => ?_)
  obtain ⟨rfl, N8q, hh8⟩ := hQ8
  have N8 := Fr.app N7 N8q
  show o_G p e below _ T8 (mkF m 50 #[vR x, vR y, vI 0, vR t, vR u, vI 0, vI 2, vI 0] [(.int 0), (.int 0)])
  refine o_iCF X8 hx (y_ oD14_50) ?_
  refine o_iload X8 hx (y_ oD14_53) rfl ?_
  refine o_iconst X8 hx (y_ oD14_55) (x := 1) rfl ?_
  refine o_iCT (t := 63) X8 hx (y_ oD14_56) ?_
  refine o_aloadN X8 hx (y_ oD14_63) rfl rfl ?_
  refine o_iloadN X8 hx (y_ oD14_64) rfl ?_
  refine o_aload X8 hx (y_ oD14_65) rfl rfl ?_
  refine o_iconst X8 hx (y_ oD14_67) (x := 0) rfl ?_
  refine o_iload X8 hx (y_ oD14_68) rfl ?_
  refine o_sta (y := o_m14) (argsL := [(.ref t), (.int 0), (.ref u), (.int 0), (.int 2)]) (S := []) (W := 0) X8 hx hZ hown (k_ 125 rfl) (k_ 126 rfl) (k_ 127 rfl) (k_ 128 rfl) (backOf (W := 0) (rmmis2_2_0 l Z a0 hw [] t u kb3 kb4 (c0.toInt8.toInt32) (c1.toInt8.toInt32) (d0.toInt8.toInt32) (d1.toInt8.toInt32) h0 n0 O0 Bw3 Bw4) hZ (k_ 128 rfl) (k_ 127 rfl) (by decide) (by decide)) hh8 hml (lenOf o_pd__28_5bBI_5bBII_29I rfl) (y_ oD14_70) (fun T9 L9 v9 X9 hQ9 => ?_)
  obtain ⟨r9, rfl, N9q, hh9, hr9⟩ := hQ9
  have N9 := Fr.app N8 N9q
  show o_G p e below _ T9 (mkF m 73 #[vR x, vR y, vI 0, vR t, vR u, vI 0, vI 2, vI 0] [(.int r9)])
  refine o_iF (t := 80) X9 hx (y_ oD14_73) (fun hq => ?_) (fun hq => ?_)
  · have hc73 := o_h_ge.1 hq
    refine o_iconst X9 hx (y_ oD14_80) (x := 0) rfl ?_
    exact o_retN X9 hx (t := .boolean) hrt hlk (by simp) (y_ oD14_81) rfl (by decide) (by decide) (o_hQ hh9 ⟨by rw [if_neg (fun q => hc73 (hr9.mpr ((o_pref_b ([c0, c1] : List Int32) ([d0, d1] : List Int32) (fun c hc => S_x.2.2.2.2.1 c (List.mem_of_mem_drop (i := 0) hc)) S_y.2.2.2.2.1).symm ▸ q)))], N9, rfl⟩)
  have hc73 := o_h_ge.2 hq
  refine o_iconst X9 hx (y_ oD14_76) (x := 1) rfl ?_
  refine o_gO (t := 81) X9 hx (y_ oD14_77) ?_
  exact o_retN X9 hx (t := .boolean) hrt hlk (by simp) (y_ oD14_81) rfl (by decide) (by decide) (o_hQ hh9 ⟨by rw [if_pos ((o_pref_b ([c0, c1] : List Int32) ([d0, d1] : List Int32) (fun c hc => S_x.2.2.2.2.1 c (List.mem_of_mem_drop (i := 0) hc)) S_y.2.2.2.2.1) ▸ hr9.mp hc73)], N9, rfl⟩)
abbrev Qen2_2 (Z : State) (x : Addr) (y : Addr) (t : Addr) (u : Addr) (c0 : Int32) (c1 : Int32) (d0 : Int32) (d1 : Int32) (zC_ : Int32) (h0 : Heap) (n0 : Nat) (v : Option Value) (h : Heap) (L : List Loc) : Prop := v = some (.int (if o_pref ([c0, c1] : List Int32) ([d0, d1] : List Int32) = true then 1 else 0)) ∧ Fr n0 L ∧ h = h0
set_option maxRecDepth 65536 in
set_option maxHeartbeats 40000000 in
theorem rmen2_2 (l : Launch) (Z : State) (a0 : Array Value) (hw : ∀ d ∈ tables_1, d.before a0 Z = true) (ws : List Jvm.Cond) (x : Addr) (y : Addr) (t : Addr) (u : Addr) (c0 : Int32) (c1 : Int32) (d0 : Int32) (d1 : Int32) (zC_ : Int32) (h0 : Heap) (n0 : Nat) (O0 : Old Z n0 h0) (S_x : o_Str Z h0 x t ([c0, c1] : List Int32)) (S_y : o_Str Z h0 y u ([d0, d1] : List Int32)) (SC_ : o_SC Z zC_) (hC_ : ¬ zC_ = 0) :
    o_Met l Z o_m17 jdk_42_method_77_code 2 (some .boolean) ws o_R6 #[(.ref x), (.ref y)] h0 (Qen2_2 Z x y t u c0 c1 d0 d1 zC_ h0 n0) := by
  refine o_enter o_pn_3 (fun m => o_ef1 m x y) (fun p e s m below meth c s₁ hx hby hml hZ hown hnm hlk hrt X0 e0 => ?_)
  have N0 := Fr.nil n0
  have y_ := @hb _ _ hby
  have k_ := @o_k _ _ hw
  refine o_aloadN X0 hx (y_ oD15_0) rfl rfl ?_
  refine o_aloadN X0 hx (y_ oD15_1) rfl rfl ?_
  refine o_aloadN X0 hx (y_ oD15_2) rfl rfl ?_
  refine o_vir (y := o_m16) (b := x) (argsL := []) (S := [(.ref y), (.ref x)]) (W := 2) X0 hx hZ hown (k_ 112 rfl) (k_ 113 rfl) (k_ 115 rfl) (k_ 114 rfl) (o_lenB (W := 2) hZ hw (k_ 9 rfl) O0 S_x SC_ hC_ (by decide) (by decide)) e0 S_x.1 hml (lenOf o_pd__28_29I rfl) (y_ oD15_3) (fun T1 L1 v1 X1 hQ1 => ?_)
  obtain ⟨rfl, rfl, hh1⟩ := hQ1
  have N1 := Fr.app N0 (Fr.nil n0)
  show o_G p e below _ T1 (mkF m 6 #[vR x, vR y] [(.int 2), (.ref y), (.ref x)])
  refine o_aloadN X1 hx (y_ oD15_6) rfl rfl ?_
  refine o_vir (y := o_m16) (b := y) (argsL := []) (S := [(.int 2), (.ref y), (.ref x)]) (W := 3) X1 hx hZ hown (k_ 112 rfl) (k_ 113 rfl) (k_ 115 rfl) (k_ 114 rfl) (o_lenB (W := 3) hZ hw (k_ 9 rfl) O0 S_y SC_ hC_ (by decide) (by decide)) hh1 S_y.1 hml (lenOf o_pd__28_29I rfl) (y_ oD15_7) (fun T2 L2 v2 X2 hQ2 => ?_)
  obtain ⟨rfl, rfl, hh2⟩ := hQ2
  have N2 := Fr.app N1 (Fr.nil n0)
  show o_G p e below _ T2 (mkF m 10 #[vR x, vR y] [(.int 2), (.int 2), (.ref y), (.ref x)])
  refine o_isub X2 hx (y_ oD15_10) ?_
  refine o_valE (z := 0) (by decide) ?_
  refine o_vir (y := o_m15) (b := x) (argsL := [(.ref y), (.int 0)]) (S := []) (W := 0) X2 hx hZ hown (k_ 117 rfl) (k_ 118 rfl) (k_ 120 rfl) (k_ 119 rfl) (backOf (W := 0) (rmsw2_2_0 l Z a0 hw [] x y t u c0 c1 d0 d1 zC_ h0 n0 O0 S_x S_y SC_ hC_) hZ (k_ 121 rfl) (k_ 10 rfl) (by decide) (by decide)) hh2 S_x.1 hml (lenOf o_pd__28Ljava_2flang_2fString_3bI_29Z rfl) (y_ oD15_11) (fun T3 L3 v3 X3 hQ3 => ?_)
  obtain ⟨rfl, N3q, hh3⟩ := hQ3
  have N3 := Fr.app N2 N3q
  show o_G p e below _ T3 (mkF m 14 #[vR x, vR y] [(.int (if o_pref ([c0, c1] : List Int32) ([d0, d1] : List Int32) = true then 1 else 0 : Int32))])
  exact o_retN X3 hx (t := .boolean) hrt hlk (by simp) (y_ oD15_14) o_narB (by decide) (by decide) (o_hQ hh3 ⟨rfl, N3, rfl⟩)
abbrev Qst2_2 (Z : State) (x : Addr) (y : Addr) (t : Addr) (u : Addr) (c0 : Int32) (c1 : Int32) (d0 : Int32) (d1 : Int32) (zC_ : Int32) (h0 : Heap) (n0 : Nat) (v : Option Value) (h : Heap) (L : List Loc) : Prop := v = some (.int (if o_pref ([c0, c1] : List Int32) ([d0, d1] : List Int32) = true then 1 else 0)) ∧ Fr n0 L ∧ h = h0
set_option maxRecDepth 65536 in
set_option maxHeartbeats 40000000 in
theorem rmst2_2 (l : Launch) (Z : State) (a0 : Array Value) (hw : ∀ d ∈ tables_1, d.before a0 Z = true) (ws : List Jvm.Cond) (x : Addr) (y : Addr) (t : Addr) (u : Addr) (c0 : Int32) (c1 : Int32) (d0 : Int32) (d1 : Int32) (zC_ : Int32) (h0 : Heap) (n0 : Nat) (O0 : Old Z n0 h0) (S_x : o_Str Z h0 x t ([c0, c1] : List Int32)) (S_y : o_Str Z h0 y u ([d0, d1] : List Int32)) (SC_ : o_SC Z zC_) (hC_ : ¬ zC_ = 0) :
    o_Met l Z o_m18 jdk_42_method_76_code 2 (some .boolean) ws o_R6 #[(.ref x), (.ref y)] h0 (Qst2_2 Z x y t u c0 c1 d0 d1 zC_ h0 n0) := by
  refine o_enter o_pn_3 (fun m => o_ef1 m x y) (fun p e s m below meth c s₁ hx hby hml hZ hown hnm hlk hrt X0 e0 => ?_)
  have N0 := Fr.nil n0
  have y_ := @hb _ _ hby
  have k_ := @o_k _ _ hw
  refine o_aloadN X0 hx (y_ oD16_0) rfl rfl ?_
  refine o_aloadN X0 hx (y_ oD16_1) rfl rfl ?_
  refine o_iconst X0 hx (y_ oD16_2) (x := 0) rfl ?_
  refine o_vir (y := o_m15) (b := x) (argsL := [(.ref y), (.int 0)]) (S := []) (W := 0) X0 hx hZ hown (k_ 117 rfl) (k_ 118 rfl) (k_ 120 rfl) (k_ 119 rfl) (backOf (W := 0) (rmsw2_2_0 l Z a0 hw [] x y t u c0 c1 d0 d1 zC_ h0 n0 O0 S_x S_y SC_ hC_) hZ (k_ 121 rfl) (k_ 10 rfl) (by decide) (by decide)) e0 S_x.1 hml (lenOf o_pd__28Ljava_2flang_2fString_3bI_29Z rfl) (y_ oD16_3) (fun T1 L1 v1 X1 hQ1 => ?_)
  obtain ⟨rfl, N1q, hh1⟩ := hQ1
  have N1 := Fr.app N0 N1q
  show o_G p e below _ T1 (mkF m 6 #[vR x, vR y] [(.int (if o_pref ([c0, c1] : List Int32) ([d0, d1] : List Int32) = true then 1 else 0 : Int32))])
  exact o_retN X1 hx (t := .boolean) hrt hlk (by simp) (y_ oD16_6) o_narB (by decide) (by decide) (o_hQ hh1 ⟨rfl, N1, rfl⟩)
abbrev Qmis3_0_3 (Z : State) (a : Addr) (b : Addr) (ka : ClassId) (kb : ClassId) (v0 : Int32) (v1 : Int32) (v2 : Int32) (h0 : Heap) (n0 : Nat) (v : Option Value) (h : Heap) (L : List Loc) : Prop := ∃ r : Int32, v = some (.int r) ∧ Fr n0 L ∧ h = h0 ∧ (r < 0 ↔ o_pref ([] : List Int32) ([] : List Int32) = true)
set_option maxRecDepth 65536 in
set_option maxHeartbeats 40000000 in
theorem rmmis3_0_3 (l : Launch) (Z : State) (a0 : Array Value) (hw : ∀ d ∈ tables_1, d.before a0 Z = true) (ws : List Jvm.Cond) (a : Addr) (b : Addr) (ka : ClassId) (kb : ClassId) (v0 : Int32) (v1 : Int32) (v2 : Int32) (h0 : Heap) (n0 : Nat) (O0 : Old Z n0 h0) (V_a : Arv Z h0 a ka .byte (3 : Int32) [.int v0, .int v1, .int v2] (.int 0)) (V_b : Arv Z h0 b kb .byte (0 : Int32) [] (.int 0)) :
    o_Met l Z o_m14 jdk_48_method_14_code 8 (some .int) ws o_R1 #[(.ref a), (.int 3), (.ref b), (.int 0), (.int 0)] h0 (Qmis3_0_3 Z a b ka kb v0 v1 v2 h0 n0) := by
  refine o_enter o_pn_5 (fun m => o_ef23 m a b) (fun p e s m below meth c s₁ hx hby hml hZ hown hnm hlk hrt X0 e0 => ?_)
  have N0 := Fr.nil n0
  have y_ := @hb _ _ hby
  have k_ := @o_k _ _ hw
  refine o_iconst X0 hx (y_ oD13_0) (x := 0) rfl ?_
  refine o_istore X0 hx (y_ oD13_1) (A' := #[vR a, vI 3, vR b, vI 0, vI 0, vI 0, .unset, .unset]) rfl ?_
  refine o_iload X0 hx (y_ oD13_3) rfl ?_
  refine o_bipush X0 hx (y_ oD13_5) (x := 7) rfl ?_
  refine o_iCT (t := 70) X0 hx (y_ oD13_7) ?_
  refine o_iload X0 hx (y_ oD13_70) rfl ?_
  refine o_iload X0 hx (y_ oD13_72) rfl ?_
  refine o_iCT (t := 101) X0 hx (y_ oD13_74) ?_
  refine o_iconst X0 hx (y_ oD13_101) (x := (-1 : Int32)) rfl ?_
  exact o_retI X0 hx hrt hlk (y_ oD13_102) (by decide) (by decide) (o_hQ e0 ⟨_, rfl, N0, rfl, (o_lf32 v0 v1 v2)⟩)
abbrev Qsw3_0_3 (Z : State) (x : Addr) (y : Addr) (t : Addr) (u : Addr) (c0 : Int32) (c1 : Int32) (c2 : Int32) (zC_ : Int32) (h0 : Heap) (n0 : Nat) (v : Option Value) (h : Heap) (L : List Loc) : Prop := v = some (.int (if o_pref ([] : List Int32) ([] : List Int32) = true then 1 else 0)) ∧ Fr n0 L ∧ h = h0
set_option maxRecDepth 65536 in
set_option maxHeartbeats 40000000 in
theorem rmsw3_0_3 (l : Launch) (Z : State) (a0 : Array Value) (hw : ∀ d ∈ tables_1, d.before a0 Z = true) (ws : List Jvm.Cond) (x : Addr) (y : Addr) (t : Addr) (u : Addr) (c0 : Int32) (c1 : Int32) (c2 : Int32) (zC_ : Int32) (h0 : Heap) (n0 : Nat) (O0 : Old Z n0 h0) (S_x : o_Str Z h0 x t ([c0, c1, c2] : List Int32)) (S_y : o_Str Z h0 y u ([] : List Int32)) (SC_ : o_SC Z zC_) (hC_ : ¬ zC_ = 0) :
    o_Met l Z o_m15 jdk_42_method_75_code 8 (some .boolean) ws o_R5 #[(.ref x), (.ref y), (.int 3)] h0 (Qsw3_0_3 Z x y t u c0 c1 c2 zC_ h0 n0) := by
  refine o_enter o_pn_3 (fun m => o_ef24 m x y) (fun p e s m below meth c s₁ hx hby hml hZ hown hnm hlk hrt X0 e0 => ?_)
  have N0 := Fr.nil n0
  have y_ := @hb _ _ hby
  have k_ := @o_k _ _ hw
  refine o_iloadN X0 hx (y_ oD14_0) rfl ?_
  refine o_iFF X0 hx (y_ oD14_1) ?_
  refine o_iloadN X0 hx (y_ oD14_4) rfl ?_
  refine o_aloadN X0 hx (y_ oD14_5) rfl rfl ?_
  refine o_vir (y := o_m16) (b := x) (argsL := []) (S := [(.int 3)]) (W := 1) X0 hx hZ hown (k_ 112 rfl) (k_ 113 rfl) (k_ 115 rfl) (k_ 114 rfl) (o_lenB (W := 1) hZ hw (k_ 9 rfl) O0 S_x SC_ hC_ (by decide) (by decide)) e0 S_x.1 hml (lenOf o_pd__28_29I rfl) (y_ oD14_6) (fun T1 L1 v1 X1 hQ1 => ?_)
  obtain ⟨rfl, rfl, hh1⟩ := hQ1
  have N1 := Fr.app N0 (Fr.nil n0)
  show o_G p e below _ T1 (mkF m 9 #[vR x, vR y, vI 3, .unset, .unset, .unset, .unset, .unset] [(.int 3), (.int 3)])
  refine o_aloadN X1 hx (y_ oD14_9) rfl rfl ?_
  refine o_vir (y := o_m16) (b := y) (argsL := []) (S := [(.int 3), (.int 3)]) (W := 2) X1 hx hZ hown (k_ 112 rfl) (k_ 113 rfl) (k_ 115 rfl) (k_ 114 rfl) (o_lenB (W := 2) hZ hw (k_ 9 rfl) O0 S_y SC_ hC_ (by decide) (by decide)) hh1 S_y.1 hml (lenOf o_pd__28_29I rfl) (y_ oD14_10) (fun T2 L2 v2 X2 hQ2 => ?_)
  obtain ⟨rfl, rfl, hh2⟩ := hQ2
  have N2 := Fr.app N1 (Fr.nil n0)
  show o_G p e below _ T2 (mkF m 13 #[vR x, vR y, vI 3, .unset, .unset, .unset, .unset, .unset] [(.int 0), (.int 3), (.int 3)])
  refine o_isub X2 hx (y_ oD14_13) ?_
  refine o_valE (z := 3) (by decide) ?_
  refine o_iCT (t := 19) X2 hx (y_ oD14_14) ?_
  obtain ⟨kb3, Bv3⟩ := S_x.2.2.2.1
  have Bw3 : Arv Z h0 t kb3 .byte (3 : Int32) [.int c0.toInt8.toInt32, .int c1.toInt8.toInt32, .int c2.toInt8.toInt32] (.int 0) := Bv3
  obtain ⟨kb4, Bv4⟩ := S_y.2.2.2.1
  have Bw4 : Arv Z h0 u kb4 .byte (0 : Int32) [] (.int 0) := Bv4
  refine o_aloadN X2 hx (y_ oD14_19) rfl rfl ?_
  refine o_getF X2 hx hZ hown (host := "") (Or.inl (k_ 35 rfl)) Via.refl hh2 S_x.2.2.1 (y_ oD14_20) (fun T5 X5 e5 => ?_)
  refine o_astoreN X5 hx (y_ oD14_23) rfl (A' := #[vR x, vR y, vI 3, vR t, .unset, .unset, .unset, .unset]) rfl ?_
  refine o_aloadN X5 hx (y_ oD14_24) rfl rfl ?_
  refine o_getF X5 hx hZ hown (host := "") (Or.inl (k_ 35 rfl)) Via.refl e5 S_y.2.2.1 (y_ oD14_25) (fun T6 X6 e6 => ?_)
  refine o_astore X6 hx (y_ oD14_28) rfl (A' := #[vR x, vR y, vI 3, vR t, vR u, .unset, .unset, .unset]) rfl ?_
  refine o_iconst X6 hx (y_ oD14_30) (x := 0) rfl ?_
  refine o_istore X6 hx (y_ oD14_31) (A' := #[vR x, vR y, vI 3, vR t, vR u, vI 0, .unset, .unset]) rfl ?_
  refine o_aload X6 hx (y_ oD14_33) rfl rfl ?_
  refine o_alen (n := 0) X6 hx hZ e6 Bw4 (y_ oD14_35) ?_
  refine o_istore X6 hx (y_ oD14_36) (A' := #[vR x, vR y, vI 3, vR t, vR u, vI 0, vI 0, .unset]) rfl ?_
  refine o_aloadN X6 hx (y_ oD14_38) rfl rfl ?_
  refine o_vir (y := o_m8) (b := x) (argsL := []) (S := []) (W := 0) X6 hx hZ hown (k_ 73 rfl) (k_ 74 rfl) (k_ 76 rfl) (k_ 75 rfl) (backOf (W := 0) (rmcod l Z a0 hw [] x zC_ h0 n0 O0 S_x.2.1 SC_ hC_) hZ (k_ 77 rfl) (k_ 10 rfl) (by decide) (by decide)) e6 S_x.1 hml (lenOf o_pd__28_29B rfl) (y_ oD14_39) (fun T7 L7 v7 X7 hQ7 => ?_)
  obtain ⟨rfl, N7q, hh7⟩ := hQ7
  have N7 := Fr.app N2 N7q
  show o_G p e below _ T7 (mkF m 42 #[vR x, vR y, vI 3, vR t, vR u, vI 0, vI 0, .unset] [(.int 0)])
  refine o_istore X7 hx (y_ oD14_42) (A' := #[vR x, vR y, vI 3, vR t, vR u, vI 0, vI 0, vI 0]) rfl ?_
  refine o_iload X7 hx (y_ oD14_44) rfl ?_
  refine o_aloadN X7 hx (y_ oD14_46) rfl rfl ?_
  refine o_vir (y := o_m8) (b := y) (argsL := []) (S := [(.int 0)]) (W := 1) X7 hx hZ hown (k_ 73 rfl) (k_ 74 rfl) (k_ 76 rfl) (k_ 75 rfl) (backOf (W := 1) (rmcod l Z a0 hw [] y zC_ h0 n0 O0 S_y.2.1 SC_ hC_) hZ (k_ 77 rfl) (k_ 10 rfl) (by decide) (by decide)) hh7 S_y.1 hml (lenOf o_pd__28_29B rfl) (y_ oD14_47) (fun T8 L8 v8 X8 hQ8 => ?_)
  obtain ⟨rfl, N8q, hh8⟩ := hQ8
  have N8 := Fr.app N7 N8q
  show o_G p e below _ T8 (mkF m 50 #[vR x, vR y, vI 3, vR t, vR u, vI 0, vI 0, vI 0] [(.int 0), (.int 0)])
  refine o_iCF X8 hx (y_ oD14_50) ?_
  refine o_iload X8 hx (y_ oD14_53) rfl ?_
  refine o_iconst X8 hx (y_ oD14_55) (x := 1) rfl ?_
  refine o_iCT (t := 63) X8 hx (y_ oD14_56) ?_
  refine o_aloadN X8 hx (y_ oD14_63) rfl rfl ?_
  refine o_iloadN X8 hx (y_ oD14_64) rfl ?_
  refine o_aload X8 hx (y_ oD14_65) rfl rfl ?_
  refine o_iconst X8 hx (y_ oD14_67) (x := 0) rfl ?_
  refine o_iload X8 hx (y_ oD14_68) rfl ?_
  refine o_sta (y := o_m14) (argsL := [(.ref t), (.int 3), (.ref u), (.int 0), (.int 0)]) (S := []) (W := 0) X8 hx hZ hown (k_ 125 rfl) (k_ 126 rfl) (k_ 127 rfl) (k_ 128 rfl) (backOf (W := 0) (rmmis3_0_3 l Z a0 hw [] t u kb3 kb4 (c0.toInt8.toInt32) (c1.toInt8.toInt32) (c2.toInt8.toInt32) h0 n0 O0 Bw3 Bw4) hZ (k_ 128 rfl) (k_ 127 rfl) (by decide) (by decide)) hh8 hml (lenOf o_pd__28_5bBI_5bBII_29I rfl) (y_ oD14_70) (fun T9 L9 v9 X9 hQ9 => ?_)
  obtain ⟨r9, rfl, N9q, hh9, hr9⟩ := hQ9
  have N9 := Fr.app N8 N9q
  show o_G p e below _ T9 (mkF m 73 #[vR x, vR y, vI 3, vR t, vR u, vI 0, vI 0, vI 0] [(.int r9)])
  refine o_iF (t := 80) X9 hx (y_ oD14_73) (fun hq => ?_) (fun hq => ?_)
  · have hc73 := o_h_ge.1 hq
    refine o_iconst X9 hx (y_ oD14_80) (x := 0) rfl ?_
    exact o_retN X9 hx (t := .boolean) hrt hlk (by simp) (y_ oD14_81) rfl (by decide) (by decide) (o_hQ hh9 ⟨by rw [if_neg (fun q => hc73 (hr9.mpr ((o_pref_b ([] : List Int32) ([] : List Int32) (fun c hc => S_x.2.2.2.2.1 c (List.mem_of_mem_drop (i := 3) hc)) S_y.2.2.2.2.1).symm ▸ q)))], N9, rfl⟩)
  have hc73 := o_h_ge.2 hq
  refine o_iconst X9 hx (y_ oD14_76) (x := 1) rfl ?_
  refine o_gO (t := 81) X9 hx (y_ oD14_77) ?_
  exact o_retN X9 hx (t := .boolean) hrt hlk (by simp) (y_ oD14_81) rfl (by decide) (by decide) (o_hQ hh9 ⟨by rw [if_pos ((o_pref_b ([] : List Int32) ([] : List Int32) (fun c hc => S_x.2.2.2.2.1 c (List.mem_of_mem_drop (i := 3) hc)) S_y.2.2.2.2.1) ▸ hr9.mp hc73)], N9, rfl⟩)
abbrev Qen3_0 (Z : State) (x : Addr) (y : Addr) (t : Addr) (u : Addr) (c0 : Int32) (c1 : Int32) (c2 : Int32) (zC_ : Int32) (h0 : Heap) (n0 : Nat) (v : Option Value) (h : Heap) (L : List Loc) : Prop := v = some (.int (if o_pref ([] : List Int32) ([] : List Int32) = true then 1 else 0)) ∧ Fr n0 L ∧ h = h0
set_option maxRecDepth 65536 in
set_option maxHeartbeats 40000000 in
theorem rmen3_0 (l : Launch) (Z : State) (a0 : Array Value) (hw : ∀ d ∈ tables_1, d.before a0 Z = true) (ws : List Jvm.Cond) (x : Addr) (y : Addr) (t : Addr) (u : Addr) (c0 : Int32) (c1 : Int32) (c2 : Int32) (zC_ : Int32) (h0 : Heap) (n0 : Nat) (O0 : Old Z n0 h0) (S_x : o_Str Z h0 x t ([c0, c1, c2] : List Int32)) (S_y : o_Str Z h0 y u ([] : List Int32)) (SC_ : o_SC Z zC_) (hC_ : ¬ zC_ = 0) :
    o_Met l Z o_m17 jdk_42_method_77_code 2 (some .boolean) ws o_R6 #[(.ref x), (.ref y)] h0 (Qen3_0 Z x y t u c0 c1 c2 zC_ h0 n0) := by
  refine o_enter o_pn_3 (fun m => o_ef1 m x y) (fun p e s m below meth c s₁ hx hby hml hZ hown hnm hlk hrt X0 e0 => ?_)
  have N0 := Fr.nil n0
  have y_ := @hb _ _ hby
  have k_ := @o_k _ _ hw
  refine o_aloadN X0 hx (y_ oD15_0) rfl rfl ?_
  refine o_aloadN X0 hx (y_ oD15_1) rfl rfl ?_
  refine o_aloadN X0 hx (y_ oD15_2) rfl rfl ?_
  refine o_vir (y := o_m16) (b := x) (argsL := []) (S := [(.ref y), (.ref x)]) (W := 2) X0 hx hZ hown (k_ 112 rfl) (k_ 113 rfl) (k_ 115 rfl) (k_ 114 rfl) (o_lenB (W := 2) hZ hw (k_ 9 rfl) O0 S_x SC_ hC_ (by decide) (by decide)) e0 S_x.1 hml (lenOf o_pd__28_29I rfl) (y_ oD15_3) (fun T1 L1 v1 X1 hQ1 => ?_)
  obtain ⟨rfl, rfl, hh1⟩ := hQ1
  have N1 := Fr.app N0 (Fr.nil n0)
  show o_G p e below _ T1 (mkF m 6 #[vR x, vR y] [(.int 3), (.ref y), (.ref x)])
  refine o_aloadN X1 hx (y_ oD15_6) rfl rfl ?_
  refine o_vir (y := o_m16) (b := y) (argsL := []) (S := [(.int 3), (.ref y), (.ref x)]) (W := 3) X1 hx hZ hown (k_ 112 rfl) (k_ 113 rfl) (k_ 115 rfl) (k_ 114 rfl) (o_lenB (W := 3) hZ hw (k_ 9 rfl) O0 S_y SC_ hC_ (by decide) (by decide)) hh1 S_y.1 hml (lenOf o_pd__28_29I rfl) (y_ oD15_7) (fun T2 L2 v2 X2 hQ2 => ?_)
  obtain ⟨rfl, rfl, hh2⟩ := hQ2
  have N2 := Fr.app N1 (Fr.nil n0)
  show o_G p e below _ T2 (mkF m 10 #[vR x, vR y] [(.int 0), (.int 3), (.ref y), (.ref x)])
  refine o_isub X2 hx (y_ oD15_10) ?_
  refine o_valE (z := 3) (by decide) ?_
  refine o_vir (y := o_m15) (b := x) (argsL := [(.ref y), (.int 3)]) (S := []) (W := 0) X2 hx hZ hown (k_ 117 rfl) (k_ 118 rfl) (k_ 120 rfl) (k_ 119 rfl) (backOf (W := 0) (rmsw3_0_3 l Z a0 hw [] x y t u c0 c1 c2 zC_ h0 n0 O0 S_x S_y SC_ hC_) hZ (k_ 121 rfl) (k_ 10 rfl) (by decide) (by decide)) hh2 S_x.1 hml (lenOf o_pd__28Ljava_2flang_2fString_3bI_29Z rfl) (y_ oD15_11) (fun T3 L3 v3 X3 hQ3 => ?_)
  obtain ⟨rfl, N3q, hh3⟩ := hQ3
  have N3 := Fr.app N2 N3q
  show o_G p e below _ T3 (mkF m 14 #[vR x, vR y] [(.int (if o_pref ([] : List Int32) ([] : List Int32) = true then 1 else 0 : Int32))])
  exact o_retN X3 hx (t := .boolean) hrt hlk (by simp) (y_ oD15_14) o_narB (by decide) (by decide) (o_hQ hh3 ⟨rfl, N3, rfl⟩)
abbrev Qmis3_1_2 (Z : State) (a : Addr) (b : Addr) (ka : ClassId) (kb : ClassId) (v0 : Int32) (v1 : Int32) (v2 : Int32) (s0 : Int32) (h0 : Heap) (n0 : Nat) (v : Option Value) (h : Heap) (L : List Loc) : Prop := ∃ r : Int32, v = some (.int r) ∧ Fr n0 L ∧ h = h0 ∧ (r < 0 ↔ o_pref ([v2] : List Int32) ([s0] : List Int32) = true)
set_option maxRecDepth 65536 in
set_option maxHeartbeats 40000000 in
theorem rmmis3_1_2 (l : Launch) (Z : State) (a0 : Array Value) (hw : ∀ d ∈ tables_1, d.before a0 Z = true) (ws : List Jvm.Cond) (a : Addr) (b : Addr) (ka : ClassId) (kb : ClassId) (v0 : Int32) (v1 : Int32) (v2 : Int32) (s0 : Int32) (h0 : Heap) (n0 : Nat) (O0 : Old Z n0 h0) (V_a : Arv Z h0 a ka .byte (3 : Int32) [.int v0, .int v1, .int v2] (.int 0)) (V_b : Arv Z h0 b kb .byte (1 : Int32) [.int s0] (.int 0)) :
    o_Met l Z o_m14 jdk_48_method_14_code 8 (some .int) ws o_R1 #[(.ref a), (.int 2), (.ref b), (.int 0), (.int 1)] h0 (Qmis3_1_2 Z a b ka kb v0 v1 v2 s0 h0 n0) := by
  refine o_enter o_pn_5 (fun m => o_ef25 m a b) (fun p e s m below meth c s₁ hx hby hml hZ hown hnm hlk hrt X0 e0 => ?_)
  have N0 := Fr.nil n0
  have y_ := @hb _ _ hby
  have k_ := @o_k _ _ hw
  refine o_iconst X0 hx (y_ oD13_0) (x := 0) rfl ?_
  refine o_istore X0 hx (y_ oD13_1) (A' := #[vR a, vI 2, vR b, vI 0, vI 1, vI 0, .unset, .unset]) rfl ?_
  refine o_iload X0 hx (y_ oD13_3) rfl ?_
  refine o_bipush X0 hx (y_ oD13_5) (x := 7) rfl ?_
  refine o_iCT (t := 70) X0 hx (y_ oD13_7) ?_
  refine o_iload X0 hx (y_ oD13_70) rfl ?_
  refine o_iload X0 hx (y_ oD13_72) rfl ?_
  refine o_iCF X0 hx (y_ oD13_74) ?_
  refine o_aloadN X0 hx (y_ oD13_77) rfl rfl ?_
  refine o_iloadN X0 hx (y_ oD13_78) rfl ?_
  refine o_iload X0 hx (y_ oD13_79) rfl ?_
  refine o_iadd X0 hx (y_ oD13_81) ?_
  refine o_valE (z := 2) (by decide) ?_
  refine o_bload (v := (.int v2)) X0 hx hZ e0 V_a (y_ oD13_82) ⟨by decide, by decide⟩ rfl ?_
  refine o_aloadN X0 hx (y_ oD13_83) rfl rfl ?_
  refine o_iloadN X0 hx (y_ oD13_84) rfl ?_
  refine o_iload X0 hx (y_ oD13_85) rfl ?_
  refine o_iadd X0 hx (y_ oD13_87) ?_
  refine o_valE (z := 0) (by decide) ?_
  refine o_bload (v := (.int s0)) X0 hx hZ e0 V_b (y_ oD13_88) ⟨by decide, by decide⟩ rfl ?_
  refine o_iC (t := 95) X0 hx (y_ oD13_89) (fun hq => ?_) (fun hq => ?_)
  · have hc89_1 := o_c_eq.1 hq
    refine o_iincK X0 hx (y_ oD13_95) (y := 1) rfl rfl (z := 1) (by decide) (A' := #[vR a, vI 2, vR b, vI 0, vI 1, vI 1, .unset, .unset]) rfl ?_
    refine o_gO (t := 70) X0 hx (y_ oD13_98) ?_
    refine o_iload X0 hx (y_ oD13_70) rfl ?_
    refine o_iload X0 hx (y_ oD13_72) rfl ?_
    refine o_iCT (t := 101) X0 hx (y_ oD13_74) ?_
    refine o_iconst X0 hx (y_ oD13_101) (x := (-1 : Int32)) rfl ?_
    exact o_retI X0 hx hrt hlk (y_ oD13_102) (by decide) (by decide) (o_hQ e0 ⟨_, rfl, N0, rfl, (o_lf33 v0 v1 v2 s0 hc89_1)⟩)
  have hc89_1 := o_c_eq.2 hq
  refine o_iload X0 hx (y_ oD13_92) rfl ?_
  exact o_retI X0 hx hrt hlk (y_ oD13_94) (by decide) (by decide) (o_hQ e0 ⟨_, rfl, N0, rfl, (o_lf34 v0 v1 v2 s0 hc89_1)⟩)
abbrev Qsw3_1_2 (Z : State) (x : Addr) (y : Addr) (t : Addr) (u : Addr) (c0 : Int32) (c1 : Int32) (c2 : Int32) (d0 : Int32) (zC_ : Int32) (h0 : Heap) (n0 : Nat) (v : Option Value) (h : Heap) (L : List Loc) : Prop := v = some (.int (if o_pref ([c2] : List Int32) ([d0] : List Int32) = true then 1 else 0)) ∧ Fr n0 L ∧ h = h0
set_option maxRecDepth 65536 in
set_option maxHeartbeats 40000000 in
theorem rmsw3_1_2 (l : Launch) (Z : State) (a0 : Array Value) (hw : ∀ d ∈ tables_1, d.before a0 Z = true) (ws : List Jvm.Cond) (x : Addr) (y : Addr) (t : Addr) (u : Addr) (c0 : Int32) (c1 : Int32) (c2 : Int32) (d0 : Int32) (zC_ : Int32) (h0 : Heap) (n0 : Nat) (O0 : Old Z n0 h0) (S_x : o_Str Z h0 x t ([c0, c1, c2] : List Int32)) (S_y : o_Str Z h0 y u ([d0] : List Int32)) (SC_ : o_SC Z zC_) (hC_ : ¬ zC_ = 0) :
    o_Met l Z o_m15 jdk_42_method_75_code 8 (some .boolean) ws o_R5 #[(.ref x), (.ref y), (.int 2)] h0 (Qsw3_1_2 Z x y t u c0 c1 c2 d0 zC_ h0 n0) := by
  refine o_enter o_pn_3 (fun m => o_ef20 m x y) (fun p e s m below meth c s₁ hx hby hml hZ hown hnm hlk hrt X0 e0 => ?_)
  have N0 := Fr.nil n0
  have y_ := @hb _ _ hby
  have k_ := @o_k _ _ hw
  refine o_iloadN X0 hx (y_ oD14_0) rfl ?_
  refine o_iFF X0 hx (y_ oD14_1) ?_
  refine o_iloadN X0 hx (y_ oD14_4) rfl ?_
  refine o_aloadN X0 hx (y_ oD14_5) rfl rfl ?_
  refine o_vir (y := o_m16) (b := x) (argsL := []) (S := [(.int 2)]) (W := 1) X0 hx hZ hown (k_ 112 rfl) (k_ 113 rfl) (k_ 115 rfl) (k_ 114 rfl) (o_lenB (W := 1) hZ hw (k_ 9 rfl) O0 S_x SC_ hC_ (by decide) (by decide)) e0 S_x.1 hml (lenOf o_pd__28_29I rfl) (y_ oD14_6) (fun T1 L1 v1 X1 hQ1 => ?_)
  obtain ⟨rfl, rfl, hh1⟩ := hQ1
  have N1 := Fr.app N0 (Fr.nil n0)
  show o_G p e below _ T1 (mkF m 9 #[vR x, vR y, vI 2, .unset, .unset, .unset, .unset, .unset] [(.int 3), (.int 2)])
  refine o_aloadN X1 hx (y_ oD14_9) rfl rfl ?_
  refine o_vir (y := o_m16) (b := y) (argsL := []) (S := [(.int 3), (.int 2)]) (W := 2) X1 hx hZ hown (k_ 112 rfl) (k_ 113 rfl) (k_ 115 rfl) (k_ 114 rfl) (o_lenB (W := 2) hZ hw (k_ 9 rfl) O0 S_y SC_ hC_ (by decide) (by decide)) hh1 S_y.1 hml (lenOf o_pd__28_29I rfl) (y_ oD14_10) (fun T2 L2 v2 X2 hQ2 => ?_)
  obtain ⟨rfl, rfl, hh2⟩ := hQ2
  have N2 := Fr.app N1 (Fr.nil n0)
  show o_G p e below _ T2 (mkF m 13 #[vR x, vR y, vI 2, .unset, .unset, .unset, .unset, .unset] [(.int 1), (.int 3), (.int 2)])
  refine o_isub X2 hx (y_ oD14_13) ?_
  refine o_valE (z := 2) (by decide) ?_
  refine o_iCT (t := 19) X2 hx (y_ oD14_14) ?_
  obtain ⟨kb3, Bv3⟩ := S_x.2.2.2.1
  have Bw3 : Arv Z h0 t kb3 .byte (3 : Int32) [.int c0.toInt8.toInt32, .int c1.toInt8.toInt32, .int c2.toInt8.toInt32] (.int 0) := Bv3
  obtain ⟨kb4, Bv4⟩ := S_y.2.2.2.1
  have Bw4 : Arv Z h0 u kb4 .byte (1 : Int32) [.int d0.toInt8.toInt32] (.int 0) := Bv4
  refine o_aloadN X2 hx (y_ oD14_19) rfl rfl ?_
  refine o_getF X2 hx hZ hown (host := "") (Or.inl (k_ 35 rfl)) Via.refl hh2 S_x.2.2.1 (y_ oD14_20) (fun T5 X5 e5 => ?_)
  refine o_astoreN X5 hx (y_ oD14_23) rfl (A' := #[vR x, vR y, vI 2, vR t, .unset, .unset, .unset, .unset]) rfl ?_
  refine o_aloadN X5 hx (y_ oD14_24) rfl rfl ?_
  refine o_getF X5 hx hZ hown (host := "") (Or.inl (k_ 35 rfl)) Via.refl e5 S_y.2.2.1 (y_ oD14_25) (fun T6 X6 e6 => ?_)
  refine o_astore X6 hx (y_ oD14_28) rfl (A' := #[vR x, vR y, vI 2, vR t, vR u, .unset, .unset, .unset]) rfl ?_
  refine o_iconst X6 hx (y_ oD14_30) (x := 0) rfl ?_
  refine o_istore X6 hx (y_ oD14_31) (A' := #[vR x, vR y, vI 2, vR t, vR u, vI 0, .unset, .unset]) rfl ?_
  refine o_aload X6 hx (y_ oD14_33) rfl rfl ?_
  refine o_alen (n := 1) X6 hx hZ e6 Bw4 (y_ oD14_35) ?_
  refine o_istore X6 hx (y_ oD14_36) (A' := #[vR x, vR y, vI 2, vR t, vR u, vI 0, vI 1, .unset]) rfl ?_
  refine o_aloadN X6 hx (y_ oD14_38) rfl rfl ?_
  refine o_vir (y := o_m8) (b := x) (argsL := []) (S := []) (W := 0) X6 hx hZ hown (k_ 73 rfl) (k_ 74 rfl) (k_ 76 rfl) (k_ 75 rfl) (backOf (W := 0) (rmcod l Z a0 hw [] x zC_ h0 n0 O0 S_x.2.1 SC_ hC_) hZ (k_ 77 rfl) (k_ 10 rfl) (by decide) (by decide)) e6 S_x.1 hml (lenOf o_pd__28_29B rfl) (y_ oD14_39) (fun T7 L7 v7 X7 hQ7 => ?_)
  obtain ⟨rfl, N7q, hh7⟩ := hQ7
  have N7 := Fr.app N2 N7q
  show o_G p e below _ T7 (mkF m 42 #[vR x, vR y, vI 2, vR t, vR u, vI 0, vI 1, .unset] [(.int 0)])
  refine o_istore X7 hx (y_ oD14_42) (A' := #[vR x, vR y, vI 2, vR t, vR u, vI 0, vI 1, vI 0]) rfl ?_
  refine o_iload X7 hx (y_ oD14_44) rfl ?_
  refine o_aloadN X7 hx (y_ oD14_46) rfl rfl ?_
  refine o_vir (y := o_m8) (b := y) (argsL := []) (S := [(.int 0)]) (W := 1) X7 hx hZ hown (k_ 73 rfl) (k_ 74 rfl) (k_ 76 rfl) (k_ 75 rfl) (backOf (W := 1) (rmcod l Z a0 hw [] y zC_ h0 n0 O0 S_y.2.1 SC_ hC_) hZ (k_ 77 rfl) (k_ 10 rfl) (by decide) (by decide)) hh7 S_y.1 hml (lenOf o_pd__28_29B rfl) (y_ oD14_47) (fun T8 L8 v8 X8 hQ8 => ?_)
  obtain ⟨rfl, N8q, hh8⟩ := hQ8
  have N8 := Fr.app N7 N8q
  show o_G p e below _ T8 (mkF m 50 #[vR x, vR y, vI 2, vR t, vR u, vI 0, vI 1, vI 0] [(.int 0), (.int 0)])
  refine o_iCF X8 hx (y_ oD14_50) ?_
  refine o_iload X8 hx (y_ oD14_53) rfl ?_
  refine o_iconst X8 hx (y_ oD14_55) (x := 1) rfl ?_
  refine o_iCT (t := 63) X8 hx (y_ oD14_56) ?_
  refine o_aloadN X8 hx (y_ oD14_63) rfl rfl ?_
  refine o_iloadN X8 hx (y_ oD14_64) rfl ?_
  refine o_aload X8 hx (y_ oD14_65) rfl rfl ?_
  refine o_iconst X8 hx (y_ oD14_67) (x := 0) rfl ?_
  refine o_iload X8 hx (y_ oD14_68) rfl ?_
  refine o_sta (y := o_m14) (argsL := [(.ref t), (.int 2), (.ref u), (.int 0), (.int 1)]) (S := []) (W := 0) X8 hx hZ hown (k_ 125 rfl) (k_ 126 rfl) (k_ 127 rfl) (k_ 128 rfl) (backOf (W := 0) (rmmis3_1_2 l Z a0 hw [] t u kb3 kb4 (c0.toInt8.toInt32) (c1.toInt8.toInt32) (c2.toInt8.toInt32) (d0.toInt8.toInt32) h0 n0 O0 Bw3 Bw4) hZ (k_ 128 rfl) (k_ 127 rfl) (by decide) (by decide)) hh8 hml (lenOf o_pd__28_5bBI_5bBII_29I rfl) (y_ oD14_70) (fun T9 L9 v9 X9 hQ9 => ?_)
  obtain ⟨r9, rfl, N9q, hh9, hr9⟩ := hQ9
  have N9 := Fr.app N8 N9q
  show o_G p e below _ T9 (mkF m 73 #[vR x, vR y, vI 2, vR t, vR u, vI 0, vI 1, vI 0] [(.int r9)])
  refine o_iF (t := 80) X9 hx (y_ oD14_73) (fun hq => ?_) (fun hq => ?_)
  · have hc73 := o_h_ge.1 hq
    refine o_iconst X9 hx (y_ oD14_80) (x := 0) rfl ?_
    exact o_retN X9 hx (t := .boolean) hrt hlk (by simp) (y_ oD14_81) rfl (by decide) (by decide) (o_hQ hh9 ⟨by rw [if_neg (fun q => hc73 (hr9.mpr ((o_pref_b ([c2] : List Int32) ([d0] : List Int32) (fun c hc => S_x.2.2.2.2.1 c (List.mem_of_mem_drop (i := 2) hc)) S_y.2.2.2.2.1).symm ▸ q)))], N9, rfl⟩)
  have hc73 := o_h_ge.2 hq
  refine o_iconst X9 hx (y_ oD14_76) (x := 1) rfl ?_
  refine o_gO (t := 81) X9 hx (y_ oD14_77) ?_
  exact o_retN X9 hx (t := .boolean) hrt hlk (by simp) (y_ oD14_81) rfl (by decide) (by decide) (o_hQ hh9 ⟨by rw [if_pos ((o_pref_b ([c2] : List Int32) ([d0] : List Int32) (fun c hc => S_x.2.2.2.2.1 c (List.mem_of_mem_drop (i := 2) hc)) S_y.2.2.2.2.1) ▸ hr9.mp hc73)], N9, rfl⟩)
abbrev Qen3_1 (Z : State) (x : Addr) (y : Addr) (t : Addr) (u : Addr) (c0 : Int32) (c1 : Int32) (c2 : Int32) (d0 : Int32) (zC_ : Int32) (h0 : Heap) (n0 : Nat) (v : Option Value) (h : Heap) (L : List Loc) : Prop := v = some (.int (if o_pref ([c2] : List Int32) ([d0] : List Int32) = true then 1 else 0)) ∧ Fr n0 L ∧ h = h0
set_option maxRecDepth 65536 in
set_option maxHeartbeats 40000000 in
theorem rmen3_1 (l : Launch) (Z : State) (a0 : Array Value) (hw : ∀ d ∈ tables_1, d.before a0 Z = true) (ws : List Jvm.Cond) (x : Addr) (y : Addr) (t : Addr) (u : Addr) (c0 : Int32) (c1 : Int32) (c2 : Int32) (d0 : Int32) (zC_ : Int32) (h0 : Heap) (n0 : Nat) (O0 : Old Z n0 h0) (S_x : o_Str Z h0 x t ([c0, c1, c2] : List Int32)) (S_y : o_Str Z h0 y u ([d0] : List Int32)) (SC_ : o_SC Z zC_) (hC_ : ¬ zC_ = 0) :
    o_Met l Z o_m17 jdk_42_method_77_code 2 (some .boolean) ws o_R6 #[(.ref x), (.ref y)] h0 (Qen3_1 Z x y t u c0 c1 c2 d0 zC_ h0 n0) := by
  refine o_enter o_pn_3 (fun m => o_ef1 m x y) (fun p e s m below meth c s₁ hx hby hml hZ hown hnm hlk hrt X0 e0 => ?_)
  have N0 := Fr.nil n0
  have y_ := @hb _ _ hby
  have k_ := @o_k _ _ hw
  refine o_aloadN X0 hx (y_ oD15_0) rfl rfl ?_
  refine o_aloadN X0 hx (y_ oD15_1) rfl rfl ?_
  refine o_aloadN X0 hx (y_ oD15_2) rfl rfl ?_
  refine o_vir (y := o_m16) (b := x) (argsL := []) (S := [(.ref y), (.ref x)]) (W := 2) X0 hx hZ hown (k_ 112 rfl) (k_ 113 rfl) (k_ 115 rfl) (k_ 114 rfl) (o_lenB (W := 2) hZ hw (k_ 9 rfl) O0 S_x SC_ hC_ (by decide) (by decide)) e0 S_x.1 hml (lenOf o_pd__28_29I rfl) (y_ oD15_3) (fun T1 L1 v1 X1 hQ1 => ?_)
  obtain ⟨rfl, rfl, hh1⟩ := hQ1
  have N1 := Fr.app N0 (Fr.nil n0)
  show o_G p e below _ T1 (mkF m 6 #[vR x, vR y] [(.int 3), (.ref y), (.ref x)])
  refine o_aloadN X1 hx (y_ oD15_6) rfl rfl ?_
  refine o_vir (y := o_m16) (b := y) (argsL := []) (S := [(.int 3), (.ref y), (.ref x)]) (W := 3) X1 hx hZ hown (k_ 112 rfl) (k_ 113 rfl) (k_ 115 rfl) (k_ 114 rfl) (o_lenB (W := 3) hZ hw (k_ 9 rfl) O0 S_y SC_ hC_ (by decide) (by decide)) hh1 S_y.1 hml (lenOf o_pd__28_29I rfl) (y_ oD15_7) (fun T2 L2 v2 X2 hQ2 => ?_)
  obtain ⟨rfl, rfl, hh2⟩ := hQ2
  have N2 := Fr.app N1 (Fr.nil n0)
  show o_G p e below _ T2 (mkF m 10 #[vR x, vR y] [(.int 1), (.int 3), (.ref y), (.ref x)])
  refine o_isub X2 hx (y_ oD15_10) ?_
  refine o_valE (z := 2) (by decide) ?_
  refine o_vir (y := o_m15) (b := x) (argsL := [(.ref y), (.int 2)]) (S := []) (W := 0) X2 hx hZ hown (k_ 117 rfl) (k_ 118 rfl) (k_ 120 rfl) (k_ 119 rfl) (backOf (W := 0) (rmsw3_1_2 l Z a0 hw [] x y t u c0 c1 c2 d0 zC_ h0 n0 O0 S_x S_y SC_ hC_) hZ (k_ 121 rfl) (k_ 10 rfl) (by decide) (by decide)) hh2 S_x.1 hml (lenOf o_pd__28Ljava_2flang_2fString_3bI_29Z rfl) (y_ oD15_11) (fun T3 L3 v3 X3 hQ3 => ?_)
  obtain ⟨rfl, N3q, hh3⟩ := hQ3
  have N3 := Fr.app N2 N3q
  show o_G p e below _ T3 (mkF m 14 #[vR x, vR y] [(.int (if o_pref ([c2] : List Int32) ([d0] : List Int32) = true then 1 else 0 : Int32))])
  exact o_retN X3 hx (t := .boolean) hrt hlk (by simp) (y_ oD15_14) o_narB (by decide) (by decide) (o_hQ hh3 ⟨rfl, N3, rfl⟩)
abbrev Qmis3_1_0 (Z : State) (a : Addr) (b : Addr) (ka : ClassId) (kb : ClassId) (v0 : Int32) (v1 : Int32) (v2 : Int32) (s0 : Int32) (h0 : Heap) (n0 : Nat) (v : Option Value) (h : Heap) (L : List Loc) : Prop := ∃ r : Int32, v = some (.int r) ∧ Fr n0 L ∧ h = h0 ∧ (r < 0 ↔ o_pref ([v0, v1, v2] : List Int32) ([s0] : List Int32) = true)
set_option maxRecDepth 65536 in
set_option maxHeartbeats 40000000 in
theorem rmmis3_1_0 (l : Launch) (Z : State) (a0 : Array Value) (hw : ∀ d ∈ tables_1, d.before a0 Z = true) (ws : List Jvm.Cond) (a : Addr) (b : Addr) (ka : ClassId) (kb : ClassId) (v0 : Int32) (v1 : Int32) (v2 : Int32) (s0 : Int32) (h0 : Heap) (n0 : Nat) (O0 : Old Z n0 h0) (V_a : Arv Z h0 a ka .byte (3 : Int32) [.int v0, .int v1, .int v2] (.int 0)) (V_b : Arv Z h0 b kb .byte (1 : Int32) [.int s0] (.int 0)) :
    o_Met l Z o_m14 jdk_48_method_14_code 8 (some .int) ws o_R1 #[(.ref a), (.int 0), (.ref b), (.int 0), (.int 1)] h0 (Qmis3_1_0 Z a b ka kb v0 v1 v2 s0 h0 n0) := by
  refine o_enter o_pn_5 (fun m => o_ef18 m a b) (fun p e s m below meth c s₁ hx hby hml hZ hown hnm hlk hrt X0 e0 => ?_)
  have N0 := Fr.nil n0
  have y_ := @hb _ _ hby
  have k_ := @o_k _ _ hw
  refine o_iconst X0 hx (y_ oD13_0) (x := 0) rfl ?_
  refine o_istore X0 hx (y_ oD13_1) (A' := #[vR a, vI 0, vR b, vI 0, vI 1, vI 0, .unset, .unset]) rfl ?_
  refine o_iload X0 hx (y_ oD13_3) rfl ?_
  refine o_bipush X0 hx (y_ oD13_5) (x := 7) rfl ?_
  refine o_iCT (t := 70) X0 hx (y_ oD13_7) ?_
  refine o_iload X0 hx (y_ oD13_70) rfl ?_
  refine o_iload X0 hx (y_ oD13_72) rfl ?_
  refine o_iCF X0 hx (y_ oD13_74) ?_
  refine o_aloadN X0 hx (y_ oD13_77) rfl rfl ?_
  refine o_iloadN X0 hx (y_ oD13_78) rfl ?_
  refine o_iload X0 hx (y_ oD13_79) rfl ?_
  refine o_iadd X0 hx (y_ oD13_81) ?_
  refine o_valE (z := 0) (by decide) ?_
  refine o_bload (v := (.int v0)) X0 hx hZ e0 V_a (y_ oD13_82) ⟨by decide, by decide⟩ rfl ?_
  refine o_aloadN X0 hx (y_ oD13_83) rfl rfl ?_
  refine o_iloadN X0 hx (y_ oD13_84) rfl ?_
  refine o_iload X0 hx (y_ oD13_85) rfl ?_
  refine o_iadd X0 hx (y_ oD13_87) ?_
  refine o_valE (z := 0) (by decide) ?_
  refine o_bload (v := (.int s0)) X0 hx hZ e0 V_b (y_ oD13_88) ⟨by decide, by decide⟩ rfl ?_
  refine o_iC (t := 95) X0 hx (y_ oD13_89) (fun hq => ?_) (fun hq => ?_)
  · have hc89_1 := o_c_eq.1 hq
    refine o_iincK X0 hx (y_ oD13_95) (y := 1) rfl rfl (z := 1) (by decide) (A' := #[vR a, vI 0, vR b, vI 0, vI 1, vI 1, .unset, .unset]) rfl ?_
    refine o_gO (t := 70) X0 hx (y_ oD13_98) ?_
    refine o_iload X0 hx (y_ oD13_70) rfl ?_
    refine o_iload X0 hx (y_ oD13_72) rfl ?_
    refine o_iCT (t := 101) X0 hx (y_ oD13_74) ?_
    refine o_iconst X0 hx (y_ oD13_101) (x := (-1 : Int32)) rfl ?_
    exact o_retI X0 hx hrt hlk (y_ oD13_102) (by decide) (by decide) (o_hQ e0 ⟨_, rfl, N0, rfl, (o_lf35 v0 v1 v2 s0 hc89_1)⟩)
  have hc89_1 := o_c_eq.2 hq
  refine o_iload X0 hx (y_ oD13_92) rfl ?_
  exact o_retI X0 hx hrt hlk (y_ oD13_94) (by decide) (by decide) (o_hQ e0 ⟨_, rfl, N0, rfl, (o_lf36 v0 v1 v2 s0 hc89_1)⟩)
abbrev Qsw3_1_0 (Z : State) (x : Addr) (y : Addr) (t : Addr) (u : Addr) (c0 : Int32) (c1 : Int32) (c2 : Int32) (d0 : Int32) (zC_ : Int32) (h0 : Heap) (n0 : Nat) (v : Option Value) (h : Heap) (L : List Loc) : Prop := v = some (.int (if o_pref ([c0, c1, c2] : List Int32) ([d0] : List Int32) = true then 1 else 0)) ∧ Fr n0 L ∧ h = h0
set_option maxRecDepth 65536 in
set_option maxHeartbeats 40000000 in
theorem rmsw3_1_0 (l : Launch) (Z : State) (a0 : Array Value) (hw : ∀ d ∈ tables_1, d.before a0 Z = true) (ws : List Jvm.Cond) (x : Addr) (y : Addr) (t : Addr) (u : Addr) (c0 : Int32) (c1 : Int32) (c2 : Int32) (d0 : Int32) (zC_ : Int32) (h0 : Heap) (n0 : Nat) (O0 : Old Z n0 h0) (S_x : o_Str Z h0 x t ([c0, c1, c2] : List Int32)) (S_y : o_Str Z h0 y u ([d0] : List Int32)) (SC_ : o_SC Z zC_) (hC_ : ¬ zC_ = 0) :
    o_Met l Z o_m15 jdk_42_method_75_code 8 (some .boolean) ws o_R5 #[(.ref x), (.ref y), (.int 0)] h0 (Qsw3_1_0 Z x y t u c0 c1 c2 d0 zC_ h0 n0) := by
  refine o_enter o_pn_3 (fun m => o_ef13 m x y) (fun p e s m below meth c s₁ hx hby hml hZ hown hnm hlk hrt X0 e0 => ?_)
  have N0 := Fr.nil n0
  have y_ := @hb _ _ hby
  have k_ := @o_k _ _ hw
  refine o_iloadN X0 hx (y_ oD14_0) rfl ?_
  refine o_iFF X0 hx (y_ oD14_1) ?_
  refine o_iloadN X0 hx (y_ oD14_4) rfl ?_
  refine o_aloadN X0 hx (y_ oD14_5) rfl rfl ?_
  refine o_vir (y := o_m16) (b := x) (argsL := []) (S := [(.int 0)]) (W := 1) X0 hx hZ hown (k_ 112 rfl) (k_ 113 rfl) (k_ 115 rfl) (k_ 114 rfl) (o_lenB (W := 1) hZ hw (k_ 9 rfl) O0 S_x SC_ hC_ (by decide) (by decide)) e0 S_x.1 hml (lenOf o_pd__28_29I rfl) (y_ oD14_6) (fun T1 L1 v1 X1 hQ1 => ?_)
  obtain ⟨rfl, rfl, hh1⟩ := hQ1
  have N1 := Fr.app N0 (Fr.nil n0)
  show o_G p e below _ T1 (mkF m 9 #[vR x, vR y, vI 0, .unset, .unset, .unset, .unset, .unset] [(.int 3), (.int 0)])
  refine o_aloadN X1 hx (y_ oD14_9) rfl rfl ?_
  refine o_vir (y := o_m16) (b := y) (argsL := []) (S := [(.int 3), (.int 0)]) (W := 2) X1 hx hZ hown (k_ 112 rfl) (k_ 113 rfl) (k_ 115 rfl) (k_ 114 rfl) (o_lenB (W := 2) hZ hw (k_ 9 rfl) O0 S_y SC_ hC_ (by decide) (by decide)) hh1 S_y.1 hml (lenOf o_pd__28_29I rfl) (y_ oD14_10) (fun T2 L2 v2 X2 hQ2 => ?_)
  obtain ⟨rfl, rfl, hh2⟩ := hQ2
  have N2 := Fr.app N1 (Fr.nil n0)
  show o_G p e below _ T2 (mkF m 13 #[vR x, vR y, vI 0, .unset, .unset, .unset, .unset, .unset] [(.int 1), (.int 3), (.int 0)])
  refine o_isub X2 hx (y_ oD14_13) ?_
  refine o_valE (z := 2) (by decide) ?_
  refine o_iCT (t := 19) X2 hx (y_ oD14_14) ?_
  obtain ⟨kb3, Bv3⟩ := S_x.2.2.2.1
  have Bw3 : Arv Z h0 t kb3 .byte (3 : Int32) [.int c0.toInt8.toInt32, .int c1.toInt8.toInt32, .int c2.toInt8.toInt32] (.int 0) := Bv3
  obtain ⟨kb4, Bv4⟩ := S_y.2.2.2.1
  have Bw4 : Arv Z h0 u kb4 .byte (1 : Int32) [.int d0.toInt8.toInt32] (.int 0) := Bv4
  refine o_aloadN X2 hx (y_ oD14_19) rfl rfl ?_
  refine o_getF X2 hx hZ hown (host := "") (Or.inl (k_ 35 rfl)) Via.refl hh2 S_x.2.2.1 (y_ oD14_20) (fun T5 X5 e5 => ?_)
  refine o_astoreN X5 hx (y_ oD14_23) rfl (A' := #[vR x, vR y, vI 0, vR t, .unset, .unset, .unset, .unset]) rfl ?_
  refine o_aloadN X5 hx (y_ oD14_24) rfl rfl ?_
  refine o_getF X5 hx hZ hown (host := "") (Or.inl (k_ 35 rfl)) Via.refl e5 S_y.2.2.1 (y_ oD14_25) (fun T6 X6 e6 => ?_)
  refine o_astore X6 hx (y_ oD14_28) rfl (A' := #[vR x, vR y, vI 0, vR t, vR u, .unset, .unset, .unset]) rfl ?_
  refine o_iconst X6 hx (y_ oD14_30) (x := 0) rfl ?_
  refine o_istore X6 hx (y_ oD14_31) (A' := #[vR x, vR y, vI 0, vR t, vR u, vI 0, .unset, .unset]) rfl ?_
  refine o_aload X6 hx (y_ oD14_33) rfl rfl ?_
  refine o_alen (n := 1) X6 hx hZ e6 Bw4 (y_ oD14_35) ?_
  refine o_istore X6 hx (y_ oD14_36) (A' := #[vR x, vR y, vI 0, vR t, vR u, vI 0, vI 1, .unset]) rfl ?_
  refine o_aloadN X6 hx (y_ oD14_38) rfl rfl ?_
  refine o_vir (y := o_m8) (b := x) (argsL := []) (S := []) (W := 0) X6 hx hZ hown (k_ 73 rfl) (k_ 74 rfl) (k_ 76 rfl) (k_ 75 rfl) (backOf (W := 0) (rmcod l Z a0 hw [] x zC_ h0 n0 O0 S_x.2.1 SC_ hC_) hZ (k_ 77 rfl) (k_ 10 rfl) (by decide) (by decide)) e6 S_x.1 hml (lenOf o_pd__28_29B rfl) (y_ oD14_39) (fun T7 L7 v7 X7 hQ7 => ?_)
  obtain ⟨rfl, N7q, hh7⟩ := hQ7
  have N7 := Fr.app N2 N7q
  show o_G p e below _ T7 (mkF m 42 #[vR x, vR y, vI 0, vR t, vR u, vI 0, vI 1, .unset] [(.int 0)])
  refine o_istore X7 hx (y_ oD14_42) (A' := #[vR x, vR y, vI 0, vR t, vR u, vI 0, vI 1, vI 0]) rfl ?_
  refine o_iload X7 hx (y_ oD14_44) rfl ?_
  refine o_aloadN X7 hx (y_ oD14_46) rfl rfl ?_
  refine o_vir (y := o_m8) (b := y) (argsL := []) (S := [(.int 0)]) (W := 1) X7 hx hZ hown (k_ 73 rfl) (k_ 74 rfl) (k_ 76 rfl) (k_ 75 rfl) (backOf (W := 1) (rmcod l Z a0 hw [] y zC_ h0 n0 O0 S_y.2.1 SC_ hC_) hZ (k_ 77 rfl) (k_ 10 rfl) (by decide) (by decide)) hh7 S_y.1 hml (lenOf o_pd__28_29B rfl) (y_ oD14_47) (fun T8 L8 v8 X8 hQ8 => ?_)
  obtain ⟨rfl, N8q, hh8⟩ := hQ8
  have N8 := Fr.app N7 N8q
  show o_G p e below _ T8 (mkF m 50 #[vR x, vR y, vI 0, vR t, vR u, vI 0, vI 1, vI 0] [(.int 0), (.int 0)])
  refine o_iCF X8 hx (y_ oD14_50) ?_
  refine o_iload X8 hx (y_ oD14_53) rfl ?_
  refine o_iconst X8 hx (y_ oD14_55) (x := 1) rfl ?_
  refine o_iCT (t := 63) X8 hx (y_ oD14_56) ?_
  refine o_aloadN X8 hx (y_ oD14_63) rfl rfl ?_
  refine o_iloadN X8 hx (y_ oD14_64) rfl ?_
  refine o_aload X8 hx (y_ oD14_65) rfl rfl ?_
  refine o_iconst X8 hx (y_ oD14_67) (x := 0) rfl ?_
  refine o_iload X8 hx (y_ oD14_68) rfl ?_
  refine o_sta (y := o_m14) (argsL := [(.ref t), (.int 0), (.ref u), (.int 0), (.int 1)]) (S := []) (W := 0) X8 hx hZ hown (k_ 125 rfl) (k_ 126 rfl) (k_ 127 rfl) (k_ 128 rfl) (backOf (W := 0) (rmmis3_1_0 l Z a0 hw [] t u kb3 kb4 (c0.toInt8.toInt32) (c1.toInt8.toInt32) (c2.toInt8.toInt32) (d0.toInt8.toInt32) h0 n0 O0 Bw3 Bw4) hZ (k_ 128 rfl) (k_ 127 rfl) (by decide) (by decide)) hh8 hml (lenOf o_pd__28_5bBI_5bBII_29I rfl) (y_ oD14_70) (fun T9 L9 v9 X9 hQ9 => ?_)
  obtain ⟨r9, rfl, N9q, hh9, hr9⟩ := hQ9
  have N9 := Fr.app N8 N9q
  show o_G p e below _ T9 (mkF m 73 #[vR x, vR y, vI 0, vR t, vR u, vI 0, vI 1, vI 0] [(.int r9)])
  refine o_iF (t := 80) X9 hx (y_ oD14_73) (fun hq => ?_) (fun hq => ?_)
  · have hc73 := o_h_ge.1 hq
    refine o_iconst X9 hx (y_ oD14_80) (x := 0) rfl ?_
    exact o_retN X9 hx (t := .boolean) hrt hlk (by simp) (y_ oD14_81) rfl (by decide) (by decide) (o_hQ hh9 ⟨by rw [if_neg (fun q => hc73 (hr9.mpr ((o_pref_b ([c0, c1, c2] : List Int32) ([d0] : List Int32) (fun c hc => S_x.2.2.2.2.1 c (List.mem_of_mem_drop (i := 0) hc)) S_y.2.2.2.2.1).symm ▸ q)))], N9, rfl⟩)
  have hc73 := o_h_ge.2 hq
  refine o_iconst X9 hx (y_ oD14_76) (x := 1) rfl ?_
  refine o_gO (t := 81) X9 hx (y_ oD14_77) ?_
  exact o_retN X9 hx (t := .boolean) hrt hlk (by simp) (y_ oD14_81) rfl (by decide) (by decide) (o_hQ hh9 ⟨by rw [if_pos ((o_pref_b ([c0, c1, c2] : List Int32) ([d0] : List Int32) (fun c hc => S_x.2.2.2.2.1 c (List.mem_of_mem_drop (i := 0) hc)) S_y.2.2.2.2.1) ▸ hr9.mp hc73)], N9, rfl⟩)
abbrev Qst3_1 (Z : State) (x : Addr) (y : Addr) (t : Addr) (u : Addr) (c0 : Int32) (c1 : Int32) (c2 : Int32) (d0 : Int32) (zC_ : Int32) (h0 : Heap) (n0 : Nat) (v : Option Value) (h : Heap) (L : List Loc) : Prop := v = some (.int (if o_pref ([c0, c1, c2] : List Int32) ([d0] : List Int32) = true then 1 else 0)) ∧ Fr n0 L ∧ h = h0
set_option maxRecDepth 65536 in
set_option maxHeartbeats 40000000 in
theorem rmst3_1 (l : Launch) (Z : State) (a0 : Array Value) (hw : ∀ d ∈ tables_1, d.before a0 Z = true) (ws : List Jvm.Cond) (x : Addr) (y : Addr) (t : Addr) (u : Addr) (c0 : Int32) (c1 : Int32) (c2 : Int32) (d0 : Int32) (zC_ : Int32) (h0 : Heap) (n0 : Nat) (O0 : Old Z n0 h0) (S_x : o_Str Z h0 x t ([c0, c1, c2] : List Int32)) (S_y : o_Str Z h0 y u ([d0] : List Int32)) (SC_ : o_SC Z zC_) (hC_ : ¬ zC_ = 0) :
    o_Met l Z o_m18 jdk_42_method_76_code 2 (some .boolean) ws o_R6 #[(.ref x), (.ref y)] h0 (Qst3_1 Z x y t u c0 c1 c2 d0 zC_ h0 n0) := by
  refine o_enter o_pn_3 (fun m => o_ef1 m x y) (fun p e s m below meth c s₁ hx hby hml hZ hown hnm hlk hrt X0 e0 => ?_)
  have N0 := Fr.nil n0
  have y_ := @hb _ _ hby
  have k_ := @o_k _ _ hw
  refine o_aloadN X0 hx (y_ oD16_0) rfl rfl ?_
  refine o_aloadN X0 hx (y_ oD16_1) rfl rfl ?_
  refine o_iconst X0 hx (y_ oD16_2) (x := 0) rfl ?_
  refine o_vir (y := o_m15) (b := x) (argsL := [(.ref y), (.int 0)]) (S := []) (W := 0) X0 hx hZ hown (k_ 117 rfl) (k_ 118 rfl) (k_ 120 rfl) (k_ 119 rfl) (backOf (W := 0) (rmsw3_1_0 l Z a0 hw [] x y t u c0 c1 c2 d0 zC_ h0 n0 O0 S_x S_y SC_ hC_) hZ (k_ 121 rfl) (k_ 10 rfl) (by decide) (by decide)) e0 S_x.1 hml (lenOf o_pd__28Ljava_2flang_2fString_3bI_29Z rfl) (y_ oD16_3) (fun T1 L1 v1 X1 hQ1 => ?_)
  obtain ⟨rfl, N1q, hh1⟩ := hQ1
  have N1 := Fr.app N0 N1q
  show o_G p e below _ T1 (mkF m 6 #[vR x, vR y] [(.int (if o_pref ([c0, c1, c2] : List Int32) ([d0] : List Int32) = true then 1 else 0 : Int32))])
  exact o_retN X1 hx (t := .boolean) hrt hlk (by simp) (y_ oD16_6) o_narB (by decide) (by decide) (o_hQ hh1 ⟨rfl, N1, rfl⟩)
abbrev Qmis3_2_1 (Z : State) (a : Addr) (b : Addr) (ka : ClassId) (kb : ClassId) (v0 : Int32) (v1 : Int32) (v2 : Int32) (s0 : Int32) (s1 : Int32) (h0 : Heap) (n0 : Nat) (v : Option Value) (h : Heap) (L : List Loc) : Prop := ∃ r : Int32, v = some (.int r) ∧ Fr n0 L ∧ h = h0 ∧ (r < 0 ↔ o_pref ([v1, v2] : List Int32) ([s0, s1] : List Int32) = true)
set_option maxRecDepth 65536 in
set_option maxHeartbeats 40000000 in
theorem rmmis3_2_1 (l : Launch) (Z : State) (a0 : Array Value) (hw : ∀ d ∈ tables_1, d.before a0 Z = true) (ws : List Jvm.Cond) (a : Addr) (b : Addr) (ka : ClassId) (kb : ClassId) (v0 : Int32) (v1 : Int32) (v2 : Int32) (s0 : Int32) (s1 : Int32) (h0 : Heap) (n0 : Nat) (O0 : Old Z n0 h0) (V_a : Arv Z h0 a ka .byte (3 : Int32) [.int v0, .int v1, .int v2] (.int 0)) (V_b : Arv Z h0 b kb .byte (2 : Int32) [.int s0, .int s1] (.int 0)) :
    o_Met l Z o_m14 jdk_48_method_14_code 8 (some .int) ws o_R1 #[(.ref a), (.int 1), (.ref b), (.int 0), (.int 2)] h0 (Qmis3_2_1 Z a b ka kb v0 v1 v2 s0 s1 h0 n0) := by
  refine o_enter o_pn_5 (fun m => o_ef26 m a b) (fun p e s m below meth c s₁ hx hby hml hZ hown hnm hlk hrt X0 e0 => ?_)
  have N0 := Fr.nil n0
  have y_ := @hb _ _ hby
  have k_ := @o_k _ _ hw
  refine o_iconst X0 hx (y_ oD13_0) (x := 0) rfl ?_
  refine o_istore X0 hx (y_ oD13_1) (A' := #[vR a, vI 1, vR b, vI 0, vI 2, vI 0, .unset, .unset]) rfl ?_
  refine o_iload X0 hx (y_ oD13_3) rfl ?_
  refine o_bipush X0 hx (y_ oD13_5) (x := 7) rfl ?_
  refine o_iCT (t := 70) X0 hx (y_ oD13_7) ?_
  refine o_iload X0 hx (y_ oD13_70) rfl ?_
  refine o_iload X0 hx (y_ oD13_72) rfl ?_
  refine o_iCF X0 hx (y_ oD13_74) ?_
  refine o_aloadN X0 hx (y_ oD13_77) rfl rfl ?_
  refine o_iloadN X0 hx (y_ oD13_78) rfl ?_
  refine o_iload X0 hx (y_ oD13_79) rfl ?_
  refine o_iadd X0 hx (y_ oD13_81) ?_
  refine o_valE (z := 1) (by decide) ?_
  refine o_bload (v := (.int v1)) X0 hx hZ e0 V_a (y_ oD13_82) ⟨by decide, by decide⟩ rfl ?_
  refine o_aloadN X0 hx (y_ oD13_83) rfl rfl ?_
  refine o_iloadN X0 hx (y_ oD13_84) rfl ?_
  refine o_iload X0 hx (y_ oD13_85) rfl ?_
  refine o_iadd X0 hx (y_ oD13_87) ?_
  refine o_valE (z := 0) (by decide) ?_
  refine o_bload (v := (.int s0)) X0 hx hZ e0 V_b (y_ oD13_88) ⟨by decide, by decide⟩ rfl ?_
  refine o_iC (t := 95) X0 hx (y_ oD13_89) (fun hq => ?_) (fun hq => ?_)
  · have hc89_1 := o_c_eq.1 hq
    refine o_iincK X0 hx (y_ oD13_95) (y := 1) rfl rfl (z := 1) (by decide) (A' := #[vR a, vI 1, vR b, vI 0, vI 2, vI 1, .unset, .unset]) rfl ?_
    refine o_gO (t := 70) X0 hx (y_ oD13_98) ?_
    refine o_iload X0 hx (y_ oD13_70) rfl ?_
    refine o_iload X0 hx (y_ oD13_72) rfl ?_
    refine o_iCF X0 hx (y_ oD13_74) ?_
    refine o_aloadN X0 hx (y_ oD13_77) rfl rfl ?_
    refine o_iloadN X0 hx (y_ oD13_78) rfl ?_
    refine o_iload X0 hx (y_ oD13_79) rfl ?_
    refine o_iadd X0 hx (y_ oD13_81) ?_
    refine o_valE (z := 2) (by decide) ?_
    refine o_bload (v := (.int v2)) X0 hx hZ e0 V_a (y_ oD13_82) ⟨by decide, by decide⟩ rfl ?_
    refine o_aloadN X0 hx (y_ oD13_83) rfl rfl ?_
    refine o_iloadN X0 hx (y_ oD13_84) rfl ?_
    refine o_iload X0 hx (y_ oD13_85) rfl ?_
    refine o_iadd X0 hx (y_ oD13_87) ?_
    refine o_valE (z := 1) (by decide) ?_
    refine o_bload (v := (.int s1)) X0 hx hZ e0 V_b (y_ oD13_88) ⟨by decide, by decide⟩ rfl ?_
    refine o_iC (t := 95) X0 hx (y_ oD13_89) (fun hq => ?_) (fun hq => ?_)
    · have hc89_2 := o_c_eq.1 hq
      refine o_iincK X0 hx (y_ oD13_95) (y := 1) rfl rfl (z := 2) (by decide) (A' := #[vR a, vI 1, vR b, vI 0, vI 2, vI 2, .unset, .unset]) rfl ?_
      refine o_gO (t := 70) X0 hx (y_ oD13_98) ?_
      refine o_iload X0 hx (y_ oD13_70) rfl ?_
      refine o_iload X0 hx (y_ oD13_72) rfl ?_
      refine o_iCT (t := 101) X0 hx (y_ oD13_74) ?_
      refine o_iconst X0 hx (y_ oD13_101) (x := (-1 : Int32)) rfl ?_
      exact o_retI X0 hx hrt hlk (y_ oD13_102) (by decide) (by decide) (o_hQ e0 ⟨_, rfl, N0, rfl, (o_lf37 v0 v1 v2 s0 s1 hc89_1 hc89_2)⟩)
    have hc89_2 := o_c_eq.2 hq
    refine o_iload X0 hx (y_ oD13_92) rfl ?_
    exact o_retI X0 hx hrt hlk (y_ oD13_94) (by decide) (by decide) (o_hQ e0 ⟨_, rfl, N0, rfl, (o_lf38 v0 v1 v2 s0 s1 hc89_1 hc89_2)⟩)
  have hc89_1 := o_c_eq.2 hq
  refine o_iload X0 hx (y_ oD13_92) rfl ?_
  exact o_retI X0 hx hrt hlk (y_ oD13_94) (by decide) (by decide) (o_hQ e0 ⟨_, rfl, N0, rfl, (o_lf39 v0 v1 v2 s0 s1 hc89_1)⟩)
abbrev Qsw3_2_1 (Z : State) (x : Addr) (y : Addr) (t : Addr) (u : Addr) (c0 : Int32) (c1 : Int32) (c2 : Int32) (d0 : Int32) (d1 : Int32) (zC_ : Int32) (h0 : Heap) (n0 : Nat) (v : Option Value) (h : Heap) (L : List Loc) : Prop := v = some (.int (if o_pref ([c1, c2] : List Int32) ([d0, d1] : List Int32) = true then 1 else 0)) ∧ Fr n0 L ∧ h = h0
set_option maxRecDepth 65536 in
set_option maxHeartbeats 40000000 in
theorem rmsw3_2_1 (l : Launch) (Z : State) (a0 : Array Value) (hw : ∀ d ∈ tables_1, d.before a0 Z = true) (ws : List Jvm.Cond) (x : Addr) (y : Addr) (t : Addr) (u : Addr) (c0 : Int32) (c1 : Int32) (c2 : Int32) (d0 : Int32) (d1 : Int32) (zC_ : Int32) (h0 : Heap) (n0 : Nat) (O0 : Old Z n0 h0) (S_x : o_Str Z h0 x t ([c0, c1, c2] : List Int32)) (S_y : o_Str Z h0 y u ([d0, d1] : List Int32)) (SC_ : o_SC Z zC_) (hC_ : ¬ zC_ = 0) :
    o_Met l Z o_m15 jdk_42_method_75_code 8 (some .boolean) ws o_R5 #[(.ref x), (.ref y), (.int 1)] h0 (Qsw3_2_1 Z x y t u c0 c1 c2 d0 d1 zC_ h0 n0) := by
  refine o_enter o_pn_3 (fun m => o_ef17 m x y) (fun p e s m below meth c s₁ hx hby hml hZ hown hnm hlk hrt X0 e0 => ?_)
  have N0 := Fr.nil n0
  have y_ := @hb _ _ hby
  have k_ := @o_k _ _ hw
  refine o_iloadN X0 hx (y_ oD14_0) rfl ?_
  refine o_iFF X0 hx (y_ oD14_1) ?_
  refine o_iloadN X0 hx (y_ oD14_4) rfl ?_
  refine o_aloadN X0 hx (y_ oD14_5) rfl rfl ?_
  refine o_vir (y := o_m16) (b := x) (argsL := []) (S := [(.int 1)]) (W := 1) X0 hx hZ hown (k_ 112 rfl) (k_ 113 rfl) (k_ 115 rfl) (k_ 114 rfl) (o_lenB (W := 1) hZ hw (k_ 9 rfl) O0 S_x SC_ hC_ (by decide) (by decide)) e0 S_x.1 hml (lenOf o_pd__28_29I rfl) (y_ oD14_6) (fun T1 L1 v1 X1 hQ1 => ?_)
  obtain ⟨rfl, rfl, hh1⟩ := hQ1
  have N1 := Fr.app N0 (Fr.nil n0)
  show o_G p e below _ T1 (mkF m 9 #[vR x, vR y, vI 1, .unset, .unset, .unset, .unset, .unset] [(.int 3), (.int 1)])
  refine o_aloadN X1 hx (y_ oD14_9) rfl rfl ?_
  refine o_vir (y := o_m16) (b := y) (argsL := []) (S := [(.int 3), (.int 1)]) (W := 2) X1 hx hZ hown (k_ 112 rfl) (k_ 113 rfl) (k_ 115 rfl) (k_ 114 rfl) (o_lenB (W := 2) hZ hw (k_ 9 rfl) O0 S_y SC_ hC_ (by decide) (by decide)) hh1 S_y.1 hml (lenOf o_pd__28_29I rfl) (y_ oD14_10) (fun T2 L2 v2 X2 hQ2 => ?_)
  obtain ⟨rfl, rfl, hh2⟩ := hQ2
  have N2 := Fr.app N1 (Fr.nil n0)
  show o_G p e below _ T2 (mkF m 13 #[vR x, vR y, vI 1, .unset, .unset, .unset, .unset, .unset] [(.int 2), (.int 3), (.int 1)])
  refine o_isub X2 hx (y_ oD14_13) ?_
  refine o_valE (z := 1) (by decide) ?_
  refine o_iCT (t := 19) X2 hx (y_ oD14_14) ?_
  obtain ⟨kb3, Bv3⟩ := S_x.2.2.2.1
  have Bw3 : Arv Z h0 t kb3 .byte (3 : Int32) [.int c0.toInt8.toInt32, .int c1.toInt8.toInt32, .int c2.toInt8.toInt32] (.int 0) := Bv3
  obtain ⟨kb4, Bv4⟩ := S_y.2.2.2.1
  have Bw4 : Arv Z h0 u kb4 .byte (2 : Int32) [.int d0.toInt8.toInt32, .int d1.toInt8.toInt32] (.int 0) := Bv4
  refine o_aloadN X2 hx (y_ oD14_19) rfl rfl ?_
  refine o_getF X2 hx hZ hown (host := "") (Or.inl (k_ 35 rfl)) Via.refl hh2 S_x.2.2.1 (y_ oD14_20) (fun T5 X5 e5 => ?_)
  refine o_astoreN X5 hx (y_ oD14_23) rfl (A' := #[vR x, vR y, vI 1, vR t, .unset, .unset, .unset, .unset]) rfl ?_
  refine o_aloadN X5 hx (y_ oD14_24) rfl rfl ?_
  refine o_getF X5 hx hZ hown (host := "") (Or.inl (k_ 35 rfl)) Via.refl e5 S_y.2.2.1 (y_ oD14_25) (fun T6 X6 e6 => ?_)
  refine o_astore X6 hx (y_ oD14_28) rfl (A' := #[vR x, vR y, vI 1, vR t, vR u, .unset, .unset, .unset]) rfl ?_
  refine o_iconst X6 hx (y_ oD14_30) (x := 0) rfl ?_
  refine o_istore X6 hx (y_ oD14_31) (A' := #[vR x, vR y, vI 1, vR t, vR u, vI 0, .unset, .unset]) rfl ?_
  refine o_aload X6 hx (y_ oD14_33) rfl rfl ?_
  refine o_alen (n := 2) X6 hx hZ e6 Bw4 (y_ oD14_35) ?_
  refine o_istore X6 hx (y_ oD14_36) (A' := #[vR x, vR y, vI 1, vR t, vR u, vI 0, vI 2, .unset]) rfl ?_
  refine o_aloadN X6 hx (y_ oD14_38) rfl rfl ?_
  refine o_vir (y := o_m8) (b := x) (argsL := []) (S := []) (W := 0) X6 hx hZ hown (k_ 73 rfl) (k_ 74 rfl) (k_ 76 rfl) (k_ 75 rfl) (backOf (W := 0) (rmcod l Z a0 hw [] x zC_ h0 n0 O0 S_x.2.1 SC_ hC_) hZ (k_ 77 rfl) (k_ 10 rfl) (by decide) (by decide)) e6 S_x.1 hml (lenOf o_pd__28_29B rfl) (y_ oD14_39) (fun T7 L7 v7 X7 hQ7 => ?_)
  obtain ⟨rfl, N7q, hh7⟩ := hQ7
  have N7 := Fr.app N2 N7q
  show o_G p e below _ T7 (mkF m 42 #[vR x, vR y, vI 1, vR t, vR u, vI 0, vI 2, .unset] [(.int 0)])
  refine o_istore X7 hx (y_ oD14_42) (A' := #[vR x, vR y, vI 1, vR t, vR u, vI 0, vI 2, vI 0]) rfl ?_
  refine o_iload X7 hx (y_ oD14_44) rfl ?_
  refine o_aloadN X7 hx (y_ oD14_46) rfl rfl ?_
  refine o_vir (y := o_m8) (b := y) (argsL := []) (S := [(.int 0)]) (W := 1) X7 hx hZ hown (k_ 73 rfl) (k_ 74 rfl) (k_ 76 rfl) (k_ 75 rfl) (backOf (W := 1) (rmcod l Z a0 hw [] y zC_ h0 n0 O0 S_y.2.1 SC_ hC_) hZ (k_ 77 rfl) (k_ 10 rfl) (by decide) (by decide)) hh7 S_y.1 hml (lenOf o_pd__28_29B rfl) (y_ oD14_47) (fun T8 L8 v8 X8 hQ8 => ?_)
  obtain ⟨rfl, N8q, hh8⟩ := hQ8
  have N8 := Fr.app N7 N8q
  show o_G p e below _ T8 (mkF m 50 #[vR x, vR y, vI 1, vR t, vR u, vI 0, vI 2, vI 0] [(.int 0), (.int 0)])
  refine o_iCF X8 hx (y_ oD14_50) ?_
  refine o_iload X8 hx (y_ oD14_53) rfl ?_
  refine o_iconst X8 hx (y_ oD14_55) (x := 1) rfl ?_
  refine o_iCT (t := 63) X8 hx (y_ oD14_56) ?_
  refine o_aloadN X8 hx (y_ oD14_63) rfl rfl ?_
  refine o_iloadN X8 hx (y_ oD14_64) rfl ?_
  refine o_aload X8 hx (y_ oD14_65) rfl rfl ?_
  refine o_iconst X8 hx (y_ oD14_67) (x := 0) rfl ?_
  refine o_iload X8 hx (y_ oD14_68) rfl ?_
  refine o_sta (y := o_m14) (argsL := [(.ref t), (.int 1), (.ref u), (.int 0), (.int 2)]) (S := []) (W := 0) X8 hx hZ hown (k_ 125 rfl) (k_ 126 rfl) (k_ 127 rfl) (k_ 128 rfl) (backOf (W := 0) (rmmis3_2_1 l Z a0 hw [] t u kb3 kb4 (c0.toInt8.toInt32) (c1.toInt8.toInt32) (c2.toInt8.toInt32) (d0.toInt8.toInt32) (d1.toInt8.toInt32) h0 n0 O0 Bw3 Bw4) hZ (k_ 128 rfl) (k_ 127 rfl) (by decide) (by decide)) hh8 hml (lenOf o_pd__28_5bBI_5bBII_29I rfl) (y_ oD14_70) (fun T9 L9 v9 X9 hQ9 => ?_)
  obtain ⟨r9, rfl, N9q, hh9, hr9⟩ := hQ9
  have N9 := Fr.app N8 N9q
  show o_G p e below _ T9 (mkF m 73 #[vR x, vR y, vI 1, vR t, vR u, vI 0, vI 2, vI 0] [(.int r9)])
  refine o_iF (t := 80) X9 hx (y_ oD14_73) (fun hq => ?_) (fun hq => ?_)
  · have hc73 := o_h_ge.1 hq
    refine o_iconst X9 hx (y_ oD14_80) (x := 0) rfl ?_
    exact o_retN X9 hx (t := .boolean) hrt hlk (by simp) (y_ oD14_81) rfl (by decide) (by decide) (o_hQ hh9 ⟨by rw [if_neg (fun q => hc73 (hr9.mpr ((o_pref_b ([c1, c2] : List Int32) ([d0, d1] : List Int32) (fun c hc => S_x.2.2.2.2.1 c (List.mem_of_mem_drop (i := 1) hc)) S_y.2.2.2.2.1).symm ▸ q)))], N9, rfl⟩)
  have hc73 := o_h_ge.2 hq
  refine o_iconst X9 hx (y_ oD14_76) (x := 1) rfl ?_
  refine o_gO (t := 81) X9 hx (y_ oD14_77) ?_
  exact o_retN X9 hx (t := .boolean) hrt hlk (by simp) (y_ oD14_81) rfl (by decide) (by decide) (o_hQ hh9 ⟨by rw [if_pos ((o_pref_b ([c1, c2] : List Int32) ([d0, d1] : List Int32) (fun c hc => S_x.2.2.2.2.1 c (List.mem_of_mem_drop (i := 1) hc)) S_y.2.2.2.2.1) ▸ hr9.mp hc73)], N9, rfl⟩)
abbrev Qen3_2 (Z : State) (x : Addr) (y : Addr) (t : Addr) (u : Addr) (c0 : Int32) (c1 : Int32) (c2 : Int32) (d0 : Int32) (d1 : Int32) (zC_ : Int32) (h0 : Heap) (n0 : Nat) (v : Option Value) (h : Heap) (L : List Loc) : Prop := v = some (.int (if o_pref ([c1, c2] : List Int32) ([d0, d1] : List Int32) = true then 1 else 0)) ∧ Fr n0 L ∧ h = h0
set_option maxRecDepth 65536 in
set_option maxHeartbeats 40000000 in
theorem rmen3_2 (l : Launch) (Z : State) (a0 : Array Value) (hw : ∀ d ∈ tables_1, d.before a0 Z = true) (ws : List Jvm.Cond) (x : Addr) (y : Addr) (t : Addr) (u : Addr) (c0 : Int32) (c1 : Int32) (c2 : Int32) (d0 : Int32) (d1 : Int32) (zC_ : Int32) (h0 : Heap) (n0 : Nat) (O0 : Old Z n0 h0) (S_x : o_Str Z h0 x t ([c0, c1, c2] : List Int32)) (S_y : o_Str Z h0 y u ([d0, d1] : List Int32)) (SC_ : o_SC Z zC_) (hC_ : ¬ zC_ = 0) :
    o_Met l Z o_m17 jdk_42_method_77_code 2 (some .boolean) ws o_R6 #[(.ref x), (.ref y)] h0 (Qen3_2 Z x y t u c0 c1 c2 d0 d1 zC_ h0 n0) := by
  refine o_enter o_pn_3 (fun m => o_ef1 m x y) (fun p e s m below meth c s₁ hx hby hml hZ hown hnm hlk hrt X0 e0 => ?_)
  have N0 := Fr.nil n0
  have y_ := @hb _ _ hby
  have k_ := @o_k _ _ hw
  refine o_aloadN X0 hx (y_ oD15_0) rfl rfl ?_
  refine o_aloadN X0 hx (y_ oD15_1) rfl rfl ?_
  refine o_aloadN X0 hx (y_ oD15_2) rfl rfl ?_
  refine o_vir (y := o_m16) (b := x) (argsL := []) (S := [(.ref y), (.ref x)]) (W := 2) X0 hx hZ hown (k_ 112 rfl) (k_ 113 rfl) (k_ 115 rfl) (k_ 114 rfl) (o_lenB (W := 2) hZ hw (k_ 9 rfl) O0 S_x SC_ hC_ (by decide) (by decide)) e0 S_x.1 hml (lenOf o_pd__28_29I rfl) (y_ oD15_3) (fun T1 L1 v1 X1 hQ1 => ?_)
  obtain ⟨rfl, rfl, hh1⟩ := hQ1
  have N1 := Fr.app N0 (Fr.nil n0)
  show o_G p e below _ T1 (mkF m 6 #[vR x, vR y] [(.int 3), (.ref y), (.ref x)])
  refine o_aloadN X1 hx (y_ oD15_6) rfl rfl ?_
  refine o_vir (y := o_m16) (b := y) (argsL := []) (S := [(.int 3), (.ref y), (.ref x)]) (W := 3) X1 hx hZ hown (k_ 112 rfl) (k_ 113 rfl) (k_ 115 rfl) (k_ 114 rfl) (o_lenB (W := 3) hZ hw (k_ 9 rfl) O0 S_y SC_ hC_ (by decide) (by decide)) hh1 S_y.1 hml (lenOf o_pd__28_29I rfl) (y_ oD15_7) (fun T2 L2 v2 X2 hQ2 => ?_)
  obtain ⟨rfl, rfl, hh2⟩ := hQ2
  have N2 := Fr.app N1 (Fr.nil n0)
  show o_G p e below _ T2 (mkF m 10 #[vR x, vR y] [(.int 2), (.int 3), (.ref y), (.ref x)])
  refine o_isub X2 hx (y_ oD15_10) ?_
  refine o_valE (z := 1) (by decide) ?_
  refine o_vir (y := o_m15) (b := x) (argsL := [(.ref y), (.int 1)]) (S := []) (W := 0) X2 hx hZ hown (k_ 117 rfl) (k_ 118 rfl) (k_ 120 rfl) (k_ 119 rfl) (backOf (W := 0) (rmsw3_2_1 l Z a0 hw [] x y t u c0 c1 c2 d0 d1 zC_ h0 n0 O0 S_x S_y SC_ hC_) hZ (k_ 121 rfl) (k_ 10 rfl) (by decide) (by decide)) hh2 S_x.1 hml (lenOf o_pd__28Ljava_2flang_2fString_3bI_29Z rfl) (y_ oD15_11) (fun T3 L3 v3 X3 hQ3 => ?_)
  obtain ⟨rfl, N3q, hh3⟩ := hQ3
  have N3 := Fr.app N2 N3q
  show o_G p e below _ T3 (mkF m 14 #[vR x, vR y] [(.int (if o_pref ([c1, c2] : List Int32) ([d0, d1] : List Int32) = true then 1 else 0 : Int32))])
  exact o_retN X3 hx (t := .boolean) hrt hlk (by simp) (y_ oD15_14) o_narB (by decide) (by decide) (o_hQ hh3 ⟨rfl, N3, rfl⟩)
abbrev Qmis3_2_0 (Z : State) (a : Addr) (b : Addr) (ka : ClassId) (kb : ClassId) (v0 : Int32) (v1 : Int32) (v2 : Int32) (s0 : Int32) (s1 : Int32) (h0 : Heap) (n0 : Nat) (v : Option Value) (h : Heap) (L : List Loc) : Prop := ∃ r : Int32, v = some (.int r) ∧ Fr n0 L ∧ h = h0 ∧ (r < 0 ↔ o_pref ([v0, v1, v2] : List Int32) ([s0, s1] : List Int32) = true)
set_option maxRecDepth 65536 in
set_option maxHeartbeats 40000000 in
theorem rmmis3_2_0 (l : Launch) (Z : State) (a0 : Array Value) (hw : ∀ d ∈ tables_1, d.before a0 Z = true) (ws : List Jvm.Cond) (a : Addr) (b : Addr) (ka : ClassId) (kb : ClassId) (v0 : Int32) (v1 : Int32) (v2 : Int32) (s0 : Int32) (s1 : Int32) (h0 : Heap) (n0 : Nat) (O0 : Old Z n0 h0) (V_a : Arv Z h0 a ka .byte (3 : Int32) [.int v0, .int v1, .int v2] (.int 0)) (V_b : Arv Z h0 b kb .byte (2 : Int32) [.int s0, .int s1] (.int 0)) :
    o_Met l Z o_m14 jdk_48_method_14_code 8 (some .int) ws o_R1 #[(.ref a), (.int 0), (.ref b), (.int 0), (.int 2)] h0 (Qmis3_2_0 Z a b ka kb v0 v1 v2 s0 s1 h0 n0) := by
  refine o_enter o_pn_5 (fun m => o_ef22 m a b) (fun p e s m below meth c s₁ hx hby hml hZ hown hnm hlk hrt X0 e0 => ?_)
  have N0 := Fr.nil n0
  have y_ := @hb _ _ hby
  have k_ := @o_k _ _ hw
  refine o_iconst X0 hx (y_ oD13_0) (x := 0) rfl ?_
  refine o_istore X0 hx (y_ oD13_1) (A' := #[vR a, vI 0, vR b, vI 0, vI 2, vI 0, .unset, .unset]) rfl ?_
  refine o_iload X0 hx (y_ oD13_3) rfl ?_
  refine o_bipush X0 hx (y_ oD13_5) (x := 7) rfl ?_
  refine o_iCT (t := 70) X0 hx (y_ oD13_7) ?_
  refine o_iload X0 hx (y_ oD13_70) rfl ?_
  refine o_iload X0 hx (y_ oD13_72) rfl ?_
  refine o_iCF X0 hx (y_ oD13_74) ?_
  refine o_aloadN X0 hx (y_ oD13_77) rfl rfl ?_
  refine o_iloadN X0 hx (y_ oD13_78) rfl ?_
  refine o_iload X0 hx (y_ oD13_79) rfl ?_
  refine o_iadd X0 hx (y_ oD13_81) ?_
  refine o_valE (z := 0) (by decide) ?_
  refine o_bload (v := (.int v0)) X0 hx hZ e0 V_a (y_ oD13_82) ⟨by decide, by decide⟩ rfl ?_
  refine o_aloadN X0 hx (y_ oD13_83) rfl rfl ?_
  refine o_iloadN X0 hx (y_ oD13_84) rfl ?_
  refine o_iload X0 hx (y_ oD13_85) rfl ?_
  refine o_iadd X0 hx (y_ oD13_87) ?_
  refine o_valE (z := 0) (by decide) ?_
  refine o_bload (v := (.int s0)) X0 hx hZ e0 V_b (y_ oD13_88) ⟨by decide, by decide⟩ rfl ?_
  refine o_iC (t := 95) X0 hx (y_ oD13_89) (fun hq => ?_) (fun hq => ?_)
  · have hc89_1 := o_c_eq.1 hq
    refine o_iincK X0 hx (y_ oD13_95) (y := 1) rfl rfl (z := 1) (by decide) (A' := #[vR a, vI 0, vR b, vI 0, vI 2, vI 1, .unset, .unset]) rfl ?_
    refine o_gO (t := 70) X0 hx (y_ oD13_98) ?_
    refine o_iload X0 hx (y_ oD13_70) rfl ?_
    refine o_iload X0 hx (y_ oD13_72) rfl ?_
    refine o_iCF X0 hx (y_ oD13_74) ?_
    refine o_aloadN X0 hx (y_ oD13_77) rfl rfl ?_
    refine o_iloadN X0 hx (y_ oD13_78) rfl ?_
    refine o_iload X0 hx (y_ oD13_79) rfl ?_
    refine o_iadd X0 hx (y_ oD13_81) ?_
    refine o_valE (z := 1) (by decide) ?_
    refine o_bload (v := (.int v1)) X0 hx hZ e0 V_a (y_ oD13_82) ⟨by decide, by decide⟩ rfl ?_
    refine o_aloadN X0 hx (y_ oD13_83) rfl rfl ?_
    refine o_iloadN X0 hx (y_ oD13_84) rfl ?_
    refine o_iload X0 hx (y_ oD13_85) rfl ?_
    refine o_iadd X0 hx (y_ oD13_87) ?_
    refine o_valE (z := 1) (by decide) ?_
    refine o_bload (v := (.int s1)) X0 hx hZ e0 V_b (y_ oD13_88) ⟨by decide, by decide⟩ rfl ?_
    refine o_iC (t := 95) X0 hx (y_ oD13_89) (fun hq => ?_) (fun hq => ?_)
    · have hc89_2 := o_c_eq.1 hq
      refine o_iincK X0 hx (y_ oD13_95) (y := 1) rfl rfl (z := 2) (by decide) (A' := #[vR a, vI 0, vR b, vI 0, vI 2, vI 2, .unset, .unset]) rfl ?_
      refine o_gO (t := 70) X0 hx (y_ oD13_98) ?_
      refine o_iload X0 hx (y_ oD13_70) rfl ?_
      refine o_iload X0 hx (y_ oD13_72) rfl ?_
      refine o_iCT (t := 101) X0 hx (y_ oD13_74) ?_
      refine o_iconst X0 hx (y_ oD13_101) (x := (-1 : Int32)) rfl ?_
      exact o_retI X0 hx hrt hlk (y_ oD13_102) (by decide) (by decide) (o_hQ e0 ⟨_, rfl, N0, rfl, (o_lf40 v0 v1 v2 s0 s1 hc89_1 hc89_2)⟩)
    have hc89_2 := o_c_eq.2 hq
    refine o_iload X0 hx (y_ oD13_92) rfl ?_
    exact o_retI X0 hx hrt hlk (y_ oD13_94) (by decide) (by decide) (o_hQ e0 ⟨_, rfl, N0, rfl, (o_lf41 v0 v1 v2 s0 s1 hc89_1 hc89_2)⟩)
  have hc89_1 := o_c_eq.2 hq
  refine o_iload X0 hx (y_ oD13_92) rfl ?_
  exact o_retI X0 hx hrt hlk (y_ oD13_94) (by decide) (by decide) (o_hQ e0 ⟨_, rfl, N0, rfl, (o_lf42 v0 v1 v2 s0 s1 hc89_1)⟩)
abbrev Qsw3_2_0 (Z : State) (x : Addr) (y : Addr) (t : Addr) (u : Addr) (c0 : Int32) (c1 : Int32) (c2 : Int32) (d0 : Int32) (d1 : Int32) (zC_ : Int32) (h0 : Heap) (n0 : Nat) (v : Option Value) (h : Heap) (L : List Loc) : Prop := v = some (.int (if o_pref ([c0, c1, c2] : List Int32) ([d0, d1] : List Int32) = true then 1 else 0)) ∧ Fr n0 L ∧ h = h0
set_option maxRecDepth 65536 in
set_option maxHeartbeats 40000000 in
theorem rmsw3_2_0 (l : Launch) (Z : State) (a0 : Array Value) (hw : ∀ d ∈ tables_1, d.before a0 Z = true) (ws : List Jvm.Cond) (x : Addr) (y : Addr) (t : Addr) (u : Addr) (c0 : Int32) (c1 : Int32) (c2 : Int32) (d0 : Int32) (d1 : Int32) (zC_ : Int32) (h0 : Heap) (n0 : Nat) (O0 : Old Z n0 h0) (S_x : o_Str Z h0 x t ([c0, c1, c2] : List Int32)) (S_y : o_Str Z h0 y u ([d0, d1] : List Int32)) (SC_ : o_SC Z zC_) (hC_ : ¬ zC_ = 0) :
    o_Met l Z o_m15 jdk_42_method_75_code 8 (some .boolean) ws o_R5 #[(.ref x), (.ref y), (.int 0)] h0 (Qsw3_2_0 Z x y t u c0 c1 c2 d0 d1 zC_ h0 n0) := by
  refine o_enter o_pn_3 (fun m => o_ef13 m x y) (fun p e s m below meth c s₁ hx hby hml hZ hown hnm hlk hrt X0 e0 => ?_)
  have N0 := Fr.nil n0
  have y_ := @hb _ _ hby
  have k_ := @o_k _ _ hw
  refine o_iloadN X0 hx (y_ oD14_0) rfl ?_
  refine o_iFF X0 hx (y_ oD14_1) ?_
  refine o_iloadN X0 hx (y_ oD14_4) rfl ?_
  refine o_aloadN X0 hx (y_ oD14_5) rfl rfl ?_
  refine o_vir (y := o_m16) (b := x) (argsL := []) (S := [(.int 0)]) (W := 1) X0 hx hZ hown (k_ 112 rfl) (k_ 113 rfl) (k_ 115 rfl) (k_ 114 rfl) (o_lenB (W := 1) hZ hw (k_ 9 rfl) O0 S_x SC_ hC_ (by decide) (by decide)) e0 S_x.1 hml (lenOf o_pd__28_29I rfl) (y_ oD14_6) (fun T1 L1 v1 X1 hQ1 => ?_)
  obtain ⟨rfl, rfl, hh1⟩ := hQ1
  have N1 := Fr.app N0 (Fr.nil n0)
  show o_G p e below _ T1 (mkF m 9 #[vR x, vR y, vI 0, .unset, .unset, .unset, .unset, .unset] [(.int 3), (.int 0)])
  refine o_aloadN X1 hx (y_ oD14_9) rfl rfl ?_
  refine o_vir (y := o_m16) (b := y) (argsL := []) (S := [(.int 3), (.int 0)]) (W := 2) X1 hx hZ hown (k_ 112 rfl) (k_ 113 rfl) (k_ 115 rfl) (k_ 114 rfl) (o_lenB (W := 2) hZ hw (k_ 9 rfl) O0 S_y SC_ hC_ (by decide) (by decide)) hh1 S_y.1 hml (lenOf o_pd__28_29I rfl) (y_ oD14_10) (fun T2 L2 v2 X2 hQ2 => ?_)
  obtain ⟨rfl, rfl, hh2⟩ := hQ2
  have N2 := Fr.app N1 (Fr.nil n0)
  show o_G p e below _ T2 (mkF m 13 #[vR x, vR y, vI 0, .unset, .unset, .unset, .unset, .unset] [(.int 2), (.int 3), (.int 0)])
  refine o_isub X2 hx (y_ oD14_13) ?_
  refine o_valE (z := 1) (by decide) ?_
  refine o_iCT (t := 19) X2 hx (y_ oD14_14) ?_
  obtain ⟨kb3, Bv3⟩ := S_x.2.2.2.1
  have Bw3 : Arv Z h0 t kb3 .byte (3 : Int32) [.int c0.toInt8.toInt32, .int c1.toInt8.toInt32, .int c2.toInt8.toInt32] (.int 0) := Bv3
  obtain ⟨kb4, Bv4⟩ := S_y.2.2.2.1
  have Bw4 : Arv Z h0 u kb4 .byte (2 : Int32) [.int d0.toInt8.toInt32, .int d1.toInt8.toInt32] (.int 0) := Bv4
  refine o_aloadN X2 hx (y_ oD14_19) rfl rfl ?_
  refine o_getF X2 hx hZ hown (host := "") (Or.inl (k_ 35 rfl)) Via.refl hh2 S_x.2.2.1 (y_ oD14_20) (fun T5 X5 e5 => ?_)
  refine o_astoreN X5 hx (y_ oD14_23) rfl (A' := #[vR x, vR y, vI 0, vR t, .unset, .unset, .unset, .unset]) rfl ?_
  refine o_aloadN X5 hx (y_ oD14_24) rfl rfl ?_
  refine o_getF X5 hx hZ hown (host := "") (Or.inl (k_ 35 rfl)) Via.refl e5 S_y.2.2.1 (y_ oD14_25) (fun T6 X6 e6 => ?_)
  refine o_astore X6 hx (y_ oD14_28) rfl (A' := #[vR x, vR y, vI 0, vR t, vR u, .unset, .unset, .unset]) rfl ?_
  refine o_iconst X6 hx (y_ oD14_30) (x := 0) rfl ?_
  refine o_istore X6 hx (y_ oD14_31) (A' := #[vR x, vR y, vI 0, vR t, vR u, vI 0, .unset, .unset]) rfl ?_
  refine o_aload X6 hx (y_ oD14_33) rfl rfl ?_
  refine o_alen (n := 2) X6 hx hZ e6 Bw4 (y_ oD14_35) ?_
  refine o_istore X6 hx (y_ oD14_36) (A' := #[vR x, vR y, vI 0, vR t, vR u, vI 0, vI 2, .unset]) rfl ?_
  refine o_aloadN X6 hx (y_ oD14_38) rfl rfl ?_
  refine o_vir (y := o_m8) (b := x) (argsL := []) (S := []) (W := 0) X6 hx hZ hown (k_ 73 rfl) (k_ 74 rfl) (k_ 76 rfl) (k_ 75 rfl) (backOf (W := 0) (rmcod l Z a0 hw [] x zC_ h0 n0 O0 S_x.2.1 SC_ hC_) hZ (k_ 77 rfl) (k_ 10 rfl) (by decide) (by decide)) e6 S_x.1 hml (lenOf o_pd__28_29B rfl) (y_ oD14_39) (fun T7 L7 v7 X7 hQ7 => ?_)
  obtain ⟨rfl, N7q, hh7⟩ := hQ7
  have N7 := Fr.app N2 N7q
  show o_G p e below _ T7 (mkF m 42 #[vR x, vR y, vI 0, vR t, vR u, vI 0, vI 2, .unset] [(.int 0)])
  refine o_istore X7 hx (y_ oD14_42) (A' := #[vR x, vR y, vI 0, vR t, vR u, vI 0, vI 2, vI 0]) rfl ?_
  refine o_iload X7 hx (y_ oD14_44) rfl ?_
  refine o_aloadN X7 hx (y_ oD14_46) rfl rfl ?_
  refine o_vir (y := o_m8) (b := y) (argsL := []) (S := [(.int 0)]) (W := 1) X7 hx hZ hown (k_ 73 rfl) (k_ 74 rfl) (k_ 76 rfl) (k_ 75 rfl) (backOf (W := 1) (rmcod l Z a0 hw [] y zC_ h0 n0 O0 S_y.2.1 SC_ hC_) hZ (k_ 77 rfl) (k_ 10 rfl) (by decide) (by decide)) hh7 S_y.1 hml (lenOf o_pd__28_29B rfl) (y_ oD14_47) (fun T8 L8 v8 X8 hQ8 => ?_)
  obtain ⟨rfl, N8q, hh8⟩ := hQ8
  have N8 := Fr.app N7 N8q
  show o_G p e below _ T8 (mkF m 50 #[vR x, vR y, vI 0, vR t, vR u, vI 0, vI 2, vI 0] [(.int 0), (.int 0)])
  refine o_iCF X8 hx (y_ oD14_50) ?_
  refine o_iload X8 hx (y_ oD14_53) rfl ?_
  refine o_iconst X8 hx (y_ oD14_55) (x := 1) rfl ?_
  refine o_iCT (t := 63) X8 hx (y_ oD14_56) ?_
  refine o_aloadN X8 hx (y_ oD14_63) rfl rfl ?_
  refine o_iloadN X8 hx (y_ oD14_64) rfl ?_
  refine o_aload X8 hx (y_ oD14_65) rfl rfl ?_
  refine o_iconst X8 hx (y_ oD14_67) (x := 0) rfl ?_
  refine o_iload X8 hx (y_ oD14_68) rfl ?_
  refine o_sta (y := o_m14) (argsL := [(.ref t), (.int 0), (.ref u), (.int 0), (.int 2)]) (S := []) (W := 0) X8 hx hZ hown (k_ 125 rfl) (k_ 126 rfl) (k_ 127 rfl) (k_ 128 rfl) (backOf (W := 0) (rmmis3_2_0 l Z a0 hw [] t u kb3 kb4 (c0.toInt8.toInt32) (c1.toInt8.toInt32) (c2.toInt8.toInt32) (d0.toInt8.toInt32) (d1.toInt8.toInt32) h0 n0 O0 Bw3 Bw4) hZ (k_ 128 rfl) (k_ 127 rfl) (by decide) (by decide)) hh8 hml (lenOf o_pd__28_5bBI_5bBII_29I rfl) (y_ oD14_70) (fun T9 L9 v9 X9 hQ9 => ?_)
  obtain ⟨r9, rfl, N9q, hh9, hr9⟩ := hQ9
  have N9 := Fr.app N8 N9q
  show o_G p e below _ T9 (mkF m 73 #[vR x, vR y, vI 0, vR t, vR u, vI 0, vI 2, vI 0] [(.int r9)])
  refine o_iF (t := 80) X9 hx (y_ oD14_73) (fun hq => ?_) (fun hq => ?_)
  · have hc73 := o_h_ge.1 hq
    refine o_iconst X9 hx (y_ oD14_80) (x := 0) rfl ?_
    exact o_retN X9 hx (t := .boolean) hrt hlk (by simp) (y_ oD14_81) rfl (by decide) (by decide) (o_hQ hh9 ⟨by rw [if_neg (fun q => hc73 (hr9.mpr ((o_pref_b ([c0, c1, c2] : List Int32) ([d0, d1] : List Int32) (fun c hc => S_x.2.2.2.2.1 c (List.mem_of_mem_drop (i := 0) hc)) S_y.2.2.2.2.1).symm ▸ q)))], N9, rfl⟩)
  have hc73 := o_h_ge.2 hq
  refine o_iconst X9 hx (y_ oD14_76) (x := 1) rfl ?_
  refine o_gO (t := 81) X9 hx (y_ oD14_77) ?_
  exact o_retN X9 hx (t := .boolean) hrt hlk (by simp) (y_ oD14_81) rfl (by decide) (by decide) (o_hQ hh9 ⟨by rw [if_pos ((o_pref_b ([c0, c1, c2] : List Int32) ([d0, d1] : List Int32) (fun c hc => S_x.2.2.2.2.1 c (List.mem_of_mem_drop (i := 0) hc)) S_y.2.2.2.2.1) ▸ hr9.mp hc73)], N9, rfl⟩)
abbrev Qst3_2 (Z : State) (x : Addr) (y : Addr) (t : Addr) (u : Addr) (c0 : Int32) (c1 : Int32) (c2 : Int32) (d0 : Int32) (d1 : Int32) (zC_ : Int32) (h0 : Heap) (n0 : Nat) (v : Option Value) (h : Heap) (L : List Loc) : Prop := v = some (.int (if o_pref ([c0, c1, c2] : List Int32) ([d0, d1] : List Int32) = true then 1 else 0)) ∧ Fr n0 L ∧ h = h0
set_option maxRecDepth 65536 in
set_option maxHeartbeats 40000000 in
theorem rmst3_2 (l : Launch) (Z : State) (a0 : Array Value) (hw : ∀ d ∈ tables_1, d.before a0 Z = true) (ws : List Jvm.Cond) (x : Addr) (y : Addr) (t : Addr) (u : Addr) (c0 : Int32) (c1 : Int32) (c2 : Int32) (d0 : Int32) (d1 : Int32) (zC_ : Int32) (h0 : Heap) (n0 : Nat) (O0 : Old Z n0 h0) (S_x : o_Str Z h0 x t ([c0, c1, c2] : List Int32)) (S_y : o_Str Z h0 y u ([d0, d1] : List Int32)) (SC_ : o_SC Z zC_) (hC_ : ¬ zC_ = 0) :
    o_Met l Z o_m18 jdk_42_method_76_code 2 (some .boolean) ws o_R6 #[(.ref x), (.ref y)] h0 (Qst3_2 Z x y t u c0 c1 c2 d0 d1 zC_ h0 n0) := by
  refine o_enter o_pn_3 (fun m => o_ef1 m x y) (fun p e s m below meth c s₁ hx hby hml hZ hown hnm hlk hrt X0 e0 => ?_)
  have N0 := Fr.nil n0
  have y_ := @hb _ _ hby
  have k_ := @o_k _ _ hw
  refine o_aloadN X0 hx (y_ oD16_0) rfl rfl ?_
  refine o_aloadN X0 hx (y_ oD16_1) rfl rfl ?_
  refine o_iconst X0 hx (y_ oD16_2) (x := 0) rfl ?_
  refine o_vir (y := o_m15) (b := x) (argsL := [(.ref y), (.int 0)]) (S := []) (W := 0) X0 hx hZ hown (k_ 117 rfl) (k_ 118 rfl) (k_ 120 rfl) (k_ 119 rfl) (backOf (W := 0) (rmsw3_2_0 l Z a0 hw [] x y t u c0 c1 c2 d0 d1 zC_ h0 n0 O0 S_x S_y SC_ hC_) hZ (k_ 121 rfl) (k_ 10 rfl) (by decide) (by decide)) e0 S_x.1 hml (lenOf o_pd__28Ljava_2flang_2fString_3bI_29Z rfl) (y_ oD16_3) (fun T1 L1 v1 X1 hQ1 => ?_)
  obtain ⟨rfl, N1q, hh1⟩ := hQ1
  have N1 := Fr.app N0 N1q
  show o_G p e below _ T1 (mkF m 6 #[vR x, vR y] [(.int (if o_pref ([c0, c1, c2] : List Int32) ([d0, d1] : List Int32) = true then 1 else 0 : Int32))])
  exact o_retN X1 hx (t := .boolean) hrt hlk (by simp) (y_ oD16_6) o_narB (by decide) (by decide) (o_hQ hh1 ⟨rfl, N1, rfl⟩)
abbrev Qct0 (Z : State) (b : Addr) (x : Addr) (t : Addr) (zC_ : Int32) (h0 : Heap) (n0 : Nat) (v : Option Value) (h : Heap) (L : List Loc) : Prop := v = none ∧ Fr n0 L ∧ Keep h0 h [b] ∧ Exa Z h b "org/adviceweft/pointcut/NamePattern" ∧ Fld Z h b "org/adviceweft/pointcut/NamePattern" "core" "Ljava/lang/String;" (.ref x) ∧ Fld Z h b "org/adviceweft/pointcut/NamePattern" "anyBefore" "Z" (.int 1) ∧ Fld Z h b "org/adviceweft/pointcut/NamePattern" "anyAfter" "Z" (.int 0)
set_option maxRecDepth 65536 in
set_option maxHeartbeats 40000000 in
theorem rmct0 (l : Launch) (Z : State) (a0 : Array Value) (hw : ∀ d ∈ tables_1, d.before a0 Z = true) (ws : List Jvm.Cond) (b : Addr) (x : Addr) (t : Addr) (zC_ : Int32) (h0 : Heap) (n0 : Nat) (O0 : Old Z n0 h0) (E_b : Exa Z h0 b "org/adviceweft/pointcut/NamePattern") (F_k : Fld Z h0 b "org/adviceweft/pointcut/NamePattern" "core" "Ljava/lang/String;" .null) (F_b : Fld Z h0 b "org/adviceweft/pointcut/NamePattern" "anyBefore" "Z" (.int 0)) (F_a : Fld Z h0 b "org/adviceweft/pointcut/NamePattern" "anyAfter" "Z" (.int 0)) (g_b : n0 ≤ b) (S_x : o_Str Z h0 x t ([] : List Int32)) (hst : ¬ o_occ ([] : List Int32) ([(42 : Int32)] : List Int32) = true) (SC_ : o_SC Z zC_) (hC_ : ¬ zC_ = 0) :
    o_MetH o_EL l Z o_m19 prog_8_method_1_code 4 none ws o_R7 #[(.ref b), (.ref x), (.int 1), (.int 0)] h0 (Qct0 Z b x t zC_ h0 n0) := by
  refine o_enterH o_pn_6 (fun m => o_ef27 m b x) (fun p e s m below meth c s₁ hx hby hml hZ hown hnm hlk hrt X0 e0 hS0 hk0 C0 => ?_)
  have N0 := Fr.nil n0
  have y_ := @hb _ _ hby
  have k_ := @o_k _ _ hw
  have hEL := o_EWs hw
  refine o_aloadN X0 hx (y_ oD17_0) rfl rfl ?_
  refine o_ini (y := o_m0) (b := b) (argsL := []) (S := []) (W := 0) rfl X0 hx hZ hown (k_ 40 rfl) (k_ 41 rfl) (k_ 44 rfl) (backOf (W := 0) (rmrec l Z a0 hw [] b h0 n0 O0) hZ (k_ 44 rfl) (k_ 43 rfl) (by decide) (by decide)) e0 hml (lenOf o_pd__28_29V rfl) (y_ oD17_1) (fun T1 L1 v1 X1 hQ1 => ?_)
  obtain ⟨rfl, N1q, hh1⟩ := hQ1
  have N1 := Fr.app N0 N1q
  show o_G p e below _ T1 (mkF m 4 #[vR b, vR x, vI 1, vI 0] [])
  refine o_aloadN X1 hx (y_ oD17_4) rfl rfl ?_
  refine o_ldcH (n := 16) (vs := [.int 99, .int 111, .int 114, .int 101]) (z := 4) X1 hx hZ hown (k_ 46 rfl) (fun d hd => hw d (o_strat d hd)) hh1 hS0 hk0 hEL (by decide) C0.1 ⟨by decide, by decide⟩ (by decide) (by decide) (y_ oD17_5) (by decide) (by decide) (by decide) (by decide) (fun a2 b2 kb2 T2 k2 X2 E2 hS2 hk2 hZ2 hown2 Ex2 Co2 Va2 Av2 hC2 Li2 Sa2 => ?_)
  have O2 := Old.ext O0 E2
  have C3 := CHr.trans C0 (hC2)
  show o_G p e below _ T2 (mkF m 7 #[vR b, vR x, vI 1, vI 0] [(.ref a2), (.ref x)])
  refine o_sta (y := o_m1) (argsL := [(.ref x), (.ref a2)]) (S := []) (W := 0) X2 hx hZ2 hown2 (k_ 49 rfl) (k_ 50 rfl) (k_ 51 rfl) (k_ 52 rfl) (backOf (W := 0) (rmrnn l Z a0 hw [] x a2 T2.heap n0 O2) hZ2 (k_ 52 rfl) (k_ 51 rfl) (by decide) (by decide)) rfl hml (lenOf o_pd__28Ljava_2flang_2fObject_3bLjava_2flang_2fString_3b_29Ljava_2flang_2fObject_3b rfl) (y_ oD17_7) (fun T4 L4 v4 X4 hQ4 => ?_)
  obtain ⟨rfl, N4q, hh4⟩ := hQ4
  have N4 := Fr.app N1 N4q
  show o_G p e below _ T4 (mkF m 10 #[vR b, vR x, vI 1, vI 0] [(.ref x)])
  refine o_pop X4 hx (y_ oD17_10) rfl ?_
  refine o_aloadN X4 hx (y_ oD17_11) rfl rfl ?_
  refine o_ldcH (n := 4) (vs := [.int 42]) (z := 1) X4 hx hZ2 hown2 (k_ 53 rfl) (fun d hd => hw d (o_strat d hd)) hh4 hS2 hk2 hEL (by decide) C3.1 ⟨by decide, by decide⟩ (by decide) (by decide) (y_ oD17_12) (by decide) (by decide) (by decide) (by decide) (fun a5 b5 kb5 T5 k5 X5 E5 hS5 hk5 hZ5 hown5 Ex5 Co5 Va5 Av5 hC5 Li5 Sa5 => ?_)
  have O5 := Old.ext O2 E5
  have C6 := CHr.trans C3 (hC5)
  show o_G p e below _ T5 (mkF m 14 #[vR b, vR x, vI 1, vI 0] [(.ref a5), (.ref x)])
  have Ss5 : o_Str Z T5.heap a5 b5 ([(42 : Int32)] : List Int32) := ⟨Ex5, Co5, Va5, ⟨_, Av5⟩, by decide, by decide⟩
  have c7 := (o_Str.ext E5 (o_Str.ext E2 S_x))
  refine o_vir (y := o_m10) (b := x) (argsL := [(.ref a5)]) (S := []) (W := 0) X5 hx hZ5 hown5 (k_ 54 rfl) (k_ 55 rfl) (k_ 57 rfl) (k_ 56 rfl) (backOf (W := 0) (rmcon0_1 l Z a0 hw [] x a5 t b5 (42 : Int32) zC_ T5.heap n0 O5 c7 Ss5 SC_ hC_) hZ5 (k_ 58 rfl) (k_ 10 rfl) (by decide) (by decide)) rfl c7.1 hml (lenOf o_pd__28Ljava_2flang_2fCharSequence_3b_29Z rfl) (y_ oD17_14) (fun T8 L8 v8 X8 hQ8 => ?_)
  obtain ⟨rfl, N8q, hh8⟩ := hQ8
  have N8 := Fr.app N4 N8q
  show o_G p e below _ T8 (mkF m 17 #[vR b, vR x, vI 1, vI 0] [(.int (if o_occ ([] : List Int32) ([(42 : Int32)] : List Int32) = true then 1 else 0 : Int32))])
  refine o_iF (t := 35) X8 hx (y_ oD17_17) (fun hq => ?_) (fun hq => ?_)
  · have hc17 := o_h_ne.1 hq
    exact absurd (if_neg hst) hc17
  have hc17 := o_h_ne.2 hq
  refine o_aloadN X8 hx (y_ oD17_20) rfl rfl ?_
  refine o_vir (y := o_m20) (b := x) (argsL := []) (S := []) (W := 0) X8 hx hZ5 hown5 (k_ 90 rfl) (k_ 91 rfl) (k_ 93 rfl) (k_ 92 rfl) (o_empB (W := 0) hZ5 hw (k_ 9 rfl) c7 (by decide) (by decide)) hh8 c7.1 hml (lenOf o_pd__28_29Z rfl) (y_ oD17_21) (fun T9 L9 v9 X9 hQ9 => ?_)
  obtain ⟨rfl, rfl, hh9⟩ := hQ9
  have N9 := Fr.app N8 (Fr.nil n0)
  show o_G p e below _ T9 (mkF m 24 #[vR b, vR x, vI 1, vI 0] [(.int 1)])
  refine o_iFF X9 hx (y_ oD17_24) ?_
  refine o_iloadN X9 hx (y_ oD17_27) rfl ?_
  refine o_iFF X9 hx (y_ oD17_28) ?_
  refine o_iloadN X9 hx (y_ oD17_31) rfl ?_
  refine o_iFT (t := 54) X9 hx (y_ oD17_32) ?_
  refine o_aloadN X9 hx (y_ oD17_54) rfl rfl ?_
  refine o_aloadN X9 hx (y_ oD17_55) rfl rfl ?_
  have c10 := (Exa.ext E5 (Exa.ext E2 E_b))
  have c11 := (Fld.ext E5 (Fld.ext E2 F_k))
  refine o_putF X9 hx hZ5 hown5 (host := "") (Or.inl (k_ 95 rfl)) Via.refl hh9 c11 c10 (Or.inr ⟨(k_ 96 rfl), rfl, hnm⟩) (k_ 6 rfl) (ty := (.object "java/lang/String")) (by decide) rfl rfl (y_ oD17_56) (fun T12 h12 X12 e12 W12 => ?_)
  have F12 := Fld.same W12 c11
  have N12 := Fr.snoc X12 N9 g_b
  have O12 := Old.wr O5 W12 g_b
  have C13 := CHr.trans C6 (CHr.wr W12 (Safe.exa hZ5.alike c10 (by decide) (by decide)) C6.1)
  refine o_aloadN X12 hx (y_ oD17_59) rfl rfl ?_
  refine o_iloadN X12 hx (y_ oD17_60) rfl ?_
  have c14 := (Exa.wr W12 c10)
  have c15 := (Fld.other W12 (Fld.ext E5 (Fld.ext E2 F_b)) (Or.inr (slot_ne (Or.inr (k_ 98 rfl)) (Or.inr (k_ 96 rfl)) (by decide) (t := .boolean) (t' := (.object "java/lang/String")) (by decide) (by decide))))
  refine o_putFN (v' := (.int 1)) X12 hx hZ5 hown5 (k_ 97 rfl) Via.refl e12 c15 c14 (Or.inr ⟨(k_ 98 rfl), rfl, hnm⟩) (k_ 6 rfl) (ty := .boolean) (by decide) rfl rfl (y_ oD17_61) (fun T16 h16 X16 e16 W16 => ?_)
  have F16 := Fld.same W16 c15
  have N16 := Fr.snoc X16 N12 g_b
  have O16 := Old.wr O12 W16 g_b
  have C17 := CHr.trans C13 (CHr.wr W16 (Safe.exa hZ5.alike c14 (by decide) (by decide)) C13.1)
  refine o_aloadN X16 hx (y_ oD17_64) rfl rfl ?_
  refine o_iloadN X16 hx (y_ oD17_65) rfl ?_
  have c18 := (Exa.wr W16 c14)
  have c19 := (Fld.other W16 (Fld.other W12 (Fld.ext E5 (Fld.ext E2 F_a)) (Or.inr (slot_ne (Or.inr (k_ 100 rfl)) (Or.inr (k_ 96 rfl)) (by decide) (t := .boolean) (t' := (.object "java/lang/String")) (by decide) (by decide)))) (Or.inr (slot_ne (Or.inr (k_ 100 rfl)) (Or.inr (k_ 98 rfl)) (by decide) (t := .boolean) (t' := .boolean) (by decide) (by decide))))
  refine o_putFN (v' := (.int 0)) X16 hx hZ5 hown5 (k_ 99 rfl) Via.refl e16 c19 c18 (Or.inr ⟨(k_ 100 rfl), rfl, hnm⟩) (k_ 6 rfl) (ty := .boolean) (by decide) rfl rfl (y_ oD17_66) (fun T20 h20 X20 e20 W20 => ?_)
  have F20 := Fld.same W20 c19
  have N20 := Fr.snoc X20 N16 g_b
  have O20 := Old.wr O16 W20 g_b
  have C21 := CHr.trans C17 (CHr.wr W20 (Safe.exa hZ5.alike c18 (by decide) (by decide)) C17.1)
  have kp22 := Keep.ext (Keep.refl h0 [b]) E2
  have kp23 := Keep.ext kp22 E5
  have kp24 := Keep.wr kp23 W12 (Or.inl (List.mem_of_getElem? (i := 0) rfl))
  have kp25 := Keep.wr kp24 W16 (Or.inl (List.mem_of_getElem? (i := 0) rfl))
  have kp26 := Keep.wr kp25 W20 (Or.inl (List.mem_of_getElem? (i := 0) rfl))
  have c27 := (Exa.wr W20 c18)
  have c28 := (Fld.other W20 (Fld.other W16 F12 (Or.inr (slot_ne (Or.inr (k_ 96 rfl)) (Or.inr (k_ 98 rfl)) (by decide) (t := (.object "java/lang/String")) (t' := .boolean) (by decide) (by decide)))) (Or.inr (slot_ne (Or.inr (k_ 96 rfl)) (Or.inr (k_ 100 rfl)) (by decide) (t := (.object "java/lang/String")) (t' := .boolean) (by decide) (by decide))))
  have c29 := (Fld.other W20 F16 (Or.inr (slot_ne (Or.inr (k_ 98 rfl)) (Or.inr (k_ 100 rfl)) (by decide) (t := .boolean) (t' := .boolean) (by decide) (by decide))))
  exact o_retVH X20 hx hS5 (by rw [e20]; exact (Nat.le_trans (Nat.le_trans (Nat.le_trans hk5 (Keep.of_wr W12).1) (Keep.of_wr W16).1) (Keep.of_wr W20).1)) hZ5 hEL (by rw [e20]; exact C21) hrt hlk (y_ oD17_69) (by decide) (by decide) (o_hQ e20 ⟨rfl, N20, kp26, c27, c28, c29, F20⟩)
abbrev Qct1 (Z : State) (b : Addr) (x : Addr) (B : Int32) (A : Int32) (t : Addr) (c0 : Int32) (zC_ : Int32) (h0 : Heap) (n0 : Nat) (v : Option Value) (h : Heap) (L : List Loc) : Prop := v = none ∧ Fr n0 L ∧ Keep h0 h [b] ∧ Exa Z h b "org/adviceweft/pointcut/NamePattern" ∧ Fld Z h b "org/adviceweft/pointcut/NamePattern" "core" "Ljava/lang/String;" (.ref x) ∧ Fld Z h b "org/adviceweft/pointcut/NamePattern" "anyBefore" "Z" (.int B) ∧ Fld Z h b "org/adviceweft/pointcut/NamePattern" "anyAfter" "Z" (.int A)
set_option maxRecDepth 65536 in
set_option maxHeartbeats 40000000 in
theorem rmct1 (l : Launch) (Z : State) (a0 : Array Value) (hw : ∀ d ∈ tables_1, d.before a0 Z = true) (ws : List Jvm.Cond) (b : Addr) (x : Addr) (B : Int32) (A : Int32) (t : Addr) (c0 : Int32) (zC_ : Int32) (h0 : Heap) (n0 : Nat) (O0 : Old Z n0 h0) (E_b : Exa Z h0 b "org/adviceweft/pointcut/NamePattern") (F_k : Fld Z h0 b "org/adviceweft/pointcut/NamePattern" "core" "Ljava/lang/String;" .null) (F_b : Fld Z h0 b "org/adviceweft/pointcut/NamePattern" "anyBefore" "Z" (.int 0)) (F_a : Fld Z h0 b "org/adviceweft/pointcut/NamePattern" "anyAfter" "Z" (.int 0)) (g_b : n0 ≤ b) (S_x : o_Str Z h0 x t ([c0] : List Int32)) (hst : ¬ o_occ ([c0] : List Int32) ([(42 : Int32)] : List Int32) = true) (hB : B = 0 ∨ B = 1) (hA : A = 0 ∨ A = 1) (SC_ : o_SC Z zC_) (hC_ : ¬ zC_ = 0) :
    o_MetH o_EL l Z o_m19 prog_8_method_1_code 4 none ws o_R7 #[(.ref b), (.ref x), (.int B), (.int A)] h0 (Qct1 Z b x B A t c0 zC_ h0 n0) := by
  refine o_enterH o_pn_6 (fun m => o_ef28 m b x B A) (fun p e s m below meth c s₁ hx hby hml hZ hown hnm hlk hrt X0 e0 hS0 hk0 C0 => ?_)
  have N0 := Fr.nil n0
  have y_ := @hb _ _ hby
  have k_ := @o_k _ _ hw
  have hEL := o_EWs hw
  refine o_aloadN X0 hx (y_ oD17_0) rfl rfl ?_
  refine o_ini (y := o_m0) (b := b) (argsL := []) (S := []) (W := 0) rfl X0 hx hZ hown (k_ 40 rfl) (k_ 41 rfl) (k_ 44 rfl) (backOf (W := 0) (rmrec l Z a0 hw [] b h0 n0 O0) hZ (k_ 44 rfl) (k_ 43 rfl) (by decide) (by decide)) e0 hml (lenOf o_pd__28_29V rfl) (y_ oD17_1) (fun T1 L1 v1 X1 hQ1 => ?_)
  obtain ⟨rfl, N1q, hh1⟩ := hQ1
  have N1 := Fr.app N0 N1q
  show o_G p e below _ T1 (mkF m 4 #[vR b, vR x, vI B, vI A] [])
  refine o_aloadN X1 hx (y_ oD17_4) rfl rfl ?_
  refine o_ldcH (n := 16) (vs := [.int 99, .int 111, .int 114, .int 101]) (z := 4) X1 hx hZ hown (k_ 46 rfl) (fun d hd => hw d (o_strat d hd)) hh1 hS0 hk0 hEL (by decide) C0.1 ⟨by decide, by decide⟩ (by decide) (by decide) (y_ oD17_5) (by decide) (by decide) (by decide) (by decide) (fun a2 b2 kb2 T2 k2 X2 E2 hS2 hk2 hZ2 hown2 Ex2 Co2 Va2 Av2 hC2 Li2 Sa2 => ?_)
  have O2 := Old.ext O0 E2
  have C3 := CHr.trans C0 (hC2)
  show o_G p e below _ T2 (mkF m 7 #[vR b, vR x, vI B, vI A] [(.ref a2), (.ref x)])
  refine o_sta (y := o_m1) (argsL := [(.ref x), (.ref a2)]) (S := []) (W := 0) X2 hx hZ2 hown2 (k_ 49 rfl) (k_ 50 rfl) (k_ 51 rfl) (k_ 52 rfl) (backOf (W := 0) (rmrnn l Z a0 hw [] x a2 T2.heap n0 O2) hZ2 (k_ 52 rfl) (k_ 51 rfl) (by decide) (by decide)) rfl hml (lenOf o_pd__28Ljava_2flang_2fObject_3bLjava_2flang_2fString_3b_29Ljava_2flang_2fObject_3b rfl) (y_ oD17_7) (fun T4 L4 v4 X4 hQ4 => ?_)
  obtain ⟨rfl, N4q, hh4⟩ := hQ4
  have N4 := Fr.app N1 N4q
  show o_G p e below _ T4 (mkF m 10 #[vR b, vR x, vI B, vI A] [(.ref x)])
  refine o_pop X4 hx (y_ oD17_10) rfl ?_
  refine o_aloadN X4 hx (y_ oD17_11) rfl rfl ?_
  refine o_ldcH (n := 4) (vs := [.int 42]) (z := 1) X4 hx hZ2 hown2 (k_ 53 rfl) (fun d hd => hw d (o_strat d hd)) hh4 hS2 hk2 hEL (by decide) C3.1 ⟨by decide, by decide⟩ (by decide) (by decide) (y_ oD17_12) (by decide) (by decide) (by decide) (by decide) (fun a5 b5 kb5 T5 k5 X5 E5 hS5 hk5 hZ5 hown5 Ex5 Co5 Va5 Av5 hC5 Li5 Sa5 => ?_)
  have O5 := Old.ext O2 E5
  have C6 := CHr.trans C3 (hC5)
  show o_G p e below _ T5 (mkF m 14 #[vR b, vR x, vI B, vI A] [(.ref a5), (.ref x)])
  have Ss5 : o_Str Z T5.heap a5 b5 ([(42 : Int32)] : List Int32) := ⟨Ex5, Co5, Va5, ⟨_, Av5⟩, by decide, by decide⟩
  have c7 := (o_Str.ext E5 (o_Str.ext E2 S_x))
  refine o_vir (y := o_m10) (b := x) (argsL := [(.ref a5)]) (S := []) (W := 0) X5 hx hZ5 hown5 (k_ 54 rfl) (k_ 55 rfl) (k_ 57 rfl) (k_ 56 rfl) (backOf (W := 0) (rmcon1_1 l Z a0 hw [] x a5 t b5 c0 (42 : Int32) zC_ T5.heap n0 O5 c7 Ss5 SC_ hC_) hZ5 (k_ 58 rfl) (k_ 10 rfl) (by decide) (by decide)) rfl c7.1 hml (lenOf o_pd__28Ljava_2flang_2fCharSequence_3b_29Z rfl) (y_ oD17_14) (fun T8 L8 v8 X8 hQ8 => ?_)
  obtain ⟨rfl, N8q, hh8⟩ := hQ8
  have N8 := Fr.app N4 N8q
  show o_G p e below _ T8 (mkF m 17 #[vR b, vR x, vI B, vI A] [(.int (if o_occ ([c0] : List Int32) ([(42 : Int32)] : List Int32) = true then 1 else 0 : Int32))])
  refine o_iF (t := 35) X8 hx (y_ oD17_17) (fun hq => ?_) (fun hq => ?_)
  · have hc17 := o_h_ne.1 hq
    exact absurd (if_neg hst) hc17
  have hc17 := o_h_ne.2 hq
  refine o_aloadN X8 hx (y_ oD17_20) rfl rfl ?_
  refine o_vir (y := o_m20) (b := x) (argsL := []) (S := []) (W := 0) X8 hx hZ5 hown5 (k_ 90 rfl) (k_ 91 rfl) (k_ 93 rfl) (k_ 92 rfl) (o_empB (W := 0) hZ5 hw (k_ 9 rfl) c7 (by decide) (by decide)) hh8 c7.1 hml (lenOf o_pd__28_29Z rfl) (y_ oD17_21) (fun T9 L9 v9 X9 hQ9 => ?_)
  obtain ⟨rfl, rfl, hh9⟩ := hQ9
  have N9 := Fr.app N8 (Fr.nil n0)
  show o_G p e below _ T9 (mkF m 24 #[vR b, vR x, vI B, vI A] [(.int 0)])
  refine o_iFT (t := 54) X9 hx (y_ oD17_24) ?_
  refine o_aloadN X9 hx (y_ oD17_54) rfl rfl ?_
  refine o_aloadN X9 hx (y_ oD17_55) rfl rfl ?_
  have c10 := (Exa.ext E5 (Exa.ext E2 E_b))
  have c11 := (Fld.ext E5 (Fld.ext E2 F_k))
  refine o_putF X9 hx hZ5 hown5 (host := "") (Or.inl (k_ 95 rfl)) Via.refl hh9 c11 c10 (Or.inr ⟨(k_ 96 rfl), rfl, hnm⟩) (k_ 6 rfl) (ty := (.object "java/lang/String")) (by decide) rfl rfl (y_ oD17_56) (fun T12 h12 X12 e12 W12 => ?_)
  have F12 := Fld.same W12 c11
  have N12 := Fr.snoc X12 N9 g_b
  have O12 := Old.wr O5 W12 g_b
  have C13 := CHr.trans C6 (CHr.wr W12 (Safe.exa hZ5.alike c10 (by decide) (by decide)) C6.1)
  refine o_aloadN X12 hx (y_ oD17_59) rfl rfl ?_
  refine o_iloadN X12 hx (y_ oD17_60) rfl ?_
  have c14 := (Exa.wr W12 c10)
  have c15 := (Fld.other W12 (Fld.ext E5 (Fld.ext E2 F_b)) (Or.inr (slot_ne (Or.inr (k_ 98 rfl)) (Or.inr (k_ 96 rfl)) (by decide) (t := .boolean) (t' := (.object "java/lang/String")) (by decide) (by decide))))
  refine o_putFN (v' := (.int B)) X12 hx hZ5 hown5 (k_ 97 rfl) Via.refl e12 c15 c14 (Or.inr ⟨(k_ 98 rfl), rfl, hnm⟩) (k_ 6 rfl) (ty := .boolean) (by decide) (o_narZ hB) (o_fitZ hB) (y_ oD17_61) (fun T16 h16 X16 e16 W16 => ?_)
  have F16 := Fld.same W16 c15
  have N16 := Fr.snoc X16 N12 g_b
  have O16 := Old.wr O12 W16 g_b
  have C17 := CHr.trans C13 (CHr.wr W16 (Safe.exa hZ5.alike c14 (by decide) (by decide)) C13.1)
  refine o_aloadN X16 hx (y_ oD17_64) rfl rfl ?_
  refine o_iloadN X16 hx (y_ oD17_65) rfl ?_
  have c18 := (Exa.wr W16 c14)
  have c19 := (Fld.other W16 (Fld.other W12 (Fld.ext E5 (Fld.ext E2 F_a)) (Or.inr (slot_ne (Or.inr (k_ 100 rfl)) (Or.inr (k_ 96 rfl)) (by decide) (t := .boolean) (t' := (.object "java/lang/String")) (by decide) (by decide)))) (Or.inr (slot_ne (Or.inr (k_ 100 rfl)) (Or.inr (k_ 98 rfl)) (by decide) (t := .boolean) (t' := .boolean) (by decide) (by decide))))
  refine o_putFN (v' := (.int A)) X16 hx hZ5 hown5 (k_ 99 rfl) Via.refl e16 c19 c18 (Or.inr ⟨(k_ 100 rfl), rfl, hnm⟩) (k_ 6 rfl) (ty := .boolean) (by decide) (o_narZ hA) (o_fitZ hA) (y_ oD17_66) (fun T20 h20 X20 e20 W20 => ?_)
  have F20 := Fld.same W20 c19
  have N20 := Fr.snoc X20 N16 g_b
  have O20 := Old.wr O16 W20 g_b
  have C21 := CHr.trans C17 (CHr.wr W20 (Safe.exa hZ5.alike c18 (by decide) (by decide)) C17.1)
  have kp22 := Keep.ext (Keep.refl h0 [b]) E2
  have kp23 := Keep.ext kp22 E5
  have kp24 := Keep.wr kp23 W12 (Or.inl (List.mem_of_getElem? (i := 0) rfl))
  have kp25 := Keep.wr kp24 W16 (Or.inl (List.mem_of_getElem? (i := 0) rfl))
  have kp26 := Keep.wr kp25 W20 (Or.inl (List.mem_of_getElem? (i := 0) rfl))
  have c27 := (Exa.wr W20 c18)
  have c28 := (Fld.other W20 (Fld.other W16 F12 (Or.inr (slot_ne (Or.inr (k_ 96 rfl)) (Or.inr (k_ 98 rfl)) (by decide) (t := (.object "java/lang/String")) (t' := .boolean) (by decide) (by decide)))) (Or.inr (slot_ne (Or.inr (k_ 96 rfl)) (Or.inr (k_ 100 rfl)) (by decide) (t := (.object "java/lang/String")) (t' := .boolean) (by decide) (by decide))))
  have c29 := (Fld.other W20 F16 (Or.inr (slot_ne (Or.inr (k_ 98 rfl)) (Or.inr (k_ 100 rfl)) (by decide) (t := .boolean) (t' := .boolean) (by decide) (by decide))))
  exact o_retVH X20 hx hS5 (by rw [e20]; exact (Nat.le_trans (Nat.le_trans (Nat.le_trans hk5 (Keep.of_wr W12).1) (Keep.of_wr W16).1) (Keep.of_wr W20).1)) hZ5 hEL (by rw [e20]; exact C21) hrt hlk (y_ oD17_69) (by decide) (by decide) (o_hQ e20 ⟨rfl, N20, kp26, c27, c28, c29, F20⟩)
abbrev Qct2 (Z : State) (b : Addr) (x : Addr) (B : Int32) (A : Int32) (t : Addr) (c0 : Int32) (c1 : Int32) (zC_ : Int32) (h0 : Heap) (n0 : Nat) (v : Option Value) (h : Heap) (L : List Loc) : Prop := v = none ∧ Fr n0 L ∧ Keep h0 h [b] ∧ Exa Z h b "org/adviceweft/pointcut/NamePattern" ∧ Fld Z h b "org/adviceweft/pointcut/NamePattern" "core" "Ljava/lang/String;" (.ref x) ∧ Fld Z h b "org/adviceweft/pointcut/NamePattern" "anyBefore" "Z" (.int B) ∧ Fld Z h b "org/adviceweft/pointcut/NamePattern" "anyAfter" "Z" (.int A)
set_option maxRecDepth 65536 in
set_option maxHeartbeats 40000000 in
theorem rmct2 (l : Launch) (Z : State) (a0 : Array Value) (hw : ∀ d ∈ tables_1, d.before a0 Z = true) (ws : List Jvm.Cond) (b : Addr) (x : Addr) (B : Int32) (A : Int32) (t : Addr) (c0 : Int32) (c1 : Int32) (zC_ : Int32) (h0 : Heap) (n0 : Nat) (O0 : Old Z n0 h0) (E_b : Exa Z h0 b "org/adviceweft/pointcut/NamePattern") (F_k : Fld Z h0 b "org/adviceweft/pointcut/NamePattern" "core" "Ljava/lang/String;" .null) (F_b : Fld Z h0 b "org/adviceweft/pointcut/NamePattern" "anyBefore" "Z" (.int 0)) (F_a : Fld Z h0 b "org/adviceweft/pointcut/NamePattern" "anyAfter" "Z" (.int 0)) (g_b : n0 ≤ b) (S_x : o_Str Z h0 x t ([c0, c1] : List Int32)) (hst : ¬ o_occ ([c0, c1] : List Int32) ([(42 : Int32)] : List Int32) = true) (hB : B = 0 ∨ B = 1) (hA : A = 0 ∨ A = 1) (SC_ : o_SC Z zC_) (hC_ : ¬ zC_ = 0) :
    o_MetH o_EL l Z o_m19 prog_8_method_1_code 4 none ws o_R7 #[(.ref b), (.ref x), (.int B), (.int A)] h0 (Qct2 Z b x B A t c0 c1 zC_ h0 n0) := by
  refine o_enterH o_pn_6 (fun m => o_ef28 m b x B A) (fun p e s m below meth c s₁ hx hby hml hZ hown hnm hlk hrt X0 e0 hS0 hk0 C0 => ?_)
  have N0 := Fr.nil n0
  have y_ := @hb _ _ hby
  have k_ := @o_k _ _ hw
  have hEL := o_EWs hw
  refine o_aloadN X0 hx (y_ oD17_0) rfl rfl ?_
  refine o_ini (y := o_m0) (b := b) (argsL := []) (S := []) (W := 0) rfl X0 hx hZ hown (k_ 40 rfl) (k_ 41 rfl) (k_ 44 rfl) (backOf (W := 0) (rmrec l Z a0 hw [] b h0 n0 O0) hZ (k_ 44 rfl) (k_ 43 rfl) (by decide) (by decide)) e0 hml (lenOf o_pd__28_29V rfl) (y_ oD17_1) (fun T1 L1 v1 X1 hQ1 => ?_)
  obtain ⟨rfl, N1q, hh1⟩ := hQ1
  have N1 := Fr.app N0 N1q
  show o_G p e below _ T1 (mkF m 4 #[vR b, vR x, vI B, vI A] [])
  refine o_aloadN X1 hx (y_ oD17_4) rfl rfl ?_
  refine o_ldcH (n := 16) (vs := [.int 99, .int 111, .int 114, .int 101]) (z := 4) X1 hx hZ hown (k_ 46 rfl) (fun d hd => hw d (o_strat d hd)) hh1 hS0 hk0 hEL (by decide) C0.1 ⟨by decide, by decide⟩ (by decide) (by decide) (y_ oD17_5) (by decide) (by decide) (by decide) (by decide) (fun a2 b2 kb2 T2 k2 X2 E2 hS2 hk2 hZ2 hown2 Ex2 Co2 Va2 Av2 hC2 Li2 Sa2 => ?_)
  have O2 := Old.ext O0 E2
  have C3 := CHr.trans C0 (hC2)
  show o_G p e below _ T2 (mkF m 7 #[vR b, vR x, vI B, vI A] [(.ref a2), (.ref x)])
  refine o_sta (y := o_m1) (argsL := [(.ref x), (.ref a2)]) (S := []) (W := 0) X2 hx hZ2 hown2 (k_ 49 rfl) (k_ 50 rfl) (k_ 51 rfl) (k_ 52 rfl) (backOf (W := 0) (rmrnn l Z a0 hw [] x a2 T2.heap n0 O2) hZ2 (k_ 52 rfl) (k_ 51 rfl) (by decide) (by decide)) rfl hml (lenOf o_pd__28Ljava_2flang_2fObject_3bLjava_2flang_2fString_3b_29Ljava_2flang_2fObject_3b rfl) (y_ oD17_7) (fun T4 L4 v4 X4 hQ4 => ?_)
  obtain ⟨rfl, N4q, hh4⟩ := hQ4
  have N4 := Fr.app N1 N4q
  show o_G p e below _ T4 (mkF m 10 #[vR b, vR x, vI B, vI A] [(.ref x)])
  refine o_pop X4 hx (y_ oD17_10) rfl ?_
  refine o_aloadN X4 hx (y_ oD17_11) rfl rfl ?_
  refine o_ldcH (n := 4) (vs := [.int 42]) (z := 1) X4 hx hZ2 hown2 (k_ 53 rfl) (fun d hd => hw d (o_strat d hd)) hh4 hS2 hk2 hEL (by decide) C3.1 ⟨by decide, by decide⟩ (by decide) (by decide) (y_ oD17_12) (by decide) (by decide) (by decide) (by decide) (fun a5 b5 kb5 T5 k5 X5 E5 hS5 hk5 hZ5 hown5 Ex5 Co5 Va5 Av5 hC5 Li5 Sa5 => ?_)
  have O5 := Old.ext O2 E5
  have C6 := CHr.trans C3 (hC5)
  show o_G p e below _ T5 (mkF m 14 #[vR b, vR x, vI B, vI A] [(.ref a5), (.ref x)])
  have Ss5 : o_Str Z T5.heap a5 b5 ([(42 : Int32)] : List Int32) := ⟨Ex5, Co5, Va5, ⟨_, Av5⟩, by decide, by decide⟩
  have c7 := (o_Str.ext E5 (o_Str.ext E2 S_x))
  refine o_vir (y := o_m10) (b := x) (argsL := [(.ref a5)]) (S := []) (W := 0) X5 hx hZ5 hown5 (k_ 54 rfl) (k_ 55 rfl) (k_ 57 rfl) (k_ 56 rfl) (backOf (W := 0) (rmcon2_1 l Z a0 hw [] x a5 t b5 c0 c1 (42 : Int32) zC_ T5.heap n0 O5 c7 Ss5 SC_ hC_) hZ5 (k_ 58 rfl) (k_ 10 rfl) (by decide) (by decide)) rfl c7.1 hml (lenOf o_pd__28Ljava_2flang_2fCharSequence_3b_29Z rfl) (y_ oD17_14) (fun T8 L8 v8 X8 hQ8 => ?_)
  obtain ⟨rfl, N8q, hh8⟩ := hQ8
  have N8 := Fr.app N4 N8q
  show o_G p e below _ T8 (mkF m 17 #[vR b, vR x, vI B, vI A] [(.int (if o_occ ([c0, c1] : List Int32) ([(42 : Int32)] : List Int32) = true then 1 else 0 : Int32))])
  refine o_iF (t := 35) X8 hx (y_ oD17_17) (fun hq => ?_) (fun hq => ?_)
  · have hc17 := o_h_ne.1 hq
    exact absurd (if_neg hst) hc17
  have hc17 := o_h_ne.2 hq
  refine o_aloadN X8 hx (y_ oD17_20) rfl rfl ?_
  refine o_vir (y := o_m20) (b := x) (argsL := []) (S := []) (W := 0) X8 hx hZ5 hown5 (k_ 90 rfl) (k_ 91 rfl) (k_ 93 rfl) (k_ 92 rfl) (o_empB (W := 0) hZ5 hw (k_ 9 rfl) c7 (by decide) (by decide)) hh8 c7.1 hml (lenOf o_pd__28_29Z rfl) (y_ oD17_21) (fun T9 L9 v9 X9 hQ9 => ?_)
  obtain ⟨rfl, rfl, hh9⟩ := hQ9
  have N9 := Fr.app N8 (Fr.nil n0)
  show o_G p e below _ T9 (mkF m 24 #[vR b, vR x, vI B, vI A] [(.int 0)])
  refine o_iFT (t := 54) X9 hx (y_ oD17_24) ?_
  refine o_aloadN X9 hx (y_ oD17_54) rfl rfl ?_
  refine o_aloadN X9 hx (y_ oD17_55) rfl rfl ?_
  have c10 := (Exa.ext E5 (Exa.ext E2 E_b))
  have c11 := (Fld.ext E5 (Fld.ext E2 F_k))
  refine o_putF X9 hx hZ5 hown5 (host := "") (Or.inl (k_ 95 rfl)) Via.refl hh9 c11 c10 (Or.inr ⟨(k_ 96 rfl), rfl, hnm⟩) (k_ 6 rfl) (ty := (.object "java/lang/String")) (by decide) rfl rfl (y_ oD17_56) (fun T12 h12 X12 e12 W12 => ?_)
  have F12 := Fld.same W12 c11
  have N12 := Fr.snoc X12 N9 g_b
  have O12 := Old.wr O5 W12 g_b
  have C13 := CHr.trans C6 (CHr.wr W12 (Safe.exa hZ5.alike c10 (by decide) (by decide)) C6.1)
  refine o_aloadN X12 hx (y_ oD17_59) rfl rfl ?_
  refine o_iloadN X12 hx (y_ oD17_60) rfl ?_
  have c14 := (Exa.wr W12 c10)
  have c15 := (Fld.other W12 (Fld.ext E5 (Fld.ext E2 F_b)) (Or.inr (slot_ne (Or.inr (k_ 98 rfl)) (Or.inr (k_ 96 rfl)) (by decide) (t := .boolean) (t' := (.object "java/lang/String")) (by decide) (by decide))))
  refine o_putFN (v' := (.int B)) X12 hx hZ5 hown5 (k_ 97 rfl) Via.refl e12 c15 c14 (Or.inr ⟨(k_ 98 rfl), rfl, hnm⟩) (k_ 6 rfl) (ty := .boolean) (by decide) (o_narZ hB) (o_fitZ hB) (y_ oD17_61) (fun T16 h16 X16 e16 W16 => ?_)
  have F16 := Fld.same W16 c15
  have N16 := Fr.snoc X16 N12 g_b
  have O16 := Old.wr O12 W16 g_b
  have C17 := CHr.trans C13 (CHr.wr W16 (Safe.exa hZ5.alike c14 (by decide) (by decide)) C13.1)
  refine o_aloadN X16 hx (y_ oD17_64) rfl rfl ?_
  refine o_iloadN X16 hx (y_ oD17_65) rfl ?_
  have c18 := (Exa.wr W16 c14)
  have c19 := (Fld.other W16 (Fld.other W12 (Fld.ext E5 (Fld.ext E2 F_a)) (Or.inr (slot_ne (Or.inr (k_ 100 rfl)) (Or.inr (k_ 96 rfl)) (by decide) (t := .boolean) (t' := (.object "java/lang/String")) (by decide) (by decide)))) (Or.inr (slot_ne (Or.inr (k_ 100 rfl)) (Or.inr (k_ 98 rfl)) (by decide) (t := .boolean) (t' := .boolean) (by decide) (by decide))))
  refine o_putFN (v' := (.int A)) X16 hx hZ5 hown5 (k_ 99 rfl) Via.refl e16 c19 c18 (Or.inr ⟨(k_ 100 rfl), rfl, hnm⟩) (k_ 6 rfl) (ty := .boolean) (by decide) (o_narZ hA) (o_fitZ hA) (y_ oD17_66) (fun T20 h20 X20 e20 W20 => ?_)
  have F20 := Fld.same W20 c19
  have N20 := Fr.snoc X20 N16 g_b
  have O20 := Old.wr O16 W20 g_b
  have C21 := CHr.trans C17 (CHr.wr W20 (Safe.exa hZ5.alike c18 (by decide) (by decide)) C17.1)
  have kp22 := Keep.ext (Keep.refl h0 [b]) E2
  have kp23 := Keep.ext kp22 E5
  have kp24 := Keep.wr kp23 W12 (Or.inl (List.mem_of_getElem? (i := 0) rfl))
  have kp25 := Keep.wr kp24 W16 (Or.inl (List.mem_of_getElem? (i := 0) rfl))
  have kp26 := Keep.wr kp25 W20 (Or.inl (List.mem_of_getElem? (i := 0) rfl))
  have c27 := (Exa.wr W20 c18)
  have c28 := (Fld.other W20 (Fld.other W16 F12 (Or.inr (slot_ne (Or.inr (k_ 96 rfl)) (Or.inr (k_ 98 rfl)) (by decide) (t := (.object "java/lang/String")) (t' := .boolean) (by decide) (by decide)))) (Or.inr (slot_ne (Or.inr (k_ 96 rfl)) (Or.inr (k_ 100 rfl)) (by decide) (t := (.object "java/lang/String")) (t' := .boolean) (by decide) (by decide))))
  have c29 := (Fld.other W20 F16 (Or.inr (slot_ne (Or.inr (k_ 98 rfl)) (Or.inr (k_ 100 rfl)) (by decide) (t := .boolean) (t' := .boolean) (by decide) (by decide))))
  exact o_retVH X20 hx hS5 (by rw [e20]; exact (Nat.le_trans (Nat.le_trans (Nat.le_trans hk5 (Keep.of_wr W12).1) (Keep.of_wr W16).1) (Keep.of_wr W20).1)) hZ5 hEL (by rw [e20]; exact C21) hrt hlk (y_ oD17_69) (by decide) (by decide) (o_hQ e20 ⟨rfl, N20, kp26, c27, c28, c29, F20⟩)
abbrev Qmt0_0 (Z : State) (b : Addr) (y : Addr) (x : Addr) (t : Addr) (u : Addr) (zC_ : Int32) (h0 : Heap) (n0 : Nat) (v : Option Value) (h : Heap) (L : List Loc) : Prop := v = some (.int (if o_pref ([] : List Int32) ([] : List Int32) = true then 1 else 0)) ∧ Fr n0 L ∧ h = h0
set_option maxRecDepth 65536 in
set_option maxHeartbeats 40000000 in
theorem rmmt0_0 (l : Launch) (Z : State) (a0 : Array Value) (hw : ∀ d ∈ tables_1, d.before a0 Z = true) (ws : List Jvm.Cond) (b : Addr) (y : Addr) (x : Addr) (t : Addr) (u : Addr) (zC_ : Int32) (h0 : Heap) (n0 : Nat) (O0 : Old Z n0 h0) (F_k : Fld Z h0 b "org/adviceweft/pointcut/NamePattern" "core" "Ljava/lang/String;" (.ref x)) (F_b : Fld Z h0 b "org/adviceweft/pointcut/NamePattern" "anyBefore" "Z" (.int 1)) (F_a : Fld Z h0 b "org/adviceweft/pointcut/NamePattern" "anyAfter" "Z" (.int 0)) (S_x : o_Str Z h0 x t ([] : List Int32)) (S_y : o_Str Z h0 y u ([] : List Int32)) (SC_ : o_SC Z zC_) (hC_ : ¬ zC_ = 0) :
    o_Met l Z o_m21 prog_8_method_3_code 2 (some .boolean) ws o_R8 #[(.ref b), (.ref y)] h0 (Qmt0_0 Z b y x t u zC_ h0 n0) := by
  refine o_enter o_pn_6 (fun m => o_ef1 m b y) (fun p e s m below meth c s₁ hx hby hml hZ hown hnm hlk hrt X0 e0 => ?_)
  have N0 := Fr.nil n0
  have y_ := @hb _ _ hby
  have k_ := @o_k _ _ hw
  refine o_aloadN X0 hx (y_ oD18_0) rfl rfl ?_
  refine o_getF X0 hx hZ hown (host := "") (Or.inl (k_ 97 rfl)) Via.refl e0 F_b (y_ oD18_1) (fun T1 X1 e1 => ?_)
  refine o_iFF X1 hx (y_ oD18_4) ?_
  refine o_aloadN X1 hx (y_ oD18_7) rfl rfl ?_
  refine o_getF X1 hx hZ hown (host := "") (Or.inl (k_ 99 rfl)) Via.refl e1 F_a (y_ oD18_8) (fun T2 X2 e2 => ?_)
  refine o_iFT (t := 23) X2 hx (y_ oD18_11) ?_
  refine o_aloadN X2 hx (y_ oD18_23) rfl rfl ?_
  refine o_getF X2 hx hZ hown (host := "") (Or.inl (k_ 97 rfl)) Via.refl e2 F_b (y_ oD18_24) (fun T3 X3 e3 => ?_)
  refine o_iFF X3 hx (y_ oD18_27) ?_
  refine o_aloadN X3 hx (y_ oD18_30) rfl rfl ?_
  refine o_aloadN X3 hx (y_ oD18_31) rfl rfl ?_
  refine o_getF X3 hx hZ hown (host := "") (Or.inl (k_ 95 rfl)) Via.refl e3 F_k (y_ oD18_32) (fun T4 X4 e4 => ?_)
  refine o_vir (y := o_m17) (b := y) (argsL := [(.ref x)]) (S := []) (W := 0) X4 hx hZ hown (k_ 107 rfl) (k_ 108 rfl) (k_ 110 rfl) (k_ 109 rfl) (backOf (W := 0) (rmen0_0 l Z a0 hw [] y x u t  zC_ h0 n0 O0 S_y S_x SC_ hC_) hZ (k_ 111 rfl) (k_ 10 rfl) (by decide) (by decide)) e4 S_y.1 hml (lenOf o_pd__28Ljava_2flang_2fString_3b_29Z rfl) (y_ oD18_35) (fun T5 L5 v5 X5 hQ5 => ?_)
  obtain ⟨rfl, N5q, hh5⟩ := hQ5
  have N5 := Fr.app N0 N5q
  show o_G p e below _ T5 (mkF m 38 #[vR b, vR y] [(.int (if o_pref ([] : List Int32) ([] : List Int32) = true then 1 else 0 : Int32))])
  exact o_retN X5 hx (t := .boolean) hrt hlk (by simp) (y_ oD18_38) o_narB (by decide) (by decide) (o_hQ hh5 ⟨rfl, N5, rfl⟩)
abbrev Qmt0_1 (Z : State) (b : Addr) (y : Addr) (x : Addr) (t : Addr) (u : Addr) (c0 : Int32) (B : Int32) (A : Int32) (zC_ : Int32) (h0 : Heap) (n0 : Nat) (v : Option Value) (h : Heap) (L : List Loc) : Prop := v = some (.int (if ¬ B = 0 ∧ ¬ A = 0 then (if o_occ ([] : List Int32) ([c0] : List Int32) = true then 1 else 0) else if ¬ B = 0 then 0 else if ¬ A = 0 then 0 else (if ([] : List Int32) = ([c0] : List Int32) then 1 else 0))) ∧ Fr n0 L ∧ h = h0
set_option maxRecDepth 65536 in
set_option maxHeartbeats 40000000 in
theorem rmmt0_1 (l : Launch) (Z : State) (a0 : Array Value) (hw : ∀ d ∈ tables_1, d.before a0 Z = true) (ws : List Jvm.Cond) (b : Addr) (y : Addr) (x : Addr) (t : Addr) (u : Addr) (c0 : Int32) (B : Int32) (A : Int32) (zC_ : Int32) (h0 : Heap) (n0 : Nat) (O0 : Old Z n0 h0) (F_k : Fld Z h0 b "org/adviceweft/pointcut/NamePattern" "core" "Ljava/lang/String;" (.ref x)) (F_b : Fld Z h0 b "org/adviceweft/pointcut/NamePattern" "anyBefore" "Z" (.int B)) (F_a : Fld Z h0 b "org/adviceweft/pointcut/NamePattern" "anyAfter" "Z" (.int A)) (S_x : o_Str Z h0 x t ([c0] : List Int32)) (S_y : o_Str Z h0 y u ([] : List Int32)) (SC_ : o_SC Z zC_) (hC_ : ¬ zC_ = 0) :
    o_Met l Z o_m21 prog_8_method_3_code 2 (some .boolean) ws o_R8 #[(.ref b), (.ref y)] h0 (Qmt0_1 Z b y x t u c0 B A zC_ h0 n0) := by
  refine o_enter o_pn_6 (fun m => o_ef1 m b y) (fun p e s m below meth c s₁ hx hby hml hZ hown hnm hlk hrt X0 e0 => ?_)
  have N0 := Fr.nil n0
  have y_ := @hb _ _ hby
  have k_ := @o_k _ _ hw
  refine o_aloadN X0 hx (y_ oD18_0) rfl rfl ?_
  refine o_getF X0 hx hZ hown (host := "") (Or.inl (k_ 97 rfl)) Via.refl e0 F_b (y_ oD18_1) (fun T1 X1 e1 => ?_)
  refine o_iF (t := 23) X1 hx (y_ oD18_4) (fun hq => ?_) (fun hq => ?_)
  · have hc4_2 := o_h_eq.1 hq
    refine o_aloadN X1 hx (y_ oD18_23) rfl rfl ?_
    refine o_getF X1 hx hZ hown (host := "") (Or.inl (k_ 97 rfl)) Via.refl e1 F_b (y_ oD18_24) (fun T3 X3 e3 => ?_)
    refine o_iF (t := 39) X3 hx (y_ oD18_27) (fun hq => ?_) (fun hq => ?_)
    · have hc27_4 := o_h_eq.1 hq
      refine o_aloadN X3 hx (y_ oD18_39) rfl rfl ?_
      refine o_getF X3 hx hZ hown (host := "") (Or.inl (k_ 99 rfl)) Via.refl e3 F_a (y_ oD18_40) (fun T5 X5 e5 => ?_)
      refine o_iF (t := 55) X5 hx (y_ oD18_43) (fun hq => ?_) (fun hq => ?_)
      · have hc43_6 := o_h_eq.1 hq
        refine o_aloadN X5 hx (y_ oD18_55) rfl rfl ?_
        refine o_aloadN X5 hx (y_ oD18_56) rfl rfl ?_
        refine o_getF X5 hx hZ hown (host := "") (Or.inl (k_ 95 rfl)) Via.refl e5 F_k (y_ oD18_57) (fun T7 X7 e7 => ?_)
        refine o_vir (y := o_m22) (b := y) (argsL := [(.ref x)]) (S := []) (W := 0) X7 hx hZ hown (k_ 129 rfl) (k_ 130 rfl) (k_ 132 rfl) (k_ 131 rfl) (o_eqB (W := 0) hZ hw (k_ 9 rfl) O0 S_y S_x SC_ hC_ (by decide) (by decide)) e7 S_y.1 hml (lenOf o_pd__28Ljava_2flang_2fObject_3b_29Z rfl) (y_ oD18_60) (fun T8 L8 v8 X8 hQ8 => ?_)
        obtain ⟨rfl, rfl, hh8⟩ := hQ8
        have N8 := Fr.app N0 (Fr.nil n0)
        show o_G p e below _ T8 (mkF m 63 #[vR b, vR y] [(.int (if ([] : List Int32) = ([c0] : List Int32) then 1 else 0 : Int32))])
        exact o_retN X8 hx (t := .boolean) hrt hlk (by simp) (y_ oD18_63) o_narB (by decide) (by decide) (o_hQ hh8 ⟨by rw [if_neg (fun q : ¬ B = 0 ∧ ¬ A = 0 => q.1 hc4_2), if_neg (fun q : ¬ B = 0 => q hc4_2), if_neg (fun q : ¬ A = 0 => q hc43_6)], N8, rfl⟩)
      have hc43_6 := o_h_eq.2 hq
      refine o_aloadN X5 hx (y_ oD18_46) rfl rfl ?_
      refine o_aloadN X5 hx (y_ oD18_47) rfl rfl ?_
      refine o_getF X5 hx hZ hown (host := "") (Or.inl (k_ 95 rfl)) Via.refl e5 F_k (y_ oD18_48) (fun T9 X9 e9 => ?_)
      refine o_vir (y := o_m18) (b := y) (argsL := [(.ref x)]) (S := []) (W := 0) X9 hx hZ hown (k_ 138 rfl) (k_ 139 rfl) (k_ 141 rfl) (k_ 140 rfl) (backOf (W := 0) (rmst0_1 l Z a0 hw [] y x u t c0 zC_ h0 n0 O0 S_y S_x SC_ hC_) hZ (k_ 142 rfl) (k_ 10 rfl) (by decide) (by decide)) e9 S_y.1 hml (lenOf o_pd__28Ljava_2flang_2fString_3b_29Z rfl) (y_ oD18_51) (fun T10 L10 v10 X10 hQ10 => ?_)
      obtain ⟨rfl, N10q, hh10⟩ := hQ10
      have N10 := Fr.app N0 N10q
      show o_G p e below _ T10 (mkF m 54 #[vR b, vR y] [(.int 0)])
      exact o_retN X10 hx (t := .boolean) hrt hlk (by simp) (y_ oD18_54) rfl (by decide) (by decide) (o_hQ hh10 ⟨by rw [if_neg (fun q : ¬ B = 0 ∧ ¬ A = 0 => q.1 hc4_2), if_neg (fun q : ¬ B = 0 => q hc4_2), if_pos (c := ¬ A = 0) hc43_6], N10, rfl⟩)
    have hc27_4 := o_h_eq.2 hq
    exact absurd hc4_2 hc27_4
  have hc4_2 := o_h_eq.2 hq
  refine o_aloadN X1 hx (y_ oD18_7) rfl rfl ?_
  refine o_getF X1 hx hZ hown (host := "") (Or.inl (k_ 99 rfl)) Via.refl e1 F_a (y_ oD18_8) (fun T11 X11 e11 => ?_)
  refine o_iF (t := 23) X11 hx (y_ oD18_11) (fun hq => ?_) (fun hq => ?_)
  · have hc11_12 := o_h_eq.1 hq
    refine o_aloadN X11 hx (y_ oD18_23) rfl rfl ?_
    refine o_getF X11 hx hZ hown (host := "") (Or.inl (k_ 97 rfl)) Via.refl e11 F_b (y_ oD18_24) (fun T13 X13 e13 => ?_)
    refine o_iF (t := 39) X13 hx (y_ oD18_27) (fun hq => ?_) (fun hq => ?_)
    · have hc27_14 := o_h_eq.1 hq
      exact absurd hc27_14 hc4_2
    have hc27_14 := o_h_eq.2 hq
    refine o_aloadN X13 hx (y_ oD18_30) rfl rfl ?_
    refine o_aloadN X13 hx (y_ oD18_31) rfl rfl ?_
    refine o_getF X13 hx hZ hown (host := "") (Or.inl (k_ 95 rfl)) Via.refl e13 F_k (y_ oD18_32) (fun T15 X15 e15 => ?_)
    refine o_vir (y := o_m17) (b := y) (argsL := [(.ref x)]) (S := []) (W := 0) X15 hx hZ hown (k_ 107 rfl) (k_ 108 rfl) (k_ 110 rfl) (k_ 109 rfl) (backOf (W := 0) (rmen0_1 l Z a0 hw [] y x u t c0 zC_ h0 n0 O0 S_y S_x SC_ hC_) hZ (k_ 111 rfl) (k_ 10 rfl) (by decide) (by decide)) e15 S_y.1 hml (lenOf o_pd__28Ljava_2flang_2fString_3b_29Z rfl) (y_ oD18_35) (fun T16 L16 v16 X16 hQ16 => ?_)
    obtain ⟨rfl, N16q, hh16⟩ := hQ16
    have N16 := Fr.app N0 N16q
    show o_G p e below _ T16 (mkF m 38 #[vR b, vR y] [(.int 0)])
    exact o_retN X16 hx (t := .boolean) hrt hlk (by simp) (y_ oD18_38) rfl (by decide) (by decide) (o_hQ hh16 ⟨by rw [if_neg (fun q : ¬ B = 0 ∧ ¬ A = 0 => q.2 hc11_12), if_pos (c := ¬ B = 0) hc4_2], N16, rfl⟩)
  have hc11_12 := o_h_eq.2 hq
  refine o_aloadN X11 hx (y_ oD18_14) rfl rfl ?_
  refine o_aloadN X11 hx (y_ oD18_15) rfl rfl ?_
  refine o_getF X11 hx hZ hown (host := "") (Or.inl (k_ 95 rfl)) Via.refl e11 F_k (y_ oD18_16) (fun T17 X17 e17 => ?_)
  refine o_vir (y := o_m10) (b := y) (argsL := [(.ref x)]) (S := []) (W := 0) X17 hx hZ hown (k_ 54 rfl) (k_ 55 rfl) (k_ 57 rfl) (k_ 56 rfl) (backOf (W := 0) (rmcon0_1 l Z a0 hw [] y x u t c0 zC_ h0 n0 O0 S_y S_x SC_ hC_) hZ (k_ 58 rfl) (k_ 10 rfl) (by decide) (by decide)) e17 S_y.1 hml (lenOf o_pd__28Ljava_2flang_2fCharSequence_3b_29Z rfl) (y_ oD18_19) (fun T18 L18 v18 X18 hQ18 => ?_)
  obtain ⟨rfl, N18q, hh18⟩ := hQ18
  have N18 := Fr.app N0 N18q
  show o_G p e below _ T18 (mkF m 22 #[vR b, vR y] [(.int (if o_occ ([] : List Int32) ([c0] : List Int32) = true then 1 else 0 : Int32))])
  exact o_retN X18 hx (t := .boolean) hrt hlk (by simp) (y_ oD18_22) o_narB (by decide) (by decide) (o_hQ hh18 ⟨by rw [if_pos (c := ¬ B = 0 ∧ ¬ A = 0) ⟨hc4_2, hc11_12⟩], N18, rfl⟩)
abbrev Qmt0_2 (Z : State) (b : Addr) (y : Addr) (x : Addr) (t : Addr) (u : Addr) (c0 : Int32) (c1 : Int32) (B : Int32) (A : Int32) (zC_ : Int32) (h0 : Heap) (n0 : Nat) (v : Option Value) (h : Heap) (L : List Loc) : Prop := v = some (.int (if ¬ B = 0 ∧ ¬ A = 0 then (if o_occ ([] : List Int32) ([c0, c1] : List Int32) = true then 1 else 0) else if ¬ B = 0 then 0 else if ¬ A = 0 then 0 else (if ([] : List Int32) = ([c0, c1] : List Int32) then 1 else 0))) ∧ Fr n0 L ∧ h = h0
set_option maxRecDepth 65536 in
set_option maxHeartbeats 40000000 in
theorem rmmt0_2 (l : Launch) (Z : State) (a0 : Array Value) (hw : ∀ d ∈ tables_1, d.before a0 Z = true) (ws : List Jvm.Cond) (b : Addr) (y : Addr) (x : Addr) (t : Addr) (u : Addr) (c0 : Int32) (c1 : Int32) (B : Int32) (A : Int32) (zC_ : Int32) (h0 : Heap) (n0 : Nat) (O0 : Old Z n0 h0) (F_k : Fld Z h0 b "org/adviceweft/pointcut/NamePattern" "core" "Ljava/lang/String;" (.ref x)) (F_b : Fld Z h0 b "org/adviceweft/pointcut/NamePattern" "anyBefore" "Z" (.int B)) (F_a : Fld Z h0 b "org/adviceweft/pointcut/NamePattern" "anyAfter" "Z" (.int A)) (S_x : o_Str Z h0 x t ([c0, c1] : List Int32)) (S_y : o_Str Z h0 y u ([] : List Int32)) (SC_ : o_SC Z zC_) (hC_ : ¬ zC_ = 0) :
    o_Met l Z o_m21 prog_8_method_3_code 2 (some .boolean) ws o_R8 #[(.ref b), (.ref y)] h0 (Qmt0_2 Z b y x t u c0 c1 B A zC_ h0 n0) := by
  refine o_enter o_pn_6 (fun m => o_ef1 m b y) (fun p e s m below meth c s₁ hx hby hml hZ hown hnm hlk hrt X0 e0 => ?_)
  have N0 := Fr.nil n0
  have y_ := @hb _ _ hby
  have k_ := @o_k _ _ hw
  refine o_aloadN X0 hx (y_ oD18_0) rfl rfl ?_
  refine o_getF X0 hx hZ hown (host := "") (Or.inl (k_ 97 rfl)) Via.refl e0 F_b (y_ oD18_1) (fun T1 X1 e1 => ?_)
  refine o_iF (t := 23) X1 hx (y_ oD18_4) (fun hq => ?_) (fun hq => ?_)
  · have hc4_2 := o_h_eq.1 hq
    refine o_aloadN X1 hx (y_ oD18_23) rfl rfl ?_
    refine o_getF X1 hx hZ hown (host := "") (Or.inl (k_ 97 rfl)) Via.refl e1 F_b (y_ oD18_24) (fun T3 X3 e3 => ?_)
    refine o_iF (t := 39) X3 hx (y_ oD18_27) (fun hq => ?_) (fun hq => ?_)
    · have hc27_4 := o_h_eq.1 hq
      refine o_aloadN X3 hx (y_ oD18_39) rfl rfl ?_
      refine o_getF X3 hx hZ hown (host := "") (Or.inl (k_ 99 rfl)) Via.refl e3 F_a (y_ oD18_40) (fun T5 X5 e5 => ?_)
      refine o_iF (t := 55) X5 hx (y_ oD18_43) (fun hq => ?_) (fun hq => ?_)
      · have hc43_6 := o_h_eq.1 hq
        refine o_aloadN X5 hx (y_ oD18_55) rfl rfl ?_
        refine o_aloadN X5 hx (y_ oD18_56) rfl rfl ?_
        refine o_getF X5 hx hZ hown (host := "") (Or.inl (k_ 95 rfl)) Via.refl e5 F_k (y_ oD18_57) (fun T7 X7 e7 => ?_)
        refine o_vir (y := o_m22) (b := y) (argsL := [(.ref x)]) (S := []) (W := 0) X7 hx hZ hown (k_ 129 rfl) (k_ 130 rfl) (k_ 132 rfl) (k_ 131 rfl) (o_eqB (W := 0) hZ hw (k_ 9 rfl) O0 S_y S_x SC_ hC_ (by decide) (by decide)) e7 S_y.1 hml (lenOf o_pd__28Ljava_2flang_2fObject_3b_29Z rfl) (y_ oD18_60) (fun T8 L8 v8 X8 hQ8 => ?_)
        obtain ⟨rfl, rfl, hh8⟩ := hQ8
        have N8 := Fr.app N0 (Fr.nil n0)
        show o_G p e below _ T8 (mkF m 63 #[vR b, vR y] [(.int (if ([] : List Int32) = ([c0, c1] : List Int32) then 1 else 0 : Int32))])
        exact o_retN X8 hx (t := .boolean) hrt hlk (by simp) (y_ oD18_63) o_narB (by decide) (by decide) (o_hQ hh8 ⟨by rw [if_neg (fun q : ¬ B = 0 ∧ ¬ A = 0 => q.1 hc4_2), if_neg (fun q : ¬ B = 0 => q hc4_2), if_neg (fun q : ¬ A = 0 => q hc43_6)], N8, rfl⟩)
      have hc43_6 := o_h_eq.2 hq
      refine o_aloadN X5 hx (y_ oD18_46) rfl rfl ?_
      refine o_aloadN X5 hx (y_ oD18_47) rfl rfl ?_
      refine o_getF X5 hx hZ hown (host := "") (Or.inl (k_ 95 rfl)) Via.refl e5 F_k (y_ oD18_48) (fun T9 X9 e9 => ?_)
      refine o_vir (y := o_m18) (b := y) (argsL := [(.ref x)]) (S := []) (W := 0) X9 hx hZ hown (k_ 138 rfl) (k_ 139 rfl) (k_ 141 rfl) (k_ 140 rfl) (backOf (W := 0) (rmst0_2 l Z a0 hw [] y x u t c0 c1 zC_ h0 n0 O0 S_y S_x SC_ hC_) hZ (k_ 142 rfl) (k_ 10 rfl) (by decide) (by decide)) e9 S_y.1 hml (lenOf o_pd__28Ljava_2flang_2fString_3b_29Z rfl) (y_ oD18_51) (fun T10 L10 v10 X10 hQ10 => ?_)
      obtain ⟨rfl, N10q, hh10⟩ := hQ10
      have N10 := Fr.app N0 N10q
      show o_G p e below _ T10 (mkF m 54 #[vR b, vR y] [(.int 0)])
      exact o_retN X10 hx (t := .boolean) hrt hlk (by simp) (y_ oD18_54) rfl (by decide) (by decide) (o_hQ hh10 ⟨by rw [if_neg (fun q : ¬ B = 0 ∧ ¬ A = 0 => q.1 hc4_2), if_neg (fun q : ¬ B = 0 => q hc4_2), if_pos (c := ¬ A = 0) hc43_6], N10, rfl⟩)
    have hc27_4 := o_h_eq.2 hq
    exact absurd hc4_2 hc27_4
  have hc4_2 := o_h_eq.2 hq
  refine o_aloadN X1 hx (y_ oD18_7) rfl rfl ?_
  refine o_getF X1 hx hZ hown (host := "") (Or.inl (k_ 99 rfl)) Via.refl e1 F_a (y_ oD18_8) (fun T11 X11 e11 => ?_)
  refine o_iF (t := 23) X11 hx (y_ oD18_11) (fun hq => ?_) (fun hq => ?_)
  · have hc11_12 := o_h_eq.1 hq
    refine o_aloadN X11 hx (y_ oD18_23) rfl rfl ?_
    refine o_getF X11 hx hZ hown (host := "") (Or.inl (k_ 97 rfl)) Via.refl e11 F_b (y_ oD18_24) (fun T13 X13 e13 => ?_)
    refine o_iF (t := 39) X13 hx (y_ oD18_27) (fun hq => ?_) (fun hq => ?_)
    · have hc27_14 := o_h_eq.1 hq
      exact absurd hc27_14 hc4_2
    have hc27_14 := o_h_eq.2 hq
    refine o_aloadN X13 hx (y_ oD18_30) rfl rfl ?_
    refine o_aloadN X13 hx (y_ oD18_31) rfl rfl ?_
    refine o_getF X13 hx hZ hown (host := "") (Or.inl (k_ 95 rfl)) Via.refl e13 F_k (y_ oD18_32) (fun T15 X15 e15 => ?_)
    refine o_vir (y := o_m17) (b := y) (argsL := [(.ref x)]) (S := []) (W := 0) X15 hx hZ hown (k_ 107 rfl) (k_ 108 rfl) (k_ 110 rfl) (k_ 109 rfl) (backOf (W := 0) (rmen0_2 l Z a0 hw [] y x u t c0 c1 zC_ h0 n0 O0 S_y S_x SC_ hC_) hZ (k_ 111 rfl) (k_ 10 rfl) (by decide) (by decide)) e15 S_y.1 hml (lenOf o_pd__28Ljava_2flang_2fString_3b_29Z rfl) (y_ oD18_35) (fun T16 L16 v16 X16 hQ16 => ?_)
    obtain ⟨rfl, N16q, hh16⟩ := hQ16
    have N16 := Fr.app N0 N16q
    show o_G p e below _ T16 (mkF m 38 #[vR b, vR y] [(.int 0)])
    exact o_retN X16 hx (t := .boolean) hrt hlk (by simp) (y_ oD18_38) rfl (by decide) (by decide) (o_hQ hh16 ⟨by rw [if_neg (fun q : ¬ B = 0 ∧ ¬ A = 0 => q.2 hc11_12), if_pos (c := ¬ B = 0) hc4_2], N16, rfl⟩)
  have hc11_12 := o_h_eq.2 hq
  refine o_aloadN X11 hx (y_ oD18_14) rfl rfl ?_
  refine o_aloadN X11 hx (y_ oD18_15) rfl rfl ?_
  refine o_getF X11 hx hZ hown (host := "") (Or.inl (k_ 95 rfl)) Via.refl e11 F_k (y_ oD18_16) (fun T17 X17 e17 => ?_)
  refine o_vir (y := o_m10) (b := y) (argsL := [(.ref x)]) (S := []) (W := 0) X17 hx hZ hown (k_ 54 rfl) (k_ 55 rfl) (k_ 57 rfl) (k_ 56 rfl) (backOf (W := 0) (rmcon0_2 l Z a0 hw [] y x u t c0 c1 zC_ h0 n0 O0 S_y S_x SC_ hC_) hZ (k_ 58 rfl) (k_ 10 rfl) (by decide) (by decide)) e17 S_y.1 hml (lenOf o_pd__28Ljava_2flang_2fCharSequence_3b_29Z rfl) (y_ oD18_19) (fun T18 L18 v18 X18 hQ18 => ?_)
  obtain ⟨rfl, N18q, hh18⟩ := hQ18
  have N18 := Fr.app N0 N18q
  show o_G p e below _ T18 (mkF m 22 #[vR b, vR y] [(.int (if o_occ ([] : List Int32) ([c0, c1] : List Int32) = true then 1 else 0 : Int32))])
  exact o_retN X18 hx (t := .boolean) hrt hlk (by simp) (y_ oD18_22) o_narB (by decide) (by decide) (o_hQ hh18 ⟨by rw [if_pos (c := ¬ B = 0 ∧ ¬ A = 0) ⟨hc4_2, hc11_12⟩], N18, rfl⟩)
abbrev Qmt1_0 (Z : State) (b : Addr) (y : Addr) (x : Addr) (t : Addr) (u : Addr) (v0 : Int32) (zC_ : Int32) (h0 : Heap) (n0 : Nat) (v : Option Value) (h : Heap) (L : List Loc) : Prop := v = some (.int (if o_pref ([] : List Int32) ([] : List Int32) = true then 1 else 0)) ∧ Fr n0 L ∧ h = h0
set_option maxRecDepth 65536 in
set_option maxHeartbeats 40000000 in
theorem rmmt1_0 (l : Launch) (Z : State) (a0 : Array Value) (hw : ∀ d ∈ tables_1, d.before a0 Z = true) (ws : List Jvm.Cond) (b : Addr) (y : Addr) (x : Addr) (t : Addr) (u : Addr) (v0 : Int32) (zC_ : Int32) (h0 : Heap) (n0 : Nat) (O0 : Old Z n0 h0) (F_k : Fld Z h0 b "org/adviceweft/pointcut/NamePattern" "core" "Ljava/lang/String;" (.ref x)) (F_b : Fld Z h0 b "org/adviceweft/pointcut/NamePattern" "anyBefore" "Z" (.int 1)) (F_a : Fld Z h0 b "org/adviceweft/pointcut/NamePattern" "anyAfter" "Z" (.int 0)) (S_x : o_Str Z h0 x t ([] : List Int32)) (S_y : o_Str Z h0 y u ([v0] : List Int32)) (SC_ : o_SC Z zC_) (hC_ : ¬ zC_ = 0) :
    o_Met l Z o_m21 prog_8_method_3_code 2 (some .boolean) ws o_R8 #[(.ref b), (.ref y)] h0 (Qmt1_0 Z b y x t u v0 zC_ h0 n0) := by
  refine o_enter o_pn_6 (fun m => o_ef1 m b y) (fun p e s m below meth c s₁ hx hby hml hZ hown hnm hlk hrt X0 e0 => ?_)
  have N0 := Fr.nil n0
  have y_ := @hb _ _ hby
  have k_ := @o_k _ _ hw
  refine o_aloadN X0 hx (y_ oD18_0) rfl rfl ?_
  refine o_getF X0 hx hZ hown (host := "") (Or.inl (k_ 97 rfl)) Via.refl e0 F_b (y_ oD18_1) (fun T1 X1 e1 => ?_)
  refine o_iFF X1 hx (y_ oD18_4) ?_
  refine o_aloadN X1 hx (y_ oD18_7) rfl rfl ?_
  refine o_getF X1 hx hZ hown (host := "") (Or.inl (k_ 99 rfl)) Via.refl e1 F_a (y_ oD18_8) (fun T2 X2 e2 => ?_)
  refine o_iFT (t := 23) X2 hx (y_ oD18_11) ?_
  refine o_aloadN X2 hx (y_ oD18_23) rfl rfl ?_
  refine o_getF X2 hx hZ hown (host := "") (Or.inl (k_ 97 rfl)) Via.refl e2 F_b (y_ oD18_24) (fun T3 X3 e3 => ?_)
  refine o_iFF X3 hx (y_ oD18_27) ?_
  refine o_aloadN X3 hx (y_ oD18_30) rfl rfl ?_
  refine o_aloadN X3 hx (y_ oD18_31) rfl rfl ?_
  refine o_getF X3 hx hZ hown (host := "") (Or.inl (k_ 95 rfl)) Via.refl e3 F_k (y_ oD18_32) (fun T4 X4 e4 => ?_)
  refine o_vir (y := o_m17) (b := y) (argsL := [(.ref x)]) (S := []) (W := 0) X4 hx hZ hown (k_ 107 rfl) (k_ 108 rfl) (k_ 110 rfl) (k_ 109 rfl) (backOf (W := 0) (rmen1_0 l Z a0 hw [] y x u t v0 zC_ h0 n0 O0 S_y S_x SC_ hC_) hZ (k_ 111 rfl) (k_ 10 rfl) (by decide) (by decide)) e4 S_y.1 hml (lenOf o_pd__28Ljava_2flang_2fString_3b_29Z rfl) (y_ oD18_35) (fun T5 L5 v5 X5 hQ5 => ?_)
  obtain ⟨rfl, N5q, hh5⟩ := hQ5
  have N5 := Fr.app N0 N5q
  show o_G p e below _ T5 (mkF m 38 #[vR b, vR y] [(.int (if o_pref ([] : List Int32) ([] : List Int32) = true then 1 else 0 : Int32))])
  exact o_retN X5 hx (t := .boolean) hrt hlk (by simp) (y_ oD18_38) o_narB (by decide) (by decide) (o_hQ hh5 ⟨rfl, N5, rfl⟩)
abbrev Qmt1_1 (Z : State) (b : Addr) (y : Addr) (x : Addr) (t : Addr) (u : Addr) (v0 : Int32) (c0 : Int32) (B : Int32) (A : Int32) (zC_ : Int32) (h0 : Heap) (n0 : Nat) (v : Option Value) (h : Heap) (L : List Loc) : Prop := v = some (.int (if ¬ B = 0 ∧ ¬ A = 0 then (if o_occ ([v0] : List Int32) ([c0] : List Int32) = true then 1 else 0) else if ¬ B = 0 then (if o_pref ([v0] : List Int32) ([c0] : List Int32) = true then 1 else 0) else if ¬ A = 0 then (if o_pref ([v0] : List Int32) ([c0] : List Int32) = true then 1 else 0) else (if ([v0] : List Int32) = ([c0] : List Int32) then 1 else 0))) ∧ Fr n0 L ∧ h = h0
set_option maxRecDepth 65536 in
set_option maxHeartbeats 40000000 in
theorem rmmt1_1 (l : Launch) (Z : State) (a0 : Array Value) (hw : ∀ d ∈ tables_1, d.before a0 Z = true) (ws : List Jvm.Cond) (b : Addr) (y : Addr) (x : Addr) (t : Addr) (u : Addr) (v0 : Int32) (c0 : Int32) (B : Int32) (A : Int32) (zC_ : Int32) (h0 : Heap) (n0 : Nat) (O0 : Old Z n0 h0) (F_k : Fld Z h0 b "org/adviceweft/pointcut/NamePattern" "core" "Ljava/lang/String;" (.ref x)) (F_b : Fld Z h0 b "org/adviceweft/pointcut/NamePattern" "anyBefore" "Z" (.int B)) (F_a : Fld Z h0 b "org/adviceweft/pointcut/NamePattern" "anyAfter" "Z" (.int A)) (S_x : o_Str Z h0 x t ([c0] : List Int32)) (S_y : o_Str Z h0 y u ([v0] : List Int32)) (SC_ : o_SC Z zC_) (hC_ : ¬ zC_ = 0) :
    o_Met l Z o_m21 prog_8_method_3_code 2 (some .boolean) ws o_R8 #[(.ref b), (.ref y)] h0 (Qmt1_1 Z b y x t u v0 c0 B A zC_ h0 n0) := by
  refine o_enter o_pn_6 (fun m => o_ef1 m b y) (fun p e s m below meth c s₁ hx hby hml hZ hown hnm hlk hrt X0 e0 => ?_)
  have N0 := Fr.nil n0
  have y_ := @hb _ _ hby
  have k_ := @o_k _ _ hw
  refine o_aloadN X0 hx (y_ oD18_0) rfl rfl ?_
  refine o_getF X0 hx hZ hown (host := "") (Or.inl (k_ 97 rfl)) Via.refl e0 F_b (y_ oD18_1) (fun T1 X1 e1 => ?_)
  refine o_iF (t := 23) X1 hx (y_ oD18_4) (fun hq => ?_) (fun hq => ?_)
  · have hc4_2 := o_h_eq.1 hq
    refine o_aloadN X1 hx (y_ oD18_23) rfl rfl ?_
    refine o_getF X1 hx hZ hown (host := "") (Or.inl (k_ 97 rfl)) Via.refl e1 F_b (y_ oD18_24) (fun T3 X3 e3 => ?_)
    refine o_iF (t := 39) X3 hx (y_ oD18_27) (fun hq => ?_) (fun hq => ?_)
    · have hc27_4 := o_h_eq.1 hq
      refine o_aloadN X3 hx (y_ oD18_39) rfl rfl ?_
      refine o_getF X3 hx hZ hown (host := "") (Or.inl (k_ 99 rfl)) Via.refl e3 F_a (y_ oD18_40) (fun T5 X5 e5 => ?_)
      refine o_iF (t := 55) X5 hx (y_ oD18_43) (fun hq => ?_) (fun hq => ?_)
      · have hc43_6 := o_h_eq.1 hq
        refine o_aloadN X5 hx (y_ oD18_55) rfl rfl ?_
        refine o_aloadN X5 hx (y_ oD18_56) rfl rfl ?_
        refine o_getF X5 hx hZ hown (host := "") (Or.inl (k_ 95 rfl)) Via.refl e5 F_k (y_ oD18_57) (fun T7 X7 e7 => ?_)
        refine o_vir (y := o_m22) (b := y) (argsL := [(.ref x)]) (S := []) (W := 0) X7 hx hZ hown (k_ 129 rfl) (k_ 130 rfl) (k_ 132 rfl) (k_ 131 rfl) (o_eqB (W := 0) hZ hw (k_ 9 rfl) O0 S_y S_x SC_ hC_ (by decide) (by decide)) e7 S_y.1 hml (lenOf o_pd__28Ljava_2flang_2fObject_3b_29Z rfl) (y_ oD18_60) (fun T8 L8 v8 X8 hQ8 => ?_)
        obtain ⟨rfl, rfl, hh8⟩ := hQ8
        have N8 := Fr.app N0 (Fr.nil n0)
        show o_G p e below _ T8 (mkF m 63 #[vR b, vR y] [(.int (if ([v0] : List Int32) = ([c0] : List Int32) then 1 else 0 : Int32))])
        exact o_retN X8 hx (t := .boolean) hrt hlk (by simp) (y_ oD18_63) o_narB (by decide) (by decide) (o_hQ hh8 ⟨by rw [if_neg (fun q : ¬ B = 0 ∧ ¬ A = 0 => q.1 hc4_2), if_neg (fun q : ¬ B = 0 => q hc4_2), if_neg (fun q : ¬ A = 0 => q hc43_6)], N8, rfl⟩)
      have hc43_6 := o_h_eq.2 hq
      refine o_aloadN X5 hx (y_ oD18_46) rfl rfl ?_
      refine o_aloadN X5 hx (y_ oD18_47) rfl rfl ?_
      refine o_getF X5 hx hZ hown (host := "") (Or.inl (k_ 95 rfl)) Via.refl e5 F_k (y_ oD18_48) (fun T9 X9 e9 => ?_)
      refine o_vir (y := o_m18) (b := y) (argsL := [(.ref x)]) (S := []) (W := 0) X9 hx hZ hown (k_ 138 rfl) (k_ 139 rfl) (k_ 141 rfl) (k_ 140 rfl) (backOf (W := 0) (rmst1_1 l Z a0 hw [] y x u t v0 c0 zC_ h0 n0 O0 S_y S_x SC_ hC_) hZ (k_ 142 rfl) (k_ 10 rfl) (by decide) (by decide)) e9 S_y.1 hml (lenOf o_pd__28Ljava_2flang_2fString_3b_29Z rfl) (y_ oD18_51) (fun T10 L10 v10 X10 hQ10 => ?_)
      obtain ⟨rfl, N10q, hh10⟩ := hQ10
      have N10 := Fr.app N0 N10q
      show o_G p e below _ T10 (mkF m 54 #[vR b, vR y] [(.int (if o_pref ([v0] : List Int32) ([c0] : List Int32) = true then 1 else 0 : Int32))])
      exact o_retN X10 hx (t := .boolean) hrt hlk (by simp) (y_ oD18_54) o_narB (by decide) (by decide) (o_hQ hh10 ⟨by rw [if_neg (fun q : ¬ B = 0 ∧ ¬ A = 0 => q.1 hc4_2), if_neg (fun q : ¬ B = 0 => q hc4_2), if_pos (c := ¬ A = 0) hc43_6], N10, rfl⟩)
    have hc27_4 := o_h_eq.2 hq
    exact absurd hc4_2 hc27_4
  have hc4_2 := o_h_eq.2 hq
  refine o_aloadN X1 hx (y_ oD18_7) rfl rfl ?_
  refine o_getF X1 hx hZ hown (host := "") (Or.inl (k_ 99 rfl)) Via.refl e1 F_a (y_ oD18_8) (fun T11 X11 e11 => ?_)
  refine o_iF (t := 23) X11 hx (y_ oD18_11) (fun hq => ?_) (fun hq => ?_)
  · have hc11_12 := o_h_eq.1 hq
    refine o_aloadN X11 hx (y_ oD18_23) rfl rfl ?_
    refine o_getF X11 hx hZ hown (host := "") (Or.inl (k_ 97 rfl)) Via.refl e11 F_b (y_ oD18_24) (fun T13 X13 e13 => ?_)
    refine o_iF (t := 39) X13 hx (y_ oD18_27) (fun hq => ?_) (fun hq => ?_)
    · have hc27_14 := o_h_eq.1 hq
      exact absurd hc27_14 hc4_2
    have hc27_14 := o_h_eq.2 hq
    refine o_aloadN X13 hx (y_ oD18_30) rfl rfl ?_
    refine o_aloadN X13 hx (y_ oD18_31) rfl rfl ?_
    refine o_getF X13 hx hZ hown (host := "") (Or.inl (k_ 95 rfl)) Via.refl e13 F_k (y_ oD18_32) (fun T15 X15 e15 => ?_)
    refine o_vir (y := o_m17) (b := y) (argsL := [(.ref x)]) (S := []) (W := 0) X15 hx hZ hown (k_ 107 rfl) (k_ 108 rfl) (k_ 110 rfl) (k_ 109 rfl) (backOf (W := 0) (rmen1_1 l Z a0 hw [] y x u t v0 c0 zC_ h0 n0 O0 S_y S_x SC_ hC_) hZ (k_ 111 rfl) (k_ 10 rfl) (by decide) (by decide)) e15 S_y.1 hml (lenOf o_pd__28Ljava_2flang_2fString_3b_29Z rfl) (y_ oD18_35) (fun T16 L16 v16 X16 hQ16 => ?_)
    obtain ⟨rfl, N16q, hh16⟩ := hQ16
    have N16 := Fr.app N0 N16q
    show o_G p e below _ T16 (mkF m 38 #[vR b, vR y] [(.int (if o_pref ([v0] : List Int32) ([c0] : List Int32) = true then 1 else 0 : Int32))])
    exact o_retN X16 hx (t := .boolean) hrt hlk (by simp) (y_ oD18_38) o_narB (by decide) (by decide) (o_hQ hh16 ⟨by rw [if_neg (fun q : ¬ B = 0 ∧ ¬ A = 0 => q.2 hc11_12), if_pos (c := ¬ B = 0) hc4_2], N16, rfl⟩)
  have hc11_12 := o_h_eq.2 hq
  refine o_aloadN X11 hx (y_ oD18_14) rfl rfl ?_
  refine o_aloadN X11 hx (y_ oD18_15) rfl rfl ?_
  refine o_getF X11 hx hZ hown (host := "") (Or.inl (k_ 95 rfl)) Via.refl e11 F_k (y_ oD18_16) (fun T17 X17 e17 => ?_)
  refine o_vir (y := o_m10) (b := y) (argsL := [(.ref x)]) (S := []) (W := 0) X17 hx hZ hown (k_ 54 rfl) (k_ 55 rfl) (k_ 57 rfl) (k_ 56 rfl) (backOf (W := 0) (rmcon1_1 l Z a0 hw [] y x u t v0 c0 zC_ h0 n0 O0 S_y S_x SC_ hC_) hZ (k_ 58 rfl) (k_ 10 rfl) (by decide) (by decide)) e17 S_y.1 hml (lenOf o_pd__28Ljava_2flang_2fCharSequence_3b_29Z rfl) (y_ oD18_19) (fun T18 L18 v18 X18 hQ18 => ?_)
  obtain ⟨rfl, N18q, hh18⟩ := hQ18
  have N18 := Fr.app N0 N18q
  show o_G p e below _ T18 (mkF m 22 #[vR b, vR y] [(.int (if o_occ ([v0] : List Int32) ([c0] : List Int32) = true then 1 else 0 : Int32))])
  exact o_retN X18 hx (t := .boolean) hrt hlk (by simp) (y_ oD18_22) o_narB (by decide) (by decide) (o_hQ hh18 ⟨by rw [if_pos (c := ¬ B = 0 ∧ ¬ A = 0) ⟨hc4_2, hc11_12⟩], N18, rfl⟩)
abbrev Qmt1_2 (Z : State) (b : Addr) (y : Addr) (x : Addr) (t : Addr) (u : Addr) (v0 : Int32) (c0 : Int32) (c1 : Int32) (B : Int32) (A : Int32) (zC_ : Int32) (h0 : Heap) (n0 : Nat) (v : Option Value) (h : Heap) (L : List Loc) : Prop := v = some (.int (if ¬ B = 0 ∧ ¬ A = 0 then (if o_occ ([v0] : List Int32) ([c0, c1] : List Int32) = true then 1 else 0) else if ¬ B = 0 then 0 else if ¬ A = 0 then 0 else (if ([v0] : List Int32) = ([c0, c1] : List Int32) then 1 else 0))) ∧ Fr n0 L ∧ h = h0
set_option maxRecDepth 65536 in
set_option maxHeartbeats 40000000 in
theorem rmmt1_2 (l : Launch) (Z : State) (a0 : Array Value) (hw : ∀ d ∈ tables_1, d.before a0 Z = true) (ws : List Jvm.Cond) (b : Addr) (y : Addr) (x : Addr) (t : Addr) (u : Addr) (v0 : Int32) (c0 : Int32) (c1 : Int32) (B : Int32) (A : Int32) (zC_ : Int32) (h0 : Heap) (n0 : Nat) (O0 : Old Z n0 h0) (F_k : Fld Z h0 b "org/adviceweft/pointcut/NamePattern" "core" "Ljava/lang/String;" (.ref x)) (F_b : Fld Z h0 b "org/adviceweft/pointcut/NamePattern" "anyBefore" "Z" (.int B)) (F_a : Fld Z h0 b "org/adviceweft/pointcut/NamePattern" "anyAfter" "Z" (.int A)) (S_x : o_Str Z h0 x t ([c0, c1] : List Int32)) (S_y : o_Str Z h0 y u ([v0] : List Int32)) (SC_ : o_SC Z zC_) (hC_ : ¬ zC_ = 0) :
    o_Met l Z o_m21 prog_8_method_3_code 2 (some .boolean) ws o_R8 #[(.ref b), (.ref y)] h0 (Qmt1_2 Z b y x t u v0 c0 c1 B A zC_ h0 n0) := by
  refine o_enter o_pn_6 (fun m => o_ef1 m b y) (fun p e s m below meth c s₁ hx hby hml hZ hown hnm hlk hrt X0 e0 => ?_)
  have N0 := Fr.nil n0
  have y_ := @hb _ _ hby
  have k_ := @o_k _ _ hw
  refine o_aloadN X0 hx (y_ oD18_0) rfl rfl ?_
  refine o_getF X0 hx hZ hown (host := "") (Or.inl (k_ 97 rfl)) Via.refl e0 F_b (y_ oD18_1) (fun T1 X1 e1 => ?_)
  refine o_iF (t := 23) X1 hx (y_ oD18_4) (fun hq => ?_) (fun hq => ?_)
  · have hc4_2 := o_h_eq.1 hq
    refine o_aloadN X1 hx (y_ oD18_23) rfl rfl ?_
    refine o_getF X1 hx hZ hown (host := "") (Or.inl (k_ 97 rfl)) Via.refl e1 F_b (y_ oD18_24) (fun T3 X3 e3 => ?_)
    refine o_iF (t := 39) X3 hx (y_ oD18_27) (fun hq => ?_) (fun hq => ?_)
    · have hc27_4 := o_h_eq.1 hq
      refine o_aloadN X3 hx (y_ oD18_39) rfl rfl ?_
      refine o_getF X3 hx hZ hown (host := "") (Or.inl (k_ 99 rfl)) Via.refl e3 F_a (y_ oD18_40) (fun T5 X5 e5 => ?_)
      refine o_iF (t := 55) X5 hx (y_ oD18_43) (fun hq => ?_) (fun hq => ?_)
      · have hc43_6 := o_h_eq.1 hq
        refine o_aloadN X5 hx (y_ oD18_55) rfl rfl ?_
        refine o_aloadN X5 hx (y_ oD18_56) rfl rfl ?_
        refine o_getF X5 hx hZ hown (host := "") (Or.inl (k_ 95 rfl)) Via.refl e5 F_k (y_ oD18_57) (fun T7 X7 e7 => ?_)
        refine o_vir (y := o_m22) (b := y) (argsL := [(.ref x)]) (S := []) (W := 0) X7 hx hZ hown (k_ 129 rfl) (k_ 130 rfl) (k_ 132 rfl) (k_ 131 rfl) (o_eqB (W := 0) hZ hw (k_ 9 rfl) O0 S_y S_x SC_ hC_ (by decide) (by decide)) e7 S_y.1 hml (lenOf o_pd__28Ljava_2flang_2fObject_3b_29Z rfl) (y_ oD18_60) (fun T8 L8 v8 X8 hQ8 => ?_)
        obtain ⟨rfl, rfl, hh8⟩ := hQ8
        have N8 := Fr.app N0 (Fr.nil n0)
        show o_G p e below _ T8 (mkF m 63 #[vR b, vR y] [(.int (if ([v0] : List Int32) = ([c0, c1] : List Int32) then 1 else 0 : Int32))])
        exact o_retN X8 hx (t := .boolean) hrt hlk (by simp) (y_ oD18_63) o_narB (by decide) (by decide) (o_hQ hh8 ⟨by rw [if_neg (fun q : ¬ B = 0 ∧ ¬ A = 0 => q.1 hc4_2), if_neg (fun q : ¬ B = 0 => q hc4_2), if_neg (fun q : ¬ A = 0 => q hc43_6)], N8, rfl⟩)
      have hc43_6 := o_h_eq.2 hq
      refine o_aloadN X5 hx (y_ oD18_46) rfl rfl ?_
      refine o_aloadN X5 hx (y_ oD18_47) rfl rfl ?_
      refine o_getF X5 hx hZ hown (host := "") (Or.inl (k_ 95 rfl)) Via.refl e5 F_k (y_ oD18_48) (fun T9 X9 e9 => ?_)
      refine o_vir (y := o_m18) (b := y) (argsL := [(.ref x)]) (S := []) (W := 0) X9 hx hZ hown (k_ 138 rfl) (k_ 139 rfl) (k_ 141 rfl) (k_ 140 rfl) (backOf (W := 0) (rmst1_2 l Z a0 hw [] y x u t v0 c0 c1 zC_ h0 n0 O0 S_y S_x SC_ hC_) hZ (k_ 142 rfl) (k_ 10 rfl) (by decide) (by decide)) e9 S_y.1 hml (lenOf o_pd__28Ljava_2flang_2fString_3b_29Z rfl) (y_ oD18_51) (fun T10 L10 v10 X10 hQ10 => ?_)
      obtain ⟨rfl, N10q, hh10⟩ := hQ10
      have N10 := Fr.app N0 N10q
      show o_G p e below _ T10 (mkF m 54 #[vR b, vR y] [(.int 0)])
      exact o_retN X10 hx (t := .boolean) hrt hlk (by simp) (y_ oD18_54) rfl (by decide) (by decide) (o_hQ hh10 ⟨by rw [if_neg (fun q : ¬ B = 0 ∧ ¬ A = 0 => q.1 hc4_2), if_neg (fun q : ¬ B = 0 => q hc4_2), if_pos (c := ¬ A = 0) hc43_6], N10, rfl⟩)
    have hc27_4 := o_h_eq.2 hq
    exact absurd hc4_2 hc27_4
  have hc4_2 := o_h_eq.2 hq
  refine o_aloadN X1 hx (y_ oD18_7) rfl rfl ?_
  refine o_getF X1 hx hZ hown (host := "") (Or.inl (k_ 99 rfl)) Via.refl e1 F_a (y_ oD18_8) (fun T11 X11 e11 => ?_)
  refine o_iF (t := 23) X11 hx (y_ oD18_11) (fun hq => ?_) (fun hq => ?_)
  · have hc11_12 := o_h_eq.1 hq
    refine o_aloadN X11 hx (y_ oD18_23) rfl rfl ?_
    refine o_getF X11 hx hZ hown (host := "") (Or.inl (k_ 97 rfl)) Via.refl e11 F_b (y_ oD18_24) (fun T13 X13 e13 => ?_)
    refine o_iF (t := 39) X13 hx (y_ oD18_27) (fun hq => ?_) (fun hq => ?_)
    · have hc27_14 := o_h_eq.1 hq
      exact absurd hc27_14 hc4_2
    have hc27_14 := o_h_eq.2 hq
    refine o_aloadN X13 hx (y_ oD18_30) rfl rfl ?_
    refine o_aloadN X13 hx (y_ oD18_31) rfl rfl ?_
    refine o_getF X13 hx hZ hown (host := "") (Or.inl (k_ 95 rfl)) Via.refl e13 F_k (y_ oD18_32) (fun T15 X15 e15 => ?_)
    refine o_vir (y := o_m17) (b := y) (argsL := [(.ref x)]) (S := []) (W := 0) X15 hx hZ hown (k_ 107 rfl) (k_ 108 rfl) (k_ 110 rfl) (k_ 109 rfl) (backOf (W := 0) (rmen1_2 l Z a0 hw [] y x u t v0 c0 c1 zC_ h0 n0 O0 S_y S_x SC_ hC_) hZ (k_ 111 rfl) (k_ 10 rfl) (by decide) (by decide)) e15 S_y.1 hml (lenOf o_pd__28Ljava_2flang_2fString_3b_29Z rfl) (y_ oD18_35) (fun T16 L16 v16 X16 hQ16 => ?_)
    obtain ⟨rfl, N16q, hh16⟩ := hQ16
    have N16 := Fr.app N0 N16q
    show o_G p e below _ T16 (mkF m 38 #[vR b, vR y] [(.int 0)])
    exact o_retN X16 hx (t := .boolean) hrt hlk (by simp) (y_ oD18_38) rfl (by decide) (by decide) (o_hQ hh16 ⟨by rw [if_neg (fun q : ¬ B = 0 ∧ ¬ A = 0 => q.2 hc11_12), if_pos (c := ¬ B = 0) hc4_2], N16, rfl⟩)
  have hc11_12 := o_h_eq.2 hq
  refine o_aloadN X11 hx (y_ oD18_14) rfl rfl ?_
  refine o_aloadN X11 hx (y_ oD18_15) rfl rfl ?_
  refine o_getF X11 hx hZ hown (host := "") (Or.inl (k_ 95 rfl)) Via.refl e11 F_k (y_ oD18_16) (fun T17 X17 e17 => ?_)
  refine o_vir (y := o_m10) (b := y) (argsL := [(.ref x)]) (S := []) (W := 0) X17 hx hZ hown (k_ 54 rfl) (k_ 55 rfl) (k_ 57 rfl) (k_ 56 rfl) (backOf (W := 0) (rmcon1_2 l Z a0 hw [] y x u t v0 c0 c1 zC_ h0 n0 O0 S_y S_x SC_ hC_) hZ (k_ 58 rfl) (k_ 10 rfl) (by decide) (by decide)) e17 S_y.1 hml (lenOf o_pd__28Ljava_2flang_2fCharSequence_3b_29Z rfl) (y_ oD18_19) (fun T18 L18 v18 X18 hQ18 => ?_)
  obtain ⟨rfl, N18q, hh18⟩ := hQ18
  have N18 := Fr.app N0 N18q
  show o_G p e below _ T18 (mkF m 22 #[vR b, vR y] [(.int (if o_occ ([v0] : List Int32) ([c0, c1] : List Int32) = true then 1 else 0 : Int32))])
  exact o_retN X18 hx (t := .boolean) hrt hlk (by simp) (y_ oD18_22) o_narB (by decide) (by decide) (o_hQ hh18 ⟨by rw [if_pos (c := ¬ B = 0 ∧ ¬ A = 0) ⟨hc4_2, hc11_12⟩], N18, rfl⟩)
abbrev Qmt2_0 (Z : State) (b : Addr) (y : Addr) (x : Addr) (t : Addr) (u : Addr) (v0 : Int32) (v1 : Int32) (zC_ : Int32) (h0 : Heap) (n0 : Nat) (v : Option Value) (h : Heap) (L : List Loc) : Prop := v = some (.int (if o_pref ([] : List Int32) ([] : List Int32) = true then 1 else 0)) ∧ Fr n0 L ∧ h = h0
set_option maxRecDepth 65536 in
set_option maxHeartbeats 40000000 in
theorem rmmt2_0 (l : Launch) (Z : State) (a0 : Array Value) (hw : ∀ d ∈ tables_1, d.before a0 Z = true) (ws : List Jvm.Cond) (b : Addr) (y : Addr) (x : Addr) (t : Addr) (u : Addr) (v0 : Int32) (v1 : Int32) (zC_ : Int32) (h0 : Heap) (n0 : Nat) (O0 : Old Z n0 h0) (F_k : Fld Z h0 b "org/adviceweft/pointcut/NamePattern" "core" "Ljava/lang/String;" (.ref x)) (F_b : Fld Z h0 b "org/adviceweft/pointcut/NamePattern" "anyBefore" "Z" (.int 1)) (F_a : Fld Z h0 b "org/adviceweft/pointcut/NamePattern" "anyAfter" "Z" (.int 0)) (S_x : o_Str Z h0 x t ([] : List Int32)) (S_y : o_Str Z h0 y u ([v0, v1] : List Int32)) (SC_ : o_SC Z zC_) (hC_ : ¬ zC_ = 0) :
    o_Met l Z o_m21 prog_8_method_3_code 2 (some .boolean) ws o_R8 #[(.ref b), (.ref y)] h0 (Qmt2_0 Z b y x t u v0 v1 zC_ h0 n0) := by
  refine o_enter o_pn_6 (fun m => o_ef1 m b y) (fun p e s m below meth c s₁ hx hby hml hZ hown hnm hlk hrt X0 e0 => ?_)
  have N0 := Fr.nil n0
  have y_ := @hb _ _ hby
  have k_ := @o_k _ _ hw
  refine o_aloadN X0 hx (y_ oD18_0) rfl rfl ?_
  refine o_getF X0 hx hZ hown (host := "") (Or.inl (k_ 97 rfl)) Via.refl e0 F_b (y_ oD18_1) (fun T1 X1 e1 => ?_)
  refine o_iFF X1 hx (y_ oD18_4) ?_
  refine o_aloadN X1 hx (y_ oD18_7) rfl rfl ?_
  refine o_getF X1 hx hZ hown (host := "") (Or.inl (k_ 99 rfl)) Via.refl e1 F_a (y_ oD18_8) (fun T2 X2 e2 => ?_)
  refine o_iFT (t := 23) X2 hx (y_ oD18_11) ?_
  refine o_aloadN X2 hx (y_ oD18_23) rfl rfl ?_
  refine o_getF X2 hx hZ hown (host := "") (Or.inl (k_ 97 rfl)) Via.refl e2 F_b (y_ oD18_24) (fun T3 X3 e3 => ?_)
  refine o_iFF X3 hx (y_ oD18_27) ?_
  refine o_aloadN X3 hx (y_ oD18_30) rfl rfl ?_
  refine o_aloadN X3 hx (y_ oD18_31) rfl rfl ?_
  refine o_getF X3 hx hZ hown (host := "") (Or.inl (k_ 95 rfl)) Via.refl e3 F_k (y_ oD18_32) (fun T4 X4 e4 => ?_)
  refine o_vir (y := o_m17) (b := y) (argsL := [(.ref x)]) (S := []) (W := 0) X4 hx hZ hown (k_ 107 rfl) (k_ 108 rfl) (k_ 110 rfl) (k_ 109 rfl) (backOf (W := 0) (rmen2_0 l Z a0 hw [] y x u t v0 v1 zC_ h0 n0 O0 S_y S_x SC_ hC_) hZ (k_ 111 rfl) (k_ 10 rfl) (by decide) (by decide)) e4 S_y.1 hml (lenOf o_pd__28Ljava_2flang_2fString_3b_29Z rfl) (y_ oD18_35) (fun T5 L5 v5 X5 hQ5 => ?_)
  obtain ⟨rfl, N5q, hh5⟩ := hQ5
  have N5 := Fr.app N0 N5q
  show o_G p e below _ T5 (mkF m 38 #[vR b, vR y] [(.int (if o_pref ([] : List Int32) ([] : List Int32) = true then 1 else 0 : Int32))])
  exact o_retN X5 hx (t := .boolean) hrt hlk (by simp) (y_ oD18_38) o_narB (by decide) (by decide) (o_hQ hh5 ⟨rfl, N5, rfl⟩)
abbrev Qmt2_1 (Z : State) (b : Addr) (y : Addr) (x : Addr) (t : Addr) (u : Addr) (v0 : Int32) (v1 : Int32) (c0 : Int32) (B : Int32) (A : Int32) (zC_ : Int32) (h0 : Heap) (n0 : Nat) (v : Option Value) (h : Heap) (L : List Loc) : Prop := v = some (.int (if ¬ B = 0 ∧ ¬ A = 0 then (if o_occ ([v0, v1] : List Int32) ([c0] : List Int32) = true then 1 else 0) else if ¬ B = 0 then (if o_pref ([v1] : List Int32) ([c0] : List Int32) = true then 1 else 0) else if ¬ A = 0 then (if o_pref ([v0, v1] : List Int32) ([c0] : List Int32) = true then 1 else 0) else (if ([v0, v1] : List Int32) = ([c0] : List Int32) then 1 else 0))) ∧ Fr n0 L ∧ h = h0
set_option maxRecDepth 65536 in
set_option maxHeartbeats 40000000 in
theorem rmmt2_1 (l : Launch) (Z : State) (a0 : Array Value) (hw : ∀ d ∈ tables_1, d.before a0 Z = true) (ws : List Jvm.Cond) (b : Addr) (y : Addr) (x : Addr) (t : Addr) (u : Addr) (v0 : Int32) (v1 : Int32) (c0 : Int32) (B : Int32) (A : Int32) (zC_ : Int32) (h0 : Heap) (n0 : Nat) (O0 : Old Z n0 h0) (F_k : Fld Z h0 b "org/adviceweft/pointcut/NamePattern" "core" "Ljava/lang/String;" (.ref x)) (F_b : Fld Z h0 b "org/adviceweft/pointcut/NamePattern" "anyBefore" "Z" (.int B)) (F_a : Fld Z h0 b "org/adviceweft/pointcut/NamePattern" "anyAfter" "Z" (.int A)) (S_x : o_Str Z h0 x t ([c0] : List Int32)) (S_y : o_Str Z h0 y u ([v0, v1] : List Int32)) (SC_ : o_SC Z zC_) (hC_ : ¬ zC_ = 0) :
    o_Met l Z o_m21 prog_8_method_3_code 2 (some .boolean) ws o_R8 #[(.ref b), (.ref y)] h0 (Qmt2_1 Z b y x t u v0 v1 c0 B A zC_ h0 n0) := by
  refine o_enter o_pn_6 (fun m => o_ef1 m b y) (fun p e s m below meth c s₁ hx hby hml hZ hown hnm hlk hrt X0 e0 => ?_)
  have N0 := Fr.nil n0
  have y_ := @hb _ _ hby
  have k_ := @o_k _ _ hw
  refine o_aloadN X0 hx (y_ oD18_0) rfl rfl ?_
  refine o_getF X0 hx hZ hown (host := "") (Or.inl (k_ 97 rfl)) Via.refl e0 F_b (y_ oD18_1) (fun T1 X1 e1 => ?_)
  refine o_iF (t := 23) X1 hx (y_ oD18_4) (fun hq => ?_) (fun hq => ?_)
  · have hc4_2 := o_h_eq.1 hq
    refine o_aloadN X1 hx (y_ oD18_23) rfl rfl ?_
    refine o_getF X1 hx hZ hown (host := "") (Or.inl (k_ 97 rfl)) Via.refl e1 F_b (y_ oD18_24) (fun T3 X3 e3 => ?_)
    refine o_iF (t := 39) X3 hx (y_ oD18_27) (fun hq => ?_) (fun hq => ?_)
    · have hc27_4 := o_h_eq.1 hq
      refine o_aloadN X3 hx (y_ oD18_39) rfl rfl ?_
      refine o_getF X3 hx hZ hown (host := "") (Or.inl (k_ 99 rfl)) Via.refl e3 F_a (y_ oD18_40) (fun T5 X5 e5 => ?_)
      refine o_iF (t := 55) X5 hx (y_ oD18_43) (fun hq => ?_) (fun hq => ?_)
      · have hc43_6 := o_h_eq.1 hq
        refine o_aloadN X5 hx (y_ oD18_55) rfl rfl ?_
        refine o_aloadN X5 hx (y_ oD18_56) rfl rfl ?_
        refine o_getF X5 hx hZ hown (host := "") (Or.inl (k_ 95 rfl)) Via.refl e5 F_k (y_ oD18_57) (fun T7 X7 e7 => ?_)
        refine o_vir (y := o_m22) (b := y) (argsL := [(.ref x)]) (S := []) (W := 0) X7 hx hZ hown (k_ 129 rfl) (k_ 130 rfl) (k_ 132 rfl) (k_ 131 rfl) (o_eqB (W := 0) hZ hw (k_ 9 rfl) O0 S_y S_x SC_ hC_ (by decide) (by decide)) e7 S_y.1 hml (lenOf o_pd__28Ljava_2flang_2fObject_3b_29Z rfl) (y_ oD18_60) (fun T8 L8 v8 X8 hQ8 => ?_)
        obtain ⟨rfl, rfl, hh8⟩ := hQ8
        have N8 := Fr.app N0 (Fr.nil n0)
        show o_G p e below _ T8 (mkF m 63 #[vR b, vR y] [(.int (if ([v0, v1] : List Int32) = ([c0] : List Int32) then 1 else 0 : Int32))])
        exact o_retN X8 hx (t := .boolean) hrt hlk (by simp) (y_ oD18_63) o_narB (by decide) (by decide) (o_hQ hh8 ⟨by rw [if_neg (fun q : ¬ B = 0 ∧ ¬ A = 0 => q.1 hc4_2), if_neg (fun q : ¬ B = 0 => q hc4_2), if_neg (fun q : ¬ A = 0 => q hc43_6)], N8, rfl⟩)
      have hc43_6 := o_h_eq.2 hq
      refine o_aloadN X5 hx (y_ oD18_46) rfl rfl ?_
      refine o_aloadN X5 hx (y_ oD18_47) rfl rfl ?_
      refine o_getF X5 hx hZ hown (host := "") (Or.inl (k_ 95 rfl)) Via.refl e5 F_k (y_ oD18_48) (fun T9 X9 e9 => ?_)
      refine o_vir (y := o_m18) (b := y) (argsL := [(.ref x)]) (S := []) (W := 0) X9 hx hZ hown (k_ 138 rfl) (k_ 139 rfl) (k_ 141 rfl) (k_ 140 rfl) (backOf (W := 0) (rmst2_1 l Z a0 hw [] y x u t v0 v1 c0 zC_ h0 n0 O0 S_y S_x SC_ hC_) hZ (k_ 142 rfl) (k_ 10 rfl) (by decide) (by decide)) e9 S_y.1 hml (lenOf o_pd__28Ljava_2flang_2fString_3b_29Z rfl) (y_ oD18_51) (fun T10 L10 v10 X10 hQ10 => ?_)
      obtain ⟨rfl, N10q, hh10⟩ := hQ10
      have N10 := Fr.app N0 N10q
      show o_G p e below _ T10 (mkF m 54 #[vR b, vR y] [(.int (if o_pref ([v0, v1] : List Int32) ([c0] : List Int32) = true then 1 else 0 : Int32))])
      exact o_retN X10 hx (t := .boolean) hrt hlk (by simp) (y_ oD18_54) o_narB (by decide) (by decide) (o_hQ hh10 ⟨by rw [if_neg (fun q : ¬ B = 0 ∧ ¬ A = 0 => q.1 hc4_2), if_neg (fun q : ¬ B = 0 => q hc4_2), if_pos (c := ¬ A = 0) hc43_6], N10, rfl⟩)
    have hc27_4 := o_h_eq.2 hq
    exact absurd hc4_2 hc27_4
  have hc4_2 := o_h_eq.2 hq
  refine o_aloadN X1 hx (y_ oD18_7) rfl rfl ?_
  refine o_getF X1 hx hZ hown (host := "") (Or.inl (k_ 99 rfl)) Via.refl e1 F_a (y_ oD18_8) (fun T11 X11 e11 => ?_)
  refine o_iF (t := 23) X11 hx (y_ oD18_11) (fun hq => ?_) (fun hq => ?_)
  · have hc11_12 := o_h_eq.1 hq
    refine o_aloadN X11 hx (y_ oD18_23) rfl rfl ?_
    refine o_getF X11 hx hZ hown (host := "") (Or.inl (k_ 97 rfl)) Via.refl e11 F_b (y_ oD18_24) (fun T13 X13 e13 => ?_)
    refine o_iF (t := 39) X13 hx (y_ oD18_27) (fun hq => ?_) (fun hq => ?_)
    · have hc27_14 := o_h_eq.1 hq
      exact absurd hc27_14 hc4_2
    have hc27_14 := o_h_eq.2 hq
    refine o_aloadN X13 hx (y_ oD18_30) rfl rfl ?_
    refine o_aloadN X13 hx (y_ oD18_31) rfl rfl ?_
    refine o_getF X13 hx hZ hown (host := "") (Or.inl (k_ 95 rfl)) Via.refl e13 F_k (y_ oD18_32) (fun T15 X15 e15 => ?_)
    refine o_vir (y := o_m17) (b := y) (argsL := [(.ref x)]) (S := []) (W := 0) X15 hx hZ hown (k_ 107 rfl) (k_ 108 rfl) (k_ 110 rfl) (k_ 109 rfl) (backOf (W := 0) (rmen2_1 l Z a0 hw [] y x u t v0 v1 c0 zC_ h0 n0 O0 S_y S_x SC_ hC_) hZ (k_ 111 rfl) (k_ 10 rfl) (by decide) (by decide)) e15 S_y.1 hml (lenOf o_pd__28Ljava_2flang_2fString_3b_29Z rfl) (y_ oD18_35) (fun T16 L16 v16 X16 hQ16 => ?_)
    obtain ⟨rfl, N16q, hh16⟩ := hQ16
    have N16 := Fr.app N0 N16q
    show o_G p e below _ T16 (mkF m 38 #[vR b, vR y] [(.int (if o_pref ([v1] : List Int32) ([c0] : List Int32) = true then 1 else 0 : Int32))])
    exact o_retN X16 hx (t := .boolean) hrt hlk (by simp) (y_ oD18_38) o_narB (by decide) (by decide) (o_hQ hh16 ⟨by rw [if_neg (fun q : ¬ B = 0 ∧ ¬ A = 0 => q.2 hc11_12), if_pos (c := ¬ B = 0) hc4_2], N16, rfl⟩)
  have hc11_12 := o_h_eq.2 hq
  refine o_aloadN X11 hx (y_ oD18_14) rfl rfl ?_
  refine o_aloadN X11 hx (y_ oD18_15) rfl rfl ?_
  refine o_getF X11 hx hZ hown (host := "") (Or.inl (k_ 95 rfl)) Via.refl e11 F_k (y_ oD18_16) (fun T17 X17 e17 => ?_)
  refine o_vir (y := o_m10) (b := y) (argsL := [(.ref x)]) (S := []) (W := 0) X17 hx hZ hown (k_ 54 rfl) (k_ 55 rfl) (k_ 57 rfl) (k_ 56 rfl) (backOf (W := 0) (rmcon2_1 l Z a0 hw [] y x u t v0 v1 c0 zC_ h0 n0 O0 S_y S_x SC_ hC_) hZ (k_ 58 rfl) (k_ 10 rfl) (by decide) (by decide)) e17 S_y.1 hml (lenOf o_pd__28Ljava_2flang_2fCharSequence_3b_29Z rfl) (y_ oD18_19) (fun T18 L18 v18 X18 hQ18 => ?_)
  obtain ⟨rfl, N18q, hh18⟩ := hQ18
  have N18 := Fr.app N0 N18q
  show o_G p e below _ T18 (mkF m 22 #[vR b, vR y] [(.int (if o_occ ([v0, v1] : List Int32) ([c0] : List Int32) = true then 1 else 0 : Int32))])
  exact o_retN X18 hx (t := .boolean) hrt hlk (by simp) (y_ oD18_22) o_narB (by decide) (by decide) (o_hQ hh18 ⟨by rw [if_pos (c := ¬ B = 0 ∧ ¬ A = 0) ⟨hc4_2, hc11_12⟩], N18, rfl⟩)
abbrev Qmt2_2 (Z : State) (b : Addr) (y : Addr) (x : Addr) (t : Addr) (u : Addr) (v0 : Int32) (v1 : Int32) (c0 : Int32) (c1 : Int32) (B : Int32) (A : Int32) (zC_ : Int32) (h0 : Heap) (n0 : Nat) (v : Option Value) (h : Heap) (L : List Loc) : Prop := v = some (.int (if ¬ B = 0 ∧ ¬ A = 0 then (if o_occ ([v0, v1] : List Int32) ([c0, c1] : List Int32) = true then 1 else 0) else if ¬ B = 0 then (if o_pref ([v0, v1] : List Int32) ([c0, c1] : List Int32) = true then 1 else 0) else if ¬ A = 0 then (if o_pref ([v0, v1] : List Int32) ([c0, c1] : List Int32) = true then 1 else 0) else (if ([v0, v1] : List Int32) = ([c0, c1] : List Int32) then 1 else 0))) ∧ Fr n0 L ∧ h = h0
set_option maxRecDepth 65536 in
set_option maxHeartbeats 40000000 in
theorem rmmt2_2 (l : Launch) (Z : State) (a0 : Array Value) (hw : ∀ d ∈ tables_1, d.before a0 Z = true) (ws : List Jvm.Cond) (b : Addr) (y : Addr) (x : Addr) (t : Addr) (u : Addr) (v0 : Int32) (v1 : Int32) (c0 : Int32) (c1 : Int32) (B : Int32) (A : Int32) (zC_ : Int32) (h0 : Heap) (n0 : Nat) (O0 : Old Z n0 h0) (F_k : Fld Z h0 b "org/adviceweft/pointcut/NamePattern" "core" "Ljava/lang/String;" (.ref x)) (F_b : Fld Z h0 b "org/adviceweft/pointcut/NamePattern" "anyBefore" "Z" (.int B)) (F_a : Fld Z h0 b "org/adviceweft/pointcut/NamePattern" "anyAfter" "Z" (.int A)) (S_x : o_Str Z h0 x t ([c0, c1] : List Int32)) (S_y : o_Str Z h0 y u ([v0, v1] : List Int32)) (SC_ : o_SC Z zC_) (hC_ : ¬ zC_ = 0) :
    o_Met l Z o_m21 prog_8_method_3_code 2 (some .boolean) ws o_R8 #[(.ref b), (.ref y)] h0 (Qmt2_2 Z b y x t u v0 v1 c0 c1 B A zC_ h0 n0) := by
  refine o_enter o_pn_6 (fun m => o_ef1 m b y) (fun p e s m below meth c s₁ hx hby hml hZ hown hnm hlk hrt X0 e0 => ?_)
  have N0 := Fr.nil n0
  have y_ := @hb _ _ hby
  have k_ := @o_k _ _ hw
  refine o_aloadN X0 hx (y_ oD18_0) rfl rfl ?_
  refine o_getF X0 hx hZ hown (host := "") (Or.inl (k_ 97 rfl)) Via.refl e0 F_b (y_ oD18_1) (fun T1 X1 e1 => ?_)
  refine o_iF (t := 23) X1 hx (y_ oD18_4) (fun hq => ?_) (fun hq => ?_)
  · have hc4_2 := o_h_eq.1 hq
    refine o_aloadN X1 hx (y_ oD18_23) rfl rfl ?_
    refine o_getF X1 hx hZ hown (host := "") (Or.inl (k_ 97 rfl)) Via.refl e1 F_b (y_ oD18_24) (fun T3 X3 e3 => ?_)
    refine o_iF (t := 39) X3 hx (y_ oD18_27) (fun hq => ?_) (fun hq => ?_)
    · have hc27_4 := o_h_eq.1 hq
      refine o_aloadN X3 hx (y_ oD18_39) rfl rfl ?_
      refine o_getF X3 hx hZ hown (host := "") (Or.inl (k_ 99 rfl)) Via.refl e3 F_a (y_ oD18_40) (fun T5 X5 e5 => ?_)
      refine o_iF (t := 55) X5 hx (y_ oD18_43) (fun hq => ?_) (fun hq => ?_)
      · have hc43_6 := o_h_eq.1 hq
        refine o_aloadN X5 hx (y_ oD18_55) rfl rfl ?_
        refine o_aloadN X5 hx (y_ oD18_56) rfl rfl ?_
        refine o_getF X5 hx hZ hown (host := "") (Or.inl (k_ 95 rfl)) Via.refl e5 F_k (y_ oD18_57) (fun T7 X7 e7 => ?_)
        refine o_vir (y := o_m22) (b := y) (argsL := [(.ref x)]) (S := []) (W := 0) X7 hx hZ hown (k_ 129 rfl) (k_ 130 rfl) (k_ 132 rfl) (k_ 131 rfl) (o_eqB (W := 0) hZ hw (k_ 9 rfl) O0 S_y S_x SC_ hC_ (by decide) (by decide)) e7 S_y.1 hml (lenOf o_pd__28Ljava_2flang_2fObject_3b_29Z rfl) (y_ oD18_60) (fun T8 L8 v8 X8 hQ8 => ?_)
        obtain ⟨rfl, rfl, hh8⟩ := hQ8
        have N8 := Fr.app N0 (Fr.nil n0)
        show o_G p e below _ T8 (mkF m 63 #[vR b, vR y] [(.int (if ([v0, v1] : List Int32) = ([c0, c1] : List Int32) then 1 else 0 : Int32))])
        exact o_retN X8 hx (t := .boolean) hrt hlk (by simp) (y_ oD18_63) o_narB (by decide) (by decide) (o_hQ hh8 ⟨by rw [if_neg (fun q : ¬ B = 0 ∧ ¬ A = 0 => q.1 hc4_2), if_neg (fun q : ¬ B = 0 => q hc4_2), if_neg (fun q : ¬ A = 0 => q hc43_6)], N8, rfl⟩)
      have hc43_6 := o_h_eq.2 hq
      refine o_aloadN X5 hx (y_ oD18_46) rfl rfl ?_
      refine o_aloadN X5 hx (y_ oD18_47) rfl rfl ?_
      refine o_getF X5 hx hZ hown (host := "") (Or.inl (k_ 95 rfl)) Via.refl e5 F_k (y_ oD18_48) (fun T9 X9 e9 => ?_)
      refine o_vir (y := o_m18) (b := y) (argsL := [(.ref x)]) (S := []) (W := 0) X9 hx hZ hown (k_ 138 rfl) (k_ 139 rfl) (k_ 141 rfl) (k_ 140 rfl) (backOf (W := 0) (rmst2_2 l Z a0 hw [] y x u t v0 v1 c0 c1 zC_ h0 n0 O0 S_y S_x SC_ hC_) hZ (k_ 142 rfl) (k_ 10 rfl) (by decide) (by decide)) e9 S_y.1 hml (lenOf o_pd__28Ljava_2flang_2fString_3b_29Z rfl) (y_ oD18_51) (fun T10 L10 v10 X10 hQ10 => ?_)
      obtain ⟨rfl, N10q, hh10⟩ := hQ10
      have N10 := Fr.app N0 N10q
      show o_G p e below _ T10 (mkF m 54 #[vR b, vR y] [(.int (if o_pref ([v0, v1] : List Int32) ([c0, c1] : List Int32) = true then 1 else 0 : Int32))])
      exact o_retN X10 hx (t := .boolean) hrt hlk (by simp) (y_ oD18_54) o_narB (by decide) (by decide) (o_hQ hh10 ⟨by rw [if_neg (fun q : ¬ B = 0 ∧ ¬ A = 0 => q.1 hc4_2), if_neg (fun q : ¬ B = 0 => q hc4_2), if_pos (c := ¬ A = 0) hc43_6], N10, rfl⟩)
    have hc27_4 := o_h_eq.2 hq
    exact absurd hc4_2 hc27_4
  have hc4_2 := o_h_eq.2 hq
  refine o_aloadN X1 hx (y_ oD18_7) rfl rfl ?_
  refine o_getF X1 hx hZ hown (host := "") (Or.inl (k_ 99 rfl)) Via.refl e1 F_a (y_ oD18_8) (fun T11 X11 e11 => ?_)
  refine o_iF (t := 23) X11 hx (y_ oD18_11) (fun hq => ?_) (fun hq => ?_)
  · have hc11_12 := o_h_eq.1 hq
    refine o_aloadN X11 hx (y_ oD18_23) rfl rfl ?_
    refine o_getF X11 hx hZ hown (host := "") (Or.inl (k_ 97 rfl)) Via.refl e11 F_b (y_ oD18_24) (fun T13 X13 e13 => ?_)
    refine o_iF (t := 39) X13 hx (y_ oD18_27) (fun hq => ?_) (fun hq => ?_)
    · have hc27_14 := o_h_eq.1 hq
      exact absurd hc27_14 hc4_2
    have hc27_14 := o_h_eq.2 hq
    refine o_aloadN X13 hx (y_ oD18_30) rfl rfl ?_
    refine o_aloadN X13 hx (y_ oD18_31) rfl rfl ?_
    refine o_getF X13 hx hZ hown (host := "") (Or.inl (k_ 95 rfl)) Via.refl e13 F_k (y_ oD18_32) (fun T15 X15 e15 => ?_)
    refine o_vir (y := o_m17) (b := y) (argsL := [(.ref x)]) (S := []) (W := 0) X15 hx hZ hown (k_ 107 rfl) (k_ 108 rfl) (k_ 110 rfl) (k_ 109 rfl) (backOf (W := 0) (rmen2_2 l Z a0 hw [] y x u t v0 v1 c0 c1 zC_ h0 n0 O0 S_y S_x SC_ hC_) hZ (k_ 111 rfl) (k_ 10 rfl) (by decide) (by decide)) e15 S_y.1 hml (lenOf o_pd__28Ljava_2flang_2fString_3b_29Z rfl) (y_ oD18_35) (fun T16 L16 v16 X16 hQ16 => ?_)
    obtain ⟨rfl, N16q, hh16⟩ := hQ16
    have N16 := Fr.app N0 N16q
    show o_G p e below _ T16 (mkF m 38 #[vR b, vR y] [(.int (if o_pref ([v0, v1] : List Int32) ([c0, c1] : List Int32) = true then 1 else 0 : Int32))])
    exact o_retN X16 hx (t := .boolean) hrt hlk (by simp) (y_ oD18_38) o_narB (by decide) (by decide) (o_hQ hh16 ⟨by rw [if_neg (fun q : ¬ B = 0 ∧ ¬ A = 0 => q.2 hc11_12), if_pos (c := ¬ B = 0) hc4_2], N16, rfl⟩)
  have hc11_12 := o_h_eq.2 hq
  refine o_aloadN X11 hx (y_ oD18_14) rfl rfl ?_
  refine o_aloadN X11 hx (y_ oD18_15) rfl rfl ?_
  refine o_getF X11 hx hZ hown (host := "") (Or.inl (k_ 95 rfl)) Via.refl e11 F_k (y_ oD18_16) (fun T17 X17 e17 => ?_)
  refine o_vir (y := o_m10) (b := y) (argsL := [(.ref x)]) (S := []) (W := 0) X17 hx hZ hown (k_ 54 rfl) (k_ 55 rfl) (k_ 57 rfl) (k_ 56 rfl) (backOf (W := 0) (rmcon2_2 l Z a0 hw [] y x u t v0 v1 c0 c1 zC_ h0 n0 O0 S_y S_x SC_ hC_) hZ (k_ 58 rfl) (k_ 10 rfl) (by decide) (by decide)) e17 S_y.1 hml (lenOf o_pd__28Ljava_2flang_2fCharSequence_3b_29Z rfl) (y_ oD18_19) (fun T18 L18 v18 X18 hQ18 => ?_)
  obtain ⟨rfl, N18q, hh18⟩ := hQ18
  have N18 := Fr.app N0 N18q
  show o_G p e below _ T18 (mkF m 22 #[vR b, vR y] [(.int (if o_occ ([v0, v1] : List Int32) ([c0, c1] : List Int32) = true then 1 else 0 : Int32))])
  exact o_retN X18 hx (t := .boolean) hrt hlk (by simp) (y_ oD18_22) o_narB (by decide) (by decide) (o_hQ hh18 ⟨by rw [if_pos (c := ¬ B = 0 ∧ ¬ A = 0) ⟨hc4_2, hc11_12⟩], N18, rfl⟩)
abbrev Qmt3_0 (Z : State) (b : Addr) (y : Addr) (x : Addr) (t : Addr) (u : Addr) (v0 : Int32) (v1 : Int32) (v2 : Int32) (zC_ : Int32) (h0 : Heap) (n0 : Nat) (v : Option Value) (h : Heap) (L : List Loc) : Prop := v = some (.int (if o_pref ([] : List Int32) ([] : List Int32) = true then 1 else 0)) ∧ Fr n0 L ∧ h = h0
set_option maxRecDepth 65536 in
set_option maxHeartbeats 40000000 in
theorem rmmt3_0 (l : Launch) (Z : State) (a0 : Array Value) (hw : ∀ d ∈ tables_1, d.before a0 Z = true) (ws : List Jvm.Cond) (b : Addr) (y : Addr) (x : Addr) (t : Addr) (u : Addr) (v0 : Int32) (v1 : Int32) (v2 : Int32) (zC_ : Int32) (h0 : Heap) (n0 : Nat) (O0 : Old Z n0 h0) (F_k : Fld Z h0 b "org/adviceweft/pointcut/NamePattern" "core" "Ljava/lang/String;" (.ref x)) (F_b : Fld Z h0 b "org/adviceweft/pointcut/NamePattern" "anyBefore" "Z" (.int 1)) (F_a : Fld Z h0 b "org/adviceweft/pointcut/NamePattern" "anyAfter" "Z" (.int 0)) (S_x : o_Str Z h0 x t ([] : List Int32)) (S_y : o_Str Z h0 y u ([v0, v1, v2] : List Int32)) (SC_ : o_SC Z zC_) (hC_ : ¬ zC_ = 0) :
    o_Met l Z o_m21 prog_8_method_3_code 2 (some .boolean) ws o_R8 #[(.ref b), (.ref y)] h0 (Qmt3_0 Z b y x t u v0 v1 v2 zC_ h0 n0) := by
  refine o_enter o_pn_6 (fun m => o_ef1 m b y) (fun p e s m below meth c s₁ hx hby hml hZ hown hnm hlk hrt X0 e0 => ?_)
  have N0 := Fr.nil n0
  have y_ := @hb _ _ hby
  have k_ := @o_k _ _ hw
  refine o_aloadN X0 hx (y_ oD18_0) rfl rfl ?_
  refine o_getF X0 hx hZ hown (host := "") (Or.inl (k_ 97 rfl)) Via.refl e0 F_b (y_ oD18_1) (fun T1 X1 e1 => ?_)
  refine o_iFF X1 hx (y_ oD18_4) ?_
  refine o_aloadN X1 hx (y_ oD18_7) rfl rfl ?_
  refine o_getF X1 hx hZ hown (host := "") (Or.inl (k_ 99 rfl)) Via.refl e1 F_a (y_ oD18_8) (fun T2 X2 e2 => ?_)
  refine o_iFT (t := 23) X2 hx (y_ oD18_11) ?_
  refine o_aloadN X2 hx (y_ oD18_23) rfl rfl ?_
  refine o_getF X2 hx hZ hown (host := "") (Or.inl (k_ 97 rfl)) Via.refl e2 F_b (y_ oD18_24) (fun T3 X3 e3 => ?_)
  refine o_iFF X3 hx (y_ oD18_27) ?_
  refine o_aloadN X3 hx (y_ oD18_30) rfl rfl ?_
  refine o_aloadN X3 hx (y_ oD18_31) rfl rfl ?_
  refine o_getF X3 hx hZ hown (host := "") (Or.inl (k_ 95 rfl)) Via.refl e3 F_k (y_ oD18_32) (fun T4 X4 e4 => ?_)
  refine o_vir (y := o_m17) (b := y) (argsL := [(.ref x)]) (S := []) (W := 0) X4 hx hZ hown (k_ 107 rfl) (k_ 108 rfl) (k_ 110 rfl) (k_ 109 rfl) (backOf (W := 0) (rmen3_0 l Z a0 hw [] y x u t v0 v1 v2 zC_ h0 n0 O0 S_y S_x SC_ hC_) hZ (k_ 111 rfl) (k_ 10 rfl) (by decide) (by decide)) e4 S_y.1 hml (lenOf o_pd__28Ljava_2flang_2fString_3b_29Z rfl) (y_ oD18_35) (fun T5 L5 v5 X5 hQ5 => ?_)
  obtain ⟨rfl, N5q, hh5⟩ := hQ5
  have N5 := Fr.app N0 N5q
  show o_G p e below _ T5 (mkF m 38 #[vR b, vR y] [(.int (if o_pref ([] : List Int32) ([] : List Int32) = true then 1 else 0 : Int32))])
  exact o_retN X5 hx (t := .boolean) hrt hlk (by simp) (y_ oD18_38) o_narB (by decide) (by decide) (o_hQ hh5 ⟨rfl, N5, rfl⟩)
abbrev Qmt3_1 (Z : State) (b : Addr) (y : Addr) (x : Addr) (t : Addr) (u : Addr) (v0 : Int32) (v1 : Int32) (v2 : Int32) (c0 : Int32) (B : Int32) (A : Int32) (zC_ : Int32) (h0 : Heap) (n0 : Nat) (v : Option Value) (h : Heap) (L : List Loc) : Prop := v = some (.int (if ¬ B = 0 ∧ ¬ A = 0 then (if o_occ ([v0, v1, v2] : List Int32) ([c0] : List Int32) = true then 1 else 0) else if ¬ B = 0 then (if o_pref ([v2] : List Int32) ([c0] : List Int32) = true then 1 else 0) else if ¬ A = 0 then (if o_pref ([v0, v1, v2] : List Int32) ([c0] : List Int32) = true then 1 else 0) else (if ([v0, v1, v2] : List Int32) = ([c0] : List Int32) then 1 else 0))) ∧ Fr n0 L ∧ h = h0
set_option maxRecDepth 65536 in
set_option maxHeartbeats 40000000 in
theorem rmmt3_1 (l : Launch) (Z : State) (a0 : Array Value) (hw : ∀ d ∈ tables_1, d.before a0 Z = true) (ws : List Jvm.Cond) (b : Addr) (y : Addr) (x : Addr) (t : Addr) (u : Addr) (v0 : Int32) (v1 : Int32) (v2 : Int32) (c0 : Int32) (B : Int32) (A : Int32) (zC_ : Int32) (h0 : Heap) (n0 : Nat) (O0 : Old Z n0 h0) (F_k : Fld Z h0 b "org/adviceweft/pointcut/NamePattern" "core" "Ljava/lang/String;" (.ref x)) (F_b : Fld Z h0 b "org/adviceweft/pointcut/NamePattern" "anyBefore" "Z" (.int B)) (F_a : Fld Z h0 b "org/adviceweft/pointcut/NamePattern" "anyAfter" "Z" (.int A)) (S_x : o_Str Z h0 x t ([c0] : List Int32)) (S_y : o_Str Z h0 y u ([v0, v1, v2] : List Int32)) (SC_ : o_SC Z zC_) (hC_ : ¬ zC_ = 0) :
    o_Met l Z o_m21 prog_8_method_3_code 2 (some .boolean) ws o_R8 #[(.ref b), (.ref y)] h0 (Qmt3_1 Z b y x t u v0 v1 v2 c0 B A zC_ h0 n0) := by
  refine o_enter o_pn_6 (fun m => o_ef1 m b y) (fun p e s m below meth c s₁ hx hby hml hZ hown hnm hlk hrt X0 e0 => ?_)
  have N0 := Fr.nil n0
  have y_ := @hb _ _ hby
  have k_ := @o_k _ _ hw
  refine o_aloadN X0 hx (y_ oD18_0) rfl rfl ?_
  refine o_getF X0 hx hZ hown (host := "") (Or.inl (k_ 97 rfl)) Via.refl e0 F_b (y_ oD18_1) (fun T1 X1 e1 => ?_)
  refine o_iF (t := 23) X1 hx (y_ oD18_4) (fun hq => ?_) (fun hq => ?_)
  · have hc4_2 := o_h_eq.1 hq
    refine o_aloadN X1 hx (y_ oD18_23) rfl rfl ?_
    refine o_getF X1 hx hZ hown (host := "") (Or.inl (k_ 97 rfl)) Via.refl e1 F_b (y_ oD18_24) (fun T3 X3 e3 => ?_)
    refine o_iF (t := 39) X3 hx (y_ oD18_27) (fun hq => ?_) (fun hq => ?_)
    · have hc27_4 := o_h_eq.1 hq
      refine o_aloadN X3 hx (y_ oD18_39) rfl rfl ?_
      refine o_getF X3 hx hZ hown (host := "") (Or.inl (k_ 99 rfl)) Via.refl e3 F_a (y_ oD18_40) (fun T5 X5 e5 => ?_)
      refine o_iF (t := 55) X5 hx (y_ oD18_43) (fun hq => ?_) (fun hq => ?_)
      · have hc43_6 := o_h_eq.1 hq
        refine o_aloadN X5 hx (y_ oD18_55) rfl rfl ?_
        refine o_aloadN X5 hx (y_ oD18_56) rfl rfl ?_
        refine o_getF X5 hx hZ hown (host := "") (Or.inl (k_ 95 rfl)) Via.refl e5 F_k (y_ oD18_57) (fun T7 X7 e7 => ?_)
        refine o_vir (y := o_m22) (b := y) (argsL := [(.ref x)]) (S := []) (W := 0) X7 hx hZ hown (k_ 129 rfl) (k_ 130 rfl) (k_ 132 rfl) (k_ 131 rfl) (o_eqB (W := 0) hZ hw (k_ 9 rfl) O0 S_y S_x SC_ hC_ (by decide) (by decide)) e7 S_y.1 hml (lenOf o_pd__28Ljava_2flang_2fObject_3b_29Z rfl) (y_ oD18_60) (fun T8 L8 v8 X8 hQ8 => ?_)
        obtain ⟨rfl, rfl, hh8⟩ := hQ8
        have N8 := Fr.app N0 (Fr.nil n0)
        show o_G p e below _ T8 (mkF m 63 #[vR b, vR y] [(.int (if ([v0, v1, v2] : List Int32) = ([c0] : List Int32) then 1 else 0 : Int32))])
        exact o_retN X8 hx (t := .boolean) hrt hlk (by simp) (y_ oD18_63) o_narB (by decide) (by decide) (o_hQ hh8 ⟨by rw [if_neg (fun q : ¬ B = 0 ∧ ¬ A = 0 => q.1 hc4_2), if_neg (fun q : ¬ B = 0 => q hc4_2), if_neg (fun q : ¬ A = 0 => q hc43_6)], N8, rfl⟩)
      have hc43_6 := o_h_eq.2 hq
      refine o_aloadN X5 hx (y_ oD18_46) rfl rfl ?_
      refine o_aloadN X5 hx (y_ oD18_47) rfl rfl ?_
      refine o_getF X5 hx hZ hown (host := "") (Or.inl (k_ 95 rfl)) Via.refl e5 F_k (y_ oD18_48) (fun T9 X9 e9 => ?_)
      refine o_vir (y := o_m18) (b := y) (argsL := [(.ref x)]) (S := []) (W := 0) X9 hx hZ hown (k_ 138 rfl) (k_ 139 rfl) (k_ 141 rfl) (k_ 140 rfl) (backOf (W := 0) (rmst3_1 l Z a0 hw [] y x u t v0 v1 v2 c0 zC_ h0 n0 O0 S_y S_x SC_ hC_) hZ (k_ 142 rfl) (k_ 10 rfl) (by decide) (by decide)) e9 S_y.1 hml (lenOf o_pd__28Ljava_2flang_2fString_3b_29Z rfl) (y_ oD18_51) (fun T10 L10 v10 X10 hQ10 => ?_)
      obtain ⟨rfl, N10q, hh10⟩ := hQ10
      have N10 := Fr.app N0 N10q
      show o_G p e below _ T10 (mkF m 54 #[vR b, vR y] [(.int (if o_pref ([v0, v1, v2] : List Int32) ([c0] : List Int32) = true then 1 else 0 : Int32))])
      exact o_retN X10 hx (t := .boolean) hrt hlk (by simp) (y_ oD18_54) o_narB (by decide) (by decide) (o_hQ hh10 ⟨by rw [if_neg (fun q : ¬ B = 0 ∧ ¬ A = 0 => q.1 hc4_2), if_neg (fun q : ¬ B = 0 => q hc4_2), if_pos (c := ¬ A = 0) hc43_6], N10, rfl⟩)
    have hc27_4 := o_h_eq.2 hq
    exact absurd hc4_2 hc27_4
  have hc4_2 := o_h_eq.2 hq
  refine o_aloadN X1 hx (y_ oD18_7) rfl rfl ?_
  refine o_getF X1 hx hZ hown (host := "") (Or.inl (k_ 99 rfl)) Via.refl e1 F_a (y_ oD18_8) (fun T11 X11 e11 => ?_)
  refine o_iF (t := 23) X11 hx (y_ oD18_11) (fun hq => ?_) (fun hq => ?_)
  · have hc11_12 := o_h_eq.1 hq
    refine o_aloadN X11 hx (y_ oD18_23) rfl rfl ?_
    refine o_getF X11 hx hZ hown (host := "") (Or.inl (k_ 97 rfl)) Via.refl e11 F_b (y_ oD18_24) (fun T13 X13 e13 => ?_)
    refine o_iF (t := 39) X13 hx (y_ oD18_27) (fun hq => ?_) (fun hq => ?_)
    · have hc27_14 := o_h_eq.1 hq
      exact absurd hc27_14 hc4_2
    have hc27_14 := o_h_eq.2 hq
    refine o_aloadN X13 hx (y_ oD18_30) rfl rfl ?_
    refine o_aloadN X13 hx (y_ oD18_31) rfl rfl ?_
    refine o_getF X13 hx hZ hown (host := "") (Or.inl (k_ 95 rfl)) Via.refl e13 F_k (y_ oD18_32) (fun T15 X15 e15 => ?_)
    refine o_vir (y := o_m17) (b := y) (argsL := [(.ref x)]) (S := []) (W := 0) X15 hx hZ hown (k_ 107 rfl) (k_ 108 rfl) (k_ 110 rfl) (k_ 109 rfl) (backOf (W := 0) (rmen3_1 l Z a0 hw [] y x u t v0 v1 v2 c0 zC_ h0 n0 O0 S_y S_x SC_ hC_) hZ (k_ 111 rfl) (k_ 10 rfl) (by decide) (by decide)) e15 S_y.1 hml (lenOf o_pd__28Ljava_2flang_2fString_3b_29Z rfl) (y_ oD18_35) (fun T16 L16 v16 X16 hQ16 => ?_)
    obtain ⟨rfl, N16q, hh16⟩ := hQ16
    have N16 := Fr.app N0 N16q
    show o_G p e below _ T16 (mkF m 38 #[vR b, vR y] [(.int (if o_pref ([v2] : List Int32) ([c0] : List Int32) = true then 1 else 0 : Int32))])
    exact o_retN X16 hx (t := .boolean) hrt hlk (by simp) (y_ oD18_38) o_narB (by decide) (by decide) (o_hQ hh16 ⟨by rw [if_neg (fun q : ¬ B = 0 ∧ ¬ A = 0 => q.2 hc11_12), if_pos (c := ¬ B = 0) hc4_2], N16, rfl⟩)
  have hc11_12 := o_h_eq.2 hq
  refine o_aloadN X11 hx (y_ oD18_14) rfl rfl ?_
  refine o_aloadN X11 hx (y_ oD18_15) rfl rfl ?_
  refine o_getF X11 hx hZ hown (host := "") (Or.inl (k_ 95 rfl)) Via.refl e11 F_k (y_ oD18_16) (fun T17 X17 e17 => ?_)
  refine o_vir (y := o_m10) (b := y) (argsL := [(.ref x)]) (S := []) (W := 0) X17 hx hZ hown (k_ 54 rfl) (k_ 55 rfl) (k_ 57 rfl) (k_ 56 rfl) (backOf (W := 0) (rmcon3_1 l Z a0 hw [] y x u t v0 v1 v2 c0 zC_ h0 n0 O0 S_y S_x SC_ hC_) hZ (k_ 58 rfl) (k_ 10 rfl) (by decide) (by decide)) e17 S_y.1 hml (lenOf o_pd__28Ljava_2flang_2fCharSequence_3b_29Z rfl) (y_ oD18_19) (fun T18 L18 v18 X18 hQ18 => ?_)
  obtain ⟨rfl, N18q, hh18⟩ := hQ18
  have N18 := Fr.app N0 N18q
  show o_G p e below _ T18 (mkF m 22 #[vR b, vR y] [(.int (if o_occ ([v0, v1, v2] : List Int32) ([c0] : List Int32) = true then 1 else 0 : Int32))])
  exact o_retN X18 hx (t := .boolean) hrt hlk (by simp) (y_ oD18_22) o_narB (by decide) (by decide) (o_hQ hh18 ⟨by rw [if_pos (c := ¬ B = 0 ∧ ¬ A = 0) ⟨hc4_2, hc11_12⟩], N18, rfl⟩)
abbrev Qmt3_2 (Z : State) (b : Addr) (y : Addr) (x : Addr) (t : Addr) (u : Addr) (v0 : Int32) (v1 : Int32) (v2 : Int32) (c0 : Int32) (c1 : Int32) (B : Int32) (A : Int32) (zC_ : Int32) (h0 : Heap) (n0 : Nat) (v : Option Value) (h : Heap) (L : List Loc) : Prop := v = some (.int (if ¬ B = 0 ∧ ¬ A = 0 then (if o_occ ([v0, v1, v2] : List Int32) ([c0, c1] : List Int32) = true then 1 else 0) else if ¬ B = 0 then (if o_pref ([v1, v2] : List Int32) ([c0, c1] : List Int32) = true then 1 else 0) else if ¬ A = 0 then (if o_pref ([v0, v1, v2] : List Int32) ([c0, c1] : List Int32) = true then 1 else 0) else (if ([v0, v1, v2] : List Int32) = ([c0, c1] : List Int32) then 1 else 0))) ∧ Fr n0 L ∧ h = h0
set_option maxRecDepth 65536 in
set_option maxHeartbeats 40000000 in
theorem rmmt3_2 (l : Launch) (Z : State) (a0 : Array Value) (hw : ∀ d ∈ tables_1, d.before a0 Z = true) (ws : List Jvm.Cond) (b : Addr) (y : Addr) (x : Addr) (t : Addr) (u : Addr) (v0 : Int32) (v1 : Int32) (v2 : Int32) (c0 : Int32) (c1 : Int32) (B : Int32) (A : Int32) (zC_ : Int32) (h0 : Heap) (n0 : Nat) (O0 : Old Z n0 h0) (F_k : Fld Z h0 b "org/adviceweft/pointcut/NamePattern" "core" "Ljava/lang/String;" (.ref x)) (F_b : Fld Z h0 b "org/adviceweft/pointcut/NamePattern" "anyBefore" "Z" (.int B)) (F_a : Fld Z h0 b "org/adviceweft/pointcut/NamePattern" "anyAfter" "Z" (.int A)) (S_x : o_Str Z h0 x t ([c0, c1] : List Int32)) (S_y : o_Str Z h0 y u ([v0, v1, v2] : List Int32)) (SC_ : o_SC Z zC_) (hC_ : ¬ zC_ = 0) :
    o_Met l Z o_m21 prog_8_method_3_code 2 (some .boolean) ws o_R8 #[(.ref b), (.ref y)] h0 (Qmt3_2 Z b y x t u v0 v1 v2 c0 c1 B A zC_ h0 n0) := by
  refine o_enter o_pn_6 (fun m => o_ef1 m b y) (fun p e s m below meth c s₁ hx hby hml hZ hown hnm hlk hrt X0 e0 => ?_)
  have N0 := Fr.nil n0
  have y_ := @hb _ _ hby
  have k_ := @o_k _ _ hw
  refine o_aloadN X0 hx (y_ oD18_0) rfl rfl ?_
  refine o_getF X0 hx hZ hown (host := "") (Or.inl (k_ 97 rfl)) Via.refl e0 F_b (y_ oD18_1) (fun T1 X1 e1 => ?_)
  refine o_iF (t := 23) X1 hx (y_ oD18_4) (fun hq => ?_) (fun hq => ?_)
  · have hc4_2 := o_h_eq.1 hq
    refine o_aloadN X1 hx (y_ oD18_23) rfl rfl ?_
    refine o_getF X1 hx hZ hown (host := "") (Or.inl (k_ 97 rfl)) Via.refl e1 F_b (y_ oD18_24) (fun T3 X3 e3 => ?_)
    refine o_iF (t := 39) X3 hx (y_ oD18_27) (fun hq => ?_) (fun hq => ?_)
    · have hc27_4 := o_h_eq.1 hq
      refine o_aloadN X3 hx (y_ oD18_39) rfl rfl ?_
      refine o_getF X3 hx hZ hown (host := "") (Or.inl (k_ 99 rfl)) Via.refl e3 F_a (y_ oD18_40) (fun T5 X5 e5 => ?_)
      refine o_iF (t := 55) X5 hx (y_ oD18_43) (fun hq => ?_) (fun hq => ?_)
      · have hc43_6 := o_h_eq.1 hq
        refine o_aloadN X5 hx (y_ oD18_55) rfl rfl ?_
        refine o_aloadN X5 hx (y_ oD18_56) rfl rfl ?_
        refine o_getF X5 hx hZ hown (host := "") (Or.inl (k_ 95 rfl)) Via.refl e5 F_k (y_ oD18_57) (fun T7 X7 e7 => ?_)
        refine o_vir (y := o_m22) (b := y) (argsL := [(.ref x)]) (S := []) (W := 0) X7 hx hZ hown (k_ 129 rfl) (k_ 130 rfl) (k_ 132 rfl) (k_ 131 rfl) (o_eqB (W := 0) hZ hw (k_ 9 rfl) O0 S_y S_x SC_ hC_ (by decide) (by decide)) e7 S_y.1 hml (lenOf o_pd__28Ljava_2flang_2fObject_3b_29Z rfl) (y_ oD18_60) (fun T8 L8 v8 X8 hQ8 => ?_)
        obtain ⟨rfl, rfl, hh8⟩ := hQ8
        have N8 := Fr.app N0 (Fr.nil n0)
        show o_G p e below _ T8 (mkF m 63 #[vR b, vR y] [(.int (if ([v0, v1, v2] : List Int32) = ([c0, c1] : List Int32) then 1 else 0 : Int32))])
        exact o_retN X8 hx (t := .boolean) hrt hlk (by simp) (y_ oD18_63) o_narB (by decide) (by decide) (o_hQ hh8 ⟨by rw [if_neg (fun q : ¬ B = 0 ∧ ¬ A = 0 => q.1 hc4_2), if_neg (fun q : ¬ B = 0 => q hc4_2), if_neg (fun q : ¬ A = 0 => q hc43_6)], N8, rfl⟩)
      have hc43_6 := o_h_eq.2 hq
      refine o_aloadN X5 hx (y_ oD18_46) rfl rfl ?_
      refine o_aloadN X5 hx (y_ oD18_47) rfl rfl ?_
      refine o_getF X5 hx hZ hown (host := "") (Or.inl (k_ 95 rfl)) Via.refl e5 F_k (y_ oD18_48) (fun T9 X9 e9 => ?_)
      refine o_vir (y := o_m18) (b := y) (argsL := [(.ref x)]) (S := []) (W := 0) X9 hx hZ hown (k_ 138 rfl) (k_ 139 rfl) (k_ 141 rfl) (k_ 140 rfl) (backOf (W := 0) (rmst3_2 l Z a0 hw [] y x u t v0 v1 v2 c0 c1 zC_ h0 n0 O0 S_y S_x SC_ hC_) hZ (k_ 142 rfl) (k_ 10 rfl) (by decide) (by decide)) e9 S_y.1 hml (lenOf o_pd__28Ljava_2flang_2fString_3b_29Z rfl) (y_ oD18_51) (fun T10 L10 v10 X10 hQ10 => ?_)
      obtain ⟨rfl, N10q, hh10⟩ := hQ10
      have N10 := Fr.app N0 N10q
      show o_G p e below _ T10 (mkF m 54 #[vR b, vR y] [(.int (if o_pref ([v0, v1, v2] : List Int32) ([c0, c1] : List Int32) = true then 1 else 0 : Int32))])
      exact o_retN X10 hx (t := .boolean) hrt hlk (by simp) (y_ oD18_54) o_narB (by decide) (by decide) (o_hQ hh10 ⟨by rw [if_neg (fun q : ¬ B = 0 ∧ ¬ A = 0 => q.1 hc4_2), if_neg (fun q : ¬ B = 0 => q hc4_2), if_pos (c := ¬ A = 0) hc43_6], N10, rfl⟩)
    have hc27_4 := o_h_eq.2 hq
    exact absurd hc4_2 hc27_4
  have hc4_2 := o_h_eq.2 hq
  refine o_aloadN X1 hx (y_ oD18_7) rfl rfl ?_
  refine o_getF X1 hx hZ hown (host := "") (Or.inl (k_ 99 rfl)) Via.refl e1 F_a (y_ oD18_8) (fun T11 X11 e11 => ?_)
  refine o_iF (t := 23) X11 hx (y_ oD18_11) (fun hq => ?_) (fun hq => ?_)
  · have hc11_12 := o_h_eq.1 hq
    refine o_aloadN X11 hx (y_ oD18_23) rfl rfl ?_
    refine o_getF X11 hx hZ hown (host := "") (Or.inl (k_ 97 rfl)) Via.refl e11 F_b (y_ oD18_24) (fun T13 X13 e13 => ?_)
    refine o_iF (t := 39) X13 hx (y_ oD18_27) (fun hq => ?_) (fun hq => ?_)
    · have hc27_14 := o_h_eq.1 hq
      exact absurd hc27_14 hc4_2
    have hc27_14 := o_h_eq.2 hq
    refine o_aloadN X13 hx (y_ oD18_30) rfl rfl ?_
    refine o_aloadN X13 hx (y_ oD18_31) rfl rfl ?_
    refine o_getF X13 hx hZ hown (host := "") (Or.inl (k_ 95 rfl)) Via.refl e13 F_k (y_ oD18_32) (fun T15 X15 e15 => ?_)
    refine o_vir (y := o_m17) (b := y) (argsL := [(.ref x)]) (S := []) (W := 0) X15 hx hZ hown (k_ 107 rfl) (k_ 108 rfl) (k_ 110 rfl) (k_ 109 rfl) (backOf (W := 0) (rmen3_2 l Z a0 hw [] y x u t v0 v1 v2 c0 c1 zC_ h0 n0 O0 S_y S_x SC_ hC_) hZ (k_ 111 rfl) (k_ 10 rfl) (by decide) (by decide)) e15 S_y.1 hml (lenOf o_pd__28Ljava_2flang_2fString_3b_29Z rfl) (y_ oD18_35) (fun T16 L16 v16 X16 hQ16 => ?_)
    obtain ⟨rfl, N16q, hh16⟩ := hQ16
    have N16 := Fr.app N0 N16q
    show o_G p e below _ T16 (mkF m 38 #[vR b, vR y] [(.int (if o_pref ([v1, v2] : List Int32) ([c0, c1] : List Int32) = true then 1 else 0 : Int32))])
    exact o_retN X16 hx (t := .boolean) hrt hlk (by simp) (y_ oD18_38) o_narB (by decide) (by decide) (o_hQ hh16 ⟨by rw [if_neg (fun q : ¬ B = 0 ∧ ¬ A = 0 => q.2 hc11_12), if_pos (c := ¬ B = 0) hc4_2], N16, rfl⟩)
  have hc11_12 := o_h_eq.2 hq
  refine o_aloadN X11 hx (y_ oD18_14) rfl rfl ?_
  refine o_aloadN X11 hx (y_ oD18_15) rfl rfl ?_
  refine o_getF X11 hx hZ hown (host := "") (Or.inl (k_ 95 rfl)) Via.refl e11 F_k (y_ oD18_16) (fun T17 X17 e17 => ?_)
  refine o_vir (y := o_m10) (b := y) (argsL := [(.ref x)]) (S := []) (W := 0) X17 hx hZ hown (k_ 54 rfl) (k_ 55 rfl) (k_ 57 rfl) (k_ 56 rfl) (backOf (W := 0) (rmcon3_2 l Z a0 hw [] y x u t v0 v1 v2 c0 c1 zC_ h0 n0 O0 S_y S_x SC_ hC_) hZ (k_ 58 rfl) (k_ 10 rfl) (by decide) (by decide)) e17 S_y.1 hml (lenOf o_pd__28Ljava_2flang_2fCharSequence_3b_29Z rfl) (y_ oD18_19) (fun T18 L18 v18 X18 hQ18 => ?_)
  obtain ⟨rfl, N18q, hh18⟩ := hQ18
  have N18 := Fr.app N0 N18q
  show o_G p e below _ T18 (mkF m 22 #[vR b, vR y] [(.int (if o_occ ([v0, v1, v2] : List Int32) ([c0, c1] : List Int32) = true then 1 else 0 : Int32))])
  exact o_retN X18 hx (t := .boolean) hrt hlk (by simp) (y_ oD18_22) o_narB (by decide) (by decide) (o_hQ hh18 ⟨by rw [if_pos (c := ¬ B = 0 ∧ ¬ A = 0) ⟨hc4_2, hc11_12⟩], N18, rfl⟩)
abbrev Q0 (Z : State) (p1 : Int32) (p2 : Int32) (p3 : Int32) (p4 : Int32) (zC_ : Int32) (h0 : Heap) (n0 : Nat) (v : Option Value) (h : Heap) (L : List Loc) : Prop := v = some (.int 1) ∧ Fr n0 L
set_option maxRecDepth 65536 in
set_option maxHeartbeats 40000000 in
theorem rm0 (l : Launch) (Z : State) (a0 : Array Value) (hw : ∀ d ∈ tables_1, d.before a0 Z = true) (ws : List Jvm.Cond) (p1 : Int32) (p2 : Int32) (p3 : Int32) (p4 : Int32) (zC_ : Int32) (h0 : Heap) (n0 : Nat) (O0 : Old Z n0 h0) (SC_ : o_SC Z zC_) (hC_ : ¬ zC_ = 0) :
    o_MetL o_EL l Z x code maxLocals ret ws room_1 #[(.int p1), (.int p2), (.int p3), (.int p4)] h0 (Q0 Z p1 p2 p3 p4 zC_ h0 n0) := by
  refine o_enterL o_pn_2 (fun m => o_ef29 m p1 p2 p3 p4) (fun p e s m below meth c s₁ hx hby hml hZ hown hnm hlk hrt X0 e0 hS0 hk0 C0 => ?_)
  have N0 := Fr.nil n0
  have y_ := @hb _ _ hby
  have k_ := @o_k _ _ hw
  have hml : c.maxLocals = 20 := hml
  have hEL := o_EWs hw
  refine o_iloadN X0 hx (y_ at_0) rfl ?_
  refine o_iconst X0 hx (y_ at_1) (x := 3) rfl ?_
  refine o_iand X0 hx (y_ at_2) ?_
  refine o_iconst X0 hx (y_ at_3) (x := 3) rfl ?_
  refine o_irem X0 hx (y_ at_4) (by decide) ?_
  have hcl := o_cl3 p3
  generalize (p3 &&& (3 : Int32)) % (3 : Int32) = cl at hcl ⊢
  refine o_istore X0 hx (y_ at_5) (A' := #[vI p1, vI p2, vI p3, vI p4, vI cl, .unset, .unset, .unset, .unset, .unset, .unset, .unset, .unset, .unset, .unset, .unset, .unset, .unset, .unset, .unset]) rfl ?_
  refine o_iloadN X0 hx (y_ at_7) rfl ?_
  refine o_iconst X0 hx (y_ at_8) (x := 2) rfl ?_
  refine o_iushr X0 hx (y_ at_9) ?_
  refine o_iconst X0 hx (y_ at_10) (x := 3) rfl ?_
  refine o_iand X0 hx (y_ at_11) ?_
  have hnl := o_and3 (XT.ushr p3 (2 : Int32))
  generalize (XT.ushr p3 (2 : Int32)) &&& (3 : Int32) = nl at hnl ⊢
  refine o_istore X0 hx (y_ at_12) (A' := #[vI p1, vI p2, vI p3, vI p4, vI cl, vI nl, .unset, .unset, .unset, .unset, .unset, .unset, .unset, .unset, .unset, .unset, .unset, .unset, .unset, .unset]) rfl ?_
  refine o_iloadN X0 hx (y_ at_14) rfl ?_
  refine o_iconst X0 hx (y_ at_15) (x := 1) rfl ?_
  refine o_iand X0 hx (y_ at_16) ?_
  refine o_join (α := Int32) (P := fun B => B = 0 ∨ B = 1) (F := fun B => mkF m 25 #[vI p1, vI p2, vI p3, vI p4, vI cl, vI nl, .unset, .unset, .unset, .unset, .unset, .unset, .unset, .unset, .unset, .unset, .unset, .unset, .unset, .unset] [(.int B)]) X0 e0 (fun T1 X1 e1 B h_B => ?_) (fun J25 => ?_)
  · show o_G p e below _ T1 (mkF m 25 #[vI p1, vI p2, vI p3, vI p4, vI cl, vI nl, .unset, .unset, .unset, .unset, .unset, .unset, .unset, .unset, .unset, .unset, .unset, .unset, .unset, .unset] [(.int B)])
    refine o_istore X1 hx (y_ at_25) (A' := #[vI p1, vI p2, vI p3, vI p4, vI cl, vI nl, vI B, .unset, .unset, .unset, .unset, .unset, .unset, .unset, .unset, .unset, .unset, .unset, .unset, .unset]) rfl ?_
    refine o_iloadN X1 hx (y_ at_27) rfl ?_
    refine o_iconst X1 hx (y_ at_28) (x := 2) rfl ?_
    refine o_iand X1 hx (y_ at_29) ?_
    refine o_join (α := Int32) (P := fun A => A = 0 ∨ A = 1) (F := fun A => mkF m 38 #[vI p1, vI p2, vI p3, vI p4, vI cl, vI nl, vI B, .unset, .unset, .unset, .unset, .unset, .unset, .unset, .unset, .unset, .unset, .unset, .unset, .unset] [(.int A)]) X1 e1 (fun T2 X2 e2 A h_A => ?_) (fun J38 => ?_)
    · show o_G p e below _ T2 (mkF m 38 #[vI p1, vI p2, vI p3, vI p4, vI cl, vI nl, vI B, .unset, .unset, .unset, .unset, .unset, .unset, .unset, .unset, .unset, .unset, .unset, .unset, .unset] [(.int A)])
      refine o_istore X2 hx (y_ at_38) (A' := #[vI p1, vI p2, vI p3, vI p4, vI cl, vI nl, vI B, vI A, .unset, .unset, .unset, .unset, .unset, .unset, .unset, .unset, .unset, .unset, .unset, .unset]) rfl ?_
      refine o_iload X2 hx (y_ at_40) rfl ?_
      refine o_iF (t := 51) X2 hx (y_ at_42) (fun hq => ?_) (fun hq => ?_)
      · have hc42 := o_h_ne.1 hq
        refine o_iloadN X2 hx (y_ at_51) rfl ?_
        refine o_sta (y := o_m2) (argsL := [(.int p1)]) (S := []) (W := 0) X2 hx hZ hown (k_ 0 rfl) (k_ 1 rfl) (k_ 2 rfl) (k_ 3 rfl) (backOf (W := 0) (rmcor l Z a0 hw [] p1 h0 n0 O0) hZ (k_ 3 rfl) (k_ 2 rfl) (by decide) (by decide)) e2 hml (lenOf o_pd__28I_29C rfl) (y_ at_52) (fun T3 L3 v3 X3 hQ3 => ?_)
        obtain ⟨rfl, N3q, hh3⟩ := hQ3
        have N3 := Fr.app N0 N3q
        show o_G p e below _ T3 (mkF m 55 #[vI p1, vI p2, vI p3, vI p4, vI cl, vI nl, vI B, vI A, .unset, .unset, .unset, .unset, .unset, .unset, .unset, .unset, .unset, .unset, .unset, .unset] [(.int (o_core p1))])
        obtain ⟨ca, e_ca, n_ca, l_ca, u_ca, s_ca⟩ := o_coreP p1
        rw [e_ca]
        refine o_istore X3 hx (y_ at_55) (A' := #[vI p1, vI p2, vI p3, vI p4, vI cl, vI nl, vI B, vI A, vI ca, .unset, .unset, .unset, .unset, .unset, .unset, .unset, .unset, .unset, .unset, .unset]) rfl ?_
        refine o_iloadN X3 hx (y_ at_57) rfl ?_
        refine o_bipush X3 hx (y_ at_58) (x := 8) rfl ?_
        refine o_iushr X3 hx (y_ at_60) ?_
        refine o_sta (y := o_m2) (argsL := [(.int (XT.ushr p1 (8 : Int32)))]) (S := []) (W := 0) X3 hx hZ hown (k_ 0 rfl) (k_ 1 rfl) (k_ 2 rfl) (k_ 3 rfl) (backOf (W := 0) (rmcor l Z a0 hw [] (XT.ushr p1 (8 : Int32)) h0 n0 O0) hZ (k_ 3 rfl) (k_ 2 rfl) (by decide) (by decide)) hh3 hml (lenOf o_pd__28I_29C rfl) (y_ at_61) (fun T4 L4 v4 X4 hQ4 => ?_)
        obtain ⟨rfl, N4q, hh4⟩ := hQ4
        have N4 := Fr.app N3 N4q
        show o_G p e below _ T4 (mkF m 64 #[vI p1, vI p2, vI p3, vI p4, vI cl, vI nl, vI B, vI A, vI ca, .unset, .unset, .unset, .unset, .unset, .unset, .unset, .unset, .unset, .unset, .unset] [(.int (o_core (XT.ushr p1 (8 : Int32))))])
        obtain ⟨cb, e_cb, n_cb, l_cb, u_cb, s_cb⟩ := o_coreP (XT.ushr p1 (8 : Int32))
        rw [e_cb]
        refine o_istore X4 hx (y_ at_64) (A' := #[vI p1, vI p2, vI p3, vI p4, vI cl, vI nl, vI B, vI A, vI ca, vI cb, .unset, .unset, .unset, .unset, .unset, .unset, .unset, .unset, .unset, .unset]) rfl ?_
        refine o_iloadN X4 hx (y_ at_66) rfl ?_
        refine o_sipush X4 hx (y_ at_67) (x := 255) rfl ?_
        refine o_iand X4 hx (y_ at_70) ?_
        refine o_i2c X4 hx (y_ at_71) ?_
        obtain ⟨na, e_na, f_na, n_na, l_na, u_na⟩ := o_chr p2
        rw [f_na]
        refine o_istore X4 hx (y_ at_72) (A' := #[vI p1, vI p2, vI p3, vI p4, vI cl, vI nl, vI B, vI A, vI ca, vI cb, vI na, .unset, .unset, .unset, .unset, .unset, .unset, .unset, .unset, .unset]) rfl ?_
        refine o_iloadN X4 hx (y_ at_74) rfl ?_
        refine o_bipush X4 hx (y_ at_75) (x := 8) rfl ?_
        refine o_iushr X4 hx (y_ at_77) ?_
        refine o_sipush X4 hx (y_ at_78) (x := 255) rfl ?_
        refine o_iand X4 hx (y_ at_81) ?_
        refine o_i2c X4 hx (y_ at_82) ?_
        obtain ⟨nb, e_nb, f_nb, n_nb, l_nb, u_nb⟩ := o_chr (XT.ushr p2 (8 : Int32))
        rw [f_nb]
        refine o_istore X4 hx (y_ at_83) (A' := #[vI p1, vI p2, vI p3, vI p4, vI cl, vI nl, vI B, vI A, vI ca, vI cb, vI na, vI nb, .unset, .unset, .unset, .unset, .unset, .unset, .unset, .unset]) rfl ?_
        refine o_iloadN X4 hx (y_ at_85) rfl ?_
        refine o_bipush X4 hx (y_ at_86) (x := 16) rfl ?_
        refine o_iushr X4 hx (y_ at_88) ?_
        refine o_sipush X4 hx (y_ at_89) (x := 255) rfl ?_
        refine o_iand X4 hx (y_ at_92) ?_
        refine o_i2c X4 hx (y_ at_93) ?_
        obtain ⟨nc, e_nc, f_nc, n_nc, l_nc, u_nc⟩ := o_chr (XT.ushr p2 (16 : Int32))
        rw [f_nc]
        refine o_istore X4 hx (y_ at_94) (A' := #[vI p1, vI p2, vI p3, vI p4, vI cl, vI nl, vI B, vI A, vI ca, vI cb, vI na, vI nb, vI nc, .unset, .unset, .unset, .unset, .unset, .unset, .unset]) rfl ?_
        refine o_iconst X4 hx (y_ at_96) (x := 2) rfl ?_
        refine o_newA (cap := 2) X4 hx hZ (k_ 4 rfl) hh4 (y_ at_97) (by decide) (by decide) (by decide) (by decide) (by decide) (fun T5 h5 k5 b5 X5 e5 gg5 E5 A5 => ?_)
        have g_b5 := o_fresh O0 gg5
        have O5 := Old.ext O0 E5
        have C6 := CHr.trans C0 (CHr.ext E5 C0.1)
        have V5 : Arv Z h5 b5 k5 .char (2 : Int32) [(.int 0), (.int 0)] (.int 0) := A5.pad (pad_rep [] (.int 0) 2)
        refine o_dup X5 hx (y_ at_99) rfl ?_
        refine o_iconst X5 hx (y_ at_100) (x := 0) rfl ?_
        refine o_iload X5 hx (y_ at_101) rfl ?_
        refine o_stC (i := 0) (z := ca) X5 hx hZ e5 V5 (y_ at_103) ⟨by decide, by decide⟩ rfl (o_b rfl) n_ca (fun T7 h7 X7 e7 W7 V7 => ?_)
        have N7 := Fr.snoc X7 N4 g_b5
        have O7 := Old.wr O5 W7 g_b5
        have C8 := CHr.trans C6 (CHr.wr W7 (Safe.arv hZ.alike V5 (by decide)) C6.1)
        refine o_dup X7 hx (y_ at_104) rfl ?_
        refine o_iconst X7 hx (y_ at_105) (x := 1) rfl ?_
        refine o_iload X7 hx (y_ at_106) rfl ?_
        refine o_stC (i := 1) (z := cb) X7 hx hZ e7 V7 (y_ at_108) ⟨by decide, by decide⟩ rfl (o_b rfl) n_cb (fun T9 h9 X9 e9 W9 V9 => ?_)
        have N9 := Fr.snoc X9 N7 g_b5
        have O9 := Old.wr O7 W9 g_b5
        have C10 := CHr.trans C8 (CHr.wr W9 (Safe.arv hZ.alike V7 (by decide)) C8.1)
        refine o_astore X9 hx (y_ at_109) rfl (A' := #[vI p1, vI p2, vI p3, vI p4, vI cl, vI nl, vI B, vI A, vI ca, vI cb, vI na, vI nb, vI nc, vR b5, .unset, .unset, .unset, .unset, .unset, .unset]) rfl ?_
        refine o_iconst X9 hx (y_ at_111) (x := 3) rfl ?_
        refine o_newA (cap := 3) X9 hx hZ (k_ 4 rfl) e9 (y_ at_112) (by decide) (by decide) (by decide) (by decide) (by decide) (fun T11 h11 k11 b11 X11 e11 gg11 E11 A11 => ?_)
        have g_b11 := o_fresh O9 gg11
        have O11 := Old.ext O9 E11
        have C12 := CHr.trans C10 (CHr.ext E11 C10.1)
        have V11 : Arv Z h11 b11 k11 .char (3 : Int32) [(.int 0), (.int 0), (.int 0)] (.int 0) := A11.pad (pad_rep [] (.int 0) 3)
        refine o_dup X11 hx (y_ at_114) rfl ?_
        refine o_iconst X11 hx (y_ at_115) (x := 0) rfl ?_
        refine o_iload X11 hx (y_ at_116) rfl ?_
        refine o_stC (i := 0) (z := na) X11 hx hZ e11 V11 (y_ at_118) ⟨by decide, by decide⟩ rfl (o_b rfl) n_na (fun T13 h13 X13 e13 W13 V13 => ?_)
        have N13 := Fr.snoc X13 N9 g_b11
        have O13 := Old.wr O11 W13 g_b11
        have C14 := CHr.trans C12 (CHr.wr W13 (Safe.arv hZ.alike V11 (by decide)) C12.1)
        refine o_dup X13 hx (y_ at_119) rfl ?_
        refine o_iconst X13 hx (y_ at_120) (x := 1) rfl ?_
        refine o_iload X13 hx (y_ at_121) rfl ?_
        refine o_stC (i := 1) (z := nb) X13 hx hZ e13 V13 (y_ at_123) ⟨by decide, by decide⟩ rfl (o_b rfl) n_nb (fun T15 h15 X15 e15 W15 V15 => ?_)
        have N15 := Fr.snoc X15 N13 g_b11
        have O15 := Old.wr O13 W15 g_b11
        have C16 := CHr.trans C14 (CHr.wr W15 (Safe.arv hZ.alike V13 (by decide)) C14.1)
        refine o_dup X15 hx (y_ at_124) rfl ?_
        refine o_iconst X15 hx (y_ at_125) (x := 2) rfl ?_
        refine o_iload X15 hx (y_ at_126) rfl ?_
        refine o_stC (i := 2) (z := nc) X15 hx hZ e15 V15 (y_ at_128) ⟨by decide, by decide⟩ rfl (o_b rfl) n_nc (fun T17 h17 X17 e17 W17 V17 => ?_)
        have N17 := Fr.snoc X17 N15 g_b11
        have O17 := Old.wr O15 W17 g_b11
        have C18 := CHr.trans C16 (CHr.wr W17 (Safe.arv hZ.alike V15 (by decide)) C16.1)
        refine o_astore X17 hx (y_ at_129) rfl (A' := #[vI p1, vI p2, vI p3, vI p4, vI cl, vI nl, vI B, vI A, vI ca, vI cb, vI na, vI nb, vI nc, vR b5, vR b11, .unset, .unset, .unset, .unset, .unset]) rfl ?_
        obtain ⟨kn, hkn⟩ : ∃ z, z = k11 := ⟨_, rfl⟩
        obtain ⟨kc, hkc⟩ : ∃ z, z = k5 := ⟨_, rfl⟩
        refine o_joinH (α := Int32 × Value × Value × Value) (C := 24) (N := 200) (P := fun hh_ a_ => a_.1 = o_got B A cl nl na nb nc ca cb ∧ Arv Z hh_ b11 k11 .char (3 : Int32) [.int na, .int nb, .int nc] (.int 0) ∧ Arv Z hh_ b5 k5 .char (2 : Int32) [.int ca, .int cb] (.int 0)) (F := fun a_ => mkF m 280 #[vI p1, vI p2, vI p3, vI p4, vI cl, vI nl, vI B, vI A, vI ca, vI cb, vI na, vI nb, vI nc, vR b5, vR b11, .val a_.2.1, .val a_.2.2.1, .val a_.2.2.2, .unset, .unset] [.int a_.1]) X17 hZ hown N17 (fun T19 L19 vm19 k19 X19 hS19 hk19 hZ19 hown19 N19 O19 a_ h_a => ?_) (fun J280 => ?_)
        · obtain ⟨got, q15, q16, q17⟩ := a_
          obtain ⟨hgot, Vn19, Vc19⟩ := h_a
          show o_G p e below _ T19 (mkF m 280 #[vI p1, vI p2, vI p3, vI p4, vI cl, vI nl, vI B, vI A, vI ca, vI cb, vI na, vI nb, vI nc, vR b5, vR b11, .val q15, .val q16, .val q17, .unset, .unset] [(.int got)])
          refine o_istore X19 hx (y_ at_280) (A' := #[vI p1, vI p2, vI p3, vI p4, vI cl, vI nl, vI B, vI A, vI ca, vI cb, vI na, vI nb, vI nc, vR b5, vR b11, .val q15, .val q16, .val q17, vI got, .unset]) rfl ?_
          refine o_iload X19 hx (y_ at_282) rfl ?_
          refine o_iF (t := 362) X19 hx (y_ at_284) (fun hq => ?_) (fun hq => ?_)
          · have hc284 := o_h_eq.1 hq
            refine o_iload X19 hx (y_ at_362) rfl ?_
            refine o_iF (t := 388) X19 hx (y_ at_364) (fun hq => ?_) (fun hq => ?_)
            · have hc364 := o_h_eq.1 hq
              refine o_iload X19 hx (y_ at_388) rfl ?_
              refine o_iF (t := 410) X19 hx (y_ at_390) (fun hq => ?_) (fun hq => ?_)
              · have hc390 := o_h_eq.1 hq
                refine o_iload X19 hx (y_ at_410) rfl ?_
                refine o_iload X19 hx (y_ at_412) rfl ?_
                refine o_iC (t := 436) X19 hx (y_ at_414) (fun hq => ?_) (fun hq => ?_)
                · have hc414 := o_c_ne.1 hq
                  refine o_iconst X19 hx (y_ at_436) (x := 0) rfl ?_
                  refine o_istore X19 hx (y_ at_437) (A' := #[vI p1, vI p2, vI p3, vI p4, vI cl, vI nl, vI B, vI A, vI ca, vI cb, vI na, vI nb, vI nc, vR b5, vR b11, .val q15, .val q16, .val q17, vI got, vI 0]) rfl ?_
                  refine o_iload X19 hx (y_ at_439) rfl ?_
                  refine o_iload X19 hx (y_ at_441) rfl ?_
                  refine o_iC (t := 450) X19 hx (y_ at_443) (fun hq => ?_) (fun hq => ?_)
                  · have hc443 := o_c_ne.1 hq
                    exact absurd (hgot.trans (o_fin0 (B := B) (A := A) hcl hnl hc284 hc364 hc390 hc414)) hc443
                  have hc443 := o_c_ne.2 hq
                  refine o_iconst X19 hx (y_ at_446) (x := 1) rfl ?_
                  refine o_gO (t := 451) X19 hx (y_ at_447) ?_
                  exact o_retNW X19 hx hS19 hk19 (t := .boolean) hrt hlk (by simp) (y_ at_451) rfl (by decide) (by decide) ⟨rfl, N19⟩
                have hc414 := o_c_ne.2 hq
                refine o_aload X19 hx (y_ at_417) rfl rfl ?_
                refine o_iload X19 hx (y_ at_419) rfl ?_
                refine o_aload X19 hx (y_ at_421) rfl rfl ?_
                refine o_iload X19 hx (y_ at_423) rfl ?_
                refine o_iconst X19 hx (y_ at_425) (x := 0) rfl ?_
                refine o_sta (y := o_m3) (argsL := [(.ref b11), (.int nl), (.ref b5), (.int cl), (.int 0)]) (S := []) (W := 0) X19 hx hZ19 hown19 (k_ 122 rfl) (k_ 123 rfl) (k_ 2 rfl) (k_ 124 rfl) (backOf (W := 0) (rmat l Z a0 hw [] b11 nl b5 cl (0 : Int32) k11 k5 na nb nc ca cb T19.heap n0 O19 Vn19 Vc19 hcl hnl (by decide)) hZ19 (k_ 124 rfl) (k_ 2 rfl) (by decide) (by decide)) rfl hml (lenOf o_pd__28_5bCI_5bCII_29Z rfl) (y_ at_426) (fun T20 L20 v20 X20 hQ20 => ?_)
                obtain ⟨rfl, N20q, hh20⟩ := hQ20
                have N20 := Fr.app N19 N20q
                show o_G p e below _ T20 (mkF m 429 #[vI p1, vI p2, vI p3, vI p4, vI cl, vI nl, vI B, vI A, vI ca, vI cb, vI na, vI nb, vI nc, vR b5, vR b11, .val q15, .val q16, .val q17, vI got, .unset] [(.int (if o_atP na nb nc nl ca cb cl (0 : Int32) then 1 else 0 : Int32))])
                refine o_iF (t := 436) X20 hx (y_ at_429) (fun hq => ?_) (fun hq => ?_)
                · have hc429 := o_h_eq.1 hq
                  refine o_iconst X20 hx (y_ at_436) (x := 0) rfl ?_
                  refine o_istore X20 hx (y_ at_437) (A' := #[vI p1, vI p2, vI p3, vI p4, vI cl, vI nl, vI B, vI A, vI ca, vI cb, vI na, vI nb, vI nc, vR b5, vR b11, .val q15, .val q16, .val q17, vI got, vI 0]) rfl ?_
                  refine o_iload X20 hx (y_ at_439) rfl ?_
                  refine o_iload X20 hx (y_ at_441) rfl ?_
                  refine o_iC (t := 450) X20 hx (y_ at_443) (fun hq => ?_) (fun hq => ?_)
                  · have hc443 := o_c_ne.1 hq
                    exact absurd (hgot.trans (o_fin1 (B := B) (A := A) hcl hnl hc284 hc364 hc390 hc414 hc429)) hc443
                  have hc443 := o_c_ne.2 hq
                  refine o_iconst X20 hx (y_ at_446) (x := 1) rfl ?_
                  refine o_gO (t := 451) X20 hx (y_ at_447) ?_
                  exact o_retNW X20 hx hS19 (by rw [hh20]; exact hk19) (t := .boolean) hrt hlk (by simp) (y_ at_451) rfl (by decide) (by decide) (o_hQ hh20 ⟨rfl, N20⟩)
                have hc429 := o_h_eq.2 hq
                refine o_iconst X20 hx (y_ at_432) (x := 1) rfl ?_
                refine o_gO (t := 437) X20 hx (y_ at_433) ?_
                refine o_istore X20 hx (y_ at_437) (A' := #[vI p1, vI p2, vI p3, vI p4, vI cl, vI nl, vI B, vI A, vI ca, vI cb, vI na, vI nb, vI nc, vR b5, vR b11, .val q15, .val q16, .val q17, vI got, vI 1]) rfl ?_
                refine o_iload X20 hx (y_ at_439) rfl ?_
                refine o_iload X20 hx (y_ at_441) rfl ?_
                refine o_iC (t := 450) X20 hx (y_ at_443) (fun hq => ?_) (fun hq => ?_)
                · have hc443 := o_c_ne.1 hq
                  exact absurd (hgot.trans (o_fin2 (B := B) (A := A) hcl hnl hc284 hc364 hc390 hc414 hc429)) hc443
                have hc443 := o_c_ne.2 hq
                refine o_iconst X20 hx (y_ at_446) (x := 1) rfl ?_
                refine o_gO (t := 451) X20 hx (y_ at_447) ?_
                exact o_retNW X20 hx hS19 (by rw [hh20]; exact hk19) (t := .boolean) hrt hlk (by simp) (y_ at_451) rfl (by decide) (by decide) (o_hQ hh20 ⟨rfl, N20⟩)
              have hc390 := o_h_eq.2 hq
              refine o_aload X19 hx (y_ at_393) rfl rfl ?_
              refine o_iload X19 hx (y_ at_395) rfl ?_
              refine o_aload X19 hx (y_ at_397) rfl rfl ?_
              refine o_iload X19 hx (y_ at_399) rfl ?_
              refine o_iconst X19 hx (y_ at_401) (x := 0) rfl ?_
              refine o_sta (y := o_m3) (argsL := [(.ref b11), (.int nl), (.ref b5), (.int cl), (.int 0)]) (S := []) (W := 0) X19 hx hZ19 hown19 (k_ 122 rfl) (k_ 123 rfl) (k_ 2 rfl) (k_ 124 rfl) (backOf (W := 0) (rmat l Z a0 hw [] b11 nl b5 cl (0 : Int32) k11 k5 na nb nc ca cb T19.heap n0 O19 Vn19 Vc19 hcl hnl (by decide)) hZ19 (k_ 124 rfl) (k_ 2 rfl) (by decide) (by decide)) rfl hml (lenOf o_pd__28_5bCI_5bCII_29Z rfl) (y_ at_402) (fun T21 L21 v21 X21 hQ21 => ?_)
              obtain ⟨rfl, N21q, hh21⟩ := hQ21
              have N21 := Fr.app N19 N21q
              show o_G p e below _ T21 (mkF m 405 #[vI p1, vI p2, vI p3, vI p4, vI cl, vI nl, vI B, vI A, vI ca, vI cb, vI na, vI nb, vI nc, vR b5, vR b11, .val q15, .val q16, .val q17, vI got, .unset] [(.int (if o_atP na nb nc nl ca cb cl (0 : Int32) then 1 else 0 : Int32))])
              refine o_istore X21 hx (y_ at_405) (A' := #[vI p1, vI p2, vI p3, vI p4, vI cl, vI nl, vI B, vI A, vI ca, vI cb, vI na, vI nb, vI nc, vR b5, vR b11, .val q15, .val q16, .val q17, vI got, vI (if o_atP na nb nc nl ca cb cl (0 : Int32) then 1 else 0 : Int32)]) rfl ?_
              refine o_gO (t := 439) X21 hx (y_ at_407) ?_
              refine o_iload X21 hx (y_ at_439) rfl ?_
              refine o_iload X21 hx (y_ at_441) rfl ?_
              refine o_iC (t := 450) X21 hx (y_ at_443) (fun hq => ?_) (fun hq => ?_)
              · have hc443 := o_c_ne.1 hq
                exact absurd (hgot.trans (o_fin3 (B := B) (A := A) hcl hnl hc284 hc364 hc390)) hc443
              have hc443 := o_c_ne.2 hq
              refine o_iconst X21 hx (y_ at_446) (x := 1) rfl ?_
              refine o_gO (t := 451) X21 hx (y_ at_447) ?_
              exact o_retNW X21 hx hS19 (by rw [hh21]; exact hk19) (t := .boolean) hrt hlk (by simp) (y_ at_451) rfl (by decide) (by decide) (o_hQ hh21 ⟨rfl, N21⟩)
            have hc364 := o_h_eq.2 hq
            exact absurd hc284 hc364
          have hc284 := o_h_eq.2 hq
          refine o_iload X19 hx (y_ at_287) rfl ?_
          refine o_iF (t := 362) X19 hx (y_ at_289) (fun hq => ?_) (fun hq => ?_)
          · have hc289 := o_h_eq.1 hq
            refine o_iload X19 hx (y_ at_362) rfl ?_
            refine o_iF (t := 388) X19 hx (y_ at_364) (fun hq => ?_) (fun hq => ?_)
            · have hc364 := o_h_eq.1 hq
              exact absurd hc364 hc284
            have hc364 := o_h_eq.2 hq
            refine o_aload X19 hx (y_ at_367) rfl rfl ?_
            refine o_iload X19 hx (y_ at_369) rfl ?_
            refine o_aload X19 hx (y_ at_371) rfl rfl ?_
            refine o_iload X19 hx (y_ at_373) rfl ?_
            refine o_iload X19 hx (y_ at_375) rfl ?_
            refine o_iload X19 hx (y_ at_377) rfl ?_
            refine o_isub X19 hx (y_ at_379) ?_
            refine o_sta (y := o_m3) (argsL := [(.ref b11), (.int nl), (.ref b5), (.int cl), (.int (nl - cl))]) (S := []) (W := 0) X19 hx hZ19 hown19 (k_ 122 rfl) (k_ 123 rfl) (k_ 2 rfl) (k_ 124 rfl) (backOf (W := 0) (rmat l Z a0 hw [] b11 nl b5 cl (nl - cl) k11 k5 na nb nc ca cb T19.heap n0 O19 Vn19 Vc19 hcl hnl (o_nlcl hcl hnl)) hZ19 (k_ 124 rfl) (k_ 2 rfl) (by decide) (by decide)) rfl hml (lenOf o_pd__28_5bCI_5bCII_29Z rfl) (y_ at_380) (fun T22 L22 v22 X22 hQ22 => ?_)
            obtain ⟨rfl, N22q, hh22⟩ := hQ22
            have N22 := Fr.app N19 N22q
            show o_G p e below _ T22 (mkF m 383 #[vI p1, vI p2, vI p3, vI p4, vI cl, vI nl, vI B, vI A, vI ca, vI cb, vI na, vI nb, vI nc, vR b5, vR b11, .val q15, .val q16, .val q17, vI got, .unset] [(.int (if o_atP na nb nc nl ca cb cl (nl - cl) then 1 else 0 : Int32))])
            refine o_istore X22 hx (y_ at_383) (A' := #[vI p1, vI p2, vI p3, vI p4, vI cl, vI nl, vI B, vI A, vI ca, vI cb, vI na, vI nb, vI nc, vR b5, vR b11, .val q15, .val q16, .val q17, vI got, vI (if o_atP na nb nc nl ca cb cl (nl - cl) then 1 else 0 : Int32)]) rfl ?_
            refine o_gO (t := 439) X22 hx (y_ at_385) ?_
            refine o_iload X22 hx (y_ at_439) rfl ?_
            refine o_iload X22 hx (y_ at_441) rfl ?_
            refine o_iC (t := 450) X22 hx (y_ at_443) (fun hq => ?_) (fun hq => ?_)
            · have hc443 := o_c_ne.1 hq
              exact absurd (hgot.trans (o_fin4 (B := B) (A := A) hcl hnl hc284 hc289 hc364)) hc443
            have hc443 := o_c_ne.2 hq
            refine o_iconst X22 hx (y_ at_446) (x := 1) rfl ?_
            refine o_gO (t := 451) X22 hx (y_ at_447) ?_
            exact o_retNW X22 hx hS19 (by rw [hh22]; exact hk19) (t := .boolean) hrt hlk (by simp) (y_ at_451) rfl (by decide) (by decide) (o_hQ hh22 ⟨rfl, N22⟩)
          have hc289 := o_h_eq.2 hq
          refine o_aload X19 hx (y_ at_292) rfl rfl ?_
          refine o_iload X19 hx (y_ at_294) rfl ?_
          refine o_aload X19 hx (y_ at_296) rfl rfl ?_
          refine o_iload X19 hx (y_ at_298) rfl ?_
          refine o_iconst X19 hx (y_ at_300) (x := 0) rfl ?_
          refine o_sta (y := o_m3) (argsL := [(.ref b11), (.int nl), (.ref b5), (.int cl), (.int 0)]) (S := []) (W := 0) X19 hx hZ19 hown19 (k_ 122 rfl) (k_ 123 rfl) (k_ 2 rfl) (k_ 124 rfl) (backOf (W := 0) (rmat l Z a0 hw [] b11 nl b5 cl (0 : Int32) k11 k5 na nb nc ca cb T19.heap n0 O19 Vn19 Vc19 hcl hnl (by decide)) hZ19 (k_ 124 rfl) (k_ 2 rfl) (by decide) (by decide)) rfl hml (lenOf o_pd__28_5bCI_5bCII_29Z rfl) (y_ at_301) (fun T23 L23 v23 X23 hQ23 => ?_)
          obtain ⟨rfl, N23q, hh23⟩ := hQ23
          have N23 := Fr.app N19 N23q
          show o_G p e below _ T23 (mkF m 304 #[vI p1, vI p2, vI p3, vI p4, vI cl, vI nl, vI B, vI A, vI ca, vI cb, vI na, vI nb, vI nc, vR b5, vR b11, .val q15, .val q16, .val q17, vI got, .unset] [(.int (if o_atP na nb nc nl ca cb cl (0 : Int32) then 1 else 0 : Int32))])
          refine o_iF (t := 352) X23 hx (y_ at_304) (fun hq => ?_) (fun hq => ?_)
          · have hc304 := o_h_ne.1 hq
            refine o_iconst X23 hx (y_ at_352) (x := 1) rfl ?_
            refine o_gO (t := 357) X23 hx (y_ at_353) ?_
            refine o_istore X23 hx (y_ at_357) (A' := #[vI p1, vI p2, vI p3, vI p4, vI cl, vI nl, vI B, vI A, vI ca, vI cb, vI na, vI nb, vI nc, vR b5, vR b11, .val q15, .val q16, .val q17, vI got, vI 1]) rfl ?_
            refine o_gO (t := 439) X23 hx (y_ at_359) ?_
            refine o_iload X23 hx (y_ at_439) rfl ?_
            refine o_iload X23 hx (y_ at_441) rfl ?_
            refine o_iC (t := 450) X23 hx (y_ at_443) (fun hq => ?_) (fun hq => ?_)
            · have hc443 := o_c_ne.1 hq
              exact absurd (hgot.trans (o_fin5 (B := B) (A := A) hcl hnl hc284 hc289 hc304)) hc443
            have hc443 := o_c_ne.2 hq
            refine o_iconst X23 hx (y_ at_446) (x := 1) rfl ?_
            refine o_gO (t := 451) X23 hx (y_ at_447) ?_
            exact o_retNW X23 hx hS19 (by rw [hh23]; exact hk19) (t := .boolean) hrt hlk (by simp) (y_ at_451) rfl (by decide) (by decide) (o_hQ hh23 ⟨rfl, N23⟩)
          have hc304 := o_h_ne.2 hq
          refine o_aload X23 hx (y_ at_307) rfl rfl ?_
          refine o_iload X23 hx (y_ at_309) rfl ?_
          refine o_aload X23 hx (y_ at_311) rfl rfl ?_
          refine o_iload X23 hx (y_ at_313) rfl ?_
          refine o_iconst X23 hx (y_ at_315) (x := 1) rfl ?_
          refine o_sta (y := o_m3) (argsL := [(.ref b11), (.int nl), (.ref b5), (.int cl), (.int 1)]) (S := []) (W := 0) X23 hx hZ19 hown19 (k_ 122 rfl) (k_ 123 rfl) (k_ 2 rfl) (k_ 124 rfl) (backOf (W := 0) (rmat l Z a0 hw [] b11 nl b5 cl (1 : Int32) k11 k5 na nb nc ca cb T19.heap n0 O19 Vn19 Vc19 hcl hnl (by decide)) hZ19 (k_ 124 rfl) (k_ 2 rfl) (by decide) (by decide)) hh23 hml (lenOf o_pd__28_5bCI_5bCII_29Z rfl) (y_ at_316) (fun T24 L24 v24 X24 hQ24 => ?_)
          obtain ⟨rfl, N24q, hh24⟩ := hQ24
          have N24 := Fr.app N23 N24q
          show o_G p e below _ T24 (mkF m 319 #[vI p1, vI p2, vI p3, vI p4, vI cl, vI nl, vI B, vI A, vI ca, vI cb, vI na, vI nb, vI nc, vR b5, vR b11, .val q15, .val q16, .val q17, vI got, .unset] [(.int (if o_atP na nb nc nl ca cb cl (1 : Int32) then 1 else 0 : Int32))])
          refine o_iF (t := 352) X24 hx (y_ at_319) (fun hq => ?_) (fun hq => ?_)
          · have hc319 := o_h_ne.1 hq
            refine o_iconst X24 hx (y_ at_352) (x := 1) rfl ?_
            refine o_gO (t := 357) X24 hx (y_ at_353) ?_
            refine o_istore X24 hx (y_ at_357) (A' := #[vI p1, vI p2, vI p3, vI p4, vI cl, vI nl, vI B, vI A, vI ca, vI cb, vI na, vI nb, vI nc, vR b5, vR b11, .val q15, .val q16, .val q17, vI got, vI 1]) rfl ?_
            refine o_gO (t := 439) X24 hx (y_ at_359) ?_
            refine o_iload X24 hx (y_ at_439) rfl ?_
            refine o_iload X24 hx (y_ at_441) rfl ?_
            refine o_iC (t := 450) X24 hx (y_ at_443) (fun hq => ?_) (fun hq => ?_)
            · have hc443 := o_c_ne.1 hq
              exact absurd (hgot.trans (o_fin6 (B := B) (A := A) hcl hnl hc284 hc289 hc304 hc319)) hc443
            have hc443 := o_c_ne.2 hq
            refine o_iconst X24 hx (y_ at_446) (x := 1) rfl ?_
            refine o_gO (t := 451) X24 hx (y_ at_447) ?_
            exact o_retNW X24 hx hS19 (by rw [hh24]; exact hk19) (t := .boolean) hrt hlk (by simp) (y_ at_451) rfl (by decide) (by decide) (o_hQ hh24 ⟨rfl, N24⟩)
          have hc319 := o_h_ne.2 hq
          refine o_aload X24 hx (y_ at_322) rfl rfl ?_
          refine o_iload X24 hx (y_ at_324) rfl ?_
          refine o_aload X24 hx (y_ at_326) rfl rfl ?_
          refine o_iload X24 hx (y_ at_328) rfl ?_
          refine o_iconst X24 hx (y_ at_330) (x := 2) rfl ?_
          refine o_sta (y := o_m3) (argsL := [(.ref b11), (.int nl), (.ref b5), (.int cl), (.int 2)]) (S := []) (W := 0) X24 hx hZ19 hown19 (k_ 122 rfl) (k_ 123 rfl) (k_ 2 rfl) (k_ 124 rfl) (backOf (W := 0) (rmat l Z a0 hw [] b11 nl b5 cl (2 : Int32) k11 k5 na nb nc ca cb T19.heap n0 O19 Vn19 Vc19 hcl hnl (by decide)) hZ19 (k_ 124 rfl) (k_ 2 rfl) (by decide) (by decide)) hh24 hml (lenOf o_pd__28_5bCI_5bCII_29Z rfl) (y_ at_331) (fun T25 L25 v25 X25 hQ25 => ?_)
          obtain ⟨rfl, N25q, hh25⟩ := hQ25
          have N25 := Fr.app N24 N25q
          show o_G p e below _ T25 (mkF m 334 #[vI p1, vI p2, vI p3, vI p4, vI cl, vI nl, vI B, vI A, vI ca, vI cb, vI na, vI nb, vI nc, vR b5, vR b11, .val q15, .val q16, .val q17, vI got, .unset] [(.int (if o_atP na nb nc nl ca cb cl (2 : Int32) then 1 else 0 : Int32))])
          refine o_iF (t := 352) X25 hx (y_ at_334) (fun hq => ?_) (fun hq => ?_)
          · have hc334 := o_h_ne.1 hq
            refine o_iconst X25 hx (y_ at_352) (x := 1) rfl ?_
            refine o_gO (t := 357) X25 hx (y_ at_353) ?_
            refine o_istore X25 hx (y_ at_357) (A' := #[vI p1, vI p2, vI p3, vI p4, vI cl, vI nl, vI B, vI A, vI ca, vI cb, vI na, vI nb, vI nc, vR b5, vR b11, .val q15, .val q16, .val q17, vI got, vI 1]) rfl ?_
            refine o_gO (t := 439) X25 hx (y_ at_359) ?_
            refine o_iload X25 hx (y_ at_439) rfl ?_
            refine o_iload X25 hx (y_ at_441) rfl ?_
            refine o_iC (t := 450) X25 hx (y_ at_443) (fun hq => ?_) (fun hq => ?_)
            · have hc443 := o_c_ne.1 hq
              exact absurd (hgot.trans (o_fin7 (B := B) (A := A) hcl hnl hc284 hc289 hc304 hc319 hc334)) hc443
            have hc443 := o_c_ne.2 hq
            refine o_iconst X25 hx (y_ at_446) (x := 1) rfl ?_
            refine o_gO (t := 451) X25 hx (y_ at_447) ?_
            exact o_retNW X25 hx hS19 (by rw [hh25]; exact hk19) (t := .boolean) hrt hlk (by simp) (y_ at_451) rfl (by decide) (by decide) (o_hQ hh25 ⟨rfl, N25⟩)
          have hc334 := o_h_ne.2 hq
          refine o_aload X25 hx (y_ at_337) rfl rfl ?_
          refine o_iload X25 hx (y_ at_339) rfl ?_
          refine o_aload X25 hx (y_ at_341) rfl rfl ?_
          refine o_iload X25 hx (y_ at_343) rfl ?_
          refine o_iconst X25 hx (y_ at_345) (x := 3) rfl ?_
          refine o_sta (y := o_m3) (argsL := [(.ref b11), (.int nl), (.ref b5), (.int cl), (.int 3)]) (S := []) (W := 0) X25 hx hZ19 hown19 (k_ 122 rfl) (k_ 123 rfl) (k_ 2 rfl) (k_ 124 rfl) (backOf (W := 0) (rmat l Z a0 hw [] b11 nl b5 cl (3 : Int32) k11 k5 na nb nc ca cb T19.heap n0 O19 Vn19 Vc19 hcl hnl (by decide)) hZ19 (k_ 124 rfl) (k_ 2 rfl) (by decide) (by decide)) hh25 hml (lenOf o_pd__28_5bCI_5bCII_29Z rfl) (y_ at_346) (fun T26 L26 v26 X26 hQ26 => ?_)
          obtain ⟨rfl, N26q, hh26⟩ := hQ26
          have N26 := Fr.app N25 N26q
          show o_G p e below _ T26 (mkF m 349 #[vI p1, vI p2, vI p3, vI p4, vI cl, vI nl, vI B, vI A, vI ca, vI cb, vI na, vI nb, vI nc, vR b5, vR b11, .val q15, .val q16, .val q17, vI got, .unset] [(.int (if o_atP na nb nc nl ca cb cl (3 : Int32) then 1 else 0 : Int32))])
          refine o_iF (t := 356) X26 hx (y_ at_349) (fun hq => ?_) (fun hq => ?_)
          · have hc349 := o_h_eq.1 hq
            refine o_iconst X26 hx (y_ at_356) (x := 0) rfl ?_
            refine o_istore X26 hx (y_ at_357) (A' := #[vI p1, vI p2, vI p3, vI p4, vI cl, vI nl, vI B, vI A, vI ca, vI cb, vI na, vI nb, vI nc, vR b5, vR b11, .val q15, .val q16, .val q17, vI got, vI 0]) rfl ?_
            refine o_gO (t := 439) X26 hx (y_ at_359) ?_
            refine o_iload X26 hx (y_ at_439) rfl ?_
            refine o_iload X26 hx (y_ at_441) rfl ?_
            refine o_iC (t := 450) X26 hx (y_ at_443) (fun hq => ?_) (fun hq => ?_)
            · have hc443 := o_c_ne.1 hq
              exact absurd (hgot.trans (o_fin8 (B := B) (A := A) hcl hnl hc284 hc289 hc304 hc319 hc334 hc349)) hc443
            have hc443 := o_c_ne.2 hq
            refine o_iconst X26 hx (y_ at_446) (x := 1) rfl ?_
            refine o_gO (t := 451) X26 hx (y_ at_447) ?_
            exact o_retNW X26 hx hS19 (by rw [hh26]; exact hk19) (t := .boolean) hrt hlk (by simp) (y_ at_451) rfl (by decide) (by decide) (o_hQ hh26 ⟨rfl, N26⟩)
          have hc349 := o_h_eq.2 hq
          refine o_iconst X26 hx (y_ at_352) (x := 1) rfl ?_
          refine o_gO (t := 357) X26 hx (y_ at_353) ?_
          refine o_istore X26 hx (y_ at_357) (A' := #[vI p1, vI p2, vI p3, vI p4, vI cl, vI nl, vI B, vI A, vI ca, vI cb, vI na, vI nb, vI nc, vR b5, vR b11, .val q15, .val q16, .val q17, vI got, vI 1]) rfl ?_
          refine o_gO (t := 439) X26 hx (y_ at_359) ?_
          refine o_iload X26 hx (y_ at_439) rfl ?_
          refine o_iload X26 hx (y_ at_441) rfl ?_
          refine o_iC (t := 450) X26 hx (y_ at_443) (fun hq => ?_) (fun hq => ?_)
          · have hc443 := o_c_ne.1 hq
            exact absurd (hgot.trans (o_fin9 (B := B) (A := A) hcl hnl hc284 hc289 hc304 hc319 hc334 hc349)) hc443
          have hc443 := o_c_ne.2 hq
          refine o_iconst X26 hx (y_ at_446) (x := 1) rfl ?_
          refine o_gO (t := 451) X26 hx (y_ at_447) ?_
          exact o_retNW X26 hx hS19 (by rw [hh26]; exact hk19) (t := .boolean) hrt hlk (by simp) (y_ at_451) rfl (by decide) (by decide) (o_hQ hh26 ⟨rfl, N26⟩)
        refine o_iload X17 hx (y_ at_131) rfl ?_
        refine o_iF (t := 142) X17 hx (y_ at_133) (fun hq => ?_) (fun hq => ?_)
        · have hc133 := o_h_ne.1 hq
          refine o_iload X17 hx (y_ at_142) rfl ?_
          refine o_iconst X17 hx (y_ at_144) (x := 1) rfl ?_
          refine o_iC (t := 159) X17 hx (y_ at_145) (fun hq => ?_) (fun hq => ?_)
          · have hc145 := o_c_ne.1 hq
            obtain rfl : cl = 2 := (hcl.resolve_left hc133).resolve_left hc145
            skip
            refine o_iconst X17 hx (y_ at_159) (x := 2) rfl ?_
            refine o_newA (cap := 2) X17 hx hZ (k_ 4 rfl) e17 (y_ at_160) (by decide) (by decide) (by decide) (by decide) (by decide) (fun T27 h27 k27 b27 X27 e27 gg27 E27 A27 => ?_)
            have g_b27 := o_fresh O17 gg27
            have O27 := Old.ext O17 E27
            have C28 := CHr.trans C18 (CHr.ext E27 C18.1)
            have V27 : Arv Z h27 b27 k27 .char (2 : Int32) [(.int 0), (.int 0)] (.int 0) := A27.pad (pad_rep [] (.int 0) 2)
            refine o_dup X27 hx (y_ at_162) rfl ?_
            refine o_iconst X27 hx (y_ at_163) (x := 0) rfl ?_
            refine o_iload X27 hx (y_ at_164) rfl ?_
            refine o_stC (i := 0) (z := ca) X27 hx hZ e27 V27 (y_ at_166) ⟨by decide, by decide⟩ rfl (o_b rfl) n_ca (fun T29 h29 X29 e29 W29 V29 => ?_)
            have N29 := Fr.snoc X29 N17 g_b27
            have O29 := Old.wr O27 W29 g_b27
            have C30 := CHr.trans C28 (CHr.wr W29 (Safe.arv hZ.alike V27 (by decide)) C28.1)
            refine o_dup X29 hx (y_ at_167) rfl ?_
            refine o_iconst X29 hx (y_ at_168) (x := 1) rfl ?_
            refine o_iload X29 hx (y_ at_169) rfl ?_
            refine o_stC (i := 1) (z := cb) X29 hx hZ e29 V29 (y_ at_171) ⟨by decide, by decide⟩ rfl (o_b rfl) n_cb (fun T31 h31 X31 e31 W31 V31 => ?_)
            have N31 := Fr.snoc X31 N29 g_b27
            have O31 := Old.wr O29 W31 g_b27
            have C32 := CHr.trans C30 (CHr.wr W31 (Safe.arv hZ.alike V29 (by decide)) C30.1)
            refine o_astore X31 hx (y_ at_172) rfl (A' := #[vI p1, vI p2, vI p3, vI p4, vI 2, vI nl, vI B, vI A, vI ca, vI cb, vI na, vI nb, vI nc, vR b5, vR b11, vR b27, .unset, .unset, .unset, .unset]) rfl ?_
            refine o_iload X31 hx (y_ at_174) rfl ?_
            refine o_iF (t := 185) X31 hx (y_ at_176) (fun hq => ?_) (fun hq => ?_)
            · have hc176 := o_h_ne.1 hq
              refine o_iload X31 hx (y_ at_185) rfl ?_
              refine o_iconst X31 hx (y_ at_187) (x := 1) rfl ?_
              refine o_iC (t := 202) X31 hx (y_ at_188) (fun hq => ?_) (fun hq => ?_)
              · have hc188 := o_c_ne.1 hq
                refine o_iload X31 hx (y_ at_202) rfl ?_
                refine o_iconst X31 hx (y_ at_204) (x := 2) rfl ?_
                refine o_iC (t := 224) X31 hx (y_ at_205) (fun hq => ?_) (fun hq => ?_)
                · have hc205 := o_c_ne.1 hq
                  obtain rfl : nl = 3 := ((hnl.resolve_left hc176).resolve_left hc188).resolve_left hc205
                  skip
                  refine o_iconst X31 hx (y_ at_224) (x := 3) rfl ?_
                  refine o_newA (cap := 3) X31 hx hZ (k_ 4 rfl) e31 (y_ at_225) (by decide) (by decide) (by decide) (by decide) (by decide) (fun T33 h33 k33 b33 X33 e33 gg33 E33 A33 => ?_)
                  have g_b33 := o_fresh O31 gg33
                  have O33 := Old.ext O31 E33
                  have C34 := CHr.trans C32 (CHr.ext E33 C32.1)
                  have V33 : Arv Z h33 b33 k33 .char (3 : Int32) [(.int 0), (.int 0), (.int 0)] (.int 0) := A33.pad (pad_rep [] (.int 0) 3)
                  refine o_dup X33 hx (y_ at_227) rfl ?_
                  refine o_iconst X33 hx (y_ at_228) (x := 0) rfl ?_
                  refine o_iload X33 hx (y_ at_229) rfl ?_
                  refine o_stC (i := 0) (z := na) X33 hx hZ e33 V33 (y_ at_231) ⟨by decide, by decide⟩ rfl (o_b rfl) n_na (fun T35 h35 X35 e35 W35 V35 => ?_)
                  have N35 := Fr.snoc X35 N31 g_b33
                  have O35 := Old.wr O33 W35 g_b33
                  have C36 := CHr.trans C34 (CHr.wr W35 (Safe.arv hZ.alike V33 (by decide)) C34.1)
                  refine o_dup X35 hx (y_ at_232) rfl ?_
                  refine o_iconst X35 hx (y_ at_233) (x := 1) rfl ?_
                  refine o_iload X35 hx (y_ at_234) rfl ?_
                  refine o_stC (i := 1) (z := nb) X35 hx hZ e35 V35 (y_ at_236) ⟨by decide, by decide⟩ rfl (o_b rfl) n_nb (fun T37 h37 X37 e37 W37 V37 => ?_)
                  have N37 := Fr.snoc X37 N35 g_b33
                  have O37 := Old.wr O35 W37 g_b33
                  have C38 := CHr.trans C36 (CHr.wr W37 (Safe.arv hZ.alike V35 (by decide)) C36.1)
                  refine o_dup X37 hx (y_ at_237) rfl ?_
                  refine o_iconst X37 hx (y_ at_238) (x := 2) rfl ?_
                  refine o_iload X37 hx (y_ at_239) rfl ?_
                  refine o_stC (i := 2) (z := nc) X37 hx hZ e37 V37 (y_ at_241) ⟨by decide, by decide⟩ rfl (o_b rfl) n_nc (fun T39 h39 X39 e39 W39 V39 => ?_)
                  have N39 := Fr.snoc X39 N37 g_b33
                  have O39 := Old.wr O37 W39 g_b33
                  have C40 := CHr.trans C38 (CHr.wr W39 (Safe.arv hZ.alike V37 (by decide)) C38.1)
                  refine o_astore X39 hx (y_ at_242) rfl (A' := #[vI p1, vI p2, vI p3, vI p4, vI 2, vI 3, vI B, vI A, vI ca, vI cb, vI na, vI nb, vI nc, vR b5, vR b11, vR b27, vR b33, .unset, .unset, .unset]) rfl ?_
                  refine o_new X39 hx hZ hown (k_ 5 rfl) (k_ 6 rfl) (k_ 7 rfl) e39 (y_ at_244) (by decide) (by decide) (fun T41 h41 b41 X41 e41 gg41 E41 A41 D41 => ?_)
                  have g_b41 := o_fresh O39 gg41
                  have O41 := Old.ext O39 E41
                  have C42 := CHr.trans C40 (CHr.ext E41 C40.1)
                  have F41_core : Fld Z h41 b41 "org/adviceweft/pointcut/NamePattern" "core" "Ljava/lang/String;" .null := D41 (Or.inr (k_ 96 rfl)) (ty := (.object "java/lang/String")) (by decide)
                  have F41_anyBefore : Fld Z h41 b41 "org/adviceweft/pointcut/NamePattern" "anyBefore" "Z" (.int 0) := D41 (Or.inr (k_ 98 rfl)) (ty := .boolean) (by decide)
                  have F41_anyAfter : Fld Z h41 b41 "org/adviceweft/pointcut/NamePattern" "anyAfter" "Z" (.int 0) := D41 (Or.inr (k_ 100 rfl)) (ty := .boolean) (by decide)
                  refine o_dup X41 hx (y_ at_247) rfl ?_
                  refine o_new X41 hx hZ hown (k_ 8 rfl) (k_ 9 rfl) (k_ 10 rfl) e41 (y_ at_248) (by decide) (by decide) (fun T43 h43 b43 X43 e43 gg43 E43 A43 D43 => ?_)
                  have g_b43 := o_fresh O41 gg43
                  have O43 := Old.ext O41 E43
                  have C44 := CHr.trans C42 (CHr.ext E43 C42.1)
                  have F43_coder : Fld Z h43 b43 "java/lang/String" "coder" "B" (.int 0) := D43 (Or.inr (k_ 34 rfl)) (ty := .byte) (by decide)
                  have F43_value : Fld Z h43 b43 "java/lang/String" "value" "[B" .null := D43 (Or.inr (k_ 36 rfl)) (ty := (.array .byte)) (by decide)
                  refine o_dup X43 hx (y_ at_251) rfl ?_
                  refine o_aload X43 hx (y_ at_252) rfl rfl ?_
                  have c45 := (Arv.ext (Arv.ext (Arv.other (Arv.other (Arv.other (Arv.ext V31 E33) W35 (o_ng V31.lt gg33)) W37 (o_ng V31.lt gg33)) W39 (o_ng V31.lt gg33)) E41) E43)
                  refine o_ini (y := o_m5) (b := b43) (argsL := [(.ref b27)]) (S := [(.ref b43), (.ref b41), (.ref b41)]) (W := 3) rfl X43 hx hZ hown (k_ 11 rfl) (k_ 12 rfl) (k_ 13 rfl) (o_newB (W := 3) (cs := ([ca, cb] : List Int32)) (n := 2) hZ hw (k_ 9 rfl) O43 g_b43 A43 F43_value F43_coder c45 SC_ hC_ rfl rfl (by decide) (by decide) (o_csS ⟨l_ca, u_ca⟩ (o_csS ⟨l_cb, u_cb⟩ o_cs0)) (by decide) (by decide)) e43 hml (lenOf o_pd__28_5bC_29V rfl) (y_ at_254) (fun T46 L46 v46 X46 hQ46 => ?_)
                  obtain ⟨rfl, Nq46, Kp46, t46, g_t46, ht46, hne46, Sf46⟩ := hQ46
                  have N46 := Fr.app N39 Nq46
                  have O47 := Old.keep O43 Kp46 (allS g_b43 all0)
                  have C48 := CHr.trans C44 (CHr.keep Kp46 (sfS (o_safeN hZ.alike A43 F43_value) sf0) C44.1)
                  show o_G p e below _ T46 (mkF m 257 #[vI p1, vI p2, vI p3, vI p4, vI 2, vI 3, vI B, vI A, vI ca, vI cb, vI na, vI nb, vI nc, vR b5, vR b11, vR b27, vR b33, .unset, .unset, .unset] [(.ref b43), (.ref b41), (.ref b41)])
                  refine o_iload X46 hx (y_ at_257) rfl ?_
                  refine o_iload X46 hx (y_ at_259) rfl ?_
                  have c49 := (Exa.keep (Exa.ext E43 A41) Kp46)
                  have c50 := (Fld.keep (Fld.ext E43 F41_core) Kp46 (ninS (o_ng A41.lt gg43) nin0))
                  have c51 := (Fld.keep (Fld.ext E43 F41_anyBefore) Kp46 (ninS (o_ng A41.lt gg43) nin0))
                  have c52 := (Fld.keep (Fld.ext E43 F41_anyAfter) Kp46 (ninS (o_ng A41.lt gg43) nin0))
                  refine o_initH (y := o_m19) (b := b41) (argsL := [(.ref b43), (.int B), (.int A)]) (S := [(.ref b41)]) (W := 1) rfl X46 hx hZ hS0 hown (k_ 37 rfl) (k_ 38 rfl) (k_ 39 rfl) (by decide) (backOfSH (W := 1) (rmct2 l Z a0 hw [] b41 b43 B A t46 ca cb zC_ T46.heap n0 O47 c49 c50 c51 c52 g_b41 Sf46 (o_nostar2 s_ca s_cb) h_B h_A SC_ hC_) hZ (k_ 39 rfl) (k_ 7 rfl) (by decide) (by decide) hEL C48.1) rfl (Nat.le_trans (Nat.le_trans (Nat.le_trans (Nat.le_trans (Nat.le_trans (Nat.le_trans (Nat.le_trans (Nat.le_trans (Nat.le_trans (Nat.le_trans (Nat.le_trans (Nat.le_trans (Nat.le_trans (Nat.le_trans (Nat.le_trans (Nat.le_trans (Nat.le_trans hk0 E5.1) (Keep.of_wr W7).1) (Keep.of_wr W9).1) E11.1) (Keep.of_wr W13).1) (Keep.of_wr W15).1) (Keep.of_wr W17).1) E27.1) (Keep.of_wr W29).1) (Keep.of_wr W31).1) E33.1) (Keep.of_wr W35).1) (Keep.of_wr W37).1) (Keep.of_wr W39).1) E41.1) E43.1) Kp46.1) (by rw [hml]; rfl) (lenOf o_pd__28Ljava_2flang_2fString_3bZZ_29V rfl) rfl (Nat.le_of_eq rfl) (y_ at_261) (by decide) (by decide) (fun T53 L53 v53 k53 X53 hS53 hk53 hZ53 hown53 hQ53 hC53 => ?_)
                  obtain ⟨rfl, N53q, Kp53, Ex53, Fk53, Fb53, Fa53⟩ := hQ53
                  have N53 := Fr.app N46 N53q
                  have O54 := Old.keep O47 Kp53 (allS g_b41 all0)
                  have C55 := CHr.trans C48 (hC53)
                  show o_G p e below _ T53 (mkF m 264 #[vI p1, vI p2, vI p3, vI p4, vI 2, vI 3, vI B, vI A, vI ca, vI cb, vI na, vI nb, vI nc, vR b5, vR b11, vR b27, vR b33, .unset, .unset, .unset] [(.ref b41)])
                  refine o_astore X53 hx (y_ at_264) rfl (A' := #[vI p1, vI p2, vI p3, vI p4, vI 2, vI 3, vI B, vI A, vI ca, vI cb, vI na, vI nb, vI nc, vR b5, vR b11, vR b27, vR b33, vR b41, .unset, .unset]) rfl ?_
                  refine o_aload X53 hx (y_ at_266) rfl rfl ?_
                  refine o_new X53 hx hZ53 hown53 (k_ 8 rfl) (k_ 9 rfl) (k_ 10 rfl) rfl (y_ at_268) (by decide) (by decide) (fun T56 h56 b56 X56 e56 gg56 E56 A56 D56 => ?_)
                  have g_b56 := o_fresh O54 gg56
                  have O56 := Old.ext O54 E56
                  have C57 := CHr.trans C55 (CHr.ext E56 C55.1)
                  have F56_coder : Fld Z h56 b56 "java/lang/String" "coder" "B" (.int 0) := D56 (Or.inr (k_ 34 rfl)) (ty := .byte) (by decide)
                  have F56_value : Fld Z h56 b56 "java/lang/String" "value" "[B" .null := D56 (Or.inr (k_ 36 rfl)) (ty := (.array .byte)) (by decide)
                  refine o_dup X56 hx (y_ at_271) rfl ?_
                  refine o_aload X56 hx (y_ at_272) rfl rfl ?_
                  have c58 := (Arv.ext (Arv.keep (Arv.keep (Arv.ext (Arv.ext V39 E41) E43) Kp46 (ninS (o_ng (Nat.lt_of_lt_of_le V39.lt E41.1) gg43) nin0)) Kp53 (ninS (o_ng V39.lt gg41) nin0)) E56)
                  refine o_ini (y := o_m5) (b := b56) (argsL := [(.ref b33)]) (S := [(.ref b56), (.ref b41)]) (W := 2) rfl X56 hx hZ53 hown53 (k_ 11 rfl) (k_ 12 rfl) (k_ 13 rfl) (o_newB (W := 2) (cs := ([na, nb, nc] : List Int32)) (n := 3) hZ53 hw (k_ 9 rfl) O56 g_b56 A56 F56_value F56_coder c58 SC_ hC_ rfl rfl (by decide) (by decide) (o_csS ⟨l_na, u_na⟩ (o_csS ⟨l_nb, u_nb⟩ (o_csS ⟨l_nc, u_nc⟩ o_cs0))) (by decide) (by decide)) e56 hml (lenOf o_pd__28_5bC_29V rfl) (y_ at_274) (fun T59 L59 v59 X59 hQ59 => ?_)
                  obtain ⟨rfl, Nq59, Kp59, t59, g_t59, ht59, hne59, Sf59⟩ := hQ59
                  have N59 := Fr.app N53 Nq59
                  have O60 := Old.keep O56 Kp59 (allS g_b56 all0)
                  have C61 := CHr.trans C57 (CHr.keep Kp59 (sfS (o_safeN hZ53.alike A56 F56_value) sf0) C57.1)
                  show o_G p e below _ T59 (mkF m 277 #[vI p1, vI p2, vI p3, vI p4, vI 2, vI 3, vI B, vI A, vI ca, vI cb, vI na, vI nb, vI nc, vR b5, vR b11, vR b27, vR b33, vR b41, .unset, .unset] [(.ref b56), (.ref b41)])
                  have c62 := (Fld.keep (Fld.ext E56 Fk53) Kp59 (ninS (o_ng Ex53.lt gg56) nin0))
                  have c63 := (Fld.keep (Fld.ext E56 Fb53) Kp59 (ninS (o_ng Ex53.lt gg56) nin0))
                  have c64 := (Fld.keep (Fld.ext E56 Fa53) Kp59 (ninS (o_ng Ex53.lt gg56) nin0))
                  have c65 := (o_Str.keep (o_Str.ext E56 (o_Str.keep Sf46 Kp53 (ninS (Ne.symm (o_ng A41.lt gg43)) nin0) (ninS (Ne.symm (Nat.ne_of_lt (Nat.lt_of_lt_of_le (Nat.lt_of_lt_of_le A41.lt E43.1) ht46))) nin0))) Kp59 (ninS (o_ng (Nat.lt_of_lt_of_le Sf46.lt Kp53.1) gg56) nin0) (ninS (o_ng (Nat.lt_of_lt_of_le Sf46.lt2 Kp53.1) gg56) nin0))
                  have c67 := (Exa.keep (Exa.ext E56 Ex53) Kp59)
                  refine o_vir (y := o_m21) (b := b41) (argsL := [(.ref b56)]) (S := []) (W := 0) X59 hx hZ53 hown53 (k_ 102 rfl) (k_ 103 rfl) (k_ 105 rfl) (k_ 104 rfl) (backOf (W := 0) (rmmt3_2 l Z a0 hw [] b41 b56 b43 t46 t59 na nb nc ca cb B A zC_ T59.heap n0 O60 c62 c63 c64 c65 Sf59 SC_ hC_) hZ53 (k_ 106 rfl) (k_ 7 rfl) (by decide) (by decide)) rfl c67 hml (lenOf o_pd__28Ljava_2flang_2fString_3b_29Z rfl) (y_ at_277) (fun T66 L66 v66 X66 hQ66 => ?_)
                  obtain ⟨rfl, N66q, hh66⟩ := hQ66
                  have N66 := Fr.app N59 N66q
                  show o_G p e below _ T66 (mkF m 280 #[vI p1, vI p2, vI p3, vI p4, vI 2, vI 3, vI B, vI A, vI ca, vI cb, vI na, vI nb, vI nc, vR b5, vR b11, vR b27, vR b33, vR b41, .unset, .unset] [(.int ((if ¬ B = 0 ∧ ¬ A = 0 then (if o_occ ([na, nb, nc] : List Int32) ([ca, cb] : List Int32) = true then 1 else 0) else if ¬ B = 0 then (if o_pref ([nb, nc] : List Int32) ([ca, cb] : List Int32) = true then 1 else 0) else if ¬ A = 0 then (if o_pref ([na, nb, nc] : List Int32) ([ca, cb] : List Int32) = true then 1 else 0) else (if ([na, nb, nc] : List Int32) = ([ca, cb] : List Int32) then 1 else 0)) : Int32))])
                  have c68 := (Arv.keep (Arv.ext (Arv.keep (Arv.keep (Arv.ext (Arv.ext (Arv.other (Arv.other (Arv.other (Arv.ext (Arv.other (Arv.other (Arv.ext V17 E27) W29 (o_ng V17.lt gg27)) W31 (o_ng V17.lt gg27)) E33) W35 (o_ng (Nat.lt_of_lt_of_le V17.lt (Nat.le_trans (Nat.le_trans E27.1 (Keep.of_wr W29).1) (Keep.of_wr W31).1)) gg33)) W37 (o_ng (Nat.lt_of_lt_of_le V17.lt (Nat.le_trans (Nat.le_trans E27.1 (Keep.of_wr W29).1) (Keep.of_wr W31).1)) gg33)) W39 (o_ng (Nat.lt_of_lt_of_le V17.lt (Nat.le_trans (Nat.le_trans E27.1 (Keep.of_wr W29).1) (Keep.of_wr W31).1)) gg33)) E41) E43) Kp46 (ninS (o_ng (Nat.lt_of_lt_of_le V17.lt (Nat.le_trans (Nat.le_trans (Nat.le_trans (Nat.le_trans (Nat.le_trans (Nat.le_trans (Nat.le_trans E27.1 (Keep.of_wr W29).1) (Keep.of_wr W31).1) E33.1) (Keep.of_wr W35).1) (Keep.of_wr W37).1) (Keep.of_wr W39).1) E41.1)) gg43) nin0)) Kp53 (ninS (o_ng (Nat.lt_of_lt_of_le V17.lt (Nat.le_trans (Nat.le_trans (Nat.le_trans (Nat.le_trans (Nat.le_trans (Nat.le_trans E27.1 (Keep.of_wr W29).1) (Keep.of_wr W31).1) E33.1) (Keep.of_wr W35).1) (Keep.of_wr W37).1) (Keep.of_wr W39).1)) gg41) nin0)) E56) Kp59 (ninS (o_ng (Nat.lt_of_lt_of_le V17.lt (Nat.le_trans (Nat.le_trans (Nat.le_trans (Nat.le_trans (Nat.le_trans (Nat.le_trans (Nat.le_trans (Nat.le_trans (Nat.le_trans (Nat.le_trans E27.1 (Keep.of_wr W29).1) (Keep.of_wr W31).1) E33.1) (Keep.of_wr W35).1) (Keep.of_wr W37).1) (Keep.of_wr W39).1) E41.1) E43.1) Kp46.1) Kp53.1)) gg56) nin0))
                  have c69 := (Arv.keep (Arv.ext (Arv.keep (Arv.keep (Arv.ext (Arv.ext (Arv.other (Arv.other (Arv.other (Arv.ext (Arv.other (Arv.other (Arv.ext (Arv.other (Arv.other (Arv.other (Arv.ext V9 E11) W13 (o_ng V9.lt gg11)) W15 (o_ng V9.lt gg11)) W17 (o_ng V9.lt gg11)) E27) W29 (o_ng (Nat.lt_of_lt_of_le V9.lt (Nat.le_trans (Nat.le_trans (Nat.le_trans E11.1 (Keep.of_wr W13).1) (Keep.of_wr W15).1) (Keep.of_wr W17).1)) gg27)) W31 (o_ng (Nat.lt_of_lt_of_le V9.lt (Nat.le_trans (Nat.le_trans (Nat.le_trans E11.1 (Keep.of_wr W13).1) (Keep.of_wr W15).1) (Keep.of_wr W17).1)) gg27)) E33) W35 (o_ng (Nat.lt_of_lt_of_le V9.lt (Nat.le_trans (Nat.le_trans (Nat.le_trans (Nat.le_trans (Nat.le_trans (Nat.le_trans E11.1 (Keep.of_wr W13).1) (Keep.of_wr W15).1) (Keep.of_wr W17).1) E27.1) (Keep.of_wr W29).1) (Keep.of_wr W31).1)) gg33)) W37 (o_ng (Nat.lt_of_lt_of_le V9.lt (Nat.le_trans (Nat.le_trans (Nat.le_trans (Nat.le_trans (Nat.le_trans (Nat.le_trans E11.1 (Keep.of_wr W13).1) (Keep.of_wr W15).1) (Keep.of_wr W17).1) E27.1) (Keep.of_wr W29).1) (Keep.of_wr W31).1)) gg33)) W39 (o_ng (Nat.lt_of_lt_of_le V9.lt (Nat.le_trans (Nat.le_trans (Nat.le_trans (Nat.le_trans (Nat.le_trans (Nat.le_trans E11.1 (Keep.of_wr W13).1) (Keep.of_wr W15).1) (Keep.of_wr W17).1) E27.1) (Keep.of_wr W29).1) (Keep.of_wr W31).1)) gg33)) E41) E43) Kp46 (ninS (o_ng (Nat.lt_of_lt_of_le V9.lt (Nat.le_trans (Nat.le_trans (Nat.le_trans (Nat.le_trans (Nat.le_trans (Nat.le_trans (Nat.le_trans (Nat.le_trans (Nat.le_trans (Nat.le_trans (Nat.le_trans E11.1 (Keep.of_wr W13).1) (Keep.of_wr W15).1) (Keep.of_wr W17).1) E27.1) (Keep.of_wr W29).1) (Keep.of_wr W31).1) E33.1) (Keep.of_wr W35).1) (Keep.of_wr W37).1) (Keep.of_wr W39).1) E41.1)) gg43) nin0)) Kp53 (ninS (o_ng (Nat.lt_of_lt_of_le V9.lt (Nat.le_trans (Nat.le_trans (Nat.le_trans (Nat.le_trans (Nat.le_trans (Nat.le_trans (Nat.le_trans (Nat.le_trans (Nat.le_trans (Nat.le_trans E11.1 (Keep.of_wr W13).1) (Keep.of_wr W15).1) (Keep.of_wr W17).1) E27.1) (Keep.of_wr W29).1) (Keep.of_wr W31).1) E33.1) (Keep.of_wr W35).1) (Keep.of_wr W37).1) (Keep.of_wr W39).1)) gg41) nin0)) E56) Kp59 (ninS (o_ng (Nat.lt_of_lt_of_le V9.lt (Nat.le_trans (Nat.le_trans (Nat.le_trans (Nat.le_trans (Nat.le_trans (Nat.le_trans (Nat.le_trans (Nat.le_trans (Nat.le_trans (Nat.le_trans (Nat.le_trans (Nat.le_trans (Nat.le_trans (Nat.le_trans E11.1 (Keep.of_wr W13).1) (Keep.of_wr W15).1) (Keep.of_wr W17).1) E27.1) (Keep.of_wr W29).1) (Keep.of_wr W31).1) E33.1) (Keep.of_wr W35).1) (Keep.of_wr W37).1) (Keep.of_wr W39).1) E41.1) E43.1) Kp46.1) Kp53.1)) gg56) nin0))
                  exact J280 _ _ _ _ (o_up X66 (by decide) (by decide)) hS53 (by rw [hh66]; exact (Nat.le_trans (Nat.le_trans hk53 E56.1) Kp59.1)) hZ53 hown53 N66 (by rw [hh66]; exact O60) (((if ¬ B = 0 ∧ ¬ A = 0 then (if o_occ ([na, nb, nc] : List Int32) ([ca, cb] : List Int32) = true then 1 else 0) else if ¬ B = 0 then (if o_pref ([nb, nc] : List Int32) ([ca, cb] : List Int32) = true then 1 else 0) else if ¬ A = 0 then (if o_pref ([na, nb, nc] : List Int32) ([ca, cb] : List Int32) = true then 1 else 0) else (if ([na, nb, nc] : List Int32) = ([ca, cb] : List Int32) then 1 else 0)) : Int32), .ref b27, .ref b33, .ref b41) ⟨o_gt2_3 (B := B) (A := A), by rw [hh66]; exact c68, by rw [hh66]; exact c69⟩
                have hc205 := o_c_ne.2 hq
                obtain rfl : nl = 2 := hc205
                skip
                refine o_iconst X31 hx (y_ at_208) (x := 2) rfl ?_
                refine o_newA (cap := 2) X31 hx hZ (k_ 4 rfl) e31 (y_ at_209) (by decide) (by decide) (by decide) (by decide) (by decide) (fun T70 h70 k70 b70 X70 e70 gg70 E70 A70 => ?_)
                have g_b70 := o_fresh O31 gg70
                have O70 := Old.ext O31 E70
                have C71 := CHr.trans C32 (CHr.ext E70 C32.1)
                have V70 : Arv Z h70 b70 k70 .char (2 : Int32) [(.int 0), (.int 0)] (.int 0) := A70.pad (pad_rep [] (.int 0) 2)
                refine o_dup X70 hx (y_ at_211) rfl ?_
                refine o_iconst X70 hx (y_ at_212) (x := 0) rfl ?_
                refine o_iload X70 hx (y_ at_213) rfl ?_
                refine o_stC (i := 0) (z := na) X70 hx hZ e70 V70 (y_ at_215) ⟨by decide, by decide⟩ rfl (o_b rfl) n_na (fun T72 h72 X72 e72 W72 V72 => ?_)
                have N72 := Fr.snoc X72 N31 g_b70
                have O72 := Old.wr O70 W72 g_b70
                have C73 := CHr.trans C71 (CHr.wr W72 (Safe.arv hZ.alike V70 (by decide)) C71.1)
                refine o_dup X72 hx (y_ at_216) rfl ?_
                refine o_iconst X72 hx (y_ at_217) (x := 1) rfl ?_
                refine o_iload X72 hx (y_ at_218) rfl ?_
                refine o_stC (i := 1) (z := nb) X72 hx hZ e72 V72 (y_ at_220) ⟨by decide, by decide⟩ rfl (o_b rfl) n_nb (fun T74 h74 X74 e74 W74 V74 => ?_)
                have N74 := Fr.snoc X74 N72 g_b70
                have O74 := Old.wr O72 W74 g_b70
                have C75 := CHr.trans C73 (CHr.wr W74 (Safe.arv hZ.alike V72 (by decide)) C73.1)
                refine o_gO (t := 242) X74 hx (y_ at_221) ?_
                refine o_astore X74 hx (y_ at_242) rfl (A' := #[vI p1, vI p2, vI p3, vI p4, vI 2, vI 2, vI B, vI A, vI ca, vI cb, vI na, vI nb, vI nc, vR b5, vR b11, vR b27, vR b70, .unset, .unset, .unset]) rfl ?_
                refine o_new X74 hx hZ hown (k_ 5 rfl) (k_ 6 rfl) (k_ 7 rfl) e74 (y_ at_244) (by decide) (by decide) (fun T76 h76 b76 X76 e76 gg76 E76 A76 D76 => ?_)
                have g_b76 := o_fresh O74 gg76
                have O76 := Old.ext O74 E76
                have C77 := CHr.trans C75 (CHr.ext E76 C75.1)
                have F76_core : Fld Z h76 b76 "org/adviceweft/pointcut/NamePattern" "core" "Ljava/lang/String;" .null := D76 (Or.inr (k_ 96 rfl)) (ty := (.object "java/lang/String")) (by decide)
                have F76_anyBefore : Fld Z h76 b76 "org/adviceweft/pointcut/NamePattern" "anyBefore" "Z" (.int 0) := D76 (Or.inr (k_ 98 rfl)) (ty := .boolean) (by decide)
                have F76_anyAfter : Fld Z h76 b76 "org/adviceweft/pointcut/NamePattern" "anyAfter" "Z" (.int 0) := D76 (Or.inr (k_ 100 rfl)) (ty := .boolean) (by decide)
                refine o_dup X76 hx (y_ at_247) rfl ?_
                refine o_new X76 hx hZ hown (k_ 8 rfl) (k_ 9 rfl) (k_ 10 rfl) e76 (y_ at_248) (by decide) (by decide) (fun T78 h78 b78 X78 e78 gg78 E78 A78 D78 => ?_)
                have g_b78 := o_fresh O76 gg78
                have O78 := Old.ext O76 E78
                have C79 := CHr.trans C77 (CHr.ext E78 C77.1)
                have F78_coder : Fld Z h78 b78 "java/lang/String" "coder" "B" (.int 0) := D78 (Or.inr (k_ 34 rfl)) (ty := .byte) (by decide)
                have F78_value : Fld Z h78 b78 "java/lang/String" "value" "[B" .null := D78 (Or.inr (k_ 36 rfl)) (ty := (.array .byte)) (by decide)
                refine o_dup X78 hx (y_ at_251) rfl ?_
                refine o_aload X78 hx (y_ at_252) rfl rfl ?_
                have c80 := (Arv.ext (Arv.ext (Arv.other (Arv.other (Arv.ext V31 E70) W72 (o_ng V31.lt gg70)) W74 (o_ng V31.lt gg70)) E76) E78)
                refine o_ini (y := o_m5) (b := b78) (argsL := [(.ref b27)]) (S := [(.ref b78), (.ref b76), (.ref b76)]) (W := 3) rfl X78 hx hZ hown (k_ 11 rfl) (k_ 12 rfl) (k_ 13 rfl) (o_newB (W := 3) (cs := ([ca, cb] : List Int32)) (n := 2) hZ hw (k_ 9 rfl) O78 g_b78 A78 F78_value F78_coder c80 SC_ hC_ rfl rfl (by decide) (by decide) (o_csS ⟨l_ca, u_ca⟩ (o_csS ⟨l_cb, u_cb⟩ o_cs0)) (by decide) (by decide)) e78 hml (lenOf o_pd__28_5bC_29V rfl) (y_ at_254) (fun T81 L81 v81 X81 hQ81 => ?_)
                obtain ⟨rfl, Nq81, Kp81, t81, g_t81, ht81, hne81, Sf81⟩ := hQ81
                have N81 := Fr.app N74 Nq81
                have O82 := Old.keep O78 Kp81 (allS g_b78 all0)
                have C83 := CHr.trans C79 (CHr.keep Kp81 (sfS (o_safeN hZ.alike A78 F78_value) sf0) C79.1)
                show o_G p e below _ T81 (mkF m 257 #[vI p1, vI p2, vI p3, vI p4, vI 2, vI 2, vI B, vI A, vI ca, vI cb, vI na, vI nb, vI nc, vR b5, vR b11, vR b27, vR b70, .unset, .unset, .unset] [(.ref b78), (.ref b76), (.ref b76)])
                refine o_iload X81 hx (y_ at_257) rfl ?_
                refine o_iload X81 hx (y_ at_259) rfl ?_
                have c84 := (Exa.keep (Exa.ext E78 A76) Kp81)
                have c85 := (Fld.keep (Fld.ext E78 F76_core) Kp81 (ninS (o_ng A76.lt gg78) nin0))
                have c86 := (Fld.keep (Fld.ext E78 F76_anyBefore) Kp81 (ninS (o_ng A76.lt gg78) nin0))
                have c87 := (Fld.keep (Fld.ext E78 F76_anyAfter) Kp81 (ninS (o_ng A76.lt gg78) nin0))
                refine o_initH (y := o_m19) (b := b76) (argsL := [(.ref b78), (.int B), (.int A)]) (S := [(.ref b76)]) (W := 1) rfl X81 hx hZ hS0 hown (k_ 37 rfl) (k_ 38 rfl) (k_ 39 rfl) (by decide) (backOfSH (W := 1) (rmct2 l Z a0 hw [] b76 b78 B A t81 ca cb zC_ T81.heap n0 O82 c84 c85 c86 c87 g_b76 Sf81 (o_nostar2 s_ca s_cb) h_B h_A SC_ hC_) hZ (k_ 39 rfl) (k_ 7 rfl) (by decide) (by decide) hEL C83.1) rfl (Nat.le_trans (Nat.le_trans (Nat.le_trans (Nat.le_trans (Nat.le_trans (Nat.le_trans (Nat.le_trans (Nat.le_trans (Nat.le_trans (Nat.le_trans (Nat.le_trans (Nat.le_trans (Nat.le_trans (Nat.le_trans (Nat.le_trans (Nat.le_trans hk0 E5.1) (Keep.of_wr W7).1) (Keep.of_wr W9).1) E11.1) (Keep.of_wr W13).1) (Keep.of_wr W15).1) (Keep.of_wr W17).1) E27.1) (Keep.of_wr W29).1) (Keep.of_wr W31).1) E70.1) (Keep.of_wr W72).1) (Keep.of_wr W74).1) E76.1) E78.1) Kp81.1) (by rw [hml]; rfl) (lenOf o_pd__28Ljava_2flang_2fString_3bZZ_29V rfl) rfl (Nat.le_of_eq rfl) (y_ at_261) (by decide) (by decide) (fun T88 L88 v88 k88 X88 hS88 hk88 hZ88 hown88 hQ88 hC88 => ?_)
                obtain ⟨rfl, N88q, Kp88, Ex88, Fk88, Fb88, Fa88⟩ := hQ88
                have N88 := Fr.app N81 N88q
                have O89 := Old.keep O82 Kp88 (allS g_b76 all0)
                have C90 := CHr.trans C83 (hC88)
                show o_G p e below _ T88 (mkF m 264 #[vI p1, vI p2, vI p3, vI p4, vI 2, vI 2, vI B, vI A, vI ca, vI cb, vI na, vI nb, vI nc, vR b5, vR b11, vR b27, vR b70, .unset, .unset, .unset] [(.ref b76)])
                refine o_astore X88 hx (y_ at_264) rfl (A' := #[vI p1, vI p2, vI p3, vI p4, vI 2, vI 2, vI B, vI A, vI ca, vI cb, vI na, vI nb, vI nc, vR b5, vR b11, vR b27, vR b70, vR b76, .unset, .unset]) rfl ?_
                refine o_aload X88 hx (y_ at_266) rfl rfl ?_
                refine o_new X88 hx hZ88 hown88 (k_ 8 rfl) (k_ 9 rfl) (k_ 10 rfl) rfl (y_ at_268) (by decide) (by decide) (fun T91 h91 b91 X91 e91 gg91 E91 A91 D91 => ?_)
                have g_b91 := o_fresh O89 gg91
                have O91 := Old.ext O89 E91
                have C92 := CHr.trans C90 (CHr.ext E91 C90.1)
                have F91_coder : Fld Z h91 b91 "java/lang/String" "coder" "B" (.int 0) := D91 (Or.inr (k_ 34 rfl)) (ty := .byte) (by decide)
                have F91_value : Fld Z h91 b91 "java/lang/String" "value" "[B" .null := D91 (Or.inr (k_ 36 rfl)) (ty := (.array .byte)) (by decide)
                refine o_dup X91 hx (y_ at_271) rfl ?_
                refine o_aload X91 hx (y_ at_272) rfl rfl ?_
                have c93 := (Arv.ext (Arv.keep (Arv.keep (Arv.ext (Arv.ext V74 E76) E78) Kp81 (ninS (o_ng (Nat.lt_of_lt_of_le V74.lt E76.1) gg78) nin0)) Kp88 (ninS (o_ng V74.lt gg76) nin0)) E91)
                refine o_ini (y := o_m5) (b := b91) (argsL := [(.ref b70)]) (S := [(.ref b91), (.ref b76)]) (W := 2) rfl X91 hx hZ88 hown88 (k_ 11 rfl) (k_ 12 rfl) (k_ 13 rfl) (o_newB (W := 2) (cs := ([na, nb] : List Int32)) (n := 2) hZ88 hw (k_ 9 rfl) O91 g_b91 A91 F91_value F91_coder c93 SC_ hC_ rfl rfl (by decide) (by decide) (o_csS ⟨l_na, u_na⟩ (o_csS ⟨l_nb, u_nb⟩ o_cs0)) (by decide) (by decide)) e91 hml (lenOf o_pd__28_5bC_29V rfl) (y_ at_274) (fun T94 L94 v94 X94 hQ94 => ?_)
                obtain ⟨rfl, Nq94, Kp94, t94, g_t94, ht94, hne94, Sf94⟩ := hQ94
                have N94 := Fr.app N88 Nq94
                have O95 := Old.keep O91 Kp94 (allS g_b91 all0)
                have C96 := CHr.trans C92 (CHr.keep Kp94 (sfS (o_safeN hZ88.alike A91 F91_value) sf0) C92.1)
                show o_G p e below _ T94 (mkF m 277 #[vI p1, vI p2, vI p3, vI p4, vI 2, vI 2, vI B, vI A, vI ca, vI cb, vI na, vI nb, vI nc, vR b5, vR b11, vR b27, vR b70, vR b76, .unset, .unset] [(.ref b91), (.ref b76)])
                have c97 := (Fld.keep (Fld.ext E91 Fk88) Kp94 (ninS (o_ng Ex88.lt gg91) nin0))
                have c98 := (Fld.keep (Fld.ext E91 Fb88) Kp94 (ninS (o_ng Ex88.lt gg91) nin0))
                have c99 := (Fld.keep (Fld.ext E91 Fa88) Kp94 (ninS (o_ng Ex88.lt gg91) nin0))
                have c100 := (o_Str.keep (o_Str.ext E91 (o_Str.keep Sf81 Kp88 (ninS (Ne.symm (o_ng A76.lt gg78)) nin0) (ninS (Ne.symm (Nat.ne_of_lt (Nat.lt_of_lt_of_le (Nat.lt_of_lt_of_le A76.lt E78.1) ht81))) nin0))) Kp94 (ninS (o_ng (Nat.lt_of_lt_of_le Sf81.lt Kp88.1) gg91) nin0) (ninS (o_ng (Nat.lt_of_lt_of_le Sf81.lt2 Kp88.1) gg91) nin0))
                have c102 := (Exa.keep (Exa.ext E91 Ex88) Kp94)
                refine o_vir (y := o_m21) (b := b76) (argsL := [(.ref b91)]) (S := []) (W := 0) X94 hx hZ88 hown88 (k_ 102 rfl) (k_ 103 rfl) (k_ 105 rfl) (k_ 104 rfl) (backOf (W := 0) (rmmt2_2 l Z a0 hw [] b76 b91 b78 t81 t94 na nb ca cb B A zC_ T94.heap n0 O95 c97 c98 c99 c100 Sf94 SC_ hC_) hZ88 (k_ 106 rfl) (k_ 7 rfl) (by decide) (by decide)) rfl c102 hml (lenOf o_pd__28Ljava_2flang_2fString_3b_29Z rfl) (y_ at_277) (fun T101 L101 v101 X101 hQ101 => ?_)
                obtain ⟨rfl, N101q, hh101⟩ := hQ101
                have N101 := Fr.app N94 N101q
                show o_G p e below _ T101 (mkF m 280 #[vI p1, vI p2, vI p3, vI p4, vI 2, vI 2, vI B, vI A, vI ca, vI cb, vI na, vI nb, vI nc, vR b5, vR b11, vR b27, vR b70, vR b76, .unset, .unset] [(.int ((if ¬ B = 0 ∧ ¬ A = 0 then (if o_occ ([na, nb] : List Int32) ([ca, cb] : List Int32) = true then 1 else 0) else if ¬ B = 0 then (if o_pref ([na, nb] : List Int32) ([ca, cb] : List Int32) = true then 1 else 0) else if ¬ A = 0 then (if o_pref ([na, nb] : List Int32) ([ca, cb] : List Int32) = true then 1 else 0) else (if ([na, nb] : List Int32) = ([ca, cb] : List Int32) then 1 else 0)) : Int32))])
                have c103 := (Arv.keep (Arv.ext (Arv.keep (Arv.keep (Arv.ext (Arv.ext (Arv.other (Arv.other (Arv.ext (Arv.other (Arv.other (Arv.ext V17 E27) W29 (o_ng V17.lt gg27)) W31 (o_ng V17.lt gg27)) E70) W72 (o_ng (Nat.lt_of_lt_of_le V17.lt (Nat.le_trans (Nat.le_trans E27.1 (Keep.of_wr W29).1) (Keep.of_wr W31).1)) gg70)) W74 (o_ng (Nat.lt_of_lt_of_le V17.lt (Nat.le_trans (Nat.le_trans E27.1 (Keep.of_wr W29).1) (Keep.of_wr W31).1)) gg70)) E76) E78) Kp81 (ninS (o_ng (Nat.lt_of_lt_of_le V17.lt (Nat.le_trans (Nat.le_trans (Nat.le_trans (Nat.le_trans (Nat.le_trans (Nat.le_trans E27.1 (Keep.of_wr W29).1) (Keep.of_wr W31).1) E70.1) (Keep.of_wr W72).1) (Keep.of_wr W74).1) E76.1)) gg78) nin0)) Kp88 (ninS (o_ng (Nat.lt_of_lt_of_le V17.lt (Nat.le_trans (Nat.le_trans (Nat.le_trans (Nat.le_trans (Nat.le_trans E27.1 (Keep.of_wr W29).1) (Keep.of_wr W31).1) E70.1) (Keep.of_wr W72).1) (Keep.of_wr W74).1)) gg76) nin0)) E91) Kp94 (ninS (o_ng (Nat.lt_of_lt_of_le V17.lt (Nat.le_trans (Nat.le_trans (Nat.le_trans (Nat.le_trans (Nat.le_trans (Nat.le_trans (Nat.le_trans (Nat.le_trans (Nat.le_trans E27.1 (Keep.of_wr W29).1) (Keep.of_wr W31).1) E70.1) (Keep.of_wr W72).1) (Keep.of_wr W74).1) E76.1) E78.1) Kp81.1) Kp88.1)) gg91) nin0))
                have c104 := (Arv.keep (Arv.ext (Arv.keep (Arv.keep (Arv.ext (Arv.ext (Arv.other (Arv.other (Arv.ext (Arv.other (Arv.other (Arv.ext (Arv.other (Arv.other (Arv.other (Arv.ext V9 E11) W13 (o_ng V9.lt gg11)) W15 (o_ng V9.lt gg11)) W17 (o_ng V9.lt gg11)) E27) W29 (o_ng (Nat.lt_of_lt_of_le V9.lt (Nat.le_trans (Nat.le_trans (Nat.le_trans E11.1 (Keep.of_wr W13).1) (Keep.of_wr W15).1) (Keep.of_wr W17).1)) gg27)) W31 (o_ng (Nat.lt_of_lt_of_le V9.lt (Nat.le_trans (Nat.le_trans (Nat.le_trans E11.1 (Keep.of_wr W13).1) (Keep.of_wr W15).1) (Keep.of_wr W17).1)) gg27)) E70) W72 (o_ng (Nat.lt_of_lt_of_le V9.lt (Nat.le_trans (Nat.le_trans (Nat.le_trans (Nat.le_trans (Nat.le_trans (Nat.le_trans E11.1 (Keep.of_wr W13).1) (Keep.of_wr W15).1) (Keep.of_wr W17).1) E27.1) (Keep.of_wr W29).1) (Keep.of_wr W31).1)) gg70)) W74 (o_ng (Nat.lt_of_lt_of_le V9.lt (Nat.le_trans (Nat.le_trans (Nat.le_trans (Nat.le_trans (Nat.le_trans (Nat.le_trans E11.1 (Keep.of_wr W13).1) (Keep.of_wr W15).1) (Keep.of_wr W17).1) E27.1) (Keep.of_wr W29).1) (Keep.of_wr W31).1)) gg70)) E76) E78) Kp81 (ninS (o_ng (Nat.lt_of_lt_of_le V9.lt (Nat.le_trans (Nat.le_trans (Nat.le_trans (Nat.le_trans (Nat.le_trans (Nat.le_trans (Nat.le_trans (Nat.le_trans (Nat.le_trans (Nat.le_trans E11.1 (Keep.of_wr W13).1) (Keep.of_wr W15).1) (Keep.of_wr W17).1) E27.1) (Keep.of_wr W29).1) (Keep.of_wr W31).1) E70.1) (Keep.of_wr W72).1) (Keep.of_wr W74).1) E76.1)) gg78) nin0)) Kp88 (ninS (o_ng (Nat.lt_of_lt_of_le V9.lt (Nat.le_trans (Nat.le_trans (Nat.le_trans (Nat.le_trans (Nat.le_trans (Nat.le_trans (Nat.le_trans (Nat.le_trans (Nat.le_trans E11.1 (Keep.of_wr W13).1) (Keep.of_wr W15).1) (Keep.of_wr W17).1) E27.1) (Keep.of_wr W29).1) (Keep.of_wr W31).1) E70.1) (Keep.of_wr W72).1) (Keep.of_wr W74).1)) gg76) nin0)) E91) Kp94 (ninS (o_ng (Nat.lt_of_lt_of_le V9.lt (Nat.le_trans (Nat.le_trans (Nat.le_trans (Nat.le_trans (Nat.le_trans (Nat.le_trans (Nat.le_trans (Nat.le_trans (Nat.le_trans (Nat.le_trans (Nat.le_trans (Nat.le_trans (Nat.le_trans E11.1 (Keep.of_wr W13).1) (Keep.of_wr W15).1) (Keep.of_wr W17).1) E27.1) (Keep.of_wr W29).1) (Keep.of_wr W31).1) E70.1) (Keep.of_wr W72).1) (Keep.of_wr W74).1) E76.1) E78.1) Kp81.1) Kp88.1)) gg91) nin0))
                exact J280 _ _ _ _ (o_up X101 (by decide) (by decide)) hS88 (by rw [hh101]; exact (Nat.le_trans (Nat.le_trans hk88 E91.1) Kp94.1)) hZ88 hown88 N101 (by rw [hh101]; exact O95) (((if ¬ B = 0 ∧ ¬ A = 0 then (if o_occ ([na, nb] : List Int32) ([ca, cb] : List Int32) = true then 1 else 0) else if ¬ B = 0 then (if o_pref ([na, nb] : List Int32) ([ca, cb] : List Int32) = true then 1 else 0) else if ¬ A = 0 then (if o_pref ([na, nb] : List Int32) ([ca, cb] : List Int32) = true then 1 else 0) else (if ([na, nb] : List Int32) = ([ca, cb] : List Int32) then 1 else 0)) : Int32), .ref b27, .ref b70, .ref b76) ⟨o_gt2_2 (B := B) (A := A), by rw [hh101]; exact c103, by rw [hh101]; exact c104⟩
              have hc188 := o_c_ne.2 hq
              obtain rfl : nl = 1 := hc188
              skip
              refine o_iconst X31 hx (y_ at_191) (x := 1) rfl ?_
              refine o_newA (cap := 1) X31 hx hZ (k_ 4 rfl) e31 (y_ at_192) (by decide) (by decide) (by decide) (by decide) (by decide) (fun T105 h105 k105 b105 X105 e105 gg105 E105 A105 => ?_)
              have g_b105 := o_fresh O31 gg105
              have O105 := Old.ext O31 E105
              have C106 := CHr.trans C32 (CHr.ext E105 C32.1)
              have V105 : Arv Z h105 b105 k105 .char (1 : Int32) [(.int 0)] (.int 0) := A105.pad (pad_rep [] (.int 0) 1)
              refine o_dup X105 hx (y_ at_194) rfl ?_
              refine o_iconst X105 hx (y_ at_195) (x := 0) rfl ?_
              refine o_iload X105 hx (y_ at_196) rfl ?_
              refine o_stC (i := 0) (z := na) X105 hx hZ e105 V105 (y_ at_198) ⟨by decide, by decide⟩ rfl (o_b rfl) n_na (fun T107 h107 X107 e107 W107 V107 => ?_)
              have N107 := Fr.snoc X107 N31 g_b105
              have O107 := Old.wr O105 W107 g_b105
              have C108 := CHr.trans C106 (CHr.wr W107 (Safe.arv hZ.alike V105 (by decide)) C106.1)
              refine o_gO (t := 242) X107 hx (y_ at_199) ?_
              refine o_astore X107 hx (y_ at_242) rfl (A' := #[vI p1, vI p2, vI p3, vI p4, vI 2, vI 1, vI B, vI A, vI ca, vI cb, vI na, vI nb, vI nc, vR b5, vR b11, vR b27, vR b105, .unset, .unset, .unset]) rfl ?_
              refine o_new X107 hx hZ hown (k_ 5 rfl) (k_ 6 rfl) (k_ 7 rfl) e107 (y_ at_244) (by decide) (by decide) (fun T109 h109 b109 X109 e109 gg109 E109 A109 D109 => ?_)
              have g_b109 := o_fresh O107 gg109
              have O109 := Old.ext O107 E109
              have C110 := CHr.trans C108 (CHr.ext E109 C108.1)
              have F109_core : Fld Z h109 b109 "org/adviceweft/pointcut/NamePattern" "core" "Ljava/lang/String;" .null := D109 (Or.inr (k_ 96 rfl)) (ty := (.object "java/lang/String")) (by decide)
              have F109_anyBefore : Fld Z h109 b109 "org/adviceweft/pointcut/NamePattern" "anyBefore" "Z" (.int 0) := D109 (Or.inr (k_ 98 rfl)) (ty := .boolean) (by decide)
              have F109_anyAfter : Fld Z h109 b109 "org/adviceweft/pointcut/NamePattern" "anyAfter" "Z" (.int 0) := D109 (Or.inr (k_ 100 rfl)) (ty := .boolean) (by decide)
              refine o_dup X109 hx (y_ at_247) rfl ?_
              refine o_new X109 hx hZ hown (k_ 8 rfl) (k_ 9 rfl) (k_ 10 rfl) e109 (y_ at_248) (by decide) (by decide) (fun T111 h111 b111 X111 e111 gg111 E111 A111 D111 => ?_)
              have g_b111 := o_fresh O109 gg111
              have O111 := Old.ext O109 E111
              have C112 := CHr.trans C110 (CHr.ext E111 C110.1)
              have F111_coder : Fld Z h111 b111 "java/lang/String" "coder" "B" (.int 0) := D111 (Or.inr (k_ 34 rfl)) (ty := .byte) (by decide)
              have F111_value : Fld Z h111 b111 "java/lang/String" "value" "[B" .null := D111 (Or.inr (k_ 36 rfl)) (ty := (.array .byte)) (by decide)
              refine o_dup X111 hx (y_ at_251) rfl ?_
              refine o_aload X111 hx (y_ at_252) rfl rfl ?_
              have c113 := (Arv.ext (Arv.ext (Arv.other (Arv.ext V31 E105) W107 (o_ng V31.lt gg105)) E109) E111)
              refine o_ini (y := o_m5) (b := b111) (argsL := [(.ref b27)]) (S := [(.ref b111), (.ref b109), (.ref b109)]) (W := 3) rfl X111 hx hZ hown (k_ 11 rfl) (k_ 12 rfl) (k_ 13 rfl) (o_newB (W := 3) (cs := ([ca, cb] : List Int32)) (n := 2) hZ hw (k_ 9 rfl) O111 g_b111 A111 F111_value F111_coder c113 SC_ hC_ rfl rfl (by decide) (by decide) (o_csS ⟨l_ca, u_ca⟩ (o_csS ⟨l_cb, u_cb⟩ o_cs0)) (by decide) (by decide)) e111 hml (lenOf o_pd__28_5bC_29V rfl) (y_ at_254) (fun T114 L114 v114 X114 hQ114 => ?_)
              obtain ⟨rfl, Nq114, Kp114, t114, g_t114, ht114, hne114, Sf114⟩ := hQ114
              have N114 := Fr.app N107 Nq114
              have O115 := Old.keep O111 Kp114 (allS g_b111 all0)
              have C116 := CHr.trans C112 (CHr.keep Kp114 (sfS (o_safeN hZ.alike A111 F111_value) sf0) C112.1)
              show o_G p e below _ T114 (mkF m 257 #[vI p1, vI p2, vI p3, vI p4, vI 2, vI 1, vI B, vI A, vI ca, vI cb, vI na, vI nb, vI nc, vR b5, vR b11, vR b27, vR b105, .unset, .unset, .unset] [(.ref b111), (.ref b109), (.ref b109)])
              refine o_iload X114 hx (y_ at_257) rfl ?_
              refine o_iload X114 hx (y_ at_259) rfl ?_
              have c117 := (Exa.keep (Exa.ext E111 A109) Kp114)
              have c118 := (Fld.keep (Fld.ext E111 F109_core) Kp114 (ninS (o_ng A109.lt gg111) nin0))
              have c119 := (Fld.keep (Fld.ext E111 F109_anyBefore) Kp114 (ninS (o_ng A109.lt gg111) nin0))
              have c120 := (Fld.keep (Fld.ext E111 F109_anyAfter) Kp114 (ninS (o_ng A109.lt gg111) nin0))
              refine o_initH (y := o_m19) (b := b109) (argsL := [(.ref b111), (.int B), (.int A)]) (S := [(.ref b109)]) (W := 1) rfl X114 hx hZ hS0 hown (k_ 37 rfl) (k_ 38 rfl) (k_ 39 rfl) (by decide) (backOfSH (W := 1) (rmct2 l Z a0 hw [] b109 b111 B A t114 ca cb zC_ T114.heap n0 O115 c117 c118 c119 c120 g_b109 Sf114 (o_nostar2 s_ca s_cb) h_B h_A SC_ hC_) hZ (k_ 39 rfl) (k_ 7 rfl) (by decide) (by decide) hEL C116.1) rfl (Nat.le_trans (Nat.le_trans (Nat.le_trans (Nat.le_trans (Nat.le_trans (Nat.le_trans (Nat.le_trans (Nat.le_trans (Nat.le_trans (Nat.le_trans (Nat.le_trans (Nat.le_trans (Nat.le_trans (Nat.le_trans (Nat.le_trans hk0 E5.1) (Keep.of_wr W7).1) (Keep.of_wr W9).1) E11.1) (Keep.of_wr W13).1) (Keep.of_wr W15).1) (Keep.of_wr W17).1) E27.1) (Keep.of_wr W29).1) (Keep.of_wr W31).1) E105.1) (Keep.of_wr W107).1) E109.1) E111.1) Kp114.1) (by rw [hml]; rfl) (lenOf o_pd__28Ljava_2flang_2fString_3bZZ_29V rfl) rfl (Nat.le_of_eq rfl) (y_ at_261) (by decide) (by decide) (fun T121 L121 v121 k121 X121 hS121 hk121 hZ121 hown121 hQ121 hC121 => ?_)
              obtain ⟨rfl, N121q, Kp121, Ex121, Fk121, Fb121, Fa121⟩ := hQ121
              have N121 := Fr.app N114 N121q
              have O122 := Old.keep O115 Kp121 (allS g_b109 all0)
              have C123 := CHr.trans C116 (hC121)
              show o_G p e below _ T121 (mkF m 264 #[vI p1, vI p2, vI p3, vI p4, vI 2, vI 1, vI B, vI A, vI ca, vI cb, vI na, vI nb, vI nc, vR b5, vR b11, vR b27, vR b105, .unset, .unset, .unset] [(.ref b109)])
              refine o_astore X121 hx (y_ at_264) rfl (A' := #[vI p1, vI p2, vI p3, vI p4, vI 2, vI 1, vI B, vI A, vI ca, vI cb, vI na, vI nb, vI nc, vR b5, vR b11, vR b27, vR b105, vR b109, .unset, .unset]) rfl ?_
              refine o_aload X121 hx (y_ at_266) rfl rfl ?_
              refine o_new X121 hx hZ121 hown121 (k_ 8 rfl) (k_ 9 rfl) (k_ 10 rfl) rfl (y_ at_268) (by decide) (by decide) (fun T124 h124 b124 X124 e124 gg124 E124 A124 D124 => ?_)
              have g_b124 := o_fresh O122 gg124
              have O124 := Old.ext O122 E124
              have C125 := CHr.trans C123 (CHr.ext E124 C123.1)
              have F124_coder : Fld Z h124 b124 "java/lang/String" "coder" "B" (.int 0) := D124 (Or.inr (k_ 34 rfl)) (ty := .byte) (by decide)
              have F124_value : Fld Z h124 b124 "java/lang/String" "value" "[B" .null := D124 (Or.inr (k_ 36 rfl)) (ty := (.array .byte)) (by decide)
              refine o_dup X124 hx (y_ at_271) rfl ?_
              refine o_aload X124 hx (y_ at_272) rfl rfl ?_
              have c126 := (Arv.ext (Arv.keep (Arv.keep (Arv.ext (Arv.ext V107 E109) E111) Kp114 (ninS (o_ng (Nat.lt_of_lt_of_le V107.lt E109.1) gg111) nin0)) Kp121 (ninS (o_ng V107.lt gg109) nin0)) E124)
              refine o_ini (y := o_m5) (b := b124) (argsL := [(.ref b105)]) (S := [(.ref b124), (.ref b109)]) (W := 2) rfl X124 hx hZ121 hown121 (k_ 11 rfl) (k_ 12 rfl) (k_ 13 rfl) (o_newB (W := 2) (cs := ([na] : List Int32)) (n := 1) hZ121 hw (k_ 9 rfl) O124 g_b124 A124 F124_value F124_coder c126 SC_ hC_ rfl rfl (by decide) (by decide) (o_csS ⟨l_na, u_na⟩ o_cs0) (by decide) (by decide)) e124 hml (lenOf o_pd__28_5bC_29V rfl) (y_ at_274) (fun T127 L127 v127 X127 hQ127 => ?_)
              obtain ⟨rfl, Nq127, Kp127, t127, g_t127, ht127, hne127, Sf127⟩ := hQ127
              have N127 := Fr.app N121 Nq127
              have O128 := Old.keep O124 Kp127 (allS g_b124 all0)
              have C129 := CHr.trans C125 (CHr.keep Kp127 (sfS (o_safeN hZ121.alike A124 F124_value) sf0) C125.1)
              show o_G p e below _ T127 (mkF m 277 #[vI p1, vI p2, vI p3, vI p4, vI 2, vI 1, vI B, vI A, vI ca, vI cb, vI na, vI nb, vI nc, vR b5, vR b11, vR b27, vR b105, vR b109, .unset, .unset] [(.ref b124), (.ref b109)])
              have c130 := (Fld.keep (Fld.ext E124 Fk121) Kp127 (ninS (o_ng Ex121.lt gg124) nin0))
              have c131 := (Fld.keep (Fld.ext E124 Fb121) Kp127 (ninS (o_ng Ex121.lt gg124) nin0))
              have c132 := (Fld.keep (Fld.ext E124 Fa121) Kp127 (ninS (o_ng Ex121.lt gg124) nin0))
              have c133 := (o_Str.keep (o_Str.ext E124 (o_Str.keep Sf114 Kp121 (ninS (Ne.symm (o_ng A109.lt gg111)) nin0) (ninS (Ne.symm (Nat.ne_of_lt (Nat.lt_of_lt_of_le (Nat.lt_of_lt_of_le A109.lt E111.1) ht114))) nin0))) Kp127 (ninS (o_ng (Nat.lt_of_lt_of_le Sf114.lt Kp121.1) gg124) nin0) (ninS (o_ng (Nat.lt_of_lt_of_le Sf114.lt2 Kp121.1) gg124) nin0))
              have c135 := (Exa.keep (Exa.ext E124 Ex121) Kp127)
              refine o_vir (y := o_m21) (b := b109) (argsL := [(.ref b124)]) (S := []) (W := 0) X127 hx hZ121 hown121 (k_ 102 rfl) (k_ 103 rfl) (k_ 105 rfl) (k_ 104 rfl) (backOf (W := 0) (rmmt1_2 l Z a0 hw [] b109 b124 b111 t114 t127 na ca cb B A zC_ T127.heap n0 O128 c130 c131 c132 c133 Sf127 SC_ hC_) hZ121 (k_ 106 rfl) (k_ 7 rfl) (by decide) (by decide)) rfl c135 hml (lenOf o_pd__28Ljava_2flang_2fString_3b_29Z rfl) (y_ at_277) (fun T134 L134 v134 X134 hQ134 => ?_)
              obtain ⟨rfl, N134q, hh134⟩ := hQ134
              have N134 := Fr.app N127 N134q
              show o_G p e below _ T134 (mkF m 280 #[vI p1, vI p2, vI p3, vI p4, vI 2, vI 1, vI B, vI A, vI ca, vI cb, vI na, vI nb, vI nc, vR b5, vR b11, vR b27, vR b105, vR b109, .unset, .unset] [(.int ((if ¬ B = 0 ∧ ¬ A = 0 then (if o_occ ([na] : List Int32) ([ca, cb] : List Int32) = true then 1 else 0) else if ¬ B = 0 then 0 else if ¬ A = 0 then 0 else (if ([na] : List Int32) = ([ca, cb] : List Int32) then 1 else 0)) : Int32))])
              have c136 := (Arv.keep (Arv.ext (Arv.keep (Arv.keep (Arv.ext (Arv.ext (Arv.other (Arv.ext (Arv.other (Arv.other (Arv.ext V17 E27) W29 (o_ng V17.lt gg27)) W31 (o_ng V17.lt gg27)) E105) W107 (o_ng (Nat.lt_of_lt_of_le V17.lt (Nat.le_trans (Nat.le_trans E27.1 (Keep.of_wr W29).1) (Keep.of_wr W31).1)) gg105)) E109) E111) Kp114 (ninS (o_ng (Nat.lt_of_lt_of_le V17.lt (Nat.le_trans (Nat.le_trans (Nat.le_trans (Nat.le_trans (Nat.le_trans E27.1 (Keep.of_wr W29).1) (Keep.of_wr W31).1) E105.1) (Keep.of_wr W107).1) E109.1)) gg111) nin0)) Kp121 (ninS (o_ng (Nat.lt_of_lt_of_le V17.lt (Nat.le_trans (Nat.le_trans (Nat.le_trans (Nat.le_trans E27.1 (Keep.of_wr W29).1) (Keep.of_wr W31).1) E105.1) (Keep.of_wr W107).1)) gg109) nin0)) E124) Kp127 (ninS (o_ng (Nat.lt_of_lt_of_le V17.lt (Nat.le_trans (Nat.le_trans (Nat.le_trans (Nat.le_trans (Nat.le_trans (Nat.le_trans (Nat.le_trans (Nat.le_trans E27.1 (Keep.of_wr W29).1) (Keep.of_wr W31).1) E105.1) (Keep.of_wr W107).1) E109.1) E111.1) Kp114.1) Kp121.1)) gg124) nin0))
              have c137 := (Arv.keep (Arv.ext (Arv.keep (Arv.keep (Arv.ext (Arv.ext (Arv.other (Arv.ext (Arv.other (Arv.other (Arv.ext (Arv.other (Arv.other (Arv.other (Arv.ext V9 E11) W13 (o_ng V9.lt gg11)) W15 (o_ng V9.lt gg11)) W17 (o_ng V9.lt gg11)) E27) W29 (o_ng (Nat.lt_of_lt_of_le V9.lt (Nat.le_trans (Nat.le_trans (Nat.le_trans E11.1 (Keep.of_wr W13).1) (Keep.of_wr W15).1) (Keep.of_wr W17).1)) gg27)) W31 (o_ng (Nat.lt_of_lt_of_le V9.lt (Nat.le_trans (Nat.le_trans (Nat.le_trans E11.1 (Keep.of_wr W13).1) (Keep.of_wr W15).1) (Keep.of_wr W17).1)) gg27)) E105) W107 (o_ng (Nat.lt_of_lt_of_le V9.lt (Nat.le_trans (Nat.le_trans (Nat.le_trans (Nat.le_trans (Nat.le_trans (Nat.le_trans E11.1 (Keep.of_wr W13).1) (Keep.of_wr W15).1) (Keep.of_wr W17).1) E27.1) (Keep.of_wr W29).1) (Keep.of_wr W31).1)) gg105)) E109) E111) Kp114 (ninS (o_ng (Nat.lt_of_lt_of_le V9.lt (Nat.le_trans (Nat.le_trans (Nat.le_trans (Nat.le_trans (Nat.le_trans (Nat.le_trans (Nat.le_trans (Nat.le_trans (Nat.le_trans E11.1 (Keep.of_wr W13).1) (Keep.of_wr W15).1) (Keep.of_wr W17).1) E27.1) (Keep.of_wr W29).1) (Keep.of_wr W31).1) E105.1) (Keep.of_wr W107).1) E109.1)) gg111) nin0)) Kp121 (ninS (o_ng (Nat.lt_of_lt_of_le V9.lt (Nat.le_trans (Nat.le_trans (Nat.le_trans (Nat.le_trans (Nat.le_trans (Nat.le_trans (Nat.le_trans (Nat.le_trans E11.1 (Keep.of_wr W13).1) (Keep.of_wr W15).1) (Keep.of_wr W17).1) E27.1) (Keep.of_wr W29).1) (Keep.of_wr W31).1) E105.1) (Keep.of_wr W107).1)) gg109) nin0)) E124) Kp127 (ninS (o_ng (Nat.lt_of_lt_of_le V9.lt (Nat.le_trans (Nat.le_trans (Nat.le_trans (Nat.le_trans (Nat.le_trans (Nat.le_trans (Nat.le_trans (Nat.le_trans (Nat.le_trans (Nat.le_trans (Nat.le_trans (Nat.le_trans E11.1 (Keep.of_wr W13).1) (Keep.of_wr W15).1) (Keep.of_wr W17).1) E27.1) (Keep.of_wr W29).1) (Keep.of_wr W31).1) E105.1) (Keep.of_wr W107).1) E109.1) E111.1) Kp114.1) Kp121.1)) gg124) nin0))
              exact J280 _ _ _ _ (o_up X134 (by decide) (by decide)) hS121 (by rw [hh134]; exact (Nat.le_trans (Nat.le_trans hk121 E124.1) Kp127.1)) hZ121 hown121 N134 (by rw [hh134]; exact O128) (((if ¬ B = 0 ∧ ¬ A = 0 then (if o_occ ([na] : List Int32) ([ca, cb] : List Int32) = true then 1 else 0) else if ¬ B = 0 then 0 else if ¬ A = 0 then 0 else (if ([na] : List Int32) = ([ca, cb] : List Int32) then 1 else 0)) : Int32), .ref b27, .ref b105, .ref b109) ⟨o_gt2_1 (B := B) (A := A), by rw [hh134]; exact c136, by rw [hh134]; exact c137⟩
            have hc176 := o_h_ne.2 hq
            obtain rfl : nl = 0 := hc176
            skip
            refine o_iconst X31 hx (y_ at_179) (x := 0) rfl ?_
            refine o_newA (cap := 0) X31 hx hZ (k_ 4 rfl) e31 (y_ at_180) (by decide) (by decide) (by decide) (by decide) (by decide) (fun T138 h138 k138 b138 X138 e138 gg138 E138 A138 => ?_)
            have g_b138 := o_fresh O31 gg138
            have O138 := Old.ext O31 E138
            have C139 := CHr.trans C32 (CHr.ext E138 C32.1)
            have V138 : Arv Z h138 b138 k138 .char (0 : Int32) [] (.int 0) := A138
            refine o_gO (t := 242) X138 hx (y_ at_182) ?_
            refine o_astore X138 hx (y_ at_242) rfl (A' := #[vI p1, vI p2, vI p3, vI p4, vI 2, vI 0, vI B, vI A, vI ca, vI cb, vI na, vI nb, vI nc, vR b5, vR b11, vR b27, vR b138, .unset, .unset, .unset]) rfl ?_
            refine o_new X138 hx hZ hown (k_ 5 rfl) (k_ 6 rfl) (k_ 7 rfl) e138 (y_ at_244) (by decide) (by decide) (fun T140 h140 b140 X140 e140 gg140 E140 A140 D140 => ?_)
            have g_b140 := o_fresh O138 gg140
            have O140 := Old.ext O138 E140
            have C141 := CHr.trans C139 (CHr.ext E140 C139.1)
            have F140_core : Fld Z h140 b140 "org/adviceweft/pointcut/NamePattern" "core" "Ljava/lang/String;" .null := D140 (Or.inr (k_ 96 rfl)) (ty := (.object "java/lang/String")) (by decide)
            have F140_anyBefore : Fld Z h140 b140 "org/adviceweft/pointcut/NamePattern" "anyBefore" "Z" (.int 0) := D140 (Or.inr (k_ 98 rfl)) (ty := .boolean) (by decide)
            have F140_anyAfter : Fld Z h140 b140 "org/adviceweft/pointcut/NamePattern" "anyAfter" "Z" (.int 0) := D140 (Or.inr (k_ 100 rfl)) (ty := .boolean) (by decide)
            refine o_dup X140 hx (y_ at_247) rfl ?_
            refine o_new X140 hx hZ hown (k_ 8 rfl) (k_ 9 rfl) (k_ 10 rfl) e140 (y_ at_248) (by decide) (by decide) (fun T142 h142 b142 X142 e142 gg142 E142 A142 D142 => ?_)
            have g_b142 := o_fresh O140 gg142
            have O142 := Old.ext O140 E142
            have C143 := CHr.trans C141 (CHr.ext E142 C141.1)
            have F142_coder : Fld Z h142 b142 "java/lang/String" "coder" "B" (.int 0) := D142 (Or.inr (k_ 34 rfl)) (ty := .byte) (by decide)
            have F142_value : Fld Z h142 b142 "java/lang/String" "value" "[B" .null := D142 (Or.inr (k_ 36 rfl)) (ty := (.array .byte)) (by decide)
            refine o_dup X142 hx (y_ at_251) rfl ?_
            refine o_aload X142 hx (y_ at_252) rfl rfl ?_
            have c144 := (Arv.ext (Arv.ext (Arv.ext V31 E138) E140) E142)
            refine o_ini (y := o_m5) (b := b142) (argsL := [(.ref b27)]) (S := [(.ref b142), (.ref b140), (.ref b140)]) (W := 3) rfl X142 hx hZ hown (k_ 11 rfl) (k_ 12 rfl) (k_ 13 rfl) (o_newB (W := 3) (cs := ([ca, cb] : List Int32)) (n := 2) hZ hw (k_ 9 rfl) O142 g_b142 A142 F142_value F142_coder c144 SC_ hC_ rfl rfl (by decide) (by decide) (o_csS ⟨l_ca, u_ca⟩ (o_csS ⟨l_cb, u_cb⟩ o_cs0)) (by decide) (by decide)) e142 hml (lenOf o_pd__28_5bC_29V rfl) (y_ at_254) (fun T145 L145 v145 X145 hQ145 => ?_)
            obtain ⟨rfl, Nq145, Kp145, t145, g_t145, ht145, hne145, Sf145⟩ := hQ145
            have N145 := Fr.app N31 Nq145
            have O146 := Old.keep O142 Kp145 (allS g_b142 all0)
            have C147 := CHr.trans C143 (CHr.keep Kp145 (sfS (o_safeN hZ.alike A142 F142_value) sf0) C143.1)
            show o_G p e below _ T145 (mkF m 257 #[vI p1, vI p2, vI p3, vI p4, vI 2, vI 0, vI B, vI A, vI ca, vI cb, vI na, vI nb, vI nc, vR b5, vR b11, vR b27, vR b138, .unset, .unset, .unset] [(.ref b142), (.ref b140), (.ref b140)])
            refine o_iload X145 hx (y_ at_257) rfl ?_
            refine o_iload X145 hx (y_ at_259) rfl ?_
            have c148 := (Exa.keep (Exa.ext E142 A140) Kp145)
            have c149 := (Fld.keep (Fld.ext E142 F140_core) Kp145 (ninS (o_ng A140.lt gg142) nin0))
            have c150 := (Fld.keep (Fld.ext E142 F140_anyBefore) Kp145 (ninS (o_ng A140.lt gg142) nin0))
            have c151 := (Fld.keep (Fld.ext E142 F140_anyAfter) Kp145 (ninS (o_ng A140.lt gg142) nin0))
            refine o_initH (y := o_m19) (b := b140) (argsL := [(.ref b142), (.int B), (.int A)]) (S := [(.ref b140)]) (W := 1) rfl X145 hx hZ hS0 hown (k_ 37 rfl) (k_ 38 rfl) (k_ 39 rfl) (by decide) (backOfSH (W := 1) (rmct2 l Z a0 hw [] b140 b142 B A t145 ca cb zC_ T145.heap n0 O146 c148 c149 c150 c151 g_b140 Sf145 (o_nostar2 s_ca s_cb) h_B h_A SC_ hC_) hZ (k_ 39 rfl) (k_ 7 rfl) (by decide) (by decide) hEL C147.1) rfl (Nat.le_trans (Nat.le_trans (Nat.le_trans (Nat.le_trans (Nat.le_trans (Nat.le_trans (Nat.le_trans (Nat.le_trans (Nat.le_trans (Nat.le_trans (Nat.le_trans (Nat.le_trans (Nat.le_trans (Nat.le_trans hk0 E5.1) (Keep.of_wr W7).1) (Keep.of_wr W9).1) E11.1) (Keep.of_wr W13).1) (Keep.of_wr W15).1) (Keep.of_wr W17).1) E27.1) (Keep.of_wr W29).1) (Keep.of_wr W31).1) E138.1) E140.1) E142.1) Kp145.1) (by rw [hml]; rfl) (lenOf o_pd__28Ljava_2flang_2fString_3bZZ_29V rfl) rfl (Nat.le_of_eq rfl) (y_ at_261) (by decide) (by decide) (fun T152 L152 v152 k152 X152 hS152 hk152 hZ152 hown152 hQ152 hC152 => ?_)
            obtain ⟨rfl, N152q, Kp152, Ex152, Fk152, Fb152, Fa152⟩ := hQ152
            have N152 := Fr.app N145 N152q
            have O153 := Old.keep O146 Kp152 (allS g_b140 all0)
            have C154 := CHr.trans C147 (hC152)
            show o_G p e below _ T152 (mkF m 264 #[vI p1, vI p2, vI p3, vI p4, vI 2, vI 0, vI B, vI A, vI ca, vI cb, vI na, vI nb, vI nc, vR b5, vR b11, vR b27, vR b138, .unset, .unset, .unset] [(.ref b140)])
            refine o_astore X152 hx (y_ at_264) rfl (A' := #[vI p1, vI p2, vI p3, vI p4, vI 2, vI 0, vI B, vI A, vI ca, vI cb, vI na, vI nb, vI nc, vR b5, vR b11, vR b27, vR b138, vR b140, .unset, .unset]) rfl ?_
            refine o_aload X152 hx (y_ at_266) rfl rfl ?_
            refine o_new X152 hx hZ152 hown152 (k_ 8 rfl) (k_ 9 rfl) (k_ 10 rfl) rfl (y_ at_268) (by decide) (by decide) (fun T155 h155 b155 X155 e155 gg155 E155 A155 D155 => ?_)
            have g_b155 := o_fresh O153 gg155
            have O155 := Old.ext O153 E155
            have C156 := CHr.trans C154 (CHr.ext E155 C154.1)
            have F155_coder : Fld Z h155 b155 "java/lang/String" "coder" "B" (.int 0) := D155 (Or.inr (k_ 34 rfl)) (ty := .byte) (by decide)
            have F155_value : Fld Z h155 b155 "java/lang/String" "value" "[B" .null := D155 (Or.inr (k_ 36 rfl)) (ty := (.array .byte)) (by decide)
            refine o_dup X155 hx (y_ at_271) rfl ?_
            refine o_aload X155 hx (y_ at_272) rfl rfl ?_
            have c157 := (Arv.ext (Arv.keep (Arv.keep (Arv.ext (Arv.ext V138 E140) E142) Kp145 (ninS (o_ng (Nat.lt_of_lt_of_le V138.lt E140.1) gg142) nin0)) Kp152 (ninS (o_ng V138.lt gg140) nin0)) E155)
            refine o_initH (y := o_m5) (b := b155) (argsL := [(.ref b138)]) (S := [(.ref b155), (.ref b140)]) (W := 2) rfl X155 hx hZ152 hS152 hown152 (k_ 11 rfl) (k_ 12 rfl) (k_ 13 rfl) (by decide) (backOfSH (W := 2) (rmse l Z a0 hw [] b155 b138 k138 h155 n0 O155 A155 F155_value F155_coder g_b155 c157) hZ152 (k_ 13 rfl) (k_ 10 rfl) (by decide) (by decide) hEL C156.1) e155 (Nat.le_trans hk152 E155.1) (by rw [hml]; rfl) (lenOf o_pd__28_5bC_29V rfl) rfl (Nat.le_of_eq rfl) (y_ at_274) (by decide) (by decide) (fun T158 L158 v158 k158 X158 hS158 hk158 hZ158 hown158 hQ158 hC158 => ?_)
            obtain ⟨rfl, N158q, Kp158, t158, hne158, Sf158⟩ := hQ158
            have N158 := Fr.app N152 N158q
            have O159 := Old.keep O155 Kp158 (allS g_b155 all0)
            have C160 := CHr.trans C156 (hC158)
            show o_G p e below _ T158 (mkF m 277 #[vI p1, vI p2, vI p3, vI p4, vI 2, vI 0, vI B, vI A, vI ca, vI cb, vI na, vI nb, vI nc, vR b5, vR b11, vR b27, vR b138, vR b140, .unset, .unset] [(.ref b155), (.ref b140)])
            have c161 := (Fld.keep (Fld.ext E155 Fk152) Kp158 (ninS (o_ng Ex152.lt gg155) nin0))
            have c162 := (Fld.keep (Fld.ext E155 Fb152) Kp158 (ninS (o_ng Ex152.lt gg155) nin0))
            have c163 := (Fld.keep (Fld.ext E155 Fa152) Kp158 (ninS (o_ng Ex152.lt gg155) nin0))
            have c164 := (o_Str.keep (o_Str.ext E155 (o_Str.keep Sf145 Kp152 (ninS (Ne.symm (o_ng A140.lt gg142)) nin0) (ninS (Ne.symm (Nat.ne_of_lt (Nat.lt_of_lt_of_le (Nat.lt_of_lt_of_le A140.lt E142.1) ht145))) nin0))) Kp158 (ninS (o_ng (Nat.lt_of_lt_of_le Sf145.lt Kp152.1) gg155) nin0) (ninS (o_ng (Nat.lt_of_lt_of_le Sf145.lt2 Kp152.1) gg155) nin0))
            have c166 := (Exa.keep (Exa.ext E155 Ex152) Kp158)
            refine o_vir (y := o_m21) (b := b140) (argsL := [(.ref b155)]) (S := []) (W := 0) X158 hx hZ158 hown158 (k_ 102 rfl) (k_ 103 rfl) (k_ 105 rfl) (k_ 104 rfl) (backOf (W := 0) (rmmt0_2 l Z a0 hw [] b140 b155 b142 t145 t158 ca cb B A zC_ T158.heap n0 O159 c161 c162 c163 c164 Sf158 SC_ hC_) hZ158 (k_ 106 rfl) (k_ 7 rfl) (by decide) (by decide)) rfl c166 hml (lenOf o_pd__28Ljava_2flang_2fString_3b_29Z rfl) (y_ at_277) (fun T165 L165 v165 X165 hQ165 => ?_)
            obtain ⟨rfl, N165q, hh165⟩ := hQ165
            have N165 := Fr.app N158 N165q
            show o_G p e below _ T165 (mkF m 280 #[vI p1, vI p2, vI p3, vI p4, vI 2, vI 0, vI B, vI A, vI ca, vI cb, vI na, vI nb, vI nc, vR b5, vR b11, vR b27, vR b138, vR b140, .unset, .unset] [(.int ((if ¬ B = 0 ∧ ¬ A = 0 then (if o_occ ([] : List Int32) ([ca, cb] : List Int32) = true then 1 else 0) else if ¬ B = 0 then 0 else if ¬ A = 0 then 0 else (if ([] : List Int32) = ([ca, cb] : List Int32) then 1 else 0)) : Int32))])
            have c167 := (Arv.keep (Arv.ext (Arv.keep (Arv.keep (Arv.ext (Arv.ext (Arv.ext (Arv.other (Arv.other (Arv.ext V17 E27) W29 (o_ng V17.lt gg27)) W31 (o_ng V17.lt gg27)) E138) E140) E142) Kp145 (ninS (o_ng (Nat.lt_of_lt_of_le V17.lt (Nat.le_trans (Nat.le_trans (Nat.le_trans (Nat.le_trans E27.1 (Keep.of_wr W29).1) (Keep.of_wr W31).1) E138.1) E140.1)) gg142) nin0)) Kp152 (ninS (o_ng (Nat.lt_of_lt_of_le V17.lt (Nat.le_trans (Nat.le_trans (Nat.le_trans E27.1 (Keep.of_wr W29).1) (Keep.of_wr W31).1) E138.1)) gg140) nin0)) E155) Kp158 (ninS (o_ng (Nat.lt_of_lt_of_le V17.lt (Nat.le_trans (Nat.le_trans (Nat.le_trans (Nat.le_trans (Nat.le_trans (Nat.le_trans (Nat.le_trans E27.1 (Keep.of_wr W29).1) (Keep.of_wr W31).1) E138.1) E140.1) E142.1) Kp145.1) Kp152.1)) gg155) nin0))
            have c168 := (Arv.keep (Arv.ext (Arv.keep (Arv.keep (Arv.ext (Arv.ext (Arv.ext (Arv.other (Arv.other (Arv.ext (Arv.other (Arv.other (Arv.other (Arv.ext V9 E11) W13 (o_ng V9.lt gg11)) W15 (o_ng V9.lt gg11)) W17 (o_ng V9.lt gg11)) E27) W29 (o_ng (Nat.lt_of_lt_of_le V9.lt (Nat.le_trans (Nat.le_trans (Nat.le_trans E11.1 (Keep.of_wr W13).1) (Keep.of_wr W15).1) (Keep.of_wr W17).1)) gg27)) W31 (o_ng (Nat.lt_of_lt_of_le V9.lt (Nat.le_trans (Nat.le_trans (Nat.le_trans E11.1 (Keep.of_wr W13).1) (Keep.of_wr W15).1) (Keep.of_wr W17).1)) gg27)) E138) E140) E142) Kp145 (ninS (o_ng (Nat.lt_of_lt_of_le V9.lt (Nat.le_trans (Nat.le_trans (Nat.le_trans (Nat.le_trans (Nat.le_trans (Nat.le_trans (Nat.le_trans (Nat.le_trans E11.1 (Keep.of_wr W13).1) (Keep.of_wr W15).1) (Keep.of_wr W17).1) E27.1) (Keep.of_wr W29).1) (Keep.of_wr W31).1) E138.1) E140.1)) gg142) nin0)) Kp152 (ninS (o_ng (Nat.lt_of_lt_of_le V9.lt (Nat.le_trans (Nat.le_trans (Nat.le_trans (Nat.le_trans (Nat.le_trans (Nat.le_trans (Nat.le_trans E11.1 (Keep.of_wr W13).1) (Keep.of_wr W15).1) (Keep.of_wr W17).1) E27.1) (Keep.of_wr W29).1) (Keep.of_wr W31).1) E138.1)) gg140) nin0)) E155) Kp158 (ninS (o_ng (Nat.lt_of_lt_of_le V9.lt (Nat.le_trans (Nat.le_trans (Nat.le_trans (Nat.le_trans (Nat.le_trans (Nat.le_trans (Nat.le_trans (Nat.le_trans (Nat.le_trans (Nat.le_trans (Nat.le_trans E11.1 (Keep.of_wr W13).1) (Keep.of_wr W15).1) (Keep.of_wr W17).1) E27.1) (Keep.of_wr W29).1) (Keep.of_wr W31).1) E138.1) E140.1) E142.1) Kp145.1) Kp152.1)) gg155) nin0))
            exact J280 _ _ _ _ (o_up X165 (by decide) (by decide)) hS158 (by rw [hh165]; exact hk158) hZ158 hown158 N165 (by rw [hh165]; exact O159) (((if ¬ B = 0 ∧ ¬ A = 0 then (if o_occ ([] : List Int32) ([ca, cb] : List Int32) = true then 1 else 0) else if ¬ B = 0 then 0 else if ¬ A = 0 then 0 else (if ([] : List Int32) = ([ca, cb] : List Int32) then 1 else 0)) : Int32), .ref b27, .ref b138, .ref b140) ⟨o_gt2_0 (B := B) (A := A), by rw [hh165]; exact c167, by rw [hh165]; exact c168⟩
          have hc145 := o_c_ne.2 hq
          obtain rfl : cl = 1 := hc145
          skip
          refine o_iconst X17 hx (y_ at_148) (x := 1) rfl ?_
          refine o_newA (cap := 1) X17 hx hZ (k_ 4 rfl) e17 (y_ at_149) (by decide) (by decide) (by decide) (by decide) (by decide) (fun T169 h169 k169 b169 X169 e169 gg169 E169 A169 => ?_)
          have g_b169 := o_fresh O17 gg169
          have O169 := Old.ext O17 E169
          have C170 := CHr.trans C18 (CHr.ext E169 C18.1)
          have V169 : Arv Z h169 b169 k169 .char (1 : Int32) [(.int 0)] (.int 0) := A169.pad (pad_rep [] (.int 0) 1)
          refine o_dup X169 hx (y_ at_151) rfl ?_
          refine o_iconst X169 hx (y_ at_152) (x := 0) rfl ?_
          refine o_iload X169 hx (y_ at_153) rfl ?_
          refine o_stC (i := 0) (z := ca) X169 hx hZ e169 V169 (y_ at_155) ⟨by decide, by decide⟩ rfl (o_b rfl) n_ca (fun T171 h171 X171 e171 W171 V171 => ?_)
          have N171 := Fr.snoc X171 N17 g_b169
          have O171 := Old.wr O169 W171 g_b169
          have C172 := CHr.trans C170 (CHr.wr W171 (Safe.arv hZ.alike V169 (by decide)) C170.1)
          refine o_gO (t := 172) X171 hx (y_ at_156) ?_
          refine o_astore X171 hx (y_ at_172) rfl (A' := #[vI p1, vI p2, vI p3, vI p4, vI 1, vI nl, vI B, vI A, vI ca, vI cb, vI na, vI nb, vI nc, vR b5, vR b11, vR b169, .unset, .unset, .unset, .unset]) rfl ?_
          refine o_iload X171 hx (y_ at_174) rfl ?_
          refine o_iF (t := 185) X171 hx (y_ at_176) (fun hq => ?_) (fun hq => ?_)
          · have hc176 := o_h_ne.1 hq
            refine o_iload X171 hx (y_ at_185) rfl ?_
            refine o_iconst X171 hx (y_ at_187) (x := 1) rfl ?_
            refine o_iC (t := 202) X171 hx (y_ at_188) (fun hq => ?_) (fun hq => ?_)
            · have hc188 := o_c_ne.1 hq
              refine o_iload X171 hx (y_ at_202) rfl ?_
              refine o_iconst X171 hx (y_ at_204) (x := 2) rfl ?_
              refine o_iC (t := 224) X171 hx (y_ at_205) (fun hq => ?_) (fun hq => ?_)
              · have hc205 := o_c_ne.1 hq
                obtain rfl : nl = 3 := ((hnl.resolve_left hc176).resolve_left hc188).resolve_left hc205
                skip
                refine o_iconst X171 hx (y_ at_224) (x := 3) rfl ?_
                refine o_newA (cap := 3) X171 hx hZ (k_ 4 rfl) e171 (y_ at_225) (by decide) (by decide) (by decide) (by decide) (by decide) (fun T173 h173 k173 b173 X173 e173 gg173 E173 A173 => ?_)
                have g_b173 := o_fresh O171 gg173
                have O173 := Old.ext O171 E173
                have C174 := CHr.trans C172 (CHr.ext E173 C172.1)
                have V173 : Arv Z h173 b173 k173 .char (3 : Int32) [(.int 0), (.int 0), (.int 0)] (.int 0) := A173.pad (pad_rep [] (.int 0) 3)
                refine o_dup X173 hx (y_ at_227) rfl ?_
                refine o_iconst X173 hx (y_ at_228) (x := 0) rfl ?_
                refine o_iload X173 hx (y_ at_229) rfl ?_
                refine o_stC (i := 0) (z := na) X173 hx hZ e173 V173 (y_ at_231) ⟨by decide, by decide⟩ rfl (o_b rfl) n_na (fun T175 h175 X175 e175 W175 V175 => ?_)
                have N175 := Fr.snoc X175 N171 g_b173
                have O175 := Old.wr O173 W175 g_b173
                have C176 := CHr.trans C174 (CHr.wr W175 (Safe.arv hZ.alike V173 (by decide)) C174.1)
                refine o_dup X175 hx (y_ at_232) rfl ?_
                refine o_iconst X175 hx (y_ at_233) (x := 1) rfl ?_
                refine o_iload X175 hx (y_ at_234) rfl ?_
                refine o_stC (i := 1) (z := nb) X175 hx hZ e175 V175 (y_ at_236) ⟨by decide, by decide⟩ rfl (o_b rfl) n_nb (fun T177 h177 X177 e177 W177 V177 => ?_)
                have N177 := Fr.snoc X177 N175 g_b173
                have O177 := Old.wr O175 W177 g_b173
                have C178 := CHr.trans C176 (CHr.wr W177 (Safe.arv hZ.alike V175 (by decide)) C176.1)
                refine o_dup X177 hx (y_ at_237) rfl ?_
                refine o_iconst X177 hx (y_ at_238) (x := 2) rfl ?_
                refine o_iload X177 hx (y_ at_239) rfl ?_
                refine o_stC (i := 2) (z := nc) X177 hx hZ e177 V177 (y_ at_241) ⟨by decide, by decide⟩ rfl (o_b rfl) n_nc (fun T179 h179 X179 e179 W179 V179 => ?_)
                have N179 := Fr.snoc X179 N177 g_b173
                have O179 := Old.wr O177 W179 g_b173
                have C180 := CHr.trans C178 (CHr.wr W179 (Safe.arv hZ.alike V177 (by decide)) C178.1)
                refine o_astore X179 hx (y_ at_242) rfl (A' := #[vI p1, vI p2, vI p3, vI p4, vI 1, vI 3, vI B, vI A, vI ca, vI cb, vI na, vI nb, vI nc, vR b5, vR b11, vR b169, vR b173, .unset, .unset, .unset]) rfl ?_
                refine o_new X179 hx hZ hown (k_ 5 rfl) (k_ 6 rfl) (k_ 7 rfl) e179 (y_ at_244) (by decide) (by decide) (fun T181 h181 b181 X181 e181 gg181 E181 A181 D181 => ?_)
                have g_b181 := o_fresh O179 gg181
                have O181 := Old.ext O179 E181
                have C182 := CHr.trans C180 (CHr.ext E181 C180.1)
                have F181_core : Fld Z h181 b181 "org/adviceweft/pointcut/NamePattern" "core" "Ljava/lang/String;" .null := D181 (Or.inr (k_ 96 rfl)) (ty := (.object "java/lang/String")) (by decide)
                have F181_anyBefore : Fld Z h181 b181 "org/adviceweft/pointcut/NamePattern" "anyBefore" "Z" (.int 0) := D181 (Or.inr (k_ 98 rfl)) (ty := .boolean) (by decide)
                have F181_anyAfter : Fld Z h181 b181 "org/adviceweft/pointcut/NamePattern" "anyAfter" "Z" (.int 0) := D181 (Or.inr (k_ 100 rfl)) (ty := .boolean) (by decide)
                refine o_dup X181 hx (y_ at_247) rfl ?_
                refine o_new X181 hx hZ hown (k_ 8 rfl) (k_ 9 rfl) (k_ 10 rfl) e181 (y_ at_248) (by decide) (by decide) (fun T183 h183 b183 X183 e183 gg183 E183 A183 D183 => ?_)
                have g_b183 := o_fresh O181 gg183
                have O183 := Old.ext O181 E183
                have C184 := CHr.trans C182 (CHr.ext E183 C182.1)
                have F183_coder : Fld Z h183 b183 "java/lang/String" "coder" "B" (.int 0) := D183 (Or.inr (k_ 34 rfl)) (ty := .byte) (by decide)
                have F183_value : Fld Z h183 b183 "java/lang/String" "value" "[B" .null := D183 (Or.inr (k_ 36 rfl)) (ty := (.array .byte)) (by decide)
                refine o_dup X183 hx (y_ at_251) rfl ?_
                refine o_aload X183 hx (y_ at_252) rfl rfl ?_
                have c185 := (Arv.ext (Arv.ext (Arv.other (Arv.other (Arv.other (Arv.ext V171 E173) W175 (o_ng V171.lt gg173)) W177 (o_ng V171.lt gg173)) W179 (o_ng V171.lt gg173)) E181) E183)
                refine o_ini (y := o_m5) (b := b183) (argsL := [(.ref b169)]) (S := [(.ref b183), (.ref b181), (.ref b181)]) (W := 3) rfl X183 hx hZ hown (k_ 11 rfl) (k_ 12 rfl) (k_ 13 rfl) (o_newB (W := 3) (cs := ([ca] : List Int32)) (n := 1) hZ hw (k_ 9 rfl) O183 g_b183 A183 F183_value F183_coder c185 SC_ hC_ rfl rfl (by decide) (by decide) (o_csS ⟨l_ca, u_ca⟩ o_cs0) (by decide) (by decide)) e183 hml (lenOf o_pd__28_5bC_29V rfl) (y_ at_254) (fun T186 L186 v186 X186 hQ186 => ?_)
                obtain ⟨rfl, Nq186, Kp186, t186, g_t186, ht186, hne186, Sf186⟩ := hQ186
                have N186 := Fr.app N179 Nq186
                have O187 := Old.keep O183 Kp186 (allS g_b183 all0)
                have C188 := CHr.trans C184 (CHr.keep Kp186 (sfS (o_safeN hZ.alike A183 F183_value) sf0) C184.1)
                show o_G p e below _ T186 (mkF m 257 #[vI p1, vI p2, vI p3, vI p4, vI 1, vI 3, vI B, vI A, vI ca, vI cb, vI na, vI nb, vI nc, vR b5, vR b11, vR b169, vR b173, .unset, .unset, .unset] [(.ref b183), (.ref b181), (.ref b181)])
                refine o_iload X186 hx (y_ at_257) rfl ?_
                refine o_iload X186 hx (y_ at_259) rfl ?_
                have c189 := (Exa.keep (Exa.ext E183 A181) Kp186)
                have c190 := (Fld.keep (Fld.ext E183 F181_core) Kp186 (ninS (o_ng A181.lt gg183) nin0))
                have c191 := (Fld.keep (Fld.ext E183 F181_anyBefore) Kp186 (ninS (o_ng A181.lt gg183) nin0))
                have c192 := (Fld.keep (Fld.ext E183 F181_anyAfter) Kp186 (ninS (o_ng A181.lt gg183) nin0))
                refine o_initH (y := o_m19) (b := b181) (argsL := [(.ref b183), (.int B), (.int A)]) (S := [(.ref b181)]) (W := 1) rfl X186 hx hZ hS0 hown (k_ 37 rfl) (k_ 38 rfl) (k_ 39 rfl) (by decide) (backOfSH (W := 1) (rmct1 l Z a0 hw [] b181 b183 B A t186 ca zC_ T186.heap n0 O187 c189 c190 c191 c192 g_b181 Sf186 (o_nostar1 s_ca) h_B h_A SC_ hC_) hZ (k_ 39 rfl) (k_ 7 rfl) (by decide) (by decide) hEL C188.1) rfl (Nat.le_trans (Nat.le_trans (Nat.le_trans (Nat.le_trans (Nat.le_trans (Nat.le_trans (Nat.le_trans (Nat.le_trans (Nat.le_trans (Nat.le_trans (Nat.le_trans (Nat.le_trans (Nat.le_trans (Nat.le_trans (Nat.le_trans (Nat.le_trans hk0 E5.1) (Keep.of_wr W7).1) (Keep.of_wr W9).1) E11.1) (Keep.of_wr W13).1) (Keep.of_wr W15).1) (Keep.of_wr W17).1) E169.1) (Keep.of_wr W171).1) E173.1) (Keep.of_wr W175).1) (Keep.of_wr W177).1) (Keep.of_wr W179).1) E181.1) E183.1) Kp186.1) (by rw [hml]; rfl) (lenOf o_pd__28Ljava_2flang_2fString_3bZZ_29V rfl) rfl (Nat.le_of_eq rfl) (y_ at_261) (by decide) (by decide) (fun T193 L193 v193 k193 X193 hS193 hk193 hZ193 hown193 hQ193 hC193 => ?_)
                obtain ⟨rfl, N193q, Kp193, Ex193, Fk193, Fb193, Fa193⟩ := hQ193
                have N193 := Fr.app N186 N193q
                have O194 := Old.keep O187 Kp193 (allS g_b181 all0)
                have C195 := CHr.trans C188 (hC193)
                show o_G p e below _ T193 (mkF m 264 #[vI p1, vI p2, vI p3, vI p4, vI 1, vI 3, vI B, vI A, vI ca, vI cb, vI na, vI nb, vI nc, vR b5, vR b11, vR b169, vR b173, .unset, .unset, .unset] [(.ref b181)])
                refine o_astore X193 hx (y_ at_264) rfl (A' := #[vI p1, vI p2, vI p3, vI p4, vI 1, vI 3, vI B, vI A, vI ca, vI cb, vI na, vI nb, vI nc, vR b5, vR b11, vR b169, vR b173, vR b181, .unset, .unset]) rfl ?_
                refine o_aload X193 hx (y_ at_266) rfl rfl ?_
                refine o_new X193 hx hZ193 hown193 (k_ 8 rfl) (k_ 9 rfl) (k_ 10 rfl) rfl (y_ at_268) (by decide) (by decide) (fun T196 h196 b196 X196 e196 gg196 E196 A196 D196 => ?_)
                have g_b196 := o_fresh O194 gg196
                have O196 := Old.ext O194 E196
                have C197 := CHr.trans C195 (CHr.ext E196 C195.1)
                have F196_coder : Fld Z h196 b196 "java/lang/String" "coder" "B" (.int 0) := D196 (Or.inr (k_ 34 rfl)) (ty := .byte) (by decide)
                have F196_value : Fld Z h196 b196 "java/lang/String" "value" "[B" .null := D196 (Or.inr (k_ 36 rfl)) (ty := (.array .byte)) (by decide)
                refine o_dup X196 hx (y_ at_271) rfl ?_
                refine o_aload X196 hx (y_ at_272) rfl rfl ?_
                have c198 := (Arv.ext (Arv.keep (Arv.keep (Arv.ext (Arv.ext V179 E181) E183) Kp186 (ninS (o_ng (Nat.lt_of_lt_of_le V179.lt E181.1) gg183) nin0)) Kp193 (ninS (o_ng V179.lt gg181) nin0)) E196)
                refine o_ini (y := o_m5) (b := b196) (argsL := [(.ref b173)]) (S := [(.ref b196), (.ref b181)]) (W := 2) rfl X196 hx hZ193 hown193 (k_ 11 rfl) (k_ 12 rfl) (k_ 13 rfl) (o_newB (W := 2) (cs := ([na, nb, nc] : List Int32)) (n := 3) hZ193 hw (k_ 9 rfl) O196 g_b196 A196 F196_value F196_coder c198 SC_ hC_ rfl rfl (by decide) (by decide) (o_csS ⟨l_na, u_na⟩ (o_csS ⟨l_nb, u_nb⟩ (o_csS ⟨l_nc, u_nc⟩ o_cs0))) (by decide) (by decide)) e196 hml (lenOf o_pd__28_5bC_29V rfl) (y_ at_274) (fun T199 L199 v199 X199 hQ199 => ?_)
                obtain ⟨rfl, Nq199, Kp199, t199, g_t199, ht199, hne199, Sf199⟩ := hQ199
                have N199 := Fr.app N193 Nq199
                have O200 := Old.keep O196 Kp199 (allS g_b196 all0)
                have C201 := CHr.trans C197 (CHr.keep Kp199 (sfS (o_safeN hZ193.alike A196 F196_value) sf0) C197.1)
                show o_G p e below _ T199 (mkF m 277 #[vI p1, vI p2, vI p3, vI p4, vI 1, vI 3, vI B, vI A, vI ca, vI cb, vI na, vI nb, vI nc, vR b5, vR b11, vR b169, vR b173, vR b181, .unset, .unset] [(.ref b196), (.ref b181)])
                have c202 := (Fld.keep (Fld.ext E196 Fk193) Kp199 (ninS (o_ng Ex193.lt gg196) nin0))
                have c203 := (Fld.keep (Fld.ext E196 Fb193) Kp199 (ninS (o_ng Ex193.lt gg196) nin0))
                have c204 := (Fld.keep (Fld.ext E196 Fa193) Kp199 (ninS (o_ng Ex193.lt gg196) nin0))
                have c205 := (o_Str.keep (o_Str.ext E196 (o_Str.keep Sf186 Kp193 (ninS (Ne.symm (o_ng A181.lt gg183)) nin0) (ninS (Ne.symm (Nat.ne_of_lt (Nat.lt_of_lt_of_le (Nat.lt_of_lt_of_le A181.lt E183.1) ht186))) nin0))) Kp199 (ninS (o_ng (Nat.lt_of_lt_of_le Sf186.lt Kp193.1) gg196) nin0) (ninS (o_ng (Nat.lt_of_lt_of_le Sf186.lt2 Kp193.1) gg196) nin0))
                have c207 := (Exa.keep (Exa.ext E196 Ex193) Kp199)
                refine o_vir (y := o_m21) (b := b181) (argsL := [(.ref b196)]) (S := []) (W := 0) X199 hx hZ193 hown193 (k_ 102 rfl) (k_ 103 rfl) (k_ 105 rfl) (k_ 104 rfl) (backOf (W := 0) (rmmt3_1 l Z a0 hw [] b181 b196 b183 t186 t199 na nb nc ca B A zC_ T199.heap n0 O200 c202 c203 c204 c205 Sf199 SC_ hC_) hZ193 (k_ 106 rfl) (k_ 7 rfl) (by decide) (by decide)) rfl c207 hml (lenOf o_pd__28Ljava_2flang_2fString_3b_29Z rfl) (y_ at_277) (fun T206 L206 v206 X206 hQ206 => ?_)
                obtain ⟨rfl, N206q, hh206⟩ := hQ206
                have N206 := Fr.app N199 N206q
                show o_G p e below _ T206 (mkF m 280 #[vI p1, vI p2, vI p3, vI p4, vI 1, vI 3, vI B, vI A, vI ca, vI cb, vI na, vI nb, vI nc, vR b5, vR b11, vR b169, vR b173, vR b181, .unset, .unset] [(.int ((if ¬ B = 0 ∧ ¬ A = 0 then (if o_occ ([na, nb, nc] : List Int32) ([ca] : List Int32) = true then 1 else 0) else if ¬ B = 0 then (if o_pref ([nc] : List Int32) ([ca] : List Int32) = true then 1 else 0) else if ¬ A = 0 then (if o_pref ([na, nb, nc] : List Int32) ([ca] : List Int32) = true then 1 else 0) else (if ([na, nb, nc] : List Int32) = ([ca] : List Int32) then 1 else 0)) : Int32))])
                have c208 := (Arv.keep (Arv.ext (Arv.keep (Arv.keep (Arv.ext (Arv.ext (Arv.other (Arv.other (Arv.other (Arv.ext (Arv.other (Arv.ext V17 E169) W171 (o_ng V17.lt gg169)) E173) W175 (o_ng (Nat.lt_of_lt_of_le V17.lt (Nat.le_trans E169.1 (Keep.of_wr W171).1)) gg173)) W177 (o_ng (Nat.lt_of_lt_of_le V17.lt (Nat.le_trans E169.1 (Keep.of_wr W171).1)) gg173)) W179 (o_ng (Nat.lt_of_lt_of_le V17.lt (Nat.le_trans E169.1 (Keep.of_wr W171).1)) gg173)) E181) E183) Kp186 (ninS (o_ng (Nat.lt_of_lt_of_le V17.lt (Nat.le_trans (Nat.le_trans (Nat.le_trans (Nat.le_trans (Nat.le_trans (Nat.le_trans E169.1 (Keep.of_wr W171).1) E173.1) (Keep.of_wr W175).1) (Keep.of_wr W177).1) (Keep.of_wr W179).1) E181.1)) gg183) nin0)) Kp193 (ninS (o_ng (Nat.lt_of_lt_of_le V17.lt (Nat.le_trans (Nat.le_trans (Nat.le_trans (Nat.le_trans (Nat.le_trans E169.1 (Keep.of_wr W171).1) E173.1) (Keep.of_wr W175).1) (Keep.of_wr W177).1) (Keep.of_wr W179).1)) gg181) nin0)) E196) Kp199 (ninS (o_ng (Nat.lt_of_lt_of_le V17.lt (Nat.le_trans (Nat.le_trans (Nat.le_trans (Nat.le_trans (Nat.le_trans (Nat.le_trans (Nat.le_trans (Nat.le_trans (Nat.le_trans E169.1 (Keep.of_wr W171).1) E173.1) (Keep.of_wr W175).1) (Keep.of_wr W177).1) (Keep.of_wr W179).1) E181.1) E183.1) Kp186.1) Kp193.1)) gg196) nin0))
                have c209 := (Arv.keep (Arv.ext (Arv.keep (Arv.keep (Arv.ext (Arv.ext (Arv.other (Arv.other (Arv.other (Arv.ext (Arv.other (Arv.ext (Arv.other (Arv.other (Arv.other (Arv.ext V9 E11) W13 (o_ng V9.lt gg11)) W15 (o_ng V9.lt gg11)) W17 (o_ng V9.lt gg11)) E169) W171 (o_ng (Nat.lt_of_lt_of_le V9.lt (Nat.le_trans (Nat.le_trans (Nat.le_trans E11.1 (Keep.of_wr W13).1) (Keep.of_wr W15).1) (Keep.of_wr W17).1)) gg169)) E173) W175 (o_ng (Nat.lt_of_lt_of_le V9.lt (Nat.le_trans (Nat.le_trans (Nat.le_trans (Nat.le_trans (Nat.le_trans E11.1 (Keep.of_wr W13).1) (Keep.of_wr W15).1) (Keep.of_wr W17).1) E169.1) (Keep.of_wr W171).1)) gg173)) W177 (o_ng (Nat.lt_of_lt_of_le V9.lt (Nat.le_trans (Nat.le_trans (Nat.le_trans (Nat.le_trans (Nat.le_trans E11.1 (Keep.of_wr W13).1) (Keep.of_wr W15).1) (Keep.of_wr W17).1) E169.1) (Keep.of_wr W171).1)) gg173)) W179 (o_ng (Nat.lt_of_lt_of_le V9.lt (Nat.le_trans (Nat.le_trans (Nat.le_trans (Nat.le_trans (Nat.le_trans E11.1 (Keep.of_wr W13).1) (Keep.of_wr W15).1) (Keep.of_wr W17).1) E169.1) (Keep.of_wr W171).1)) gg173)) E181) E183) Kp186 (ninS (o_ng (Nat.lt_of_lt_of_le V9.lt (Nat.le_trans (Nat.le_trans (Nat.le_trans (Nat.le_trans (Nat.le_trans (Nat.le_trans (Nat.le_trans (Nat.le_trans (Nat.le_trans (Nat.le_trans E11.1 (Keep.of_wr W13).1) (Keep.of_wr W15).1) (Keep.of_wr W17).1) E169.1) (Keep.of_wr W171).1) E173.1) (Keep.of_wr W175).1) (Keep.of_wr W177).1) (Keep.of_wr W179).1) E181.1)) gg183) nin0)) Kp193 (ninS (o_ng (Nat.lt_of_lt_of_le V9.lt (Nat.le_trans (Nat.le_trans (Nat.le_trans (Nat.le_trans (Nat.le_trans (Nat.le_trans (Nat.le_trans (Nat.le_trans (Nat.le_trans E11.1 (Keep.of_wr W13).1) (Keep.of_wr W15).1) (Keep.of_wr W17).1) E169.1) (Keep.of_wr W171).1) E173.1) (Keep.of_wr W175).1) (Keep.of_wr W177).1) (Keep.of_wr W179).1)) gg181) nin0)) E196) Kp199 (ninS (o_ng (Nat.lt_of_lt_of_le V9.lt (Nat.le_trans (Nat.le_trans (Nat.le_trans (Nat.le_trans (Nat.le_trans (Nat.le_trans (Nat.le_trans (Nat.le_trans (Nat.le_trans (Nat.le_trans (Nat.le_trans (Nat.le_trans (Nat.le_trans E11.1 (Keep.of_wr W13).1) (Keep.of_wr W15).1) (Keep.of_wr W17).1) E169.1) (Keep.of_wr W171).1) E173.1) (Keep.of_wr W175).1) (Keep.of_wr W177).1) (Keep.of_wr W179).1) E181.1) E183.1) Kp186.1) Kp193.1)) gg196) nin0))
                exact J280 _ _ _ _ (o_up X206 (by decide) (by decide)) hS193 (by rw [hh206]; exact (Nat.le_trans (Nat.le_trans hk193 E196.1) Kp199.1)) hZ193 hown193 N206 (by rw [hh206]; exact O200) (((if ¬ B = 0 ∧ ¬ A = 0 then (if o_occ ([na, nb, nc] : List Int32) ([ca] : List Int32) = true then 1 else 0) else if ¬ B = 0 then (if o_pref ([nc] : List Int32) ([ca] : List Int32) = true then 1 else 0) else if ¬ A = 0 then (if o_pref ([na, nb, nc] : List Int32) ([ca] : List Int32) = true then 1 else 0) else (if ([na, nb, nc] : List Int32) = ([ca] : List Int32) then 1 else 0)) : Int32), .ref b169, .ref b173, .ref b181) ⟨o_gt1_3 (B := B) (A := A), by rw [hh206]; exact c208, by rw [hh206]; exact c209⟩
              have hc205 := o_c_ne.2 hq
              obtain rfl : nl = 2 := hc205
              skip
              refine o_iconst X171 hx (y_ at_208) (x := 2) rfl ?_
              refine o_newA (cap := 2) X171 hx hZ (k_ 4 rfl) e171 (y_ at_209) (by decide) (by decide) (by decide) (by decide) (by decide) (fun T210 h210 k210 b210 X210 e210 gg210 E210 A210 => ?_)
              have g_b210 := o_fresh O171 gg210
              have O210 := Old.ext O171 E210
              have C211 := CHr.trans C172 (CHr.ext E210 C172.1)
              have V210 : Arv Z h210 b210 k210 .char (2 : Int32) [(.int 0), (.int 0)] (.int 0) := A210.pad (pad_rep [] (.int 0) 2)
              refine o_dup X210 hx (y_ at_211) rfl ?_
              refine o_iconst X210 hx (y_ at_212) (x := 0) rfl ?_
              refine o_iload X210 hx (y_ at_213) rfl ?_
              refine o_stC (i := 0) (z := na) X210 hx hZ e210 V210 (y_ at_215) ⟨by decide, by decide⟩ rfl (o_b rfl) n_na (fun T212 h212 X212 e212 W212 V212 => ?_)
              have N212 := Fr.snoc X212 N171 g_b210
              have O212 := Old.wr O210 W212 g_b210
              have C213 := CHr.trans C211 (CHr.wr W212 (Safe.arv hZ.alike V210 (by decide)) C211.1)
              refine o_dup X212 hx (y_ at_216) rfl ?_
              refine o_iconst X212 hx (y_ at_217) (x := 1) rfl ?_
              refine o_iload X212 hx (y_ at_218) rfl ?_
              refine o_stC (i := 1) (z := nb) X212 hx hZ e212 V212 (y_ at_220) ⟨by decide, by decide⟩ rfl (o_b rfl) n_nb (fun T214 h214 X214 e214 W214 V214 => ?_)
              have N214 := Fr.snoc X214 N212 g_b210
              have O214 := Old.wr O212 W214 g_b210
              have C215 := CHr.trans C213 (CHr.wr W214 (Safe.arv hZ.alike V212 (by decide)) C213.1)
              refine o_gO (t := 242) X214 hx (y_ at_221) ?_
              refine o_astore X214 hx (y_ at_242) rfl (A' := #[vI p1, vI p2, vI p3, vI p4, vI 1, vI 2, vI B, vI A, vI ca, vI cb, vI na, vI nb, vI nc, vR b5, vR b11, vR b169, vR b210, .unset, .unset, .unset]) rfl ?_
              refine o_new X214 hx hZ hown (k_ 5 rfl) (k_ 6 rfl) (k_ 7 rfl) e214 (y_ at_244) (by decide) (by decide) (fun T216 h216 b216 X216 e216 gg216 E216 A216 D216 => ?_)
              have g_b216 := o_fresh O214 gg216
              have O216 := Old.ext O214 E216
              have C217 := CHr.trans C215 (CHr.ext E216 C215.1)
              have F216_core : Fld Z h216 b216 "org/adviceweft/pointcut/NamePattern" "core" "Ljava/lang/String;" .null := D216 (Or.inr (k_ 96 rfl)) (ty := (.object "java/lang/String")) (by decide)
              have F216_anyBefore : Fld Z h216 b216 "org/adviceweft/pointcut/NamePattern" "anyBefore" "Z" (.int 0) := D216 (Or.inr (k_ 98 rfl)) (ty := .boolean) (by decide)
              have F216_anyAfter : Fld Z h216 b216 "org/adviceweft/pointcut/NamePattern" "anyAfter" "Z" (.int 0) := D216 (Or.inr (k_ 100 rfl)) (ty := .boolean) (by decide)
              refine o_dup X216 hx (y_ at_247) rfl ?_
              refine o_new X216 hx hZ hown (k_ 8 rfl) (k_ 9 rfl) (k_ 10 rfl) e216 (y_ at_248) (by decide) (by decide) (fun T218 h218 b218 X218 e218 gg218 E218 A218 D218 => ?_)
              have g_b218 := o_fresh O216 gg218
              have O218 := Old.ext O216 E218
              have C219 := CHr.trans C217 (CHr.ext E218 C217.1)
              have F218_coder : Fld Z h218 b218 "java/lang/String" "coder" "B" (.int 0) := D218 (Or.inr (k_ 34 rfl)) (ty := .byte) (by decide)
              have F218_value : Fld Z h218 b218 "java/lang/String" "value" "[B" .null := D218 (Or.inr (k_ 36 rfl)) (ty := (.array .byte)) (by decide)
              refine o_dup X218 hx (y_ at_251) rfl ?_
              refine o_aload X218 hx (y_ at_252) rfl rfl ?_
              have c220 := (Arv.ext (Arv.ext (Arv.other (Arv.other (Arv.ext V171 E210) W212 (o_ng V171.lt gg210)) W214 (o_ng V171.lt gg210)) E216) E218)
              refine o_ini (y := o_m5) (b := b218) (argsL := [(.ref b169)]) (S := [(.ref b218), (.ref b216), (.ref b216)]) (W := 3) rfl X218 hx hZ hown (k_ 11 rfl) (k_ 12 rfl) (k_ 13 rfl) (o_newB (W := 3) (cs := ([ca] : List Int32)) (n := 1) hZ hw (k_ 9 rfl) O218 g_b218 A218 F218_value F218_coder c220 SC_ hC_ rfl rfl (by decide) (by decide) (o_csS ⟨l_ca, u_ca⟩ o_cs0) (by decide) (by decide)) e218 hml (lenOf o_pd__28_5bC_29V rfl) (y_ at_254) (fun T221 L221 v221 X221 hQ221 => ?_)
              obtain ⟨rfl, Nq221, Kp221, t221, g_t221, ht221, hne221, Sf221⟩ := hQ221
              have N221 := Fr.app N214 Nq221
              have O222 := Old.keep O218 Kp221 (allS g_b218 all0)
              have C223 := CHr.trans C219 (CHr.keep Kp221 (sfS (o_safeN hZ.alike A218 F218_value) sf0) C219.1)
              show o_G p e below _ T221 (mkF m 257 #[vI p1, vI p2, vI p3, vI p4, vI 1, vI 2, vI B, vI A, vI ca, vI cb, vI na, vI nb, vI nc, vR b5, vR b11, vR b169, vR b210, .unset, .unset, .unset] [(.ref b218), (.ref b216), (.ref b216)])
              refine o_iload X221 hx (y_ at_257) rfl ?_
              refine o_iload X221 hx (y_ at_259) rfl ?_
              have c224 := (Exa.keep (Exa.ext E218 A216) Kp221)
              have c225 := (Fld.keep (Fld.ext E218 F216_core) Kp221 (ninS (o_ng A216.lt gg218) nin0))
              have c226 := (Fld.keep (Fld.ext E218 F216_anyBefore) Kp221 (ninS (o_ng A216.lt gg218) nin0))
              have c227 := (Fld.keep (Fld.ext E218 F216_anyAfter) Kp221 (ninS (o_ng A216.lt gg218) nin0))
              refine o_initH (y := o_m19) (b := b216) (argsL := [(.ref b218), (.int B), (.int A)]) (S := [(.ref b216)]) (W := 1) rfl X221 hx hZ hS0 hown (k_ 37 rfl) (k_ 38 rfl) (k_ 39 rfl) (by decide) (backOfSH (W := 1) (rmct1 l Z a0 hw [] b216 b218 B A t221 ca zC_ T221.heap n0 O222 c224 c225 c226 c227 g_b216 Sf221 (o_nostar1 s_ca) h_B h_A SC_ hC_) hZ (k_ 39 rfl) (k_ 7 rfl) (by decide) (by decide) hEL C223.1) rfl (Nat.le_trans (Nat.le_trans (Nat.le_trans (Nat.le_trans (Nat.le_trans (Nat.le_trans (Nat.le_trans (Nat.le_trans (Nat.le_trans (Nat.le_trans (Nat.le_trans (Nat.le_trans (Nat.le_trans (Nat.le_trans (Nat.le_trans hk0 E5.1) (Keep.of_wr W7).1) (Keep.of_wr W9).1) E11.1) (Keep.of_wr W13).1) (Keep.of_wr W15).1) (Keep.of_wr W17).1) E169.1) (Keep.of_wr W171).1) E210.1) (Keep.of_wr W212).1) (Keep.of_wr W214).1) E216.1) E218.1) Kp221.1) (by rw [hml]; rfl) (lenOf o_pd__28Ljava_2flang_2fString_3bZZ_29V rfl) rfl (Nat.le_of_eq rfl) (y_ at_261) (by decide) (by decide) (fun T228 L228 v228 k228 X228 hS228 hk228 hZ228 hown228 hQ228 hC228 => ?_)
              obtain ⟨rfl, N228q, Kp228, Ex228, Fk228, Fb228, Fa228⟩ := hQ228
              have N228 := Fr.app N221 N228q
              have O229 := Old.keep O222 Kp228 (allS g_b216 all0)
              have C230 := CHr.trans C223 (hC228)
              show o_G p e below _ T228 (mkF m 264 #[vI p1, vI p2, vI p3, vI p4, vI 1, vI 2, vI B, vI A, vI ca, vI cb, vI na, vI nb, vI nc, vR b5, vR b11, vR b169, vR b210, .unset, .unset, .unset] [(.ref b216)])
              refine o_astore X228 hx (y_ at_264) rfl (A' := #[vI p1, vI p2, vI p3, vI p4, vI 1, vI 2, vI B, vI A, vI ca, vI cb, vI na, vI nb, vI nc, vR b5, vR b11, vR b169, vR b210, vR b216, .unset, .unset]) rfl ?_
              refine o_aload X228 hx (y_ at_266) rfl rfl ?_
              refine o_new X228 hx hZ228 hown228 (k_ 8 rfl) (k_ 9 rfl) (k_ 10 rfl) rfl (y_ at_268) (by decide) (by decide) (fun T231 h231 b231 X231 e231 gg231 E231 A231 D231 => ?_)
              have g_b231 := o_fresh O229 gg231
              have O231 := Old.ext O229 E231
              have C232 := CHr.trans C230 (CHr.ext E231 C230.1)
              have F231_coder : Fld Z h231 b231 "java/lang/String" "coder" "B" (.int 0) := D231 (Or.inr (k_ 34 rfl)) (ty := .byte) (by decide)
              have F231_value : Fld Z h231 b231 "java/lang/String" "value" "[B" .null := D231 (Or.inr (k_ 36 rfl)) (ty := (.array .byte)) (by decide)
              refine o_dup X231 hx (y_ at_271) rfl ?_
              refine o_aload X231 hx (y_ at_272) rfl rfl ?_
              have c233 := (Arv.ext (Arv.keep (Arv.keep (Arv.ext (Arv.ext V214 E216) E218) Kp221 (ninS (o_ng (Nat.lt_of_lt_of_le V214.lt E216.1) gg218) nin0)) Kp228 (ninS (o_ng V214.lt gg216) nin0)) E231)
              refine o_ini (y := o_m5) (b := b231) (argsL := [(.ref b210)]) (S := [(.ref b231), (.ref b216)]) (W := 2) rfl X231 hx hZ228 hown228 (k_ 11 rfl) (k_ 12 rfl) (k_ 13 rfl) (o_newB (W := 2) (cs := ([na, nb] : List Int32)) (n := 2) hZ228 hw (k_ 9 rfl) O231 g_b231 A231 F231_value F231_coder c233 SC_ hC_ rfl rfl (by decide) (by decide) (o_csS ⟨l_na, u_na⟩ (o_csS ⟨l_nb, u_nb⟩ o_cs0)) (by decide) (by decide)) e231 hml (lenOf o_pd__28_5bC_29V rfl) (y_ at_274) (fun T234 L234 v234 X234 hQ234 => ?_)
              obtain ⟨rfl, Nq234, Kp234, t234, g_t234, ht234, hne234, Sf234⟩ := hQ234
              have N234 := Fr.app N228 Nq234
              have O235 := Old.keep O231 Kp234 (allS g_b231 all0)
              have C236 := CHr.trans C232 (CHr.keep Kp234 (sfS (o_safeN hZ228.alike A231 F231_value) sf0) C232.1)
              show o_G p e below _ T234 (mkF m 277 #[vI p1, vI p2, vI p3, vI p4, vI 1, vI 2, vI B, vI A, vI ca, vI cb, vI na, vI nb, vI nc, vR b5, vR b11, vR b169, vR b210, vR b216, .unset, .unset] [(.ref b231), (.ref b216)])
              have c237 := (Fld.keep (Fld.ext E231 Fk228) Kp234 (ninS (o_ng Ex228.lt gg231) nin0))
              have c238 := (Fld.keep (Fld.ext E231 Fb228) Kp234 (ninS (o_ng Ex228.lt gg231) nin0))
              have c239 := (Fld.keep (Fld.ext E231 Fa228) Kp234 (ninS (o_ng Ex228.lt gg231) nin0))
              have c240 := (o_Str.keep (o_Str.ext E231 (o_Str.keep Sf221 Kp228 (ninS (Ne.symm (o_ng A216.lt gg218)) nin0) (ninS (Ne.symm (Nat.ne_of_lt (Nat.lt_of_lt_of_le (Nat.lt_of_lt_of_le A216.lt E218.1) ht221))) nin0))) Kp234 (ninS (o_ng (Nat.lt_of_lt_of_le Sf221.lt Kp228.1) gg231) nin0) (ninS (o_ng (Nat.lt_of_lt_of_le Sf221.lt2 Kp228.1) gg231) nin0))
              have c242 := (Exa.keep (Exa.ext E231 Ex228) Kp234)
              refine o_vir (y := o_m21) (b := b216) (argsL := [(.ref b231)]) (S := []) (W := 0) X234 hx hZ228 hown228 (k_ 102 rfl) (k_ 103 rfl) (k_ 105 rfl) (k_ 104 rfl) (backOf (W := 0) (rmmt2_1 l Z a0 hw [] b216 b231 b218 t221 t234 na nb ca B A zC_ T234.heap n0 O235 c237 c238 c239 c240 Sf234 SC_ hC_) hZ228 (k_ 106 rfl) (k_ 7 rfl) (by decide) (by decide)) rfl c242 hml (lenOf o_pd__28Ljava_2flang_2fString_3b_29Z rfl) (y_ at_277) (fun T241 L241 v241 X241 hQ241 => ?_)
              obtain ⟨rfl, N241q, hh241⟩ := hQ241
              have N241 := Fr.app N234 N241q
              show o_G p e below _ T241 (mkF m 280 #[vI p1, vI p2, vI p3, vI p4, vI 1, vI 2, vI B, vI A, vI ca, vI cb, vI na, vI nb, vI nc, vR b5, vR b11, vR b169, vR b210, vR b216, .unset, .unset] [(.int ((if ¬ B = 0 ∧ ¬ A = 0 then (if o_occ ([na, nb] : List Int32) ([ca] : List Int32) = true then 1 else 0) else if ¬ B = 0 then (if o_pref ([nb] : List Int32) ([ca] : List Int32) = true then 1 else 0) else if ¬ A = 0 then (if o_pref ([na, nb] : List Int32) ([ca] : List Int32) = true then 1 else 0) else (if ([na, nb] : List Int32) = ([ca] : List Int32) then 1 else 0)) : Int32))])
              have c243 := (Arv.keep (Arv.ext (Arv.keep (Arv.keep (Arv.ext (Arv.ext (Arv.other (Arv.other (Arv.ext (Arv.other (Arv.ext V17 E169) W171 (o_ng V17.lt gg169)) E210) W212 (o_ng (Nat.lt_of_lt_of_le V17.lt (Nat.le_trans E169.1 (Keep.of_wr W171).1)) gg210)) W214 (o_ng (Nat.lt_of_lt_of_le V17.lt (Nat.le_trans E169.1 (Keep.of_wr W171).1)) gg210)) E216) E218) Kp221 (ninS (o_ng (Nat.lt_of_lt_of_le V17.lt (Nat.le_trans (Nat.le_trans (Nat.le_trans (Nat.le_trans (Nat.le_trans E169.1 (Keep.of_wr W171).1) E210.1) (Keep.of_wr W212).1) (Keep.of_wr W214).1) E216.1)) gg218) nin0)) Kp228 (ninS (o_ng (Nat.lt_of_lt_of_le V17.lt (Nat.le_trans (Nat.le_trans (Nat.le_trans (Nat.le_trans E169.1 (Keep.of_wr W171).1) E210.1) (Keep.of_wr W212).1) (Keep.of_wr W214).1)) gg216) nin0)) E231) Kp234 (ninS (o_ng (Nat.lt_of_lt_of_le V17.lt (Nat.le_trans (Nat.le_trans (Nat.le_trans (Nat.le_trans (Nat.le_trans (Nat.le_trans (Nat.le_trans (Nat.le_trans E169.1 (Keep.of_wr W171).1) E210.1) (Keep.of_wr W212).1) (Keep.of_wr W214).1) E216.1) E218.1) Kp221.1) Kp228.1)) gg231) nin0))
              have c244 := (Arv.keep (Arv.ext (Arv.keep (Arv.keep (Arv.ext (Arv.ext (Arv.other (Arv.other (Arv.ext (Arv.other (Arv.ext (Arv.other (Arv.other (Arv.other (Arv.ext V9 E11) W13 (o_ng V9.lt gg11)) W15 (o_ng V9.lt gg11)) W17 (o_ng V9.lt gg11)) E169) W171 (o_ng (Nat.lt_of_lt_of_le V9.lt (Nat.le_trans (Nat.le_trans (Nat.le_trans E11.1 (Keep.of_wr W13).1) (Keep.of_wr W15).1) (Keep.of_wr W17).1)) gg169)) E210) W212 (o_ng (Nat.lt_of_lt_of_le V9.lt (Nat.le_trans (Nat.le_trans (Nat.le_trans (Nat.le_trans (Nat.le_trans E11.1 (Keep.of_wr W13).1) (Keep.of_wr W15).1) (Keep.of_wr W17).1) E169.1) (Keep.of_wr W171).1)) gg210)) W214 (o_ng (Nat.lt_of_lt_of_le V9.lt (Nat.le_trans (Nat.le_trans (Nat.le_trans (Nat.le_trans (Nat.le_trans E11.1 (Keep.of_wr W13).1) (Keep.of_wr W15).1) (Keep.of_wr W17).1) E169.1) (Keep.of_wr W171).1)) gg210)) E216) E218) Kp221 (ninS (o_ng (Nat.lt_of_lt_of_le V9.lt (Nat.le_trans (Nat.le_trans (Nat.le_trans (Nat.le_trans (Nat.le_trans (Nat.le_trans (Nat.le_trans (Nat.le_trans (Nat.le_trans E11.1 (Keep.of_wr W13).1) (Keep.of_wr W15).1) (Keep.of_wr W17).1) E169.1) (Keep.of_wr W171).1) E210.1) (Keep.of_wr W212).1) (Keep.of_wr W214).1) E216.1)) gg218) nin0)) Kp228 (ninS (o_ng (Nat.lt_of_lt_of_le V9.lt (Nat.le_trans (Nat.le_trans (Nat.le_trans (Nat.le_trans (Nat.le_trans (Nat.le_trans (Nat.le_trans (Nat.le_trans E11.1 (Keep.of_wr W13).1) (Keep.of_wr W15).1) (Keep.of_wr W17).1) E169.1) (Keep.of_wr W171).1) E210.1) (Keep.of_wr W212).1) (Keep.of_wr W214).1)) gg216) nin0)) E231) Kp234 (ninS (o_ng (Nat.lt_of_lt_of_le V9.lt (Nat.le_trans (Nat.le_trans (Nat.le_trans (Nat.le_trans (Nat.le_trans (Nat.le_trans (Nat.le_trans (Nat.le_trans (Nat.le_trans (Nat.le_trans (Nat.le_trans (Nat.le_trans E11.1 (Keep.of_wr W13).1) (Keep.of_wr W15).1) (Keep.of_wr W17).1) E169.1) (Keep.of_wr W171).1) E210.1) (Keep.of_wr W212).1) (Keep.of_wr W214).1) E216.1) E218.1) Kp221.1) Kp228.1)) gg231) nin0))
              exact J280 _ _ _ _ (o_up X241 (by decide) (by decide)) hS228 (by rw [hh241]; exact (Nat.le_trans (Nat.le_trans hk228 E231.1) Kp234.1)) hZ228 hown228 N241 (by rw [hh241]; exact O235) (((if ¬ B = 0 ∧ ¬ A = 0 then (if o_occ ([na, nb] : List Int32) ([ca] : List Int32) = true then 1 else 0) else if ¬ B = 0 then (if o_pref ([nb] : List Int32) ([ca] : List Int32) = true then 1 else 0) else if ¬ A = 0 then (if o_pref ([na, nb] : List Int32) ([ca] : List Int32) = true then 1 else 0) else (if ([na, nb] : List Int32) = ([ca] : List Int32) then 1 else 0)) : Int32), .ref b169, .ref b210, .ref b216) ⟨o_gt1_2 (B := B) (A := A), by rw [hh241]; exact c243, by rw [hh241]; exact c244⟩
            have hc188 := o_c_ne.2 hq
            obtain rfl : nl = 1 := hc188
            skip
            refine o_iconst X171 hx (y_ at_191) (x := 1) rfl ?_
            refine o_newA (cap := 1) X171 hx hZ (k_ 4 rfl) e171 (y_ at_192) (by decide) (by decide) (by decide) (by decide) (by decide) (fun T245 h245 k245 b245 X245 e245 gg245 E245 A245 => ?_)
            have g_b245 := o_fresh O171 gg245
            have O245 := Old.ext O171 E245
            have C246 := CHr.trans C172 (CHr.ext E245 C172.1)
            have V245 : Arv Z h245 b245 k245 .char (1 : Int32) [(.int 0)] (.int 0) := A245.pad (pad_rep [] (.int 0) 1)
            refine o_dup X245 hx (y_ at_194) rfl ?_
            refine o_iconst X245 hx (y_ at_195) (x := 0) rfl ?_
            refine o_iload X245 hx (y_ at_196) rfl ?_
            refine o_stC (i := 0) (z := na) X245 hx hZ e245 V245 (y_ at_198) ⟨by decide, by decide⟩ rfl (o_b rfl) n_na (fun T247 h247 X247 e247 W247 V247 => ?_)
            have N247 := Fr.snoc X247 N171 g_b245
            have O247 := Old.wr O245 W247 g_b245
            have C248 := CHr.trans C246 (CHr.wr W247 (Safe.arv hZ.alike V245 (by decide)) C246.1)
            refine o_gO (t := 242) X247 hx (y_ at_199) ?_
            refine o_astore X247 hx (y_ at_242) rfl (A' := #[vI p1, vI p2, vI p3, vI p4, vI 1, vI 1, vI B, vI A, vI ca, vI cb, vI na, vI nb, vI nc, vR b5, vR b11, vR b169, vR b245, .unset, .unset, .unset]) rfl ?_
            refine o_new X247 hx hZ hown (k_ 5 rfl) (k_ 6 rfl) (k_ 7 rfl) e247 (y_ at_244) (by decide) (by decide) (fun T249 h249 b249 X249 e249 gg249 E249 A249 D249 => ?_)
            have g_b249 := o_fresh O247 gg249
            have O249 := Old.ext O247 E249
            have C250 := CHr.trans C248 (CHr.ext E249 C248.1)
            have F249_core : Fld Z h249 b249 "org/adviceweft/pointcut/NamePattern" "core" "Ljava/lang/String;" .null := D249 (Or.inr (k_ 96 rfl)) (ty := (.object "java/lang/String")) (by decide)
            have F249_anyBefore : Fld Z h249 b249 "org/adviceweft/pointcut/NamePattern" "anyBefore" "Z" (.int 0) := D249 (Or.inr (k_ 98 rfl)) (ty := .boolean) (by decide)
            have F249_anyAfter : Fld Z h249 b249 "org/adviceweft/pointcut/NamePattern" "anyAfter" "Z" (.int 0) := D249 (Or.inr (k_ 100 rfl)) (ty := .boolean) (by decide)
            refine o_dup X249 hx (y_ at_247) rfl ?_
            refine o_new X249 hx hZ hown (k_ 8 rfl) (k_ 9 rfl) (k_ 10 rfl) e249 (y_ at_248) (by decide) (by decide) (fun T251 h251 b251 X251 e251 gg251 E251 A251 D251 => ?_)
            have g_b251 := o_fresh O249 gg251
            have O251 := Old.ext O249 E251
            have C252 := CHr.trans C250 (CHr.ext E251 C250.1)
            have F251_coder : Fld Z h251 b251 "java/lang/String" "coder" "B" (.int 0) := D251 (Or.inr (k_ 34 rfl)) (ty := .byte) (by decide)
            have F251_value : Fld Z h251 b251 "java/lang/String" "value" "[B" .null := D251 (Or.inr (k_ 36 rfl)) (ty := (.array .byte)) (by decide)
            refine o_dup X251 hx (y_ at_251) rfl ?_
            refine o_aload X251 hx (y_ at_252) rfl rfl ?_
            have c253 := (Arv.ext (Arv.ext (Arv.other (Arv.ext V171 E245) W247 (o_ng V171.lt gg245)) E249) E251)
            refine o_ini (y := o_m5) (b := b251) (argsL := [(.ref b169)]) (S := [(.ref b251), (.ref b249), (.ref b249)]) (W := 3) rfl X251 hx hZ hown (k_ 11 rfl) (k_ 12 rfl) (k_ 13 rfl) (o_newB (W := 3) (cs := ([ca] : List Int32)) (n := 1) hZ hw (k_ 9 rfl) O251 g_b251 A251 F251_value F251_coder c253 SC_ hC_ rfl rfl (by decide) (by decide) (o_csS ⟨l_ca, u_ca⟩ o_cs0) (by decide) (by decide)) e251 hml (lenOf o_pd__28_5bC_29V rfl) (y_ at_254) (fun T254 L254 v254 X254 hQ254 => ?_)
            obtain ⟨rfl, Nq254, Kp254, t254, g_t254, ht254, hne254, Sf254⟩ := hQ254
            have N254 := Fr.app N247 Nq254
            have O255 := Old.keep O251 Kp254 (allS g_b251 all0)
            have C256 := CHr.trans C252 (CHr.keep Kp254 (sfS (o_safeN hZ.alike A251 F251_value) sf0) C252.1)
            show o_G p e below _ T254 (mkF m 257 #[vI p1, vI p2, vI p3, vI p4, vI 1, vI 1, vI B, vI A, vI ca, vI cb, vI na, vI nb, vI nc, vR b5, vR b11, vR b169, vR b245, .unset, .unset, .unset] [(.ref b251), (.ref b249), (.ref b249)])
            refine o_iload X254 hx (y_ at_257) rfl ?_
            refine o_iload X254 hx (y_ at_259) rfl ?_
            have c257 := (Exa.keep (Exa.ext E251 A249) Kp254)
            have c258 := (Fld.keep (Fld.ext E251 F249_core) Kp254 (ninS (o_ng A249.lt gg251) nin0))
            have c259 := (Fld.keep (Fld.ext E251 F249_anyBefore) Kp254 (ninS (o_ng A249.lt gg251) nin0))
            have c260 := (Fld.keep (Fld.ext E251 F249_anyAfter) Kp254 (ninS (o_ng A249.lt gg251) nin0))
            refine o_initH (y := o_m19) (b := b249) (argsL := [(.ref b251), (.int B), (.int A)]) (S := [(.ref b249)]) (W := 1) rfl X254 hx hZ hS0 hown (k_ 37 rfl) (k_ 38 rfl) (k_ 39 rfl) (by decide) (backOfSH (W := 1) (rmct1 l Z a0 hw [] b249 b251 B A t254 ca zC_ T254.heap n0 O255 c257 c258 c259 c260 g_b249 Sf254 (o_nostar1 s_ca) h_B h_A SC_ hC_) hZ (k_ 39 rfl) (k_ 7 rfl) (by decide) (by decide) hEL C256.1) rfl (Nat.le_trans (Nat.le_trans (Nat.le_trans (Nat.le_trans (Nat.le_trans (Nat.le_trans (Nat.le_trans (Nat.le_trans (Nat.le_trans (Nat.le_trans (Nat.le_trans (Nat.le_trans (Nat.le_trans (Nat.le_trans hk0 E5.1) (Keep.of_wr W7).1) (Keep.of_wr W9).1) E11.1) (Keep.of_wr W13).1) (Keep.of_wr W15).1) (Keep.of_wr W17).1) E169.1) (Keep.of_wr W171).1) E245.1) (Keep.of_wr W247).1) E249.1) E251.1) Kp254.1) (by rw [hml]; rfl) (lenOf o_pd__28Ljava_2flang_2fString_3bZZ_29V rfl) rfl (Nat.le_of_eq rfl) (y_ at_261) (by decide) (by decide) (fun T261 L261 v261 k261 X261 hS261 hk261 hZ261 hown261 hQ261 hC261 => ?_)
            obtain ⟨rfl, N261q, Kp261, Ex261, Fk261, Fb261, Fa261⟩ := hQ261
            have N261 := Fr.app N254 N261q
            have O262 := Old.keep O255 Kp261 (allS g_b249 all0)
            have C263 := CHr.trans C256 (hC261)
            show o_G p e below _ T261 (mkF m 264 #[vI p1, vI p2, vI p3, vI p4, vI 1, vI 1, vI B, vI A, vI ca, vI cb, vI na, vI nb, vI nc, vR b5, vR b11, vR b169, vR b245, .unset, .unset, .unset] [(.ref b249)])
            refine o_astore X261 hx (y_ at_264) rfl (A' := #[vI p1, vI p2, vI p3, vI p4, vI 1, vI 1, vI B, vI A, vI ca, vI cb, vI na, vI nb, vI nc, vR b5, vR b11, vR b169, vR b245, vR b249, .unset, .unset]) rfl ?_
            refine o_aload X261 hx (y_ at_266) rfl rfl ?_
            refine o_new X261 hx hZ261 hown261 (k_ 8 rfl) (k_ 9 rfl) (k_ 10 rfl) rfl (y_ at_268) (by decide) (by decide) (fun T264 h264 b264 X264 e264 gg264 E264 A264 D264 => ?_)
            have g_b264 := o_fresh O262 gg264
            have O264 := Old.ext O262 E264
            have C265 := CHr.trans C263 (CHr.ext E264 C263.1)
            have F264_coder : Fld Z h264 b264 "java/lang/String" "coder" "B" (.int 0) := D264 (Or.inr (k_ 34 rfl)) (ty := .byte) (by decide)
            have F264_value : Fld Z h264 b264 "java/lang/String" "value" "[B" .null := D264 (Or.inr (k_ 36 rfl)) (ty := (.array .byte)) (by decide)
            refine o_dup X264 hx (y_ at_271) rfl ?_
            refine o_aload X264 hx (y_ at_272) rfl rfl ?_
            have c266 := (Arv.ext (Arv.keep (Arv.keep (Arv.ext (Arv.ext V247 E249) E251) Kp254 (ninS (o_ng (Nat.lt_of_lt_of_le V247.lt E249.1) gg251) nin0)) Kp261 (ninS (o_ng V247.lt gg249) nin0)) E264)
            refine o_ini (y := o_m5) (b := b264) (argsL := [(.ref b245)]) (S := [(.ref b264), (.ref b249)]) (W := 2) rfl X264 hx hZ261 hown261 (k_ 11 rfl) (k_ 12 rfl) (k_ 13 rfl) (o_newB (W := 2) (cs := ([na] : List Int32)) (n := 1) hZ261 hw (k_ 9 rfl) O264 g_b264 A264 F264_value F264_coder c266 SC_ hC_ rfl rfl (by decide) (by decide) (o_csS ⟨l_na, u_na⟩ o_cs0) (by decide) (by decide)) e264 hml (lenOf o_pd__28_5bC_29V rfl) (y_ at_274) (fun T267 L267 v267 X267 hQ267 => ?_)
            obtain ⟨rfl, Nq267, Kp267, t267, g_t267, ht267, hne267, Sf267⟩ := hQ267
            have N267 := Fr.app N261 Nq267
            have O268 := Old.keep O264 Kp267 (allS g_b264 all0)
            have C269 := CHr.trans C265 (CHr.keep Kp267 (sfS (o_safeN hZ261.alike A264 F264_value) sf0) C265.1)
            show o_G p e below _ T267 (mkF m 277 #[vI p1, vI p2, vI p3, vI p4, vI 1, vI 1, vI B, vI A, vI ca, vI cb, vI na, vI nb, vI nc, vR b5, vR b11, vR b169, vR b245, vR b249, .unset, .unset] [(.ref b264), (.ref b249)])
            have c270 := (Fld.keep (Fld.ext E264 Fk261) Kp267 (ninS (o_ng Ex261.lt gg264) nin0))
            have c271 := (Fld.keep (Fld.ext E264 Fb261) Kp267 (ninS (o_ng Ex261.lt gg264) nin0))
            have c272 := (Fld.keep (Fld.ext E264 Fa261) Kp267 (ninS (o_ng Ex261.lt gg264) nin0))
            have c273 := (o_Str.keep (o_Str.ext E264 (o_Str.keep Sf254 Kp261 (ninS (Ne.symm (o_ng A249.lt gg251)) nin0) (ninS (Ne.symm (Nat.ne_of_lt (Nat.lt_of_lt_of_le (Nat.lt_of_lt_of_le A249.lt E251.1) ht254))) nin0))) Kp267 (ninS (o_ng (Nat.lt_of_lt_of_le Sf254.lt Kp261.1) gg264) nin0) (ninS (o_ng (Nat.lt_of_lt_of_le Sf254.lt2 Kp261.1) gg264) nin0))
            have c275 := (Exa.keep (Exa.ext E264 Ex261) Kp267)
            refine o_vir (y := o_m21) (b := b249) (argsL := [(.ref b264)]) (S := []) (W := 0) X267 hx hZ261 hown261 (k_ 102 rfl) (k_ 103 rfl) (k_ 105 rfl) (k_ 104 rfl) (backOf (W := 0) (rmmt1_1 l Z a0 hw [] b249 b264 b251 t254 t267 na ca B A zC_ T267.heap n0 O268 c270 c271 c272 c273 Sf267 SC_ hC_) hZ261 (k_ 106 rfl) (k_ 7 rfl) (by decide) (by decide)) rfl c275 hml (lenOf o_pd__28Ljava_2flang_2fString_3b_29Z rfl) (y_ at_277) (fun T274 L274 v274 X274 hQ274 => ?_)
            obtain ⟨rfl, N274q, hh274⟩ := hQ274
            have N274 := Fr.app N267 N274q
            show o_G p e below _ T274 (mkF m 280 #[vI p1, vI p2, vI p3, vI p4, vI 1, vI 1, vI B, vI A, vI ca, vI cb, vI na, vI nb, vI nc, vR b5, vR b11, vR b169, vR b245, vR b249, .unset, .unset] [(.int ((if ¬ B = 0 ∧ ¬ A = 0 then (if o_occ ([na] : List Int32) ([ca] : List Int32) = true then 1 else 0) else if ¬ B = 0 then (if o_pref ([na] : List Int32) ([ca] : List Int32) = true then 1 else 0) else if ¬ A = 0 then (if o_pref ([na] : List Int32) ([ca] : List Int32) = true then 1 else 0) else (if ([na] : List Int32) = ([ca] : List Int32) then 1 else 0)) : Int32))])
            have c276 := (Arv.keep (Arv.ext (Arv.keep (Arv.keep (Arv.ext (Arv.ext (Arv.other (Arv.ext (Arv.other (Arv.ext V17 E169) W171 (o_ng V17.lt gg169)) E245) W247 (o_ng (Nat.lt_of_lt_of_le V17.lt (Nat.le_trans E169.1 (Keep.of_wr W171).1)) gg245)) E249) E251) Kp254 (ninS (o_ng (Nat.lt_of_lt_of_le V17.lt (Nat.le_trans (Nat.le_trans (Nat.le_trans (Nat.le_trans E169.1 (Keep.of_wr W171).1) E245.1) (Keep.of_wr W247).1) E249.1)) gg251) nin0)) Kp261 (ninS (o_ng (Nat.lt_of_lt_of_le V17.lt (Nat.le_trans (Nat.le_trans (Nat.le_trans E169.1 (Keep.of_wr W171).1) E245.1) (Keep.of_wr W247).1)) gg249) nin0)) E264) Kp267 (ninS (o_ng (Nat.lt_of_lt_of_le V17.lt (Nat.le_trans (Nat.le_trans (Nat.le_trans (Nat.le_trans (Nat.le_trans (Nat.le_trans (Nat.le_trans E169.1 (Keep.of_wr W171).1) E245.1) (Keep.of_wr W247).1) E249.1) E251.1) Kp254.1) Kp261.1)) gg264) nin0))
            have c277 := (Arv.keep (Arv.ext (Arv.keep (Arv.keep (Arv.ext (Arv.ext (Arv.other (Arv.ext (Arv.other (Arv.ext (Arv.other (Arv.other (Arv.other (Arv.ext V9 E11) W13 (o_ng V9.lt gg11)) W15 (o_ng V9.lt gg11)) W17 (o_ng V9.lt gg11)) E169) W171 (o_ng (Nat.lt_of_lt_of_le V9.lt (Nat.le_trans (Nat.le_trans (Nat.le_trans E11.1 (Keep.of_wr W13).1) (Keep.of_wr W15).1) (Keep.of_wr W17).1)) gg169)) E245) W247 (o_ng (Nat.lt_of_lt_of_le V9.lt (Nat.le_trans (Nat.le_trans (Nat.le_trans (Nat.le_trans (Nat.le_trans E11.1 (Keep.of_wr W13).1) (Keep.of_wr W15).1) (Keep.of_wr W17).1) E169.1) (Keep.of_wr W171).1)) gg245)) E249) E251) Kp254 (ninS (o_ng (Nat.lt_of_lt_of_le V9.lt (Nat.le_trans (Nat.le_trans (Nat.le_trans (Nat.le_trans (Nat.le_trans (Nat.le_trans (Nat.le_trans (Nat.le_trans E11.1 (Keep.of_wr W13).1) (Keep.of_wr W15).1) (Keep.of_wr W17).1) E169.1) (Keep.of_wr W171).1) E245.1) (Keep.of_wr W247).1) E249.1)) gg251) nin0)) Kp261 (ninS (o_ng (Nat.lt_of_lt_of_le V9.lt (Nat.le_trans (Nat.le_trans (Nat.le_trans (Nat.le_trans (Nat.le_trans (Nat.le_trans (Nat.le_trans E11.1 (Keep.of_wr W13).1) (Keep.of_wr W15).1) (Keep.of_wr W17).1) E169.1) (Keep.of_wr W171).1) E245.1) (Keep.of_wr W247).1)) gg249) nin0)) E264) Kp267 (ninS (o_ng (Nat.lt_of_lt_of_le V9.lt (Nat.le_trans (Nat.le_trans (Nat.le_trans (Nat.le_trans (Nat.le_trans (Nat.le_trans (Nat.le_trans (Nat.le_trans (Nat.le_trans (Nat.le_trans (Nat.le_trans E11.1 (Keep.of_wr W13).1) (Keep.of_wr W15).1) (Keep.of_wr W17).1) E169.1) (Keep.of_wr W171).1) E245.1) (Keep.of_wr W247).1) E249.1) E251.1) Kp254.1) Kp261.1)) gg264) nin0))
            exact J280 _ _ _ _ (o_up X274 (by decide) (by decide)) hS261 (by rw [hh274]; exact (Nat.le_trans (Nat.le_trans hk261 E264.1) Kp267.1)) hZ261 hown261 N274 (by rw [hh274]; exact O268) (((if ¬ B = 0 ∧ ¬ A = 0 then (if o_occ ([na] : List Int32) ([ca] : List Int32) = true then 1 else 0) else if ¬ B = 0 then (if o_pref ([na] : List Int32) ([ca] : List Int32) = true then 1 else 0) else if ¬ A = 0 then (if o_pref ([na] : List Int32) ([ca] : List Int32) = true then 1 else 0) else (if ([na] : List Int32) = ([ca] : List Int32) then 1 else 0)) : Int32), .ref b169, .ref b245, .ref b249) ⟨o_gt1_1 (B := B) (A := A), by rw [hh274]; exact c276, by rw [hh274]; exact c277⟩
          have hc176 := o_h_ne.2 hq
          obtain rfl : nl = 0 := hc176
          skip
          refine o_iconst X171 hx (y_ at_179) (x := 0) rfl ?_
          refine o_newA (cap := 0) X171 hx hZ (k_ 4 rfl) e171 (y_ at_180) (by decide) (by decide) (by decide) (by decide) (by decide) (fun T278 h278 k278 b278 X278 e278 gg278 E278 A278 => ?_)
          have g_b278 := o_fresh O171 gg278
          have O278 := Old.ext O171 E278
          have C279 := CHr.trans C172 (CHr.ext E278 C172.1)
          have V278 : Arv Z h278 b278 k278 .char (0 : Int32) [] (.int 0) := A278
          refine o_gO (t := 242) X278 hx (y_ at_182) ?_
          refine o_astore X278 hx (y_ at_242) rfl (A' := #[vI p1, vI p2, vI p3, vI p4, vI 1, vI 0, vI B, vI A, vI ca, vI cb, vI na, vI nb, vI nc, vR b5, vR b11, vR b169, vR b278, .unset, .unset, .unset]) rfl ?_
          refine o_new X278 hx hZ hown (k_ 5 rfl) (k_ 6 rfl) (k_ 7 rfl) e278 (y_ at_244) (by decide) (by decide) (fun T280 h280 b280 X280 e280 gg280 E280 A280 D280 => ?_)
          have g_b280 := o_fresh O278 gg280
          have O280 := Old.ext O278 E280
          have C281 := CHr.trans C279 (CHr.ext E280 C279.1)
          have F280_core : Fld Z h280 b280 "org/adviceweft/pointcut/NamePattern" "core" "Ljava/lang/String;" .null := D280 (Or.inr (k_ 96 rfl)) (ty := (.object "java/lang/String")) (by decide)
          have F280_anyBefore : Fld Z h280 b280 "org/adviceweft/pointcut/NamePattern" "anyBefore" "Z" (.int 0) := D280 (Or.inr (k_ 98 rfl)) (ty := .boolean) (by decide)
          have F280_anyAfter : Fld Z h280 b280 "org/adviceweft/pointcut/NamePattern" "anyAfter" "Z" (.int 0) := D280 (Or.inr (k_ 100 rfl)) (ty := .boolean) (by decide)
          refine o_dup X280 hx (y_ at_247) rfl ?_
          refine o_new X280 hx hZ hown (k_ 8 rfl) (k_ 9 rfl) (k_ 10 rfl) e280 (y_ at_248) (by decide) (by decide) (fun T282 h282 b282 X282 e282 gg282 E282 A282 D282 => ?_)
          have g_b282 := o_fresh O280 gg282
          have O282 := Old.ext O280 E282
          have C283 := CHr.trans C281 (CHr.ext E282 C281.1)
          have F282_coder : Fld Z h282 b282 "java/lang/String" "coder" "B" (.int 0) := D282 (Or.inr (k_ 34 rfl)) (ty := .byte) (by decide)
          have F282_value : Fld Z h282 b282 "java/lang/String" "value" "[B" .null := D282 (Or.inr (k_ 36 rfl)) (ty := (.array .byte)) (by decide)
          refine o_dup X282 hx (y_ at_251) rfl ?_
          refine o_aload X282 hx (y_ at_252) rfl rfl ?_
          have c284 := (Arv.ext (Arv.ext (Arv.ext V171 E278) E280) E282)
          refine o_ini (y := o_m5) (b := b282) (argsL := [(.ref b169)]) (S := [(.ref b282), (.ref b280), (.ref b280)]) (W := 3) rfl X282 hx hZ hown (k_ 11 rfl) (k_ 12 rfl) (k_ 13 rfl) (o_newB (W := 3) (cs := ([ca] : List Int32)) (n := 1) hZ hw (k_ 9 rfl) O282 g_b282 A282 F282_value F282_coder c284 SC_ hC_ rfl rfl (by decide) (by decide) (o_csS ⟨l_ca, u_ca⟩ o_cs0) (by decide) (by decide)) e282 hml (lenOf o_pd__28_5bC_29V rfl) (y_ at_254) (fun T285 L285 v285 X285 hQ285 => ?_)
          obtain ⟨rfl, Nq285, Kp285, t285, g_t285, ht285, hne285, Sf285⟩ := hQ285
          have N285 := Fr.app N171 Nq285
          have O286 := Old.keep O282 Kp285 (allS g_b282 all0)
          have C287 := CHr.trans C283 (CHr.keep Kp285 (sfS (o_safeN hZ.alike A282 F282_value) sf0) C283.1)
          show o_G p e below _ T285 (mkF m 257 #[vI p1, vI p2, vI p3, vI p4, vI 1, vI 0, vI B, vI A, vI ca, vI cb, vI na, vI nb, vI nc, vR b5, vR b11, vR b169, vR b278, .unset, .unset, .unset] [(.ref b282), (.ref b280), (.ref b280)])
          refine o_iload X285 hx (y_ at_257) rfl ?_
          refine o_iload X285 hx (y_ at_259) rfl ?_
          have c288 := (Exa.keep (Exa.ext E282 A280) Kp285)
          have c289 := (Fld.keep (Fld.ext E282 F280_core) Kp285 (ninS (o_ng A280.lt gg282) nin0))
          have c290 := (Fld.keep (Fld.ext E282 F280_anyBefore) Kp285 (ninS (o_ng A280.lt gg282) nin0))
          have c291 := (Fld.keep (Fld.ext E282 F280_anyAfter) Kp285 (ninS (o_ng A280.lt gg282) nin0))
          refine o_initH (y := o_m19) (b := b280) (argsL := [(.ref b282), (.int B), (.int A)]) (S := [(.ref b280)]) (W := 1) rfl X285 hx hZ hS0 hown (k_ 37 rfl) (k_ 38 rfl) (k_ 39 rfl) (by decide) (backOfSH (W := 1) (rmct1 l Z a0 hw [] b280 b282 B A t285 ca zC_ T285.heap n0 O286 c288 c289 c290 c291 g_b280 Sf285 (o_nostar1 s_ca) h_B h_A SC_ hC_) hZ (k_ 39 rfl) (k_ 7 rfl) (by decide) (by decide) hEL C287.1) rfl (Nat.le_trans (Nat.le_trans (Nat.le_trans (Nat.le_trans (Nat.le_trans (Nat.le_trans (Nat.le_trans (Nat.le_trans (Nat.le_trans (Nat.le_trans (Nat.le_trans (Nat.le_trans (Nat.le_trans hk0 E5.1) (Keep.of_wr W7).1) (Keep.of_wr W9).1) E11.1) (Keep.of_wr W13).1) (Keep.of_wr W15).1) (Keep.of_wr W17).1) E169.1) (Keep.of_wr W171).1) E278.1) E280.1) E282.1) Kp285.1) (by rw [hml]; rfl) (lenOf o_pd__28Ljava_2flang_2fString_3bZZ_29V rfl) rfl (Nat.le_of_eq rfl) (y_ at_261) (by decide) (by decide) (fun T292 L292 v292 k292 X292 hS292 hk292 hZ292 hown292 hQ292 hC292 => ?_)
          obtain ⟨rfl, N292q, Kp292, Ex292, Fk292, Fb292, Fa292⟩ := hQ292
          have N292 := Fr.app N285 N292q
          have O293 := Old.keep O286 Kp292 (allS g_b280 all0)
          have C294 := CHr.trans C287 (hC292)
          show o_G p e below _ T292 (mkF m 264 #[vI p1, vI p2, vI p3, vI p4, vI 1, vI 0, vI B, vI A, vI ca, vI cb, vI na, vI nb, vI nc, vR b5, vR b11, vR b169, vR b278, .unset, .unset, .unset] [(.ref b280)])
          refine o_astore X292 hx (y_ at_264) rfl (A' := #[vI p1, vI p2, vI p3, vI p4, vI 1, vI 0, vI B, vI A, vI ca, vI cb, vI na, vI nb, vI nc, vR b5, vR b11, vR b169, vR b278, vR b280, .unset, .unset]) rfl ?_
          refine o_aload X292 hx (y_ at_266) rfl rfl ?_
          refine o_new X292 hx hZ292 hown292 (k_ 8 rfl) (k_ 9 rfl) (k_ 10 rfl) rfl (y_ at_268) (by decide) (by decide) (fun T295 h295 b295 X295 e295 gg295 E295 A295 D295 => ?_)
          have g_b295 := o_fresh O293 gg295
          have O295 := Old.ext O293 E295
          have C296 := CHr.trans C294 (CHr.ext E295 C294.1)
          have F295_coder : Fld Z h295 b295 "java/lang/String" "coder" "B" (.int 0) := D295 (Or.inr (k_ 34 rfl)) (ty := .byte) (by decide)
          have F295_value : Fld Z h295 b295 "java/lang/String" "value" "[B" .null := D295 (Or.inr (k_ 36 rfl)) (ty := (.array .byte)) (by decide)
          refine o_dup X295 hx (y_ at_271) rfl ?_
          refine o_aload X295 hx (y_ at_272) rfl rfl ?_
          have c297 := (Arv.ext (Arv.keep (Arv.keep (Arv.ext (Arv.ext V278 E280) E282) Kp285 (ninS (o_ng (Nat.lt_of_lt_of_le V278.lt E280.1) gg282) nin0)) Kp292 (ninS (o_ng V278.lt gg280) nin0)) E295)
          refine o_initH (y := o_m5) (b := b295) (argsL := [(.ref b278)]) (S := [(.ref b295), (.ref b280)]) (W := 2) rfl X295 hx hZ292 hS292 hown292 (k_ 11 rfl) (k_ 12 rfl) (k_ 13 rfl) (by decide) (backOfSH (W := 2) (rmse l Z a0 hw [] b295 b278 k278 h295 n0 O295 A295 F295_value F295_coder g_b295 c297) hZ292 (k_ 13 rfl) (k_ 10 rfl) (by decide) (by decide) hEL C296.1) e295 (Nat.le_trans hk292 E295.1) (by rw [hml]; rfl) (lenOf o_pd__28_5bC_29V rfl) rfl (Nat.le_of_eq rfl) (y_ at_274) (by decide) (by decide) (fun T298 L298 v298 k298 X298 hS298 hk298 hZ298 hown298 hQ298 hC298 => ?_)
          obtain ⟨rfl, N298q, Kp298, t298, hne298, Sf298⟩ := hQ298
          have N298 := Fr.app N292 N298q
          have O299 := Old.keep O295 Kp298 (allS g_b295 all0)
          have C300 := CHr.trans C296 (hC298)
          show o_G p e below _ T298 (mkF m 277 #[vI p1, vI p2, vI p3, vI p4, vI 1, vI 0, vI B, vI A, vI ca, vI cb, vI na, vI nb, vI nc, vR b5, vR b11, vR b169, vR b278, vR b280, .unset, .unset] [(.ref b295), (.ref b280)])
          have c301 := (Fld.keep (Fld.ext E295 Fk292) Kp298 (ninS (o_ng Ex292.lt gg295) nin0))
          have c302 := (Fld.keep (Fld.ext E295 Fb292) Kp298 (ninS (o_ng Ex292.lt gg295) nin0))
          have c303 := (Fld.keep (Fld.ext E295 Fa292) Kp298 (ninS (o_ng Ex292.lt gg295) nin0))
          have c304 := (o_Str.keep (o_Str.ext E295 (o_Str.keep Sf285 Kp292 (ninS (Ne.symm (o_ng A280.lt gg282)) nin0) (ninS (Ne.symm (Nat.ne_of_lt (Nat.lt_of_lt_of_le (Nat.lt_of_lt_of_le A280.lt E282.1) ht285))) nin0))) Kp298 (ninS (o_ng (Nat.lt_of_lt_of_le Sf285.lt Kp292.1) gg295) nin0) (ninS (o_ng (Nat.lt_of_lt_of_le Sf285.lt2 Kp292.1) gg295) nin0))
          have c306 := (Exa.keep (Exa.ext E295 Ex292) Kp298)
          refine o_vir (y := o_m21) (b := b280) (argsL := [(.ref b295)]) (S := []) (W := 0) X298 hx hZ298 hown298 (k_ 102 rfl) (k_ 103 rfl) (k_ 105 rfl) (k_ 104 rfl) (backOf (W := 0) (rmmt0_1 l Z a0 hw [] b280 b295 b282 t285 t298 ca B A zC_ T298.heap n0 O299 c301 c302 c303 c304 Sf298 SC_ hC_) hZ298 (k_ 106 rfl) (k_ 7 rfl) (by decide) (by decide)) rfl c306 hml (lenOf o_pd__28Ljava_2flang_2fString_3b_29Z rfl) (y_ at_277) (fun T305 L305 v305 X305 hQ305 => ?_)
          obtain ⟨rfl, N305q, hh305⟩ := hQ305
          have N305 := Fr.app N298 N305q
          show o_G p e below _ T305 (mkF m 280 #[vI p1, vI p2, vI p3, vI p4, vI 1, vI 0, vI B, vI A, vI ca, vI cb, vI na, vI nb, vI nc, vR b5, vR b11, vR b169, vR b278, vR b280, .unset, .unset] [(.int ((if ¬ B = 0 ∧ ¬ A = 0 then (if o_occ ([] : List Int32) ([ca] : List Int32) = true then 1 else 0) else if ¬ B = 0 then 0 else if ¬ A = 0 then 0 else (if ([] : List Int32) = ([ca] : List Int32) then 1 else 0)) : Int32))])
          have c307 := (Arv.keep (Arv.ext (Arv.keep (Arv.keep (Arv.ext (Arv.ext (Arv.ext (Arv.other (Arv.ext V17 E169) W171 (o_ng V17.lt gg169)) E278) E280) E282) Kp285 (ninS (o_ng (Nat.lt_of_lt_of_le V17.lt (Nat.le_trans (Nat.le_trans (Nat.le_trans E169.1 (Keep.of_wr W171).1) E278.1) E280.1)) gg282) nin0)) Kp292 (ninS (o_ng (Nat.lt_of_lt_of_le V17.lt (Nat.le_trans (Nat.le_trans E169.1 (Keep.of_wr W171).1) E278.1)) gg280) nin0)) E295) Kp298 (ninS (o_ng (Nat.lt_of_lt_of_le V17.lt (Nat.le_trans (Nat.le_trans (Nat.le_trans (Nat.le_trans (Nat.le_trans (Nat.le_trans E169.1 (Keep.of_wr W171).1) E278.1) E280.1) E282.1) Kp285.1) Kp292.1)) gg295) nin0))
          have c308 := (Arv.keep (Arv.ext (Arv.keep (Arv.keep (Arv.ext (Arv.ext (Arv.ext (Arv.other (Arv.ext (Arv.other (Arv.other (Arv.other (Arv.ext V9 E11) W13 (o_ng V9.lt gg11)) W15 (o_ng V9.lt gg11)) W17 (o_ng V9.lt gg11)) E169) W171 (o_ng (Nat.lt_of_lt_of_le V9.lt (Nat.le_trans (Nat.le_trans (Nat.le_trans E11.1 (Keep.of_wr W13).1) (Keep.of_wr W15).1) (Keep.of_wr W17).1)) gg169)) E278) E280) E282) Kp285 (ninS (o_ng (Nat.lt_of_lt_of_le V9.lt (Nat.le_trans (Nat.le_trans (Nat.le_trans (Nat.le_trans (Nat.le_trans (Nat.le_trans (Nat.le_trans E11.1 (Keep.of_wr W13).1) (Keep.of_wr W15).1) (Keep.of_wr W17).1) E169.1) (Keep.of_wr W171).1) E278.1) E280.1)) gg282) nin0)) Kp292 (ninS (o_ng (Nat.lt_of_lt_of_le V9.lt (Nat.le_trans (Nat.le_trans (Nat.le_trans (Nat.le_trans (Nat.le_trans (Nat.le_trans E11.1 (Keep.of_wr W13).1) (Keep.of_wr W15).1) (Keep.of_wr W17).1) E169.1) (Keep.of_wr W171).1) E278.1)) gg280) nin0)) E295) Kp298 (ninS (o_ng (Nat.lt_of_lt_of_le V9.lt (Nat.le_trans (Nat.le_trans (Nat.le_trans (Nat.le_trans (Nat.le_trans (Nat.le_trans (Nat.le_trans (Nat.le_trans (Nat.le_trans (Nat.le_trans E11.1 (Keep.of_wr W13).1) (Keep.of_wr W15).1) (Keep.of_wr W17).1) E169.1) (Keep.of_wr W171).1) E278.1) E280.1) E282.1) Kp285.1) Kp292.1)) gg295) nin0))
          exact J280 _ _ _ _ (o_up X305 (by decide) (by decide)) hS298 (by rw [hh305]; exact hk298) hZ298 hown298 N305 (by rw [hh305]; exact O299) (((if ¬ B = 0 ∧ ¬ A = 0 then (if o_occ ([] : List Int32) ([ca] : List Int32) = true then 1 else 0) else if ¬ B = 0 then 0 else if ¬ A = 0 then 0 else (if ([] : List Int32) = ([ca] : List Int32) then 1 else 0)) : Int32), .ref b169, .ref b278, .ref b280) ⟨o_gt1_0 (B := B) (A := A), by rw [hh305]; exact c307, by rw [hh305]; exact c308⟩
        have hc133 := o_h_ne.2 hq
        exact absurd hc133 hc42
      have hc42 := o_h_ne.2 hq
      refine o_iconst X2 hx (y_ at_45) (x := 1) rfl ?_
      refine o_istore X2 hx (y_ at_46) (A' := #[vI p1, vI p2, vI p3, vI p4, vI cl, vI nl, vI 1, vI A, .unset, .unset, .unset, .unset, .unset, .unset, .unset, .unset, .unset, .unset, .unset, .unset]) rfl ?_
      refine o_iconst X2 hx (y_ at_48) (x := 0) rfl ?_
      refine o_istore X2 hx (y_ at_49) (A' := #[vI p1, vI p2, vI p3, vI p4, vI cl, vI nl, vI 1, vI 0, .unset, .unset, .unset, .unset, .unset, .unset, .unset, .unset, .unset, .unset, .unset, .unset]) rfl ?_
      refine o_iloadN X2 hx (y_ at_51) rfl ?_
      refine o_sta (y := o_m2) (argsL := [(.int p1)]) (S := []) (W := 0) X2 hx hZ hown (k_ 0 rfl) (k_ 1 rfl) (k_ 2 rfl) (k_ 3 rfl) (backOf (W := 0) (rmcor l Z a0 hw [] p1 h0 n0 O0) hZ (k_ 3 rfl) (k_ 2 rfl) (by decide) (by decide)) e2 hml (lenOf o_pd__28I_29C rfl) (y_ at_52) (fun T309 L309 v309 X309 hQ309 => ?_)
      obtain ⟨rfl, N309q, hh309⟩ := hQ309
      have N309 := Fr.app N0 N309q
      show o_G p e below _ T309 (mkF m 55 #[vI p1, vI p2, vI p3, vI p4, vI cl, vI nl, vI 1, vI 0, .unset, .unset, .unset, .unset, .unset, .unset, .unset, .unset, .unset, .unset, .unset, .unset] [(.int (o_core p1))])
      obtain ⟨ca, e_ca, n_ca, l_ca, u_ca, s_ca⟩ := o_coreP p1
      rw [e_ca]
      refine o_istore X309 hx (y_ at_55) (A' := #[vI p1, vI p2, vI p3, vI p4, vI cl, vI nl, vI 1, vI 0, vI ca, .unset, .unset, .unset, .unset, .unset, .unset, .unset, .unset, .unset, .unset, .unset]) rfl ?_
      refine o_iloadN X309 hx (y_ at_57) rfl ?_
      refine o_bipush X309 hx (y_ at_58) (x := 8) rfl ?_
      refine o_iushr X309 hx (y_ at_60) ?_
      refine o_sta (y := o_m2) (argsL := [(.int (XT.ushr p1 (8 : Int32)))]) (S := []) (W := 0) X309 hx hZ hown (k_ 0 rfl) (k_ 1 rfl) (k_ 2 rfl) (k_ 3 rfl) (backOf (W := 0) (rmcor l Z a0 hw [] (XT.ushr p1 (8 : Int32)) h0 n0 O0) hZ (k_ 3 rfl) (k_ 2 rfl) (by decide) (by decide)) hh309 hml (lenOf o_pd__28I_29C rfl) (y_ at_61) (fun T310 L310 v310 X310 hQ310 => ?_)
      obtain ⟨rfl, N310q, hh310⟩ := hQ310
      have N310 := Fr.app N309 N310q
      show o_G p e below _ T310 (mkF m 64 #[vI p1, vI p2, vI p3, vI p4, vI cl, vI nl, vI 1, vI 0, vI ca, .unset, .unset, .unset, .unset, .unset, .unset, .unset, .unset, .unset, .unset, .unset] [(.int (o_core (XT.ushr p1 (8 : Int32))))])
      obtain ⟨cb, e_cb, n_cb, l_cb, u_cb, s_cb⟩ := o_coreP (XT.ushr p1 (8 : Int32))
      rw [e_cb]
      refine o_istore X310 hx (y_ at_64) (A' := #[vI p1, vI p2, vI p3, vI p4, vI cl, vI nl, vI 1, vI 0, vI ca, vI cb, .unset, .unset, .unset, .unset, .unset, .unset, .unset, .unset, .unset, .unset]) rfl ?_
      refine o_iloadN X310 hx (y_ at_66) rfl ?_
      refine o_sipush X310 hx (y_ at_67) (x := 255) rfl ?_
      refine o_iand X310 hx (y_ at_70) ?_
      refine o_i2c X310 hx (y_ at_71) ?_
      obtain ⟨na, e_na, f_na, n_na, l_na, u_na⟩ := o_chr p2
      rw [f_na]
      refine o_istore X310 hx (y_ at_72) (A' := #[vI p1, vI p2, vI p3, vI p4, vI cl, vI nl, vI 1, vI 0, vI ca, vI cb, vI na, .unset, .unset, .unset, .unset, .unset, .unset, .unset, .unset, .unset]) rfl ?_
      refine o_iloadN X310 hx (y_ at_74) rfl ?_
      refine o_bipush X310 hx (y_ at_75) (x := 8) rfl ?_
      refine o_iushr X310 hx (y_ at_77) ?_
      refine o_sipush X310 hx (y_ at_78) (x := 255) rfl ?_
      refine o_iand X310 hx (y_ at_81) ?_
      refine o_i2c X310 hx (y_ at_82) ?_
      obtain ⟨nb, e_nb, f_nb, n_nb, l_nb, u_nb⟩ := o_chr (XT.ushr p2 (8 : Int32))
      rw [f_nb]
      refine o_istore X310 hx (y_ at_83) (A' := #[vI p1, vI p2, vI p3, vI p4, vI cl, vI nl, vI 1, vI 0, vI ca, vI cb, vI na, vI nb, .unset, .unset, .unset, .unset, .unset, .unset, .unset, .unset]) rfl ?_
      refine o_iloadN X310 hx (y_ at_85) rfl ?_
      refine o_bipush X310 hx (y_ at_86) (x := 16) rfl ?_
      refine o_iushr X310 hx (y_ at_88) ?_
      refine o_sipush X310 hx (y_ at_89) (x := 255) rfl ?_
      refine o_iand X310 hx (y_ at_92) ?_
      refine o_i2c X310 hx (y_ at_93) ?_
      obtain ⟨nc, e_nc, f_nc, n_nc, l_nc, u_nc⟩ := o_chr (XT.ushr p2 (16 : Int32))
      rw [f_nc]
      refine o_istore X310 hx (y_ at_94) (A' := #[vI p1, vI p2, vI p3, vI p4, vI cl, vI nl, vI 1, vI 0, vI ca, vI cb, vI na, vI nb, vI nc, .unset, .unset, .unset, .unset, .unset, .unset, .unset]) rfl ?_
      refine o_iconst X310 hx (y_ at_96) (x := 2) rfl ?_
      refine o_newA (cap := 2) X310 hx hZ (k_ 4 rfl) hh310 (y_ at_97) (by decide) (by decide) (by decide) (by decide) (by decide) (fun T311 h311 k311 b311 X311 e311 gg311 E311 A311 => ?_)
      have g_b311 := o_fresh O0 gg311
      have O311 := Old.ext O0 E311
      have C312 := CHr.trans C0 (CHr.ext E311 C0.1)
      have V311 : Arv Z h311 b311 k311 .char (2 : Int32) [(.int 0), (.int 0)] (.int 0) := A311.pad (pad_rep [] (.int 0) 2)
      refine o_dup X311 hx (y_ at_99) rfl ?_
      refine o_iconst X311 hx (y_ at_100) (x := 0) rfl ?_
      refine o_iload X311 hx (y_ at_101) rfl ?_
      refine o_stC (i := 0) (z := ca) X311 hx hZ e311 V311 (y_ at_103) ⟨by decide, by decide⟩ rfl (o_b rfl) n_ca (fun T313 h313 X313 e313 W313 V313 => ?_)
      have N313 := Fr.snoc X313 N310 g_b311
      have O313 := Old.wr O311 W313 g_b311
      have C314 := CHr.trans C312 (CHr.wr W313 (Safe.arv hZ.alike V311 (by decide)) C312.1)
      refine o_dup X313 hx (y_ at_104) rfl ?_
      refine o_iconst X313 hx (y_ at_105) (x := 1) rfl ?_
      refine o_iload X313 hx (y_ at_106) rfl ?_
      refine o_stC (i := 1) (z := cb) X313 hx hZ e313 V313 (y_ at_108) ⟨by decide, by decide⟩ rfl (o_b rfl) n_cb (fun T315 h315 X315 e315 W315 V315 => ?_)
      have N315 := Fr.snoc X315 N313 g_b311
      have O315 := Old.wr O313 W315 g_b311
      have C316 := CHr.trans C314 (CHr.wr W315 (Safe.arv hZ.alike V313 (by decide)) C314.1)
      refine o_astore X315 hx (y_ at_109) rfl (A' := #[vI p1, vI p2, vI p3, vI p4, vI cl, vI nl, vI 1, vI 0, vI ca, vI cb, vI na, vI nb, vI nc, vR b311, .unset, .unset, .unset, .unset, .unset, .unset]) rfl ?_
      refine o_iconst X315 hx (y_ at_111) (x := 3) rfl ?_
      refine o_newA (cap := 3) X315 hx hZ (k_ 4 rfl) e315 (y_ at_112) (by decide) (by decide) (by decide) (by decide) (by decide) (fun T317 h317 k317 b317 X317 e317 gg317 E317 A317 => ?_)
      have g_b317 := o_fresh O315 gg317
      have O317 := Old.ext O315 E317
      have C318 := CHr.trans C316 (CHr.ext E317 C316.1)
      have V317 : Arv Z h317 b317 k317 .char (3 : Int32) [(.int 0), (.int 0), (.int 0)] (.int 0) := A317.pad (pad_rep [] (.int 0) 3)
      refine o_dup X317 hx (y_ at_114) rfl ?_
      refine o_iconst X317 hx (y_ at_115) (x := 0) rfl ?_
      refine o_iload X317 hx (y_ at_116) rfl ?_
      refine o_stC (i := 0) (z := na) X317 hx hZ e317 V317 (y_ at_118) ⟨by decide, by decide⟩ rfl (o_b rfl) n_na (fun T319 h319 X319 e319 W319 V319 => ?_)
      have N319 := Fr.snoc X319 N315 g_b317
      have O319 := Old.wr O317 W319 g_b317
      have C320 := CHr.trans C318 (CHr.wr W319 (Safe.arv hZ.alike V317 (by decide)) C318.1)
      refine o_dup X319 hx (y_ at_119) rfl ?_
      refine o_iconst X319 hx (y_ at_120) (x := 1) rfl ?_
      refine o_iload X319 hx (y_ at_121) rfl ?_
      refine o_stC (i := 1) (z := nb) X319 hx hZ e319 V319 (y_ at_123) ⟨by decide, by decide⟩ rfl (o_b rfl) n_nb (fun T321 h321 X321 e321 W321 V321 => ?_)
      have N321 := Fr.snoc X321 N319 g_b317
      have O321 := Old.wr O319 W321 g_b317
      have C322 := CHr.trans C320 (CHr.wr W321 (Safe.arv hZ.alike V319 (by decide)) C320.1)
      refine o_dup X321 hx (y_ at_124) rfl ?_
      refine o_iconst X321 hx (y_ at_125) (x := 2) rfl ?_
      refine o_iload X321 hx (y_ at_126) rfl ?_
      refine o_stC (i := 2) (z := nc) X321 hx hZ e321 V321 (y_ at_128) ⟨by decide, by decide⟩ rfl (o_b rfl) n_nc (fun T323 h323 X323 e323 W323 V323 => ?_)
      have N323 := Fr.snoc X323 N321 g_b317
      have O323 := Old.wr O321 W323 g_b317
      have C324 := CHr.trans C322 (CHr.wr W323 (Safe.arv hZ.alike V321 (by decide)) C322.1)
      refine o_astore X323 hx (y_ at_129) rfl (A' := #[vI p1, vI p2, vI p3, vI p4, vI cl, vI nl, vI 1, vI 0, vI ca, vI cb, vI na, vI nb, vI nc, vR b311, vR b317, .unset, .unset, .unset, .unset, .unset]) rfl ?_
      obtain ⟨kn, hkn⟩ : ∃ z, z = k317 := ⟨_, rfl⟩
      obtain ⟨kc, hkc⟩ : ∃ z, z = k311 := ⟨_, rfl⟩
      refine o_joinH (α := Int32 × Value × Value × Value) (C := 24) (N := 200) (P := fun hh_ a_ => a_.1 = o_got (1 : Int32) (0 : Int32) cl nl na nb nc ca cb ∧ Arv Z hh_ b317 k317 .char (3 : Int32) [.int na, .int nb, .int nc] (.int 0) ∧ Arv Z hh_ b311 k311 .char (2 : Int32) [.int ca, .int cb] (.int 0)) (F := fun a_ => mkF m 280 #[vI p1, vI p2, vI p3, vI p4, vI cl, vI nl, vI 1, vI 0, vI ca, vI cb, vI na, vI nb, vI nc, vR b311, vR b317, .val a_.2.1, .val a_.2.2.1, .val a_.2.2.2, .unset, .unset] [.int a_.1]) X323 hZ hown N323 (fun T325 L325 vm325 k325 X325 hS325 hk325 hZ325 hown325 N325 O325 a_ h_a => ?_) (fun J280 => ?_)
      · obtain ⟨got, q15, q16, q17⟩ := a_
        obtain ⟨hgot, Vn325, Vc325⟩ := h_a
        show o_G p e below _ T325 (mkF m 280 #[vI p1, vI p2, vI p3, vI p4, vI cl, vI nl, vI 1, vI 0, vI ca, vI cb, vI na, vI nb, vI nc, vR b311, vR b317, .val q15, .val q16, .val q17, .unset, .unset] [(.int got)])
        refine o_istore X325 hx (y_ at_280) (A' := #[vI p1, vI p2, vI p3, vI p4, vI cl, vI nl, vI 1, vI 0, vI ca, vI cb, vI na, vI nb, vI nc, vR b311, vR b317, .val q15, .val q16, .val q17, vI got, .unset]) rfl ?_
        refine o_iload X325 hx (y_ at_282) rfl ?_
        refine o_iFF X325 hx (y_ at_284) ?_
        refine o_iload X325 hx (y_ at_287) rfl ?_
        refine o_iFT (t := 362) X325 hx (y_ at_289) ?_
        refine o_iload X325 hx (y_ at_362) rfl ?_
        refine o_iFF X325 hx (y_ at_364) ?_
        refine o_aload X325 hx (y_ at_367) rfl rfl ?_
        refine o_iload X325 hx (y_ at_369) rfl ?_
        refine o_aload X325 hx (y_ at_371) rfl rfl ?_
        refine o_iload X325 hx (y_ at_373) rfl ?_
        refine o_iload X325 hx (y_ at_375) rfl ?_
        refine o_iload X325 hx (y_ at_377) rfl ?_
        refine o_isub X325 hx (y_ at_379) ?_
        refine o_sta (y := o_m3) (argsL := [(.ref b317), (.int nl), (.ref b311), (.int cl), (.int (nl - cl))]) (S := []) (W := 0) X325 hx hZ325 hown325 (k_ 122 rfl) (k_ 123 rfl) (k_ 2 rfl) (k_ 124 rfl) (backOf (W := 0) (rmat l Z a0 hw [] b317 nl b311 cl (nl - cl) k317 k311 na nb nc ca cb T325.heap n0 O325 Vn325 Vc325 hcl hnl (o_nlcl hcl hnl)) hZ325 (k_ 124 rfl) (k_ 2 rfl) (by decide) (by decide)) rfl hml (lenOf o_pd__28_5bCI_5bCII_29Z rfl) (y_ at_380) (fun T326 L326 v326 X326 hQ326 => ?_)
        obtain ⟨rfl, N326q, hh326⟩ := hQ326
        have N326 := Fr.app N325 N326q
        show o_G p e below _ T326 (mkF m 383 #[vI p1, vI p2, vI p3, vI p4, vI cl, vI nl, vI 1, vI 0, vI ca, vI cb, vI na, vI nb, vI nc, vR b311, vR b317, .val q15, .val q16, .val q17, vI got, .unset] [(.int (if o_atP na nb nc nl ca cb cl (nl - cl) then 1 else 0 : Int32))])
        refine o_istore X326 hx (y_ at_383) (A' := #[vI p1, vI p2, vI p3, vI p4, vI cl, vI nl, vI 1, vI 0, vI ca, vI cb, vI na, vI nb, vI nc, vR b311, vR b317, .val q15, .val q16, .val q17, vI got, vI (if o_atP na nb nc nl ca cb cl (nl - cl) then 1 else 0 : Int32)]) rfl ?_
        refine o_gO (t := 439) X326 hx (y_ at_385) ?_
        refine o_iload X326 hx (y_ at_439) rfl ?_
        refine o_iload X326 hx (y_ at_441) rfl ?_
        refine o_iC (t := 450) X326 hx (y_ at_443) (fun hq => ?_) (fun hq => ?_)
        · have hc443 := o_c_ne.1 hq
          exact absurd (hgot.trans (o_fin10 (B := (1 : Int32)) (A := (0 : Int32)) hcl hnl )) hc443
        have hc443 := o_c_ne.2 hq
        refine o_iconst X326 hx (y_ at_446) (x := 1) rfl ?_
        refine o_gO (t := 451) X326 hx (y_ at_447) ?_
        exact o_retNW X326 hx hS325 (by rw [hh326]; exact hk325) (t := .boolean) hrt hlk (by simp) (y_ at_451) rfl (by decide) (by decide) (o_hQ hh326 ⟨rfl, N326⟩)
      refine o_iload X323 hx (y_ at_131) rfl ?_
      refine o_iF (t := 142) X323 hx (y_ at_133) (fun hq => ?_) (fun hq => ?_)
      · have hc133 := o_h_ne.1 hq
        exact absurd hc42 hc133
      have hc133 := o_h_ne.2 hq
      obtain rfl : cl = 0 := hc133
      skip
      refine o_iconst X323 hx (y_ at_136) (x := 0) rfl ?_
      refine o_newA (cap := 0) X323 hx hZ (k_ 4 rfl) e323 (y_ at_137) (by decide) (by decide) (by decide) (by decide) (by decide) (fun T327 h327 k327 b327 X327 e327 gg327 E327 A327 => ?_)
      have g_b327 := o_fresh O323 gg327
      have O327 := Old.ext O323 E327
      have C328 := CHr.trans C324 (CHr.ext E327 C324.1)
      have V327 : Arv Z h327 b327 k327 .char (0 : Int32) [] (.int 0) := A327
      refine o_gO (t := 172) X327 hx (y_ at_139) ?_
      refine o_astore X327 hx (y_ at_172) rfl (A' := #[vI p1, vI p2, vI p3, vI p4, vI 0, vI nl, vI 1, vI 0, vI ca, vI cb, vI na, vI nb, vI nc, vR b311, vR b317, vR b327, .unset, .unset, .unset, .unset]) rfl ?_
      refine o_iload X327 hx (y_ at_174) rfl ?_
      refine o_iF (t := 185) X327 hx (y_ at_176) (fun hq => ?_) (fun hq => ?_)
      · have hc176 := o_h_ne.1 hq
        refine o_iload X327 hx (y_ at_185) rfl ?_
        refine o_iconst X327 hx (y_ at_187) (x := 1) rfl ?_
        refine o_iC (t := 202) X327 hx (y_ at_188) (fun hq => ?_) (fun hq => ?_)
        · have hc188 := o_c_ne.1 hq
          refine o_iload X327 hx (y_ at_202) rfl ?_
          refine o_iconst X327 hx (y_ at_204) (x := 2) rfl ?_
          refine o_iC (t := 224) X327 hx (y_ at_205) (fun hq => ?_) (fun hq => ?_)
          · have hc205 := o_c_ne.1 hq
            obtain rfl : nl = 3 := ((hnl.resolve_left hc176).resolve_left hc188).resolve_left hc205
            skip
            refine o_iconst X327 hx (y_ at_224) (x := 3) rfl ?_
            refine o_newA (cap := 3) X327 hx hZ (k_ 4 rfl) e327 (y_ at_225) (by decide) (by decide) (by decide) (by decide) (by decide) (fun T329 h329 k329 b329 X329 e329 gg329 E329 A329 => ?_)
            have g_b329 := o_fresh O327 gg329
            have O329 := Old.ext O327 E329
            have C330 := CHr.trans C328 (CHr.ext E329 C328.1)
            have V329 : Arv Z h329 b329 k329 .char (3 : Int32) [(.int 0), (.int 0), (.int 0)] (.int 0) := A329.pad (pad_rep [] (.int 0) 3)
            refine o_dup X329 hx (y_ at_227) rfl ?_
            refine o_iconst X329 hx (y_ at_228) (x := 0) rfl ?_
            refine o_iload X329 hx (y_ at_229) rfl ?_
            refine o_stC (i := 0) (z := na) X329 hx hZ e329 V329 (y_ at_231) ⟨by decide, by decide⟩ rfl (o_b rfl) n_na (fun T331 h331 X331 e331 W331 V331 => ?_)
            have N331 := Fr.snoc X331 N323 g_b329
            have O331 := Old.wr O329 W331 g_b329
            have C332 := CHr.trans C330 (CHr.wr W331 (Safe.arv hZ.alike V329 (by decide)) C330.1)
            refine o_dup X331 hx (y_ at_232) rfl ?_
            refine o_iconst X331 hx (y_ at_233) (x := 1) rfl ?_
            refine o_iload X331 hx (y_ at_234) rfl ?_
            refine o_stC (i := 1) (z := nb) X331 hx hZ e331 V331 (y_ at_236) ⟨by decide, by decide⟩ rfl (o_b rfl) n_nb (fun T333 h333 X333 e333 W333 V333 => ?_)
            have N333 := Fr.snoc X333 N331 g_b329
            have O333 := Old.wr O331 W333 g_b329
            have C334 := CHr.trans C332 (CHr.wr W333 (Safe.arv hZ.alike V331 (by decide)) C332.1)
            refine o_dup X333 hx (y_ at_237) rfl ?_
            refine o_iconst X333 hx (y_ at_238) (x := 2) rfl ?_
            refine o_iload X333 hx (y_ at_239) rfl ?_
            refine o_stC (i := 2) (z := nc) X333 hx hZ e333 V333 (y_ at_241) ⟨by decide, by decide⟩ rfl (o_b rfl) n_nc (fun T335 h335 X335 e335 W335 V335 => ?_)
            have N335 := Fr.snoc X335 N333 g_b329
            have O335 := Old.wr O333 W335 g_b329
            have C336 := CHr.trans C334 (CHr.wr W335 (Safe.arv hZ.alike V333 (by decide)) C334.1)
            refine o_astore X335 hx (y_ at_242) rfl (A' := #[vI p1, vI p2, vI p3, vI p4, vI 0, vI 3, vI 1, vI 0, vI ca, vI cb, vI na, vI nb, vI nc, vR b311, vR b317, vR b327, vR b329, .unset, .unset, .unset]) rfl ?_
            refine o_new X335 hx hZ hown (k_ 5 rfl) (k_ 6 rfl) (k_ 7 rfl) e335 (y_ at_244) (by decide) (by decide) (fun T337 h337 b337 X337 e337 gg337 E337 A337 D337 => ?_)
            have g_b337 := o_fresh O335 gg337
            have O337 := Old.ext O335 E337
            have C338 := CHr.trans C336 (CHr.ext E337 C336.1)
            have F337_core : Fld Z h337 b337 "org/adviceweft/pointcut/NamePattern" "core" "Ljava/lang/String;" .null := D337 (Or.inr (k_ 96 rfl)) (ty := (.object "java/lang/String")) (by decide)
            have F337_anyBefore : Fld Z h337 b337 "org/adviceweft/pointcut/NamePattern" "anyBefore" "Z" (.int 0) := D337 (Or.inr (k_ 98 rfl)) (ty := .boolean) (by decide)
            have F337_anyAfter : Fld Z h337 b337 "org/adviceweft/pointcut/NamePattern" "anyAfter" "Z" (.int 0) := D337 (Or.inr (k_ 100 rfl)) (ty := .boolean) (by decide)
            refine o_dup X337 hx (y_ at_247) rfl ?_
            refine o_new X337 hx hZ hown (k_ 8 rfl) (k_ 9 rfl) (k_ 10 rfl) e337 (y_ at_248) (by decide) (by decide) (fun T339 h339 b339 X339 e339 gg339 E339 A339 D339 => ?_)
            have g_b339 := o_fresh O337 gg339
            have O339 := Old.ext O337 E339
            have C340 := CHr.trans C338 (CHr.ext E339 C338.1)
            have F339_coder : Fld Z h339 b339 "java/lang/String" "coder" "B" (.int 0) := D339 (Or.inr (k_ 34 rfl)) (ty := .byte) (by decide)
            have F339_value : Fld Z h339 b339 "java/lang/String" "value" "[B" .null := D339 (Or.inr (k_ 36 rfl)) (ty := (.array .byte)) (by decide)
            refine o_dup X339 hx (y_ at_251) rfl ?_
            refine o_aload X339 hx (y_ at_252) rfl rfl ?_
            have c341 := (Arv.ext (Arv.ext (Arv.other (Arv.other (Arv.other (Arv.ext V327 E329) W331 (o_ng V327.lt gg329)) W333 (o_ng V327.lt gg329)) W335 (o_ng V327.lt gg329)) E337) E339)
            refine o_initH (y := o_m5) (b := b339) (argsL := [(.ref b327)]) (S := [(.ref b339), (.ref b337), (.ref b337)]) (W := 3) rfl X339 hx hZ hS0 hown (k_ 11 rfl) (k_ 12 rfl) (k_ 13 rfl) (by decide) (backOfSH (W := 3) (rmse l Z a0 hw [] b339 b327 k327 h339 n0 O339 A339 F339_value F339_coder g_b339 c341) hZ (k_ 13 rfl) (k_ 10 rfl) (by decide) (by decide) hEL C340.1) e339 (Nat.le_trans (Nat.le_trans (Nat.le_trans (Nat.le_trans (Nat.le_trans (Nat.le_trans (Nat.le_trans (Nat.le_trans (Nat.le_trans (Nat.le_trans (Nat.le_trans (Nat.le_trans (Nat.le_trans (Nat.le_trans hk0 E311.1) (Keep.of_wr W313).1) (Keep.of_wr W315).1) E317.1) (Keep.of_wr W319).1) (Keep.of_wr W321).1) (Keep.of_wr W323).1) E327.1) E329.1) (Keep.of_wr W331).1) (Keep.of_wr W333).1) (Keep.of_wr W335).1) E337.1) E339.1) (by rw [hml]; rfl) (lenOf o_pd__28_5bC_29V rfl) rfl (Nat.le_of_eq rfl) (y_ at_254) (by decide) (by decide) (fun T342 L342 v342 k342 X342 hS342 hk342 hZ342 hown342 hQ342 hC342 => ?_)
            obtain ⟨rfl, N342q, Kp342, t342, hne342, Sf342⟩ := hQ342
            have N342 := Fr.app N335 N342q
            have O343 := Old.keep O339 Kp342 (allS g_b339 all0)
            have C344 := CHr.trans C340 (hC342)
            show o_G p e below _ T342 (mkF m 257 #[vI p1, vI p2, vI p3, vI p4, vI 0, vI 3, vI 1, vI 0, vI ca, vI cb, vI na, vI nb, vI nc, vR b311, vR b317, vR b327, vR b329, .unset, .unset, .unset] [(.ref b339), (.ref b337), (.ref b337)])
            refine o_iload X342 hx (y_ at_257) rfl ?_
            refine o_iload X342 hx (y_ at_259) rfl ?_
            have c345 := (Exa.keep (Exa.ext E339 A337) Kp342)
            have c346 := (Fld.keep (Fld.ext E339 F337_core) Kp342 (ninS (o_ng A337.lt gg339) nin0))
            have c347 := (Fld.keep (Fld.ext E339 F337_anyBefore) Kp342 (ninS (o_ng A337.lt gg339) nin0))
            have c348 := (Fld.keep (Fld.ext E339 F337_anyAfter) Kp342 (ninS (o_ng A337.lt gg339) nin0))
            refine o_initH (y := o_m19) (b := b337) (argsL := [(.ref b339), (.int 1), (.int 0)]) (S := [(.ref b337)]) (W := 1) rfl X342 hx hZ342 hS342 hown342 (k_ 37 rfl) (k_ 38 rfl) (k_ 39 rfl) (by decide) (backOfSH (W := 1) (rmct0 l Z a0 hw [] b337 b339 t342  zC_ T342.heap n0 O343 c345 c346 c347 c348 g_b337 Sf342 (by decide) SC_ hC_) hZ342 (k_ 39 rfl) (k_ 7 rfl) (by decide) (by decide) hEL C344.1) rfl hk342 (by rw [hml]; rfl) (lenOf o_pd__28Ljava_2flang_2fString_3bZZ_29V rfl) rfl (Nat.le_of_eq rfl) (y_ at_261) (by decide) (by decide) (fun T349 L349 v349 k349 X349 hS349 hk349 hZ349 hown349 hQ349 hC349 => ?_)
            obtain ⟨rfl, N349q, Kp349, Ex349, Fk349, Fb349, Fa349⟩ := hQ349
            have N349 := Fr.app N342 N349q
            have O350 := Old.keep O343 Kp349 (allS g_b337 all0)
            have C351 := CHr.trans C344 (hC349)
            show o_G p e below _ T349 (mkF m 264 #[vI p1, vI p2, vI p3, vI p4, vI 0, vI 3, vI 1, vI 0, vI ca, vI cb, vI na, vI nb, vI nc, vR b311, vR b317, vR b327, vR b329, .unset, .unset, .unset] [(.ref b337)])
            refine o_astore X349 hx (y_ at_264) rfl (A' := #[vI p1, vI p2, vI p3, vI p4, vI 0, vI 3, vI 1, vI 0, vI ca, vI cb, vI na, vI nb, vI nc, vR b311, vR b317, vR b327, vR b329, vR b337, .unset, .unset]) rfl ?_
            refine o_aload X349 hx (y_ at_266) rfl rfl ?_
            refine o_new X349 hx hZ349 hown349 (k_ 8 rfl) (k_ 9 rfl) (k_ 10 rfl) rfl (y_ at_268) (by decide) (by decide) (fun T352 h352 b352 X352 e352 gg352 E352 A352 D352 => ?_)
            have g_b352 := o_fresh O350 gg352
            have O352 := Old.ext O350 E352
            have C353 := CHr.trans C351 (CHr.ext E352 C351.1)
            have F352_coder : Fld Z h352 b352 "java/lang/String" "coder" "B" (.int 0) := D352 (Or.inr (k_ 34 rfl)) (ty := .byte) (by decide)
            have F352_value : Fld Z h352 b352 "java/lang/String" "value" "[B" .null := D352 (Or.inr (k_ 36 rfl)) (ty := (.array .byte)) (by decide)
            refine o_dup X352 hx (y_ at_271) rfl ?_
            refine o_aload X352 hx (y_ at_272) rfl rfl ?_
            have c354 := (Arv.ext (Arv.keep (Arv.keep (Arv.ext (Arv.ext V335 E337) E339) Kp342 (ninS (o_ng (Nat.lt_of_lt_of_le V335.lt E337.1) gg339) nin0)) Kp349 (ninS (o_ng V335.lt gg337) nin0)) E352)
            refine o_ini (y := o_m5) (b := b352) (argsL := [(.ref b329)]) (S := [(.ref b352), (.ref b337)]) (W := 2) rfl X352 hx hZ349 hown349 (k_ 11 rfl) (k_ 12 rfl) (k_ 13 rfl) (o_newB (W := 2) (cs := ([na, nb, nc] : List Int32)) (n := 3) hZ349 hw (k_ 9 rfl) O352 g_b352 A352 F352_value F352_coder c354 SC_ hC_ rfl rfl (by decide) (by decide) (o_csS ⟨l_na, u_na⟩ (o_csS ⟨l_nb, u_nb⟩ (o_csS ⟨l_nc, u_nc⟩ o_cs0))) (by decide) (by decide)) e352 hml (lenOf o_pd__28_5bC_29V rfl) (y_ at_274) (fun T355 L355 v355 X355 hQ355 => ?_)
            obtain ⟨rfl, Nq355, Kp355, t355, g_t355, ht355, hne355, Sf355⟩ := hQ355
            have N355 := Fr.app N349 Nq355
            have O356 := Old.keep O352 Kp355 (allS g_b352 all0)
            have C357 := CHr.trans C353 (CHr.keep Kp355 (sfS (o_safeN hZ349.alike A352 F352_value) sf0) C353.1)
            show o_G p e below _ T355 (mkF m 277 #[vI p1, vI p2, vI p3, vI p4, vI 0, vI 3, vI 1, vI 0, vI ca, vI cb, vI na, vI nb, vI nc, vR b311, vR b317, vR b327, vR b329, vR b337, .unset, .unset] [(.ref b352), (.ref b337)])
            have c358 := (Fld.keep (Fld.ext E352 Fk349) Kp355 (ninS (o_ng Ex349.lt gg352) nin0))
            have c359 := (Fld.keep (Fld.ext E352 Fb349) Kp355 (ninS (o_ng Ex349.lt gg352) nin0))
            have c360 := (Fld.keep (Fld.ext E352 Fa349) Kp355 (ninS (o_ng Ex349.lt gg352) nin0))
            have c361 := (o_Str.keep (o_Str.ext E352 (o_Str.keep Sf342 Kp349 (ninS (Ne.symm (o_ng A337.lt gg339)) nin0) (ninS (Ne.symm (o_Str.neT Sf342 c345 (k_ 6 rfl))) nin0))) Kp355 (ninS (o_ng (Nat.lt_of_lt_of_le Sf342.lt Kp349.1) gg352) nin0) (ninS (o_ng (Nat.lt_of_lt_of_le Sf342.lt2 Kp349.1) gg352) nin0))
            have c363 := (Exa.keep (Exa.ext E352 Ex349) Kp355)
            refine o_vir (y := o_m21) (b := b337) (argsL := [(.ref b352)]) (S := []) (W := 0) X355 hx hZ349 hown349 (k_ 102 rfl) (k_ 103 rfl) (k_ 105 rfl) (k_ 104 rfl) (backOf (W := 0) (rmmt3_0 l Z a0 hw [] b337 b352 b339 t342 t355 na nb nc zC_ T355.heap n0 O356 c358 c359 c360 c361 Sf355 SC_ hC_) hZ349 (k_ 106 rfl) (k_ 7 rfl) (by decide) (by decide)) rfl c363 hml (lenOf o_pd__28Ljava_2flang_2fString_3b_29Z rfl) (y_ at_277) (fun T362 L362 v362 X362 hQ362 => ?_)
            obtain ⟨rfl, N362q, hh362⟩ := hQ362
            have N362 := Fr.app N355 N362q
            show o_G p e below _ T362 (mkF m 280 #[vI p1, vI p2, vI p3, vI p4, vI 0, vI 3, vI 1, vI 0, vI ca, vI cb, vI na, vI nb, vI nc, vR b311, vR b317, vR b327, vR b329, vR b337, .unset, .unset] [(.int ((if o_pref ([] : List Int32) ([] : List Int32) = true then 1 else 0) : Int32))])
            have c364 := (Arv.keep (Arv.ext (Arv.keep (Arv.keep (Arv.ext (Arv.ext (Arv.other (Arv.other (Arv.other (Arv.ext (Arv.ext V323 E327) E329) W331 (o_ng (Nat.lt_of_lt_of_le V323.lt E327.1) gg329)) W333 (o_ng (Nat.lt_of_lt_of_le V323.lt E327.1) gg329)) W335 (o_ng (Nat.lt_of_lt_of_le V323.lt E327.1) gg329)) E337) E339) Kp342 (ninS (o_ng (Nat.lt_of_lt_of_le V323.lt (Nat.le_trans (Nat.le_trans (Nat.le_trans (Nat.le_trans (Nat.le_trans E327.1 E329.1) (Keep.of_wr W331).1) (Keep.of_wr W333).1) (Keep.of_wr W335).1) E337.1)) gg339) nin0)) Kp349 (ninS (o_ng (Nat.lt_of_lt_of_le V323.lt (Nat.le_trans (Nat.le_trans (Nat.le_trans (Nat.le_trans E327.1 E329.1) (Keep.of_wr W331).1) (Keep.of_wr W333).1) (Keep.of_wr W335).1)) gg337) nin0)) E352) Kp355 (ninS (o_ng (Nat.lt_of_lt_of_le V323.lt (Nat.le_trans (Nat.le_trans (Nat.le_trans (Nat.le_trans (Nat.le_trans (Nat.le_trans (Nat.le_trans (Nat.le_trans E327.1 E329.1) (Keep.of_wr W331).1) (Keep.of_wr W333).1) (Keep.of_wr W335).1) E337.1) E339.1) Kp342.1) Kp349.1)) gg352) nin0))
            have c365 := (Arv.keep (Arv.ext (Arv.keep (Arv.keep (Arv.ext (Arv.ext (Arv.other (Arv.other (Arv.other (Arv.ext (Arv.ext (Arv.other (Arv.other (Arv.other (Arv.ext V315 E317) W319 (o_ng V315.lt gg317)) W321 (o_ng V315.lt gg317)) W323 (o_ng V315.lt gg317)) E327) E329) W331 (o_ng (Nat.lt_of_lt_of_le V315.lt (Nat.le_trans (Nat.le_trans (Nat.le_trans (Nat.le_trans E317.1 (Keep.of_wr W319).1) (Keep.of_wr W321).1) (Keep.of_wr W323).1) E327.1)) gg329)) W333 (o_ng (Nat.lt_of_lt_of_le V315.lt (Nat.le_trans (Nat.le_trans (Nat.le_trans (Nat.le_trans E317.1 (Keep.of_wr W319).1) (Keep.of_wr W321).1) (Keep.of_wr W323).1) E327.1)) gg329)) W335 (o_ng (Nat.lt_of_lt_of_le V315.lt (Nat.le_trans (Nat.le_trans (Nat.le_trans (Nat.le_trans E317.1 (Keep.of_wr W319).1) (Keep.of_wr W321).1) (Keep.of_wr W323).1) E327.1)) gg329)) E337) E339) Kp342 (ninS (o_ng (Nat.lt_of_lt_of_le V315.lt (Nat.le_trans (Nat.le_trans (Nat.le_trans (Nat.le_trans (Nat.le_trans (Nat.le_trans (Nat.le_trans (Nat.le_trans (Nat.le_trans E317.1 (Keep.of_wr W319).1) (Keep.of_wr W321).1) (Keep.of_wr W323).1) E327.1) E329.1) (Keep.of_wr W331).1) (Keep.of_wr W333).1) (Keep.of_wr W335).1) E337.1)) gg339) nin0)) Kp349 (ninS (o_ng (Nat.lt_of_lt_of_le V315.lt (Nat.le_trans (Nat.le_trans (Nat.le_trans (Nat.le_trans (Nat.le_trans (Nat.le_trans (Nat.le_trans (Nat.le_trans E317.1 (Keep.of_wr W319).1) (Keep.of_wr W321).1) (Keep.of_wr W323).1) E327.1) E329.1) (Keep.of_wr W331).1) (Keep.of_wr W333).1) (Keep.of_wr W335).1)) gg337) nin0)) E352) Kp355 (ninS (o_ng (Nat.lt_of_lt_of_le V315.lt (Nat.le_trans (Nat.le_trans (Nat.le_trans (Nat.le_trans (Nat.le_trans (Nat.le_trans (Nat.le_trans (Nat.le_trans (Nat.le_trans (Nat.le_trans (Nat.le_trans (Nat.le_trans E317.1 (Keep.of_wr W319).1) (Keep.of_wr W321).1) (Keep.of_wr W323).1) E327.1) E329.1) (Keep.of_wr W331).1) (Keep.of_wr W333).1) (Keep.of_wr W335).1) E337.1) E339.1) Kp342.1) Kp349.1)) gg352) nin0))
            exact J280 _ _ _ _ (o_up X362 (by decide) (by decide)) hS349 (by rw [hh362]; exact (Nat.le_trans (Nat.le_trans hk349 E352.1) Kp355.1)) hZ349 hown349 N362 (by rw [hh362]; exact O356) (((if o_pref ([] : List Int32) ([] : List Int32) = true then 1 else 0) : Int32), .ref b327, .ref b329, .ref b337) ⟨o_gt0_3 (B := (1 : Int32)) (A := (0 : Int32)), by rw [hh362]; exact c364, by rw [hh362]; exact c365⟩
          have hc205 := o_c_ne.2 hq
          obtain rfl : nl = 2 := hc205
          skip
          refine o_iconst X327 hx (y_ at_208) (x := 2) rfl ?_
          refine o_newA (cap := 2) X327 hx hZ (k_ 4 rfl) e327 (y_ at_209) (by decide) (by decide) (by decide) (by decide) (by decide) (fun T366 h366 k366 b366 X366 e366 gg366 E366 A366 => ?_)
          have g_b366 := o_fresh O327 gg366
          have O366 := Old.ext O327 E366
          have C367 := CHr.trans C328 (CHr.ext E366 C328.1)
          have V366 : Arv Z h366 b366 k366 .char (2 : Int32) [(.int 0), (.int 0)] (.int 0) := A366.pad (pad_rep [] (.int 0) 2)
          refine o_dup X366 hx (y_ at_211) rfl ?_
          refine o_iconst X366 hx (y_ at_212) (x := 0) rfl ?_
          refine o_iload X366 hx (y_ at_213) rfl ?_
          refine o_stC (i := 0) (z := na) X366 hx hZ e366 V366 (y_ at_215) ⟨by decide, by decide⟩ rfl (o_b rfl) n_na (fun T368 h368 X368 e368 W368 V368 => ?_)
          have N368 := Fr.snoc X368 N323 g_b366
          have O368 := Old.wr O366 W368 g_b366
          have C369 := CHr.trans C367 (CHr.wr W368 (Safe.arv hZ.alike V366 (by decide)) C367.1)
          refine o_dup X368 hx (y_ at_216) rfl ?_
          refine o_iconst X368 hx (y_ at_217) (x := 1) rfl ?_
          refine o_iload X368 hx (y_ at_218) rfl ?_
          refine o_stC (i := 1) (z := nb) X368 hx hZ e368 V368 (y_ at_220) ⟨by decide, by decide⟩ rfl (o_b rfl) n_nb (fun T370 h370 X370 e370 W370 V370 => ?_)
          have N370 := Fr.snoc X370 N368 g_b366
          have O370 := Old.wr O368 W370 g_b366
          have C371 := CHr.trans C369 (CHr.wr W370 (Safe.arv hZ.alike V368 (by decide)) C369.1)
          refine o_gO (t := 242) X370 hx (y_ at_221) ?_
          refine o_astore X370 hx (y_ at_242) rfl (A' := #[vI p1, vI p2, vI p3, vI p4, vI 0, vI 2, vI 1, vI 0, vI ca, vI cb, vI na, vI nb, vI nc, vR b311, vR b317, vR b327, vR b366, .unset, .unset, .unset]) rfl ?_
          refine o_new X370 hx hZ hown (k_ 5 rfl) (k_ 6 rfl) (k_ 7 rfl) e370 (y_ at_244) (by decide) (by decide) (fun T372 h372 b372 X372 e372 gg372 E372 A372 D372 => ?_)
          have g_b372 := o_fresh O370 gg372
          have O372 := Old.ext O370 E372
          have C373 := CHr.trans C371 (CHr.ext E372 C371.1)
          have F372_core : Fld Z h372 b372 "org/adviceweft/pointcut/NamePattern" "core" "Ljava/lang/String;" .null := D372 (Or.inr (k_ 96 rfl)) (ty := (.object "java/lang/String")) (by decide)
          have F372_anyBefore : Fld Z h372 b372 "org/adviceweft/pointcut/NamePattern" "anyBefore" "Z" (.int 0) := D372 (Or.inr (k_ 98 rfl)) (ty := .boolean) (by decide)
          have F372_anyAfter : Fld Z h372 b372 "org/adviceweft/pointcut/NamePattern" "anyAfter" "Z" (.int 0) := D372 (Or.inr (k_ 100 rfl)) (ty := .boolean) (by decide)
          refine o_dup X372 hx (y_ at_247) rfl ?_
          refine o_new X372 hx hZ hown (k_ 8 rfl) (k_ 9 rfl) (k_ 10 rfl) e372 (y_ at_248) (by decide) (by decide) (fun T374 h374 b374 X374 e374 gg374 E374 A374 D374 => ?_)
          have g_b374 := o_fresh O372 gg374
          have O374 := Old.ext O372 E374
          have C375 := CHr.trans C373 (CHr.ext E374 C373.1)
          have F374_coder : Fld Z h374 b374 "java/lang/String" "coder" "B" (.int 0) := D374 (Or.inr (k_ 34 rfl)) (ty := .byte) (by decide)
          have F374_value : Fld Z h374 b374 "java/lang/String" "value" "[B" .null := D374 (Or.inr (k_ 36 rfl)) (ty := (.array .byte)) (by decide)
          refine o_dup X374 hx (y_ at_251) rfl ?_
          refine o_aload X374 hx (y_ at_252) rfl rfl ?_
          have c376 := (Arv.ext (Arv.ext (Arv.other (Arv.other (Arv.ext V327 E366) W368 (o_ng V327.lt gg366)) W370 (o_ng V327.lt gg366)) E372) E374)
          refine o_initH (y := o_m5) (b := b374) (argsL := [(.ref b327)]) (S := [(.ref b374), (.ref b372), (.ref b372)]) (W := 3) rfl X374 hx hZ hS0 hown (k_ 11 rfl) (k_ 12 rfl) (k_ 13 rfl) (by decide) (backOfSH (W := 3) (rmse l Z a0 hw [] b374 b327 k327 h374 n0 O374 A374 F374_value F374_coder g_b374 c376) hZ (k_ 13 rfl) (k_ 10 rfl) (by decide) (by decide) hEL C375.1) e374 (Nat.le_trans (Nat.le_trans (Nat.le_trans (Nat.le_trans (Nat.le_trans (Nat.le_trans (Nat.le_trans (Nat.le_trans (Nat.le_trans (Nat.le_trans (Nat.le_trans (Nat.le_trans (Nat.le_trans hk0 E311.1) (Keep.of_wr W313).1) (Keep.of_wr W315).1) E317.1) (Keep.of_wr W319).1) (Keep.of_wr W321).1) (Keep.of_wr W323).1) E327.1) E366.1) (Keep.of_wr W368).1) (Keep.of_wr W370).1) E372.1) E374.1) (by rw [hml]; rfl) (lenOf o_pd__28_5bC_29V rfl) rfl (Nat.le_of_eq rfl) (y_ at_254) (by decide) (by decide) (fun T377 L377 v377 k377 X377 hS377 hk377 hZ377 hown377 hQ377 hC377 => ?_)
          obtain ⟨rfl, N377q, Kp377, t377, hne377, Sf377⟩ := hQ377
          have N377 := Fr.app N370 N377q
          have O378 := Old.keep O374 Kp377 (allS g_b374 all0)
          have C379 := CHr.trans C375 (hC377)
          show o_G p e below _ T377 (mkF m 257 #[vI p1, vI p2, vI p3, vI p4, vI 0, vI 2, vI 1, vI 0, vI ca, vI cb, vI na, vI nb, vI nc, vR b311, vR b317, vR b327, vR b366, .unset, .unset, .unset] [(.ref b374), (.ref b372), (.ref b372)])
          refine o_iload X377 hx (y_ at_257) rfl ?_
          refine o_iload X377 hx (y_ at_259) rfl ?_
          have c380 := (Exa.keep (Exa.ext E374 A372) Kp377)
          have c381 := (Fld.keep (Fld.ext E374 F372_core) Kp377 (ninS (o_ng A372.lt gg374) nin0))
          have c382 := (Fld.keep (Fld.ext E374 F372_anyBefore) Kp377 (ninS (o_ng A372.lt gg374) nin0))
          have c383 := (Fld.keep (Fld.ext E374 F372_anyAfter) Kp377 (ninS (o_ng A372.lt gg374) nin0))
          refine o_initH (y := o_m19) (b := b372) (argsL := [(.ref b374), (.int 1), (.int 0)]) (S := [(.ref b372)]) (W := 1) rfl X377 hx hZ377 hS377 hown377 (k_ 37 rfl) (k_ 38 rfl) (k_ 39 rfl) (by decide) (backOfSH (W := 1) (rmct0 l Z a0 hw [] b372 b374 t377  zC_ T377.heap n0 O378 c380 c381 c382 c383 g_b372 Sf377 (by decide) SC_ hC_) hZ377 (k_ 39 rfl) (k_ 7 rfl) (by decide) (by decide) hEL C379.1) rfl hk377 (by rw [hml]; rfl) (lenOf o_pd__28Ljava_2flang_2fString_3bZZ_29V rfl) rfl (Nat.le_of_eq rfl) (y_ at_261) (by decide) (by decide) (fun T384 L384 v384 k384 X384 hS384 hk384 hZ384 hown384 hQ384 hC384 => ?_)
          obtain ⟨rfl, N384q, Kp384, Ex384, Fk384, Fb384, Fa384⟩ := hQ384
          have N384 := Fr.app N377 N384q
          have O385 := Old.keep O378 Kp384 (allS g_b372 all0)
          have C386 := CHr.trans C379 (hC384)
          show o_G p e below _ T384 (mkF m 264 #[vI p1, vI p2, vI p3, vI p4, vI 0, vI 2, vI 1, vI 0, vI ca, vI cb, vI na, vI nb, vI nc, vR b311, vR b317, vR b327, vR b366, .unset, .unset, .unset] [(.ref b372)])
          refine o_astore X384 hx (y_ at_264) rfl (A' := #[vI p1, vI p2, vI p3, vI p4, vI 0, vI 2, vI 1, vI 0, vI ca, vI cb, vI na, vI nb, vI nc, vR b311, vR b317, vR b327, vR b366, vR b372, .unset, .unset]) rfl ?_
          refine o_aload X384 hx (y_ at_266) rfl rfl ?_
          refine o_new X384 hx hZ384 hown384 (k_ 8 rfl) (k_ 9 rfl) (k_ 10 rfl) rfl (y_ at_268) (by decide) (by decide) (fun T387 h387 b387 X387 e387 gg387 E387 A387 D387 => ?_)
          have g_b387 := o_fresh O385 gg387
          have O387 := Old.ext O385 E387
          have C388 := CHr.trans C386 (CHr.ext E387 C386.1)
          have F387_coder : Fld Z h387 b387 "java/lang/String" "coder" "B" (.int 0) := D387 (Or.inr (k_ 34 rfl)) (ty := .byte) (by decide)
          have F387_value : Fld Z h387 b387 "java/lang/String" "value" "[B" .null := D387 (Or.inr (k_ 36 rfl)) (ty := (.array .byte)) (by decide)
          refine o_dup X387 hx (y_ at_271) rfl ?_
          refine o_aload X387 hx (y_ at_272) rfl rfl ?_
          have c389 := (Arv.ext (Arv.keep (Arv.keep (Arv.ext (Arv.ext V370 E372) E374) Kp377 (ninS (o_ng (Nat.lt_of_lt_of_le V370.lt E372.1) gg374) nin0)) Kp384 (ninS (o_ng V370.lt gg372) nin0)) E387)
          refine o_ini (y := o_m5) (b := b387) (argsL := [(.ref b366)]) (S := [(.ref b387), (.ref b372)]) (W := 2) rfl X387 hx hZ384 hown384 (k_ 11 rfl) (k_ 12 rfl) (k_ 13 rfl) (o_newB (W := 2) (cs := ([na, nb] : List Int32)) (n := 2) hZ384 hw (k_ 9 rfl) O387 g_b387 A387 F387_value F387_coder c389 SC_ hC_ rfl rfl (by decide) (by decide) (o_csS ⟨l_na, u_na⟩ (o_csS ⟨l_nb, u_nb⟩ o_cs0)) (by decide) (by decide)) e387 hml (lenOf o_pd__28_5bC_29V rfl) (y_ at_274) (fun T390 L390 v390 X390 hQ390 => ?_)
          obtain ⟨rfl, Nq390, Kp390, t390, g_t390, ht390, hne390, Sf390⟩ := hQ390
          have N390 := Fr.app N384 Nq390
          have O391 := Old.keep O387 Kp390 (allS g_b387 all0)
          have C392 := CHr.trans C388 (CHr.keep Kp390 (sfS (o_safeN hZ384.alike A387 F387_value) sf0) C388.1)
          show o_G p e below _ T390 (mkF m 277 #[vI p1, vI p2, vI p3, vI p4, vI 0, vI 2, vI 1, vI 0, vI ca, vI cb, vI na, vI nb, vI nc, vR b311, vR b317, vR b327, vR b366, vR b372, .unset, .unset] [(.ref b387), (.ref b372)])
          have c393 := (Fld.keep (Fld.ext E387 Fk384) Kp390 (ninS (o_ng Ex384.lt gg387) nin0))
          have c394 := (Fld.keep (Fld.ext E387 Fb384) Kp390 (ninS (o_ng Ex384.lt gg387) nin0))
          have c395 := (Fld.keep (Fld.ext E387 Fa384) Kp390 (ninS (o_ng Ex384.lt gg387) nin0))
          have c396 := (o_Str.keep (o_Str.ext E387 (o_Str.keep Sf377 Kp384 (ninS (Ne.symm (o_ng A372.lt gg374)) nin0) (ninS (Ne.symm (o_Str.neT Sf377 c380 (k_ 6 rfl))) nin0))) Kp390 (ninS (o_ng (Nat.lt_of_lt_of_le Sf377.lt Kp384.1) gg387) nin0) (ninS (o_ng (Nat.lt_of_lt_of_le Sf377.lt2 Kp384.1) gg387) nin0))
          have c398 := (Exa.keep (Exa.ext E387 Ex384) Kp390)
          refine o_vir (y := o_m21) (b := b372) (argsL := [(.ref b387)]) (S := []) (W := 0) X390 hx hZ384 hown384 (k_ 102 rfl) (k_ 103 rfl) (k_ 105 rfl) (k_ 104 rfl) (backOf (W := 0) (rmmt2_0 l Z a0 hw [] b372 b387 b374 t377 t390 na nb zC_ T390.heap n0 O391 c393 c394 c395 c396 Sf390 SC_ hC_) hZ384 (k_ 106 rfl) (k_ 7 rfl) (by decide) (by decide)) rfl c398 hml (lenOf o_pd__28Ljava_2flang_2fString_3b_29Z rfl) (y_ at_277) (fun T397 L397 v397 X397 hQ397 => ?_)
          obtain ⟨rfl, N397q, hh397⟩ := hQ397
          have N397 := Fr.app N390 N397q
          show o_G p e below _ T397 (mkF m 280 #[vI p1, vI p2, vI p3, vI p4, vI 0, vI 2, vI 1, vI 0, vI ca, vI cb, vI na, vI nb, vI nc, vR b311, vR b317, vR b327, vR b366, vR b372, .unset, .unset] [(.int ((if o_pref ([] : List Int32) ([] : List Int32) = true then 1 else 0) : Int32))])
          have c399 := (Arv.keep (Arv.ext (Arv.keep (Arv.keep (Arv.ext (Arv.ext (Arv.other (Arv.other (Arv.ext (Arv.ext V323 E327) E366) W368 (o_ng (Nat.lt_of_lt_of_le V323.lt E327.1) gg366)) W370 (o_ng (Nat.lt_of_lt_of_le V323.lt E327.1) gg366)) E372) E374) Kp377 (ninS (o_ng (Nat.lt_of_lt_of_le V323.lt (Nat.le_trans (Nat.le_trans (Nat.le_trans (Nat.le_trans E327.1 E366.1) (Keep.of_wr W368).1) (Keep.of_wr W370).1) E372.1)) gg374) nin0)) Kp384 (ninS (o_ng (Nat.lt_of_lt_of_le V323.lt (Nat.le_trans (Nat.le_trans (Nat.le_trans E327.1 E366.1) (Keep.of_wr W368).1) (Keep.of_wr W370).1)) gg372) nin0)) E387) Kp390 (ninS (o_ng (Nat.lt_of_lt_of_le V323.lt (Nat.le_trans (Nat.le_trans (Nat.le_trans (Nat.le_trans (Nat.le_trans (Nat.le_trans (Nat.le_trans E327.1 E366.1) (Keep.of_wr W368).1) (Keep.of_wr W370).1) E372.1) E374.1) Kp377.1) Kp384.1)) gg387) nin0))
          have c400 := (Arv.keep (Arv.ext (Arv.keep (Arv.keep (Arv.ext (Arv.ext (Arv.other (Arv.other (Arv.ext (Arv.ext (Arv.other (Arv.other (Arv.other (Arv.ext V315 E317) W319 (o_ng V315.lt gg317)) W321 (o_ng V315.lt gg317)) W323 (o_ng V315.lt gg317)) E327) E366) W368 (o_ng (Nat.lt_of_lt_of_le V315.lt (Nat.le_trans (Nat.le_trans (Nat.le_trans (Nat.le_trans E317.1 (Keep.of_wr W319).1) (Keep.of_wr W321).1) (Keep.of_wr W323).1) E327.1)) gg366)) W370 (o_ng (Nat.lt_of_lt_of_le V315.lt (Nat.le_trans (Nat.le_trans (Nat.le_trans (Nat.le_trans E317.1 (Keep.of_wr W319).1) (Keep.of_wr W321).1) (Keep.of_wr W323).1) E327.1)) gg366)) E372) E374) Kp377 (ninS (o_ng (Nat.lt_of_lt_of_le V315.lt (Nat.le_trans (Nat.le_trans (Nat.le_trans (Nat.le_trans (Nat.le_trans (Nat.le_trans (Nat.le_trans (Nat.le_trans E317.1 (Keep.of_wr W319).1) (Keep.of_wr W321).1) (Keep.of_wr W323).1) E327.1) E366.1) (Keep.of_wr W368).1) (Keep.of_wr W370).1) E372.1)) gg374) nin0)) Kp384 (ninS (o_ng (Nat.lt_of_lt_of_le V315.lt (Nat.le_trans (Nat.le_trans (Nat.le_trans (Nat.le_trans (Nat.le_trans (Nat.le_trans (Nat.le_trans E317.1 (Keep.of_wr W319).1) (Keep.of_wr W321).1) (Keep.of_wr W323).1) E327.1) E366.1) (Keep.of_wr W368).1) (Keep.of_wr W370).1)) gg372) nin0)) E387) Kp390 (ninS (o_ng (Nat.lt_of_lt_of_le V315.lt (Nat.le_trans (Nat.le_trans (Nat.le_trans (Nat.le_trans (Nat.le_trans (Nat.le_trans (Nat.le_trans (Nat.le_trans (Nat.le_trans (Nat.le_trans (Nat.le_trans E317.1 (Keep.of_wr W319).1) (Keep.of_wr W321).1) (Keep.of_wr W323).1) E327.1) E366.1) (Keep.of_wr W368).1) (Keep.of_wr W370).1) E372.1) E374.1) Kp377.1) Kp384.1)) gg387) nin0))
          exact J280 _ _ _ _ (o_up X397 (by decide) (by decide)) hS384 (by rw [hh397]; exact (Nat.le_trans (Nat.le_trans hk384 E387.1) Kp390.1)) hZ384 hown384 N397 (by rw [hh397]; exact O391) (((if o_pref ([] : List Int32) ([] : List Int32) = true then 1 else 0) : Int32), .ref b327, .ref b366, .ref b372) ⟨o_gt0_2 (B := (1 : Int32)) (A := (0 : Int32)), by rw [hh397]; exact c399, by rw [hh397]; exact c400⟩
        have hc188 := o_c_ne.2 hq
        obtain rfl : nl = 1 := hc188
        skip
        refine o_iconst X327 hx (y_ at_191) (x := 1) rfl ?_
        refine o_newA (cap := 1) X327 hx hZ (k_ 4 rfl) e327 (y_ at_192) (by decide) (by decide) (by decide) (by decide) (by decide) (fun T401 h401 k401 b401 X401 e401 gg401 E401 A401 => ?_)
        have g_b401 := o_fresh O327 gg401
        have O401 := Old.ext O327 E401
        have C402 := CHr.trans C328 (CHr.ext E401 C328.1)
        have V401 : Arv Z h401 b401 k401 .char (1 : Int32) [(.int 0)] (.int 0) := A401.pad (pad_rep [] (.int 0) 1)
        refine o_dup X401 hx (y_ at_194) rfl ?_
        refine o_iconst X401 hx (y_ at_195) (x := 0) rfl ?_
        refine o_iload X401 hx (y_ at_196) rfl ?_
        refine o_stC (i := 0) (z := na) X401 hx hZ e401 V401 (y_ at_198) ⟨by decide, by decide⟩ rfl (o_b rfl) n_na (fun T403 h403 X403 e403 W403 V403 => ?_)
        have N403 := Fr.snoc X403 N323 g_b401
        have O403 := Old.wr O401 W403 g_b401
        have C404 := CHr.trans C402 (CHr.wr W403 (Safe.arv hZ.alike V401 (by decide)) C402.1)
        refine o_gO (t := 242) X403 hx (y_ at_199) ?_
        refine o_astore X403 hx (y_ at_242) rfl (A' := #[vI p1, vI p2, vI p3, vI p4, vI 0, vI 1, vI 1, vI 0, vI ca, vI cb, vI na, vI nb, vI nc, vR b311, vR b317, vR b327, vR b401, .unset, .unset, .unset]) rfl ?_
        refine o_new X403 hx hZ hown (k_ 5 rfl) (k_ 6 rfl) (k_ 7 rfl) e403 (y_ at_244) (by decide) (by decide) (fun T405 h405 b405 X405 e405 gg405 E405 A405 D405 => ?_)
        have g_b405 := o_fresh O403 gg405
        have O405 := Old.ext O403 E405
        have C406 := CHr.trans C404 (CHr.ext E405 C404.1)
        have F405_core : Fld Z h405 b405 "org/adviceweft/pointcut/NamePattern" "core" "Ljava/lang/String;" .null := D405 (Or.inr (k_ 96 rfl)) (ty := (.object "java/lang/String")) (by decide)
        have F405_anyBefore : Fld Z h405 b405 "org/adviceweft/pointcut/NamePattern" "anyBefore" "Z" (.int 0) := D405 (Or.inr (k_ 98 rfl)) (ty := .boolean) (by decide)
        have F405_anyAfter : Fld Z h405 b405 "org/adviceweft/pointcut/NamePattern" "anyAfter" "Z" (.int 0) := D405 (Or.inr (k_ 100 rfl)) (ty := .boolean) (by decide)
        refine o_dup X405 hx (y_ at_247) rfl ?_
        refine o_new X405 hx hZ hown (k_ 8 rfl) (k_ 9 rfl) (k_ 10 rfl) e405 (y_ at_248) (by decide) (by decide) (fun T407 h407 b407 X407 e407 gg407 E407 A407 D407 => ?_)
        have g_b407 := o_fresh O405 gg407
        have O407 := Old.ext O405 E407
        have C408 := CHr.trans C406 (CHr.ext E407 C406.1)
        have F407_coder : Fld Z h407 b407 "java/lang/String" "coder" "B" (.int 0) := D407 (Or.inr (k_ 34 rfl)) (ty := .byte) (by decide)
        have F407_value : Fld Z h407 b407 "java/lang/String" "value" "[B" .null := D407 (Or.inr (k_ 36 rfl)) (ty := (.array .byte)) (by decide)
        refine o_dup X407 hx (y_ at_251) rfl ?_
        refine o_aload X407 hx (y_ at_252) rfl rfl ?_
        have c409 := (Arv.ext (Arv.ext (Arv.other (Arv.ext V327 E401) W403 (o_ng V327.lt gg401)) E405) E407)
        refine o_initH (y := o_m5) (b := b407) (argsL := [(.ref b327)]) (S := [(.ref b407), (.ref b405), (.ref b405)]) (W := 3) rfl X407 hx hZ hS0 hown (k_ 11 rfl) (k_ 12 rfl) (k_ 13 rfl) (by decide) (backOfSH (W := 3) (rmse l Z a0 hw [] b407 b327 k327 h407 n0 O407 A407 F407_value F407_coder g_b407 c409) hZ (k_ 13 rfl) (k_ 10 rfl) (by decide) (by decide) hEL C408.1) e407 (Nat.le_trans (Nat.le_trans (Nat.le_trans (Nat.le_trans (Nat.le_trans (Nat.le_trans (Nat.le_trans (Nat.le_trans (Nat.le_trans (Nat.le_trans (Nat.le_trans (Nat.le_trans hk0 E311.1) (Keep.of_wr W313).1) (Keep.of_wr W315).1) E317.1) (Keep.of_wr W319).1) (Keep.of_wr W321).1) (Keep.of_wr W323).1) E327.1) E401.1) (Keep.of_wr W403).1) E405.1) E407.1) (by rw [hml]; rfl) (lenOf o_pd__28_5bC_29V rfl) rfl (Nat.le_of_eq rfl) (y_ at_254) (by decide) (by decide) (fun T410 L410 v410 k410 X410 hS410 hk410 hZ410 hown410 hQ410 hC410 => ?_)
        obtain ⟨rfl, N410q, Kp410, t410, hne410, Sf410⟩ := hQ410
        have N410 := Fr.app N403 N410q
        have O411 := Old.keep O407 Kp410 (allS g_b407 all0)
        have C412 := CHr.trans C408 (hC410)
        show o_G p e below _ T410 (mkF m 257 #[vI p1, vI p2, vI p3, vI p4, vI 0, vI 1, vI 1, vI 0, vI ca, vI cb, vI na, vI nb, vI nc, vR b311, vR b317, vR b327, vR b401, .unset, .unset, .unset] [(.ref b407), (.ref b405), (.ref b405)])
        refine o_iload X410 hx (y_ at_257) rfl ?_
        refine o_iload X410 hx (y_ at_259) rfl ?_
        have c413 := (Exa.keep (Exa.ext E407 A405) Kp410)
        have c414 := (Fld.keep (Fld.ext E407 F405_core) Kp410 (ninS (o_ng A405.lt gg407) nin0))
        have c415 := (Fld.keep (Fld.ext E407 F405_anyBefore) Kp410 (ninS (o_ng A405.lt gg407) nin0))
        have c416 := (Fld.keep (Fld.ext E407 F405_anyAfter) Kp410 (ninS (o_ng A405.lt gg407) nin0))
        refine o_initH (y := o_m19) (b := b405) (argsL := [(.ref b407), (.int 1), (.int 0)]) (S := [(.ref b405)]) (W := 1) rfl X410 hx hZ410 hS410 hown410 (k_ 37 rfl) (k_ 38 rfl) (k_ 39 rfl) (by decide) (backOfSH (W := 1) (rmct0 l Z a0 hw [] b405 b407 t410  zC_ T410.heap n0 O411 c413 c414 c415 c416 g_b405 Sf410 (by decide) SC_ hC_) hZ410 (k_ 39 rfl) (k_ 7 rfl) (by decide) (by decide) hEL C412.1) rfl hk410 (by rw [hml]; rfl) (lenOf o_pd__28Ljava_2flang_2fString_3bZZ_29V rfl) rfl (Nat.le_of_eq rfl) (y_ at_261) (by decide) (by decide) (fun T417 L417 v417 k417 X417 hS417 hk417 hZ417 hown417 hQ417 hC417 => ?_)
        obtain ⟨rfl, N417q, Kp417, Ex417, Fk417, Fb417, Fa417⟩ := hQ417
        have N417 := Fr.app N410 N417q
        have O418 := Old.keep O411 Kp417 (allS g_b405 all0)
        have C419 := CHr.trans C412 (hC417)
        show o_G p e below _ T417 (mkF m 264 #[vI p1, vI p2, vI p3, vI p4, vI 0, vI 1, vI 1, vI 0, vI ca, vI cb, vI na, vI nb, vI nc, vR b311, vR b317, vR b327, vR b401, .unset, .unset, .unset] [(.ref b405)])
        refine o_astore X417 hx (y_ at_264) rfl (A' := #[vI p1, vI p2, vI p3, vI p4, vI 0, vI 1, vI 1, vI 0, vI ca, vI cb, vI na, vI nb, vI nc, vR b311, vR b317, vR b327, vR b401, vR b405, .unset, .unset]) rfl ?_
        refine o_aload X417 hx (y_ at_266) rfl rfl ?_
        refine o_new X417 hx hZ417 hown417 (k_ 8 rfl) (k_ 9 rfl) (k_ 10 rfl) rfl (y_ at_268) (by decide) (by decide) (fun T420 h420 b420 X420 e420 gg420 E420 A420 D420 => ?_)
        have g_b420 := o_fresh O418 gg420
        have O420 := Old.ext O418 E420
        have C421 := CHr.trans C419 (CHr.ext E420 C419.1)
        have F420_coder : Fld Z h420 b420 "java/lang/String" "coder" "B" (.int 0) := D420 (Or.inr (k_ 34 rfl)) (ty := .byte) (by decide)
        have F420_value : Fld Z h420 b420 "java/lang/String" "value" "[B" .null := D420 (Or.inr (k_ 36 rfl)) (ty := (.array .byte)) (by decide)
        refine o_dup X420 hx (y_ at_271) rfl ?_
        refine o_aload X420 hx (y_ at_272) rfl rfl ?_
        have c422 := (Arv.ext (Arv.keep (Arv.keep (Arv.ext (Arv.ext V403 E405) E407) Kp410 (ninS (o_ng (Nat.lt_of_lt_of_le V403.lt E405.1) gg407) nin0)) Kp417 (ninS (o_ng V403.lt gg405) nin0)) E420)
        refine o_ini (y := o_m5) (b := b420) (argsL := [(.ref b401)]) (S := [(.ref b420), (.ref b405)]) (W := 2) rfl X420 hx hZ417 hown417 (k_ 11 rfl) (k_ 12 rfl) (k_ 13 rfl) (o_newB (W := 2) (cs := ([na] : List Int32)) (n := 1) hZ417 hw (k_ 9 rfl) O420 g_b420 A420 F420_value F420_coder c422 SC_ hC_ rfl rfl (by decide) (by decide) (o_csS ⟨l_na, u_na⟩ o_cs0) (by decide) (by decide)) e420 hml (lenOf o_pd__28_5bC_29V rfl) (y_ at_274) (fun T423 L423 v423 X423 hQ423 => ?_)
        obtain ⟨rfl, Nq423, Kp423, t423, g_t423, ht423, hne423, Sf423⟩ := hQ423
        have N423 := Fr.app N417 Nq423
        have O424 := Old.keep O420 Kp423 (allS g_b420 all0)
        have C425 := CHr.trans C421 (CHr.keep Kp423 (sfS (o_safeN hZ417.alike A420 F420_value) sf0) C421.1)
        show o_G p e below _ T423 (mkF m 277 #[vI p1, vI p2, vI p3, vI p4, vI 0, vI 1, vI 1, vI 0, vI ca, vI cb, vI na, vI nb, vI nc, vR b311, vR b317, vR b327, vR b401, vR b405, .unset, .unset] [(.ref b420), (.ref b405)])
        have c426 := (Fld.keep (Fld.ext E420 Fk417) Kp423 (ninS (o_ng Ex417.lt gg420) nin0))
        have c427 := (Fld.keep (Fld.ext E420 Fb417) Kp423 (ninS (o_ng Ex417.lt gg420) nin0))
        have c428 := (Fld.keep (Fld.ext E420 Fa417) Kp423 (ninS (o_ng Ex417.lt gg420) nin0))
        have c429 := (o_Str.keep (o_Str.ext E420 (o_Str.keep Sf410 Kp417 (ninS (Ne.symm (o_ng A405.lt gg407)) nin0) (ninS (Ne.symm (o_Str.neT Sf410 c413 (k_ 6 rfl))) nin0))) Kp423 (ninS (o_ng (Nat.lt_of_lt_of_le Sf410.lt Kp417.1) gg420) nin0) (ninS (o_ng (Nat.lt_of_lt_of_le Sf410.lt2 Kp417.1) gg420) nin0))
        have c431 := (Exa.keep (Exa.ext E420 Ex417) Kp423)
        refine o_vir (y := o_m21) (b := b405) (argsL := [(.ref b420)]) (S := []) (W := 0) X423 hx hZ417 hown417 (k_ 102 rfl) (k_ 103 rfl) (k_ 105 rfl) (k_ 104 rfl) (backOf (W := 0) (rmmt1_0 l Z a0 hw [] b405 b420 b407 t410 t423 na zC_ T423.heap n0 O424 c426 c427 c428 c429 Sf423 SC_ hC_) hZ417 (k_ 106 rfl) (k_ 7 rfl) (by decide) (by decide)) rfl c431 hml (lenOf o_pd__28Ljava_2flang_2fString_3b_29Z rfl) (y_ at_277) (fun T430 L430 v430 X430 hQ430 => ?_)
        obtain ⟨rfl, N430q, hh430⟩ := hQ430
        have N430 := Fr.app N423 N430q
        show o_G p e below _ T430 (mkF m 280 #[vI p1, vI p2, vI p3, vI p4, vI 0, vI 1, vI 1, vI 0, vI ca, vI cb, vI na, vI nb, vI nc, vR b311, vR b317, vR b327, vR b401, vR b405, .unset, .unset] [(.int ((if o_pref ([] : List Int32) ([] : List Int32) = true then 1 else 0) : Int32))])
        have c432 := (Arv.keep (Arv.ext (Arv.keep (Arv.keep (Arv.ext (Arv.ext (Arv.other (Arv.ext (Arv.ext V323 E327) E401) W403 (o_ng (Nat.lt_of_lt_of_le V323.lt E327.1) gg401)) E405) E407) Kp410 (ninS (o_ng (Nat.lt_of_lt_of_le V323.lt (Nat.le_trans (Nat.le_trans (Nat.le_trans E327.1 E401.1) (Keep.of_wr W403).1) E405.1)) gg407) nin0)) Kp417 (ninS (o_ng (Nat.lt_of_lt_of_le V323.lt (Nat.le_trans (Nat.le_trans E327.1 E401.1) (Keep.of_wr W403).1)) gg405) nin0)) E420) Kp423 (ninS (o_ng (Nat.lt_of_lt_of_le V323.lt (Nat.le_trans (Nat.le_trans (Nat.le_trans (Nat.le_trans (Nat.le_trans (Nat.le_trans E327.1 E401.1) (Keep.of_wr W403).1) E405.1) E407.1) Kp410.1) Kp417.1)) gg420) nin0))
        have c433 := (Arv.keep (Arv.ext (Arv.keep (Arv.keep (Arv.ext (Arv.ext (Arv.other (Arv.ext (Arv.ext (Arv.other (Arv.other (Arv.other (Arv.ext V315 E317) W319 (o_ng V315.lt gg317)) W321 (o_ng V315.lt gg317)) W323 (o_ng V315.lt gg317)) E327) E401) W403 (o_ng (Nat.lt_of_lt_of_le V315.lt (Nat.le_trans (Nat.le_trans (Nat.le_trans (Nat.le_trans E317.1 (Keep.of_wr W319).1) (Keep.of_wr W321).1) (Keep.of_wr W323).1) E327.1)) gg401)) E405) E407) Kp410 (ninS (o_ng (Nat.lt_of_lt_of_le V315.lt (Nat.le_trans (Nat.le_trans (Nat.le_trans (Nat.le_trans (Nat.le_trans (Nat.le_trans (Nat.le_trans E317.1 (Keep.of_wr W319).1) (Keep.of_wr W321).1) (Keep.of_wr W323).1) E327.1) E401.1) (Keep.of_wr W403).1) E405.1)) gg407) nin0)) Kp417 (ninS (o_ng (Nat.lt_of_lt_of_le V315.lt (Nat.le_trans (Nat.le_trans (Nat.le_trans (Nat.le_trans (Nat.le_trans (Nat.le_trans E317.1 (Keep.of_wr W319).1) (Keep.of_wr W321).1) (Keep.of_wr W323).1) E327.1) E401.1) (Keep.of_wr W403).1)) gg405) nin0)) E420) Kp423 (ninS (o_ng (Nat.lt_of_lt_of_le V315.lt (Nat.le_trans (Nat.le_trans (Nat.le_trans (Nat.le_trans (Nat.le_trans (Nat.le_trans (Nat.le_trans (Nat.le_trans (Nat.le_trans (Nat.le_trans E317.1 (Keep.of_wr W319).1) (Keep.of_wr W321).1) (Keep.of_wr W323).1) E327.1) E401.1) (Keep.of_wr W403).1) E405.1) E407.1) Kp410.1) Kp417.1)) gg420) nin0))
        exact J280 _ _ _ _ (o_up X430 (by decide) (by decide)) hS417 (by rw [hh430]; exact (Nat.le_trans (Nat.le_trans hk417 E420.1) Kp423.1)) hZ417 hown417 N430 (by rw [hh430]; exact O424) (((if o_pref ([] : List Int32) ([] : List Int32) = true then 1 else 0) : Int32), .ref b327, .ref b401, .ref b405) ⟨o_gt0_1 (B := (1 : Int32)) (A := (0 : Int32)), by rw [hh430]; exact c432, by rw [hh430]; exact c433⟩
      have hc176 := o_h_ne.2 hq
      obtain rfl : nl = 0 := hc176
      skip
      refine o_iconst X327 hx (y_ at_179) (x := 0) rfl ?_
      refine o_newA (cap := 0) X327 hx hZ (k_ 4 rfl) e327 (y_ at_180) (by decide) (by decide) (by decide) (by decide) (by decide) (fun T434 h434 k434 b434 X434 e434 gg434 E434 A434 => ?_)
      have g_b434 := o_fresh O327 gg434
      have O434 := Old.ext O327 E434
      have C435 := CHr.trans C328 (CHr.ext E434 C328.1)
      have V434 : Arv Z h434 b434 k434 .char (0 : Int32) [] (.int 0) := A434
      refine o_gO (t := 242) X434 hx (y_ at_182) ?_
      refine o_astore X434 hx (y_ at_242) rfl (A' := #[vI p1, vI p2, vI p3, vI p4, vI 0, vI 0, vI 1, vI 0, vI ca, vI cb, vI na, vI nb, vI nc, vR b311, vR b317, vR b327, vR b434, .unset, .unset, .unset]) rfl ?_
      refine o_new X434 hx hZ hown (k_ 5 rfl) (k_ 6 rfl) (k_ 7 rfl) e434 (y_ at_244) (by decide) (by decide) (fun T436 h436 b436 X436 e436 gg436 E436 A436 D436 => ?_)
      have g_b436 := o_fresh O434 gg436
      have O436 := Old.ext O434 E436
      have C437 := CHr.trans C435 (CHr.ext E436 C435.1)
      have F436_core : Fld Z h436 b436 "org/adviceweft/pointcut/NamePattern" "core" "Ljava/lang/String;" .null := D436 (Or.inr (k_ 96 rfl)) (ty := (.object "java/lang/String")) (by decide)
      have F436_anyBefore : Fld Z h436 b436 "org/adviceweft/pointcut/NamePattern" "anyBefore" "Z" (.int 0) := D436 (Or.inr (k_ 98 rfl)) (ty := .boolean) (by decide)
      have F436_anyAfter : Fld Z h436 b436 "org/adviceweft/pointcut/NamePattern" "anyAfter" "Z" (.int 0) := D436 (Or.inr (k_ 100 rfl)) (ty := .boolean) (by decide)
      refine o_dup X436 hx (y_ at_247) rfl ?_
      refine o_new X436 hx hZ hown (k_ 8 rfl) (k_ 9 rfl) (k_ 10 rfl) e436 (y_ at_248) (by decide) (by decide) (fun T438 h438 b438 X438 e438 gg438 E438 A438 D438 => ?_)
      have g_b438 := o_fresh O436 gg438
      have O438 := Old.ext O436 E438
      have C439 := CHr.trans C437 (CHr.ext E438 C437.1)
      have F438_coder : Fld Z h438 b438 "java/lang/String" "coder" "B" (.int 0) := D438 (Or.inr (k_ 34 rfl)) (ty := .byte) (by decide)
      have F438_value : Fld Z h438 b438 "java/lang/String" "value" "[B" .null := D438 (Or.inr (k_ 36 rfl)) (ty := (.array .byte)) (by decide)
      refine o_dup X438 hx (y_ at_251) rfl ?_
      refine o_aload X438 hx (y_ at_252) rfl rfl ?_
      have c440 := (Arv.ext (Arv.ext (Arv.ext V327 E434) E436) E438)
      refine o_initH (y := o_m5) (b := b438) (argsL := [(.ref b327)]) (S := [(.ref b438), (.ref b436), (.ref b436)]) (W := 3) rfl X438 hx hZ hS0 hown (k_ 11 rfl) (k_ 12 rfl) (k_ 13 rfl) (by decide) (backOfSH (W := 3) (rmse l Z a0 hw [] b438 b327 k327 h438 n0 O438 A438 F438_value F438_coder g_b438 c440) hZ (k_ 13 rfl) (k_ 10 rfl) (by decide) (by decide) hEL C439.1) e438 (Nat.le_trans (Nat.le_trans (Nat.le_trans (Nat.le_trans (Nat.le_trans (Nat.le_trans (Nat.le_trans (Nat.le_trans (Nat.le_trans (Nat.le_trans (Nat.le_trans hk0 E311.1) (Keep.of_wr W313).1) (Keep.of_wr W315).1) E317.1) (Keep.of_wr W319).1) (Keep.of_wr W321).1) (Keep.of_wr W323).1) E327.1) E434.1) E436.1) E438.1) (by rw [hml]; rfl) (lenOf o_pd__28_5bC_29V rfl) rfl (Nat.le_of_eq rfl) (y_ at_254) (by decide) (by decide) (fun T441 L441 v441 k441 X441 hS441 hk441 hZ441 hown441 hQ441 hC441 => ?_)
      obtain ⟨rfl, N441q, Kp441, t441, hne441, Sf441⟩ := hQ441
      have N441 := Fr.app N323 N441q
      have O442 := Old.keep O438 Kp441 (allS g_b438 all0)
      have C443 := CHr.trans C439 (hC441)
      show o_G p e below _ T441 (mkF m 257 #[vI p1, vI p2, vI p3, vI p4, vI 0, vI 0, vI 1, vI 0, vI ca, vI cb, vI na, vI nb, vI nc, vR b311, vR b317, vR b327, vR b434, .unset, .unset, .unset] [(.ref b438), (.ref b436), (.ref b436)])
      refine o_iload X441 hx (y_ at_257) rfl ?_
      refine o_iload X441 hx (y_ at_259) rfl ?_
      have c444 := (Exa.keep (Exa.ext E438 A436) Kp441)
      have c445 := (Fld.keep (Fld.ext E438 F436_core) Kp441 (ninS (o_ng A436.lt gg438) nin0))
      have c446 := (Fld.keep (Fld.ext E438 F436_anyBefore) Kp441 (ninS (o_ng A436.lt gg438) nin0))
      have c447 := (Fld.keep (Fld.ext E438 F436_anyAfter) Kp441 (ninS (o_ng A436.lt gg438) nin0))
      refine o_initH (y := o_m19) (b := b436) (argsL := [(.ref b438), (.int 1), (.int 0)]) (S := [(.ref b436)]) (W := 1) rfl X441 hx hZ441 hS441 hown441 (k_ 37 rfl) (k_ 38 rfl) (k_ 39 rfl) (by decide) (backOfSH (W := 1) (rmct0 l Z a0 hw [] b436 b438 t441  zC_ T441.heap n0 O442 c444 c445 c446 c447 g_b436 Sf441 (by decide) SC_ hC_) hZ441 (k_ 39 rfl) (k_ 7 rfl) (by decide) (by decide) hEL C443.1) rfl hk441 (by rw [hml]; rfl) (lenOf o_pd__28Ljava_2flang_2fString_3bZZ_29V rfl) rfl (Nat.le_of_eq rfl) (y_ at_261) (by decide) (by decide) (fun T448 L448 v448 k448 X448 hS448 hk448 hZ448 hown448 hQ448 hC448 => ?_)
      obtain ⟨rfl, N448q, Kp448, Ex448, Fk448, Fb448, Fa448⟩ := hQ448
      have N448 := Fr.app N441 N448q
      have O449 := Old.keep O442 Kp448 (allS g_b436 all0)
      have C450 := CHr.trans C443 (hC448)
      show o_G p e below _ T448 (mkF m 264 #[vI p1, vI p2, vI p3, vI p4, vI 0, vI 0, vI 1, vI 0, vI ca, vI cb, vI na, vI nb, vI nc, vR b311, vR b317, vR b327, vR b434, .unset, .unset, .unset] [(.ref b436)])
      refine o_astore X448 hx (y_ at_264) rfl (A' := #[vI p1, vI p2, vI p3, vI p4, vI 0, vI 0, vI 1, vI 0, vI ca, vI cb, vI na, vI nb, vI nc, vR b311, vR b317, vR b327, vR b434, vR b436, .unset, .unset]) rfl ?_
      refine o_aload X448 hx (y_ at_266) rfl rfl ?_
      refine o_new X448 hx hZ448 hown448 (k_ 8 rfl) (k_ 9 rfl) (k_ 10 rfl) rfl (y_ at_268) (by decide) (by decide) (fun T451 h451 b451 X451 e451 gg451 E451 A451 D451 => ?_)
      have g_b451 := o_fresh O449 gg451
      have O451 := Old.ext O449 E451
      have C452 := CHr.trans C450 (CHr.ext E451 C450.1)
      have F451_coder : Fld Z h451 b451 "java/lang/String" "coder" "B" (.int 0) := D451 (Or.inr (k_ 34 rfl)) (ty := .byte) (by decide)
      have F451_value : Fld Z h451 b451 "java/lang/String" "value" "[B" .null := D451 (Or.inr (k_ 36 rfl)) (ty := (.array .byte)) (by decide)
      refine o_dup X451 hx (y_ at_271) rfl ?_
      refine o_aload X451 hx (y_ at_272) rfl rfl ?_
      have c453 := (Arv.ext (Arv.keep (Arv.keep (Arv.ext (Arv.ext V434 E436) E438) Kp441 (ninS (o_ng (Nat.lt_of_lt_of_le V434.lt E436.1) gg438) nin0)) Kp448 (ninS (o_ng V434.lt gg436) nin0)) E451)
      refine o_initH (y := o_m5) (b := b451) (argsL := [(.ref b434)]) (S := [(.ref b451), (.ref b436)]) (W := 2) rfl X451 hx hZ448 hS448 hown448 (k_ 11 rfl) (k_ 12 rfl) (k_ 13 rfl) (by decide) (backOfSH (W := 2) (rmse l Z a0 hw [] b451 b434 k434 h451 n0 O451 A451 F451_value F451_coder g_b451 c453) hZ448 (k_ 13 rfl) (k_ 10 rfl) (by decide) (by decide) hEL C452.1) e451 (Nat.le_trans hk448 E451.1) (by rw [hml]; rfl) (lenOf o_pd__28_5bC_29V rfl) rfl (Nat.le_of_eq rfl) (y_ at_274) (by decide) (by decide) (fun T454 L454 v454 k454 X454 hS454 hk454 hZ454 hown454 hQ454 hC454 => ?_)
      obtain ⟨rfl, N454q, Kp454, t454, hne454, Sf454⟩ := hQ454
      have N454 := Fr.app N448 N454q
      have O455 := Old.keep O451 Kp454 (allS g_b451 all0)
      have C456 := CHr.trans C452 (hC454)
      show o_G p e below _ T454 (mkF m 277 #[vI p1, vI p2, vI p3, vI p4, vI 0, vI 0, vI 1, vI 0, vI ca, vI cb, vI na, vI nb, vI nc, vR b311, vR b317, vR b327, vR b434, vR b436, .unset, .unset] [(.ref b451), (.ref b436)])
      have c457 := (Fld.keep (Fld.ext E451 Fk448) Kp454 (ninS (o_ng Ex448.lt gg451) nin0))
      have c458 := (Fld.keep (Fld.ext E451 Fb448) Kp454 (ninS (o_ng Ex448.lt gg451) nin0))
      have c459 := (Fld.keep (Fld.ext E451 Fa448) Kp454 (ninS (o_ng Ex448.lt gg451) nin0))
      have c460 := (o_Str.keep (o_Str.ext E451 (o_Str.keep Sf441 Kp448 (ninS (Ne.symm (o_ng A436.lt gg438)) nin0) (ninS (Ne.symm (o_Str.neT Sf441 c444 (k_ 6 rfl))) nin0))) Kp454 (ninS (o_ng (Nat.lt_of_lt_of_le Sf441.lt Kp448.1) gg451) nin0) (ninS (o_ng (Nat.lt_of_lt_of_le Sf441.lt2 Kp448.1) gg451) nin0))
      have c462 := (Exa.keep (Exa.ext E451 Ex448) Kp454)
      refine o_vir (y := o_m21) (b := b436) (argsL := [(.ref b451)]) (S := []) (W := 0) X454 hx hZ454 hown454 (k_ 102 rfl) (k_ 103 rfl) (k_ 105 rfl) (k_ 104 rfl) (backOf (W := 0) (rmmt0_0 l Z a0 hw [] b436 b451 b438 t441 t454  zC_ T454.heap n0 O455 c457 c458 c459 c460 Sf454 SC_ hC_) hZ454 (k_ 106 rfl) (k_ 7 rfl) (by decide) (by decide)) rfl c462 hml (lenOf o_pd__28Ljava_2flang_2fString_3b_29Z rfl) (y_ at_277) (fun T461 L461 v461 X461 hQ461 => ?_)
      obtain ⟨rfl, N461q, hh461⟩ := hQ461
      have N461 := Fr.app N454 N461q
      show o_G p e below _ T461 (mkF m 280 #[vI p1, vI p2, vI p3, vI p4, vI 0, vI 0, vI 1, vI 0, vI ca, vI cb, vI na, vI nb, vI nc, vR b311, vR b317, vR b327, vR b434, vR b436, .unset, .unset] [(.int ((if o_pref ([] : List Int32) ([] : List Int32) = true then 1 else 0) : Int32))])
      have c463 := (Arv.keep (Arv.ext (Arv.keep (Arv.keep (Arv.ext (Arv.ext (Arv.ext (Arv.ext V323 E327) E434) E436) E438) Kp441 (ninS (o_ng (Nat.lt_of_lt_of_le V323.lt (Nat.le_trans (Nat.le_trans E327.1 E434.1) E436.1)) gg438) nin0)) Kp448 (ninS (o_ng (Nat.lt_of_lt_of_le V323.lt (Nat.le_trans E327.1 E434.1)) gg436) nin0)) E451) Kp454 (ninS (o_ng (Nat.lt_of_lt_of_le V323.lt (Nat.le_trans (Nat.le_trans (Nat.le_trans (Nat.le_trans (Nat.le_trans E327.1 E434.1) E436.1) E438.1) Kp441.1) Kp448.1)) gg451) nin0))
      have c464 := (Arv.keep (Arv.ext (Arv.keep (Arv.keep (Arv.ext (Arv.ext (Arv.ext (Arv.ext (Arv.other (Arv.other (Arv.other (Arv.ext V315 E317) W319 (o_ng V315.lt gg317)) W321 (o_ng V315.lt gg317)) W323 (o_ng V315.lt gg317)) E327) E434) E436) E438) Kp441 (ninS (o_ng (Nat.lt_of_lt_of_le V315.lt (Nat.le_trans (Nat.le_trans (Nat.le_trans (Nat.le_trans (Nat.le_trans (Nat.le_trans E317.1 (Keep.of_wr W319).1) (Keep.of_wr W321).1) (Keep.of_wr W323).1) E327.1) E434.1) E436.1)) gg438) nin0)) Kp448 (ninS (o_ng (Nat.lt_of_lt_of_le V315.lt (Nat.le_trans (Nat.le_trans (Nat.le_trans (Nat.le_trans (Nat.le_trans E317.1 (Keep.of_wr W319).1) (Keep.of_wr W321).1) (Keep.of_wr W323).1) E327.1) E434.1)) gg436) nin0)) E451) Kp454 (ninS (o_ng (Nat.lt_of_lt_of_le V315.lt (Nat.le_trans (Nat.le_trans (Nat.le_trans (Nat.le_trans (Nat.le_trans (Nat.le_trans (Nat.le_trans (Nat.le_trans (Nat.le_trans E317.1 (Keep.of_wr W319).1) (Keep.of_wr W321).1) (Keep.of_wr W323).1) E327.1) E434.1) E436.1) E438.1) Kp441.1) Kp448.1)) gg451) nin0))
      exact J280 _ _ _ _ (o_up X461 (by decide) (by decide)) hS454 (by rw [hh461]; exact hk454) hZ454 hown454 N461 (by rw [hh461]; exact O455) (((if o_pref ([] : List Int32) ([] : List Int32) = true then 1 else 0) : Int32), .ref b327, .ref b434, .ref b436) ⟨o_gt0_0 (B := (1 : Int32)) (A := (0 : Int32)), by rw [hh461]; exact c463, by rw [hh461]; exact c464⟩
    refine o_iF (t := 37) X1 hx (y_ at_30) (fun hq => ?_) (fun hq => ?_)
    · have hc30 := o_h_eq.1 hq
      refine o_iconst X1 hx (y_ at_37) (x := 0) rfl ?_
      exact J38 _ X1 e1 (0 : Int32) (Or.inl rfl)
    have hc30 := o_h_eq.2 hq
    refine o_iconst X1 hx (y_ at_33) (x := 1) rfl ?_
    refine o_gO (t := 38) X1 hx (y_ at_34) ?_
    exact J38 _ X1 e1 (1 : Int32) (Or.inr rfl)
  refine o_iF (t := 24) X0 hx (y_ at_17) (fun hq => ?_) (fun hq => ?_)
  · have hc17 := o_h_eq.1 hq
    refine o_iconst X0 hx (y_ at_24) (x := 0) rfl ?_
    exact J25 _ X0 e0 (0 : Int32) (Or.inl rfl)
  have hc17 := o_h_eq.2 hq
  refine o_iconst X0 hx (y_ at_20) (x := 1) rfl ?_
  refine o_gO (t := 25) X0 hx (y_ at_21) ?_
  exact J25 _ X0 e0 (1 : Int32) (Or.inr rfl)
set_option maxRecDepth 65536 in
set_option maxHeartbeats 40000000 in
theorem comes_1 {Post : Tables → Env → Array Value → State → Outcome → State → Prop} (hpost : ∀ tb e args s v u, (limb_1_1.after args s (.returned v) u = true ∧ limb_1_2.after args s (.returned v) u = true) → ReturnedEndW s (.returned v) u (Jvm.fieldLocs frame_1_writes args s ++ Jvm.arrayLocs frame_1_arrays args s ++ Jvm.staticLocs frame_1_statics s) 32 3200 → Post tb e args s (.returned v) u) :
    ArmFor flags0 classFile x code maxLocals ret World_1 tables_1 room_1 Calls_1 rest_1 Pre_1 Post := by
  intro l hfl _ _ p e ha hc hk s m args below hf hA hF happ hP
  obtain ⟨hcalls, hrest, hpre⟩ := hP
  obtain ⟨-, -, -, hnamed, -, -, -, hat⟩ := (Spec.applies_iff hf).mp happ
  obtain ⟨hg, hn⟩ := and_e (Cond.before_iff.mp (show (Jvm.Cond.and given_1 narrow_1).before args s = true from hpre))
  obtain ⟨hg0, hgr0⟩ := and_e hg
  obtain ⟨hg1, hgr1⟩ := and_e hgr0
  obtain ⟨hg2, hgr2⟩ := and_e hgr1
  obtain ⟨hg3, hgr3⟩ := and_e hgr2
  have hg4 := hgr3
  obtain ⟨w0, w1, w2, w3, rfl⟩ : ∃ w0 w1 w2 w3 : Value, args = #[w0, w1, w2, w3] := by
    have hs : args.size = 4 := by simpa [Cond.value, given_1] using hg0
    obtain ⟨L⟩ := args
    match L, hs with
    | [w0, w1, w2, w3], _ => exact ⟨w0, w1, w2, w3, rfl⟩
  have hw := fun d (hd : d ∈ tables_1) => atoms_spec (ws := Jvm.Cond.code x code maxLocals ret :: tables_1) hat d (List.mem_cons_of_mem _ hd)
  obtain ⟨hsets, hown0⟩ := atoms_of _ (rest_1_c_eq ▸ (show rest_1_c.before _ s = true from hrest))
  obtain ⟨i0, ei0⟩ := is_v hg1
  obtain rfl : w0 = (.int i0) := Option.some.inj ei0
  obtain ⟨i1, ei1⟩ := is_v hg2
  obtain rfl : w1 = (.int i1) := Option.some.inj ei1
  obtain ⟨i2, ei2⟩ := is_v hg3
  obtain rfl : w2 = (.int i2) := Option.some.inj ei2
  obtain ⟨i3, ei3⟩ := is_v hg4
  obtain rfl : w3 = (.int i3) := Option.some.inj ei3
  have hn0 := hn
  obtain ⟨zC_, eC_⟩ := is_v (Cond.before_iff.mp (hsets _ (List.mem_of_getElem? (i := 1) rfl)))
  have SC_ := Sta.start eC_ (Or.inl (hsets _ (List.mem_of_getElem? (i := 0) rfl)))
  have hC_ : ¬ zC_ = 0 := o_not_zero (Cond.before_iff.mp (hsets _ (List.mem_of_getElem? (i := 2) rfl))) eC_
  have hCH : CHv s o_EL s.vm s.heap := CHv.start (o_EWs hw) (fun p hp => hcalls.1 p hp) (by exact (hsets _ (List.mem_of_getElem? (i := 2) rfl))) (o_k hw 26 rfl) (o_k hw 9 rfl)
  obtain ⟨n, o, h1, h2, h3, _, L, rfl, ⟨rfl, N⟩, hq⟩ := rm0 l s _ hw tables_1 i0 i1 i2 i3 zC_ s.heap s.heap.size (Old.start s) SC_ hC_ p e ha hc hk s m _ below hf ((Spec.applies_iff_loose hf).mp happ).1 ⟨rfl, State.Warmed39.refl s, rfl, hCH⟩ trivial
  refine ⟨n, _, h1, h2, h3, hpost _ _ _ _ _ _ ⟨Cond.after_iff.mpr rfl, Cond.after_iff.mpr (eq_i res_at (Term.int_eval (1)) rfl)⟩ ⟨hq.1, hq.2.1, hq.2.2.1, (hq.2.2.2.sift fun y hy => Or.inr (N y hy)).mono (by decide) (by decide)⟩⟩
theorem main_1_1 : Claimed_1_1 := comes_1 fun _ _ _ _ _ _ h hF => ⟨h.1, hF⟩
theorem main_1_2 : Claimed_1_2 := comes_1 fun _ _ _ _ _ _ h hF => ⟨h.2, hF⟩
end Jvm.Pilot.@@N@@
namespace Jvm.Pilot.@@N@@
open Jvm Jvm.ClassFile Sem Op Lib Jvm.Free Jvm.Stand Jvm.Pilot.@@N@@.Jvm.D
/-! MADE BY PROGRAM (witnessworld.py) out of the Statement's table words and the real class files: 22 classes; the members and pool entries that the words name. The judged class is class 1, her method 1. -/
namespace start1
open Jvm.ClassFile
def u (s : String) : CpInfo := .utf8 (stringToUtf16 s)
/-- a pool by its gaps: so many unusable entries, then the entry; so many at the end -/
def gap : Nat → List CpInfo → List CpInfo
  | 0, r => r
  | n + 1, r => .unusable :: gap n r
def poolList (es : List (Nat × CpInfo)) (last : Nat) : List CpInfo := es.foldr (fun e r => gap e.1 (e.2 :: r)) (gap last [])
def pool (es : List (Nat × CpInfo)) (last : Nat) : Array CpInfo := ⟨poolList es last⟩
def fileOf (pool : Array CpInfo) (this : Nat) (attrs : Array Attribute := #[]) (ms : Array MethodInfo := #[]) (fl : Nat := 33) (sup : Nat := 0) (ifs : Array Nat := #[]) (fds : Array FieldInfo := #[]) : ClassFile where
  minorVersion := 0
  majorVersion := 65
  constantPool := pool
  accessFlags := fl
  thisClass := this
  superClass := sup
  interfaces := ifs
  fields := fds
  methods := ms
  attributes := attrs
def plain (name : String) (sup : Option ClassId) : Class where
  name := name
  kind := .ordinary
  loader := none
  accessFlags := 33
  super := sup
  interfaces := #[]
  cf := none
  fields := #[]
  methods := #[]
  instanceTypes := #[]
  staticTypes := #[]
  resolved := #[]
  callSites := []
  init := .initialized
  statics := none
  mirror := none

def pool0 : Array CpInfo := pool [(5, u "<init>"), (0, u "()V"), (1, .class_ 10), (1, u "java/lang/Object")] 113

def k0c0 : Code := { maxStack := 0, maxLocals := 1, code := object_method_1_code, exceptionTable := #[], attributes := #[] }
def k0m0 : Method := { name := "<init>", desc := "()V", sig := { parameters := [], returnType := none }, accessFlags := 1, code := some k0c0 }
/-- java/lang/Object -/
def k0 : Class := { plain "java/lang/Object" none with
  accessFlags := 33
  interfaces := #[]
  cf := some (fileOf pool0 8 #[] #[{ accessFlags := 1, nameIndex := 5, descriptorIndex := 6, attributes := #[] }] 33 0 #[] #[])
  fields := #[]
  methods := #[k0m0]
  instanceTypes := #[]
  staticTypes := #[]
  resolved := Array.replicate 124 none
  statics := none }

def pool1 : Array CpInfo := pool [(2, .class_ 4), (1, u "java/lang/Object"), (0, u "<init>"), (0, u "()V"), (0, .methodref 8 9), (0, .class_ 10), (0, .nameAndType 11 12), (0, u "org/adviceweft/pointcut/NamePatternMatchesPinLaw"), (0, u "coreChar"), (0, u "(I)C"), (0, .class_ 14), (0, u "org/adviceweft/pointcut/NamePattern"), (0, .class_ 16), (0, u "java/lang/String"), (0, .methodref 15 18), (0, .nameAndType 5 19), (0, u "([C)V"), (0, .methodref 13 21), (0, .nameAndType 5 22), (0, u "(Ljava/lang/String;ZZ)V"), (0, .methodref 13 24), (0, .nameAndType 25 26), (0, u "matches"), (0, u "(Ljava/lang/String;)Z"), (0, .methodref 8 28), (0, .nameAndType 29 30), (0, u "at"), (0, u "([CI[CII)Z"), (2, u "law"), (0, u "(IIII)Z")] 5

def k1m0 : Method := { name := "<init>", desc := "()V", sig := { parameters := [], returnType := none }, accessFlags := 1, code := none }
def k1c1 : Code := { maxStack := 6, maxLocals := 20, code := code, exceptionTable := #[], attributes := #[] }
def k1m1 : Method := { name := "law", desc := "(IIII)Z", sig := { parameters := [.int, .int, .int, .int], returnType := some .boolean }, accessFlags := 9, code := some k1c1 }
def k1c2 : Code := { maxStack := 2, maxLocals := 2, code := method_3_code, exceptionTable := #[], attributes := #[] }
def k1m2 : Method := { name := "coreChar", desc := "(I)C", sig := { parameters := [.int], returnType := some .char }, accessFlags := 10, code := some k1c2 }
def k1c3 : Code := { maxStack := 3, maxLocals := 5, code := method_4_code, exceptionTable := #[], attributes := #[] }
def k1m3 : Method := { name := "at", desc := "([CI[CII)Z", sig := { parameters := [(.array .char), .int, (.array .char), .int, .int], returnType := some .boolean }, accessFlags := 10, code := some k1c3 }
/-- org/adviceweft/pointcut/NamePatternMatchesPinLaw -/
def k1 : Class := { plain "org/adviceweft/pointcut/NamePatternMatchesPinLaw" (some 0) with
  accessFlags := 49
  interfaces := #[]
  cf := some (fileOf pool1 8 #[] #[{ accessFlags := 1, nameIndex := 5, descriptorIndex := 6, attributes := #[] }, { accessFlags := 9, nameIndex := 33, descriptorIndex := 34, attributes := #[] }, { accessFlags := 10, nameIndex := 11, descriptorIndex := 12, attributes := #[] }, { accessFlags := 10, nameIndex := 29, descriptorIndex := 30, attributes := #[] }] 49 2 #[] #[])
  fields := #[]
  methods := #[k1m0, k1m1, k1m2, k1m3]
  instanceTypes := #[]
  staticTypes := #[]
  resolved := Array.replicate 40 none
  statics := none }

def pool2 : Array CpInfo := pool [(1, .methodref 2 3), (0, .class_ 4), (0, .nameAndType 5 6), (0, u "java/lang/Object"), (0, u "<init>"), (0, u "()V"), (0, .class_ 8), (0, u "java/lang/Record")] 13

def k2c0 : Code := { maxStack := 1, maxLocals := 1, code := jdk_30_method_1_code, exceptionTable := #[], attributes := #[] }
def k2m0 : Method := { name := "<init>", desc := "()V", sig := { parameters := [], returnType := none }, accessFlags := 4, code := some k2c0 }
/-- java/lang/Record -/
def k2 : Class := { plain "java/lang/Record" (some 0) with
  accessFlags := 1057
  interfaces := #[]
  cf := some (fileOf pool2 7 #[] #[{ accessFlags := 4, nameIndex := 5, descriptorIndex := 6, attributes := #[] }] 1057 2 #[] #[])
  fields := #[]
  methods := #[k2m0]
  instanceTypes := #[]
  staticTypes := #[]
  resolved := Array.replicate 22 none
  statics := none }

def pool3 : Array CpInfo := pool [(1, .methodref 2 3), (0, .class_ 4), (0, .nameAndType 5 6), (0, u "java/lang/Record"), (0, u "<init>"), (0, u "()V"), (0, .string 8), (0, u "core"), (0, .methodref 10 11), (0, .class_ 12), (0, .nameAndType 13 14), (0, u "java/util/Objects"), (0, u "requireNonNull"), (0, u "(Ljava/lang/Object;Ljava/lang/String;)Ljava/lang/Object;"), (0, .class_ 16), (0, u "org/adviceweft/pointcut/NamePattern"), (0, .string 18), (0, u "*"), (0, .methodref 20 21), (0, .class_ 22), (0, .nameAndType 23 24), (0, u "java/lang/String"), (0, u "contains"), (0, u "(Ljava/lang/CharSequence;)Z"), (0, .methodref 20 26), (0, .nameAndType 27 28), (0, u "isEmpty"), (0, u "()Z"), (13, .fieldref 15 43), (0, .nameAndType 8 44), (0, u "Ljava/lang/String;"), (0, .fieldref 15 46), (0, .nameAndType 47 48), (0, u "anyBefore"), (0, u "Z"), (0, .fieldref 15 50), (0, .nameAndType 51 48), (0, u "anyAfter"), (2, .methodref 20 55), (0, .nameAndType 56 57), (0, u "equals"), (0, u "(Ljava/lang/Object;)Z"), (4, u "(Ljava/lang/String;ZZ)V"), (0, .methodref 20 64), (0, .nameAndType 65 66), (0, u "startsWith"), (0, u "(Ljava/lang/String;)Z"), (0, .methodref 20 68), (0, .nameAndType 69 66), (0, u "endsWith"), (18, u "STAR"), (7, u "matches")] 34

def k3c0 : Code := { maxStack := 5, maxLocals := 4, code := prog_8_method_1_code, exceptionTable := #[], attributes := #[] }
def k3m0 : Method := { name := "<init>", desc := "(Ljava/lang/String;ZZ)V", sig := { parameters := [(.object "java/lang/String"), .boolean, .boolean], returnType := none }, accessFlags := 1, code := some k3c0 }
def k3c1 : Code := { maxStack := 2, maxLocals := 2, code := prog_8_method_3_code, exceptionTable := #[], attributes := #[] }
def k3m1 : Method := { name := "matches", desc := "(Ljava/lang/String;)Z", sig := { parameters := [(.object "java/lang/String")], returnType := some .boolean }, accessFlags := 1, code := some k3c1 }
/-- org/adviceweft/pointcut/NamePattern -/
def k3 : Class := { plain "org/adviceweft/pointcut/NamePattern" (some 2) with
  accessFlags := 49
  interfaces := #[]
  cf := some (fileOf pool3 15 #[] #[{ accessFlags := 1, nameIndex := 5, descriptorIndex := 62, attributes := #[] }, { accessFlags := 1, nameIndex := 96, descriptorIndex := 66, attributes := #[] }] 49 2 #[] #[{ accessFlags := 18, nameIndex := 8, descriptorIndex := 44, attributes := #[] }, { accessFlags := 18, nameIndex := 47, descriptorIndex := 48, attributes := #[] }, { accessFlags := 18, nameIndex := 51, descriptorIndex := 48, attributes := #[] }, { accessFlags := 26, nameIndex := 88, descriptorIndex := 44, attributes := #[] }])
  fields := #[{ name := "core", type := (.object "java/lang/String"), accessFlags := 18, slot := 0, constantValue := 0 }, { name := "anyBefore", type := .boolean, accessFlags := 18, slot := 1, constantValue := 0 }, { name := "anyAfter", type := .boolean, accessFlags := 18, slot := 2, constantValue := 0 }, { name := "STAR", type := (.object "java/lang/String"), accessFlags := 26, slot := 0, constantValue := 0 }]
  methods := #[k3m0, k3m1]
  instanceTypes := #[(.object "java/lang/String"), .boolean, .boolean]
  staticTypes := #[(.object "java/lang/String")]
  resolved := Array.replicate 131 none
  statics := none }

def pool4 : Array CpInfo := pool [(1, .class_ 2), (0, u "java/io/Serializable"), (0, .class_ 4), (0, u "java/lang/Object")] 2

/-- java/io/Serializable -/
def k4 : Class := { plain "java/io/Serializable" (some 0) with
  accessFlags := 1537
  interfaces := #[]
  cf := some (fileOf pool4 1 #[] #[] 1537 3 #[] #[])
  fields := #[]
  methods := #[]
  instanceTypes := #[]
  staticTypes := #[]
  resolved := Array.replicate 7 none
  statics := none }

def pool5 : Array CpInfo := pool [(1, .class_ 2), (0, u "java/lang/Comparable"), (0, .class_ 4), (0, u "java/lang/Object")] 7

/-- java/lang/Comparable -/
def k5 : Class := { plain "java/lang/Comparable" (some 0) with
  accessFlags := 1537
  interfaces := #[]
  cf := some (fileOf pool5 1 #[] #[] 1537 3 #[] #[])
  fields := #[]
  methods := #[]
  instanceTypes := #[]
  staticTypes := #[]
  resolved := Array.replicate 12 none
  statics := none }

def pool6 : Array CpInfo := pool [(2, .class_ 4), (1, u "java/lang/CharSequence"), (42, .class_ 48), (0, u "java/lang/CharSequence$1CodePointIterator"), (10, .class_ 60), (0, u "java/lang/CharSequence$1CharIterator"), (5, .class_ 67), (0, u "java/lang/Object"), (10, u "toString"), (0, u "()Ljava/lang/String;")] 51

def k6m0 : Method := { name := "toString", desc := "()Ljava/lang/String;", sig := { parameters := [], returnType := some (.object "java/lang/String") }, accessFlags := 1025, code := none }
/-- java/lang/CharSequence -/
def k6 : Class := { plain "java/lang/CharSequence" (some 0) with
  accessFlags := 1537
  interfaces := #[]
  cf := some (fileOf pool6 2 #[.nestMembers #[47, 59]] #[{ accessFlags := 1025, nameIndex := 78, descriptorIndex := 79, attributes := #[] }] 1537 66 #[] #[])
  fields := #[]
  methods := #[k6m0]
  instanceTypes := #[]
  staticTypes := #[]
  resolved := Array.replicate 131 none
  statics := none }

def pool7 : Array CpInfo := pool [(1, .class_ 2), (0, u "java/lang/constant/Constable"), (0, .class_ 4), (0, u "java/lang/Object")] 6

/-- java/lang/constant/Constable -/
def k7 : Class := { plain "java/lang/constant/Constable" (some 0) with
  accessFlags := 1537
  interfaces := #[]
  cf := some (fileOf pool7 1 #[] #[] 1537 3 #[] #[])
  fields := #[]
  methods := #[]
  instanceTypes := #[]
  staticTypes := #[]
  resolved := Array.replicate 11 none
  statics := none }

def pool8 : Array CpInfo := pool [(1, .class_ 2), (0, u "java/lang/constant/ConstantDesc"), (0, .class_ 4), (0, u "java/lang/Object")] 32

/-- java/lang/constant/ConstantDesc -/
def k8 : Class := { plain "java/lang/constant/ConstantDesc" (some 0) with
  accessFlags := 1537
  interfaces := #[]
  cf := some (fileOf pool8 1 #[] #[] 1537 3 #[] #[])
  fields := #[]
  methods := #[]
  instanceTypes := #[]
  staticTypes := #[]
  resolved := Array.replicate 37 none
  statics := none }

def pool9 : Array CpInfo := pool [(1, .methodref 2 3), (0, .class_ 4), (0, .nameAndType 5 6), (0, u "java/lang/Object"), (0, u "<init>"), (0, u "()V"), (0, .string 8), (0, u ""), (0, .fieldref 10 11), (0, .class_ 12), (0, .nameAndType 13 14), (0, u "java/lang/String"), (0, u "value"), (0, u "[B"), (0, .fieldref 10 16), (0, .nameAndType 17 18), (0, u "coder"), (0, u "B"), (2, u "hash"), (0, u "I"), (2, u "hashIsZero"), (0, u "Z"), (0, .methodref 10 28), (0, .nameAndType 5 29), (0, u "([CIILjava/lang/Void;)V"), (8, .fieldref 10 39), (0, .nameAndType 40 26), (0, u "COMPACT_STRINGS"), (1, .class_ 44), (1, u "java/lang/StringUTF16"), (0, u "compress"), (1, .methodref 42 48), (0, .nameAndType 49 50), (0, u "coderFromArrayLen"), (0, u "([BI)B"), (56, .class_ 109), (1, u "java/lang/StringLatin1"), (32, u "()Z"), (34, .methodref 42 178), (0, .nameAndType 45 179), (0, u "([CII)[B"), (154, u "()I"), (0, .methodref 10 336), (0, .nameAndType 17 337), (0, u "()B"), (38, u "([BI[BII)I"), (85, .nameAndType 463 464), (0, u "toString"), (0, u "()Ljava/lang/String;"), (27, .methodref 10 493), (0, .nameAndType 494 142), (0, u "isLatin1"), (10, .methodref 10 506), (0, .nameAndType 507 334), (0, u "length"), (33, .methodref 107 542), (0, .nameAndType 543 544), (0, u "equals"), (0, u "([B[B)Z"), (3, u "(Ljava/lang/CharSequence;)Z"), (10, .class_ 561), (1, u "jdk/internal/util/ArraysSupport"), (0, u "mismatch"), (10, u "(Ljava/lang/Object;)Z"), (1, .class_ 576), (0, u "java/lang/CharSequence"), (12, u "([B[B)I"), (9, u "CASE_INSENSITIVE_ORDER"), (0, u "Ljava/util/Comparator;"), (6, .methodref 559 608), (0, .nameAndType 562 376), (15, .methodref 10 625), (0, .nameAndType 626 627), (0, u "startsWith"), (0, u "(Ljava/lang/String;I)Z"), (7, u "indexOf"), (11, .methodref 107 648), (0, .nameAndType 635 589), (43, u "isEmpty"), (17, .interfaceMethodref 575 462), (0, .methodref 10 712), (0, .nameAndType 635 713), (0, u "(Ljava/lang/String;)I"), (296, u "([C)V"), (90, u "serialPersistentFields"), (0, u "[Ljava/io/ObjectStreamField;"), (0, .class_ 1104), (0, u "java/lang/String$CaseInsensitiveComparator"), (1, .class_ 1107), (0, u "java/io/Serializable"), (0, .class_ 1109), (0, u "java/lang/Comparable"), (0, .class_ 1111), (0, u "java/lang/constant/Constable"), (0, .class_ 1113), (0, u "java/lang/constant/ConstantDesc"), (2, u "serialVersionUID"), (0, u "J"), (3, u "REPL"), (0, u "C"), (2, u "LATIN1"), (1, u "UTF16"), (129, u "(Ljava/lang/String;)Z"), (14, u "endsWith"), (18, u "contains")] 159

def k9m0 : Method := { name := "<init>", desc := "()V", sig := { parameters := [], returnType := none }, accessFlags := 1, code := none }
def k9c1 : Code := { maxStack := 5, maxLocals := 2, code := jdk_42_method_3_code, exceptionTable := #[], attributes := #[] }
def k9m1 : Method := { name := "<init>", desc := "([C)V", sig := { parameters := [(.array .char)], returnType := none }, accessFlags := 1, code := some k9c1 }
def k9c2 : Code := { maxStack := 2, maxLocals := 1, code := jdk_42_method_54_code, exceptionTable := #[], attributes := #[] }
def k9m2 : Method := { name := "length", desc := "()I", sig := { parameters := [], returnType := some .int }, accessFlags := 1, code := some k9c2 }
def k9c3 : Code := { maxStack := 1, maxLocals := 1, code := jdk_42_method_55_code, exceptionTable := #[], attributes := #[] }
def k9m3 : Method := { name := "isEmpty", desc := "()Z", sig := { parameters := [], returnType := some .boolean }, accessFlags := 1, code := some k9c3 }
def k9c4 : Code := { maxStack := 2, maxLocals := 3, code := jdk_42_method_66_code, exceptionTable := #[], attributes := #[] }
def k9m4 : Method := { name := "equals", desc := "(Ljava/lang/Object;)Z", sig := { parameters := [(.object "java/lang/Object")], returnType := some .boolean }, accessFlags := 1, code := some k9c4 }
def k9c5 : Code := { maxStack := 5, maxLocals := 8, code := jdk_42_method_75_code, exceptionTable := #[], attributes := #[] }
def k9m5 : Method := { name := "startsWith", desc := "(Ljava/lang/String;I)Z", sig := { parameters := [(.object "java/lang/String"), .int], returnType := some .boolean }, accessFlags := 1, code := some k9c5 }
def k9c6 : Code := { maxStack := 3, maxLocals := 2, code := jdk_42_method_76_code, exceptionTable := #[], attributes := #[] }
def k9m6 : Method := { name := "startsWith", desc := "(Ljava/lang/String;)Z", sig := { parameters := [(.object "java/lang/String")], returnType := some .boolean }, accessFlags := 1, code := some k9c6 }
def k9c7 : Code := { maxStack := 4, maxLocals := 2, code := jdk_42_method_77_code, exceptionTable := #[], attributes := #[] }
def k9m7 : Method := { name := "endsWith", desc := "(Ljava/lang/String;)Z", sig := { parameters := [(.object "java/lang/String")], returnType := some .boolean }, accessFlags := 1, code := some k9c7 }
def k9c8 : Code := { maxStack := 2, maxLocals := 3, code := jdk_42_method_84_code, exceptionTable := #[], attributes := #[] }
def k9m8 : Method := { name := "indexOf", desc := "(Ljava/lang/String;)I", sig := { parameters := [(.object "java/lang/String")], returnType := some .int }, accessFlags := 1, code := some k9c8 }
def k9c9 : Code := { maxStack := 2, maxLocals := 2, code := jdk_42_method_97_code, exceptionTable := #[], attributes := #[] }
def k9m9 : Method := { name := "contains", desc := "(Ljava/lang/CharSequence;)Z", sig := { parameters := [(.object "java/lang/CharSequence")], returnType := some .boolean }, accessFlags := 1, code := some k9c9 }
def k9c10 : Code := { maxStack := 1, maxLocals := 1, code := jdk_42_method_126_code, exceptionTable := #[], attributes := #[] }
def k9m10 : Method := { name := "toString", desc := "()Ljava/lang/String;", sig := { parameters := [], returnType := some (.object "java/lang/String") }, accessFlags := 1, code := some k9c10 }
def k9c11 : Code := { maxStack := 4, maxLocals := 6, code := jdk_42_method_149_code, exceptionTable := #[], attributes := #[] }
def k9m11 : Method := { name := "<init>", desc := "([CIILjava/lang/Void;)V", sig := { parameters := [(.array .char), .int, .int, (.object "java/lang/Void")], returnType := none }, accessFlags := 2, code := some k9c11 }
def k9c12 : Code := { maxStack := 1, maxLocals := 1, code := jdk_42_method_152_code, exceptionTable := #[], attributes := #[] }
def k9m12 : Method := { name := "coder", desc := "()B", sig := { parameters := [], returnType := some .byte }, accessFlags := 0, code := some k9c12 }
def k9c13 : Code := { maxStack := 1, maxLocals := 1, code := jdk_42_method_154_code, exceptionTable := #[], attributes := #[] }
def k9m13 : Method := { name := "isLatin1", desc := "()Z", sig := { parameters := [], returnType := some .boolean }, accessFlags := 0, code := some k9c13 }
/-- java/lang/String -/
def k9 : Class := { plain "java/lang/String" (some 0) with
  accessFlags := 49
  interfaces := #[4, 5, 6, 7, 8]
  cf := some (fileOf pool9 10 #[.nestMembers #[1103]] #[{ accessFlags := 1, nameIndex := 5, descriptorIndex := 6, attributes := #[] }, { accessFlags := 1, nameIndex := 5, descriptorIndex := 1010, attributes := #[] }, { accessFlags := 1, nameIndex := 507, descriptorIndex := 334, attributes := #[] }, { accessFlags := 1, nameIndex := 692, descriptorIndex := 142, attributes := #[] }, { accessFlags := 1, nameIndex := 543, descriptorIndex := 573, attributes := #[] }, { accessFlags := 1, nameIndex := 626, descriptorIndex := 627, attributes := #[] }, { accessFlags := 1, nameIndex := 626, descriptorIndex := 1257, attributes := #[] }, { accessFlags := 1, nameIndex := 1272, descriptorIndex := 1257, attributes := #[] }, { accessFlags := 1, nameIndex := 635, descriptorIndex := 713, attributes := #[] }, { accessFlags := 1, nameIndex := 1291, descriptorIndex := 548, attributes := #[] }, { accessFlags := 1, nameIndex := 463, descriptorIndex := 464, attributes := #[] }, { accessFlags := 2, nameIndex := 5, descriptorIndex := 29, attributes := #[] }, { accessFlags := 0, nameIndex := 17, descriptorIndex := 337, attributes := #[] }, { accessFlags := 0, nameIndex := 494, descriptorIndex := 142, attributes := #[] }] 49 2 #[1106, 1108, 575, 1110, 1112] #[{ accessFlags := 18, nameIndex := 13, descriptorIndex := 14, attributes := #[] }, { accessFlags := 18, nameIndex := 17, descriptorIndex := 18, attributes := #[] }, { accessFlags := 2, nameIndex := 21, descriptorIndex := 22, attributes := #[] }, { accessFlags := 2, nameIndex := 25, descriptorIndex := 26, attributes := #[] }, { accessFlags := 26, nameIndex := 1116, descriptorIndex := 1117, attributes := #[] }, { accessFlags := 24, nameIndex := 40, descriptorIndex := 26, attributes := #[] }, { accessFlags := 26, nameIndex := 1101, descriptorIndex := 1102, attributes := #[] }, { accessFlags := 26, nameIndex := 1121, descriptorIndex := 1122, attributes := #[] }, { accessFlags := 25, nameIndex := 599, descriptorIndex := 600, attributes := #[] }, { accessFlags := 24, nameIndex := 1125, descriptorIndex := 18, attributes := #[] }, { accessFlags := 24, nameIndex := 1127, descriptorIndex := 18, attributes := #[] }])
  fields := #[{ name := "value", type := (.array .byte), accessFlags := 18, slot := 0, constantValue := 0 }, { name := "coder", type := .byte, accessFlags := 18, slot := 1, constantValue := 0 }, { name := "hash", type := .int, accessFlags := 2, slot := 2, constantValue := 0 }, { name := "hashIsZero", type := .boolean, accessFlags := 2, slot := 3, constantValue := 0 }, { name := "serialVersionUID", type := .long, accessFlags := 26, slot := 0, constantValue := 0 }, { name := "COMPACT_STRINGS", type := .boolean, accessFlags := 24, slot := 1, constantValue := 0 }, { name := "serialPersistentFields", type := (.array (.object "java/io/ObjectStreamField")), accessFlags := 26, slot := 2, constantValue := 0 }, { name := "REPL", type := .char, accessFlags := 26, slot := 3, constantValue := 0 }, { name := "CASE_INSENSITIVE_ORDER", type := (.object "java/util/Comparator"), accessFlags := 25, slot := 4, constantValue := 0 }, { name := "LATIN1", type := .byte, accessFlags := 24, slot := 5, constantValue := 0 }, { name := "UTF16", type := .byte, accessFlags := 24, slot := 6, constantValue := 0 }]
  methods := #[k9m0, k9m1, k9m2, k9m3, k9m4, k9m5, k9m6, k9m7, k9m8, k9m9, k9m10, k9m11, k9m12, k9m13]
  instanceTypes := #[(.array .byte), .byte, .int, .boolean]
  staticTypes := #[.long, .boolean, (.array (.object "java/io/ObjectStreamField")), .char, (.object "java/util/Comparator"), .byte, .byte]
  resolved := Array.replicate 1451 none
  statics := some 0 }

def pool10 : Array CpInfo := pool [(6, .class_ 8), (1, u "java/lang/Object"), (0, u "<init>"), (0, u "()V"), (1, .class_ 14), (1, u "java/lang/StringUTF16"), (31, u "$assertionsDisabled"), (0, u "Z"), (13, u "HI_BYTE_SHIFT"), (0, u "I"), (2, u "LO_BYTE_SHIFT"), (49, .methodref 12 116), (0, .nameAndType 117 118), (0, u "compress"), (0, u "([CI[BII)I"), (3, u "([CII)[B"), (138, u "coderFromArrayLen"), (0, u "([BI)B"), (106, .class_ 371), (1, u "java/lang/StringUTF16$LinesSpliterator"), (58, u "MAX_LENGTH"), (196, .class_ 628), (0, u "java/lang/StringUTF16$CodePointsSpliterator"), (0, .class_ 630), (0, u "java/lang/StringUTF16$CharsSpliterator")] 4

def k10m0 : Method := { name := "<init>", desc := "()V", sig := { parameters := [], returnType := none }, accessFlags := 0, code := none }
def k10c1 : Code := { maxStack := 2, maxLocals := 2, code := jdk_52_method_15_code, exceptionTable := #[], attributes := #[] }
def k10m1 : Method := { name := "coderFromArrayLen", desc := "([BI)B", sig := { parameters := [(.array .byte), .int], returnType := some .byte }, accessFlags := 8, code := some k10c1 }
def k10c2 : Code := { maxStack := 5, maxLocals := 6, code := jdk_52_method_16_code, exceptionTable := #[], attributes := #[] }
def k10m2 : Method := { name := "compress", desc := "([CII)[B", sig := { parameters := [(.array .char), .int, .int], returnType := some (.array .byte) }, accessFlags := 9, code := some k10c2 }
def k10c3 : Code := { maxStack := 3, maxLocals := 7, code := jdk_52_method_21_code, exceptionTable := #[], attributes := #[] }
def k10m3 : Method := { name := "compress", desc := "([CI[BII)I", sig := { parameters := [(.array .char), .int, (.array .byte), .int, .int], returnType := some .int }, accessFlags := 9, code := some k10c3 }
/-- java/lang/StringUTF16 -/
def k10 : Class := { plain "java/lang/StringUTF16" (some 0) with
  accessFlags := 48
  interfaces := #[]
  cf := some (fileOf pool10 12 #[.nestMembers #[627, 629, 369]] #[{ accessFlags := 0, nameIndex := 9, descriptorIndex := 10, attributes := #[] }, { accessFlags := 8, nameIndex := 261, descriptorIndex := 262, attributes := #[] }, { accessFlags := 9, nameIndex := 117, descriptorIndex := 122, attributes := #[] }, { accessFlags := 9, nameIndex := 117, descriptorIndex := 118, attributes := #[] }] 48 6 #[] #[{ accessFlags := 26, nameIndex := 61, descriptorIndex := 62, attributes := #[] }, { accessFlags := 26, nameIndex := 65, descriptorIndex := 62, attributes := #[] }, { accessFlags := 24, nameIndex := 430, descriptorIndex := 62, attributes := #[] }, { accessFlags := 4120, nameIndex := 46, descriptorIndex := 47, attributes := #[] }])
  fields := #[{ name := "HI_BYTE_SHIFT", type := .int, accessFlags := 26, slot := 0, constantValue := 0 }, { name := "LO_BYTE_SHIFT", type := .int, accessFlags := 26, slot := 1, constantValue := 0 }, { name := "MAX_LENGTH", type := .int, accessFlags := 24, slot := 2, constantValue := 0 }, { name := "$assertionsDisabled", type := .boolean, accessFlags := 4120, slot := 3, constantValue := 0 }]
  methods := #[k10m0, k10m1, k10m2, k10m3]
  instanceTypes := #[]
  staticTypes := #[.int, .int, .int, .boolean]
  resolved := Array.replicate 635 none
  statics := none }

def pool11 : Array CpInfo := pool [(2, .class_ 4), (1, u "java/lang/Object"), (0, u "<init>"), (0, u "()V"), (35, .class_ 44), (1, u "java/util/Objects"), (0, u "requireNonNull"), (48, u "(Ljava/lang/Object;Ljava/lang/String;)Ljava/lang/Object;")] 89

def k11m0 : Method := { name := "<init>", desc := "()V", sig := { parameters := [], returnType := none }, accessFlags := 2, code := none }
def k11c1 : Code := { maxStack := 3, maxLocals := 2, code := jdk_31_method_11_code, exceptionTable := #[], attributes := #[] }
def k11m1 : Method := { name := "requireNonNull", desc := "(Ljava/lang/Object;Ljava/lang/String;)Ljava/lang/Object;", sig := { parameters := [(.object "java/lang/Object"), (.object "java/lang/String")], returnType := some (.object "java/lang/Object") }, accessFlags := 9, code := some k11c1 }
/-- java/util/Objects -/
def k11 : Class := { plain "java/util/Objects" (some 0) with
  accessFlags := 49
  interfaces := #[]
  cf := some (fileOf pool11 42 #[] #[{ accessFlags := 2, nameIndex := 5, descriptorIndex := 6, attributes := #[] }, { accessFlags := 9, nameIndex := 45, descriptorIndex := 94, attributes := #[] }] 49 2 #[] #[])
  fields := #[]
  methods := #[k11m0, k11m1]
  instanceTypes := #[]
  staticTypes := #[]
  resolved := Array.replicate 184 none
  statics := none }

def pool12 : Array CpInfo := pool [(4, .class_ 6), (1, u "java/lang/Object"), (0, u "<init>"), (0, u "()V"), (5, .class_ 16), (1, u "java/lang/StringLatin1"), (82, .methodref 14 100), (0, .nameAndType 101 102), (0, u "indexOf"), (0, u "([BI[BII)I"), (18, u "$assertionsDisabled"), (0, u "Z"), (98, .class_ 223), (1, u "java/lang/StringLatin1$LinesSpliterator"), (57, u "equals"), (0, u "([B[B)Z"), (4, u "([B[B)I"), (102, .class_ 391), (0, u "java/lang/StringLatin1$CharsSpliterator")] 3

def k12m0 : Method := { name := "<init>", desc := "()V", sig := { parameters := [], returnType := none }, accessFlags := 0, code := none }
def k12c1 : Code := { maxStack := 3, maxLocals := 3, code := jdk_43_method_13_code, exceptionTable := #[], attributes := #[] }
def k12m1 : Method := { name := "equals", desc := "([B[B)Z", sig := { parameters := [(.array .byte), (.array .byte)], returnType := some .boolean }, accessFlags := 9, code := some k12c1 }
def k12c2 : Code := { maxStack := 5, maxLocals := 2, code := jdk_43_method_24_code, exceptionTable := #[], attributes := #[] }
def k12m2 : Method := { name := "indexOf", desc := "([B[B)I", sig := { parameters := [(.array .byte), (.array .byte)], returnType := some .int }, accessFlags := 9, code := some k12c2 }
def k12c3 : Code := { maxStack := 3, maxLocals := 11, code := jdk_43_method_25_code, exceptionTable := #[], attributes := #[] }
def k12m3 : Method := { name := "indexOf", desc := "([BI[BII)I", sig := { parameters := [(.array .byte), .int, (.array .byte), .int, .int], returnType := some .int }, accessFlags := 9, code := some k12c3 }
/-- java/lang/StringLatin1 -/
def k12 : Class := { plain "java/lang/StringLatin1" (some 0) with
  accessFlags := 48
  interfaces := #[]
  cf := some (fileOf pool12 14 #[.nestMembers #[390, 221]] #[{ accessFlags := 0, nameIndex := 7, descriptorIndex := 8, attributes := #[] }, { accessFlags := 9, nameIndex := 281, descriptorIndex := 282, attributes := #[] }, { accessFlags := 9, nameIndex := 101, descriptorIndex := 287, attributes := #[] }, { accessFlags := 9, nameIndex := 101, descriptorIndex := 102, attributes := #[] }] 48 4 #[] #[{ accessFlags := 4120, nameIndex := 121, descriptorIndex := 122, attributes := #[] }])
  fields := #[{ name := "$assertionsDisabled", type := .boolean, accessFlags := 4120, slot := 0, constantValue := 0 }]
  methods := #[k12m0, k12m1, k12m2, k12m3]
  instanceTypes := #[]
  staticTypes := #[.boolean]
  resolved := Array.replicate 395 none
  statics := none }

def pool13 : Array CpInfo := pool [(9, u "<init>"), (6, .class_ 18), (1, u "java/lang/Object"), (0, u "()V"), (1, .class_ 23), (1, u "jdk/internal/util/ArraysSupport"), (0, u "LOG2_ARRAY_LONG_INDEX_SCALE"), (0, u "I"), (2, u "U"), (0, u "Ljdk/internal/misc/Unsafe;"), (8, u "BIG_ENDIAN"), (0, u "Z"), (8, u "LOG2_BYTE_BIT_SIZE"), (4, u "LOG2_ARRAY_INT_INDEX_SCALE"), (54, u "JLA"), (0, u "Ljdk/internal/access/JavaLangAccess;"), (11, u "LOG2_ARRAY_BOOLEAN_INDEX_SCALE"), (9, u "LOG2_ARRAY_BYTE_INDEX_SCALE"), (5, u "LOG2_ARRAY_CHAR_INDEX_SCALE"), (5, u "LOG2_ARRAY_SHORT_INDEX_SCALE"), (5, u "mismatch"), (12, u "LOG2_ARRAY_FLOAT_INDEX_SCALE"), (24, u "LOG2_ARRAY_DOUBLE_INDEX_SCALE"), (89, u "T_BOOLEAN"), (2, u "T_CHAR"), (1, u "T_FLOAT"), (1, u "T_DOUBLE"), (1, u "T_BYTE"), (1, u "T_SHORT"), (1, u "T_INT"), (1, u "T_LONG"), (1, u "SOFT_MAX_ARRAY_LENGTH"), (42, u "([BI[BII)I")] 40

def k13m0 : Method := { name := "<init>", desc := "()V", sig := { parameters := [], returnType := none }, accessFlags := 2, code := none }
def k13c1 : Code := { maxStack := 8, maxLocals := 8, code := jdk_48_method_14_code, exceptionTable := #[], attributes := #[] }
def k13m1 : Method := { name := "mismatch", desc := "([BI[BII)I", sig := { parameters := [(.array .byte), .int, (.array .byte), .int, .int], returnType := some .int }, accessFlags := 9, code := some k13c1 }
/-- jdk/internal/util/ArraysSupport -/
def k13 : Class := { plain "jdk/internal/util/ArraysSupport" (some 0) with
  accessFlags := 33
  interfaces := #[]
  cf := some (fileOf pool13 21 #[] #[{ accessFlags := 2, nameIndex := 9, descriptorIndex := 19, attributes := #[] }, { accessFlags := 9, nameIndex := 149, descriptorIndex := 337, attributes := #[] }] 33 16 #[] #[{ accessFlags := 24, nameIndex := 28, descriptorIndex := 29, attributes := #[] }, { accessFlags := 26, nameIndex := 38, descriptorIndex := 39, attributes := #[] }, { accessFlags := 25, nameIndex := 121, descriptorIndex := 25, attributes := #[] }, { accessFlags := 25, nameIndex := 131, descriptorIndex := 25, attributes := #[] }, { accessFlags := 25, nameIndex := 137, descriptorIndex := 25, attributes := #[] }, { accessFlags := 25, nameIndex := 143, descriptorIndex := 25, attributes := #[] }, { accessFlags := 25, nameIndex := 53, descriptorIndex := 25, attributes := #[] }, { accessFlags := 25, nameIndex := 24, descriptorIndex := 25, attributes := #[] }, { accessFlags := 25, nameIndex := 162, descriptorIndex := 25, attributes := #[] }, { accessFlags := 25, nameIndex := 187, descriptorIndex := 25, attributes := #[] }, { accessFlags := 26, nameIndex := 48, descriptorIndex := 25, attributes := #[] }, { accessFlags := 25, nameIndex := 277, descriptorIndex := 25, attributes := #[] }, { accessFlags := 25, nameIndex := 280, descriptorIndex := 25, attributes := #[] }, { accessFlags := 25, nameIndex := 282, descriptorIndex := 25, attributes := #[] }, { accessFlags := 25, nameIndex := 284, descriptorIndex := 25, attributes := #[] }, { accessFlags := 25, nameIndex := 286, descriptorIndex := 25, attributes := #[] }, { accessFlags := 25, nameIndex := 288, descriptorIndex := 25, attributes := #[] }, { accessFlags := 25, nameIndex := 290, descriptorIndex := 25, attributes := #[] }, { accessFlags := 25, nameIndex := 292, descriptorIndex := 25, attributes := #[] }, { accessFlags := 26, nameIndex := 108, descriptorIndex := 109, attributes := #[] }, { accessFlags := 25, nameIndex := 294, descriptorIndex := 25, attributes := #[] }])
  fields := #[{ name := "U", type := (.object "jdk/internal/misc/Unsafe"), accessFlags := 24, slot := 0, constantValue := 0 }, { name := "BIG_ENDIAN", type := .boolean, accessFlags := 26, slot := 1, constantValue := 0 }, { name := "LOG2_ARRAY_BOOLEAN_INDEX_SCALE", type := .int, accessFlags := 25, slot := 2, constantValue := 0 }, { name := "LOG2_ARRAY_BYTE_INDEX_SCALE", type := .int, accessFlags := 25, slot := 3, constantValue := 0 }, { name := "LOG2_ARRAY_CHAR_INDEX_SCALE", type := .int, accessFlags := 25, slot := 4, constantValue := 0 }, { name := "LOG2_ARRAY_SHORT_INDEX_SCALE", type := .int, accessFlags := 25, slot := 5, constantValue := 0 }, { name := "LOG2_ARRAY_INT_INDEX_SCALE", type := .int, accessFlags := 25, slot := 6, constantValue := 0 }, { name := "LOG2_ARRAY_LONG_INDEX_SCALE", type := .int, accessFlags := 25, slot := 7, constantValue := 0 }, { name := "LOG2_ARRAY_FLOAT_INDEX_SCALE", type := .int, accessFlags := 25, slot := 8, constantValue := 0 }, { name := "LOG2_ARRAY_DOUBLE_INDEX_SCALE", type := .int, accessFlags := 25, slot := 9, constantValue := 0 }, { name := "LOG2_BYTE_BIT_SIZE", type := .int, accessFlags := 26, slot := 10, constantValue := 0 }, { name := "T_BOOLEAN", type := .int, accessFlags := 25, slot := 11, constantValue := 0 }, { name := "T_CHAR", type := .int, accessFlags := 25, slot := 12, constantValue := 0 }, { name := "T_FLOAT", type := .int, accessFlags := 25, slot := 13, constantValue := 0 }, { name := "T_DOUBLE", type := .int, accessFlags := 25, slot := 14, constantValue := 0 }, { name := "T_BYTE", type := .int, accessFlags := 25, slot := 15, constantValue := 0 }, { name := "T_SHORT", type := .int, accessFlags := 25, slot := 16, constantValue := 0 }, { name := "T_INT", type := .int, accessFlags := 25, slot := 17, constantValue := 0 }, { name := "T_LONG", type := .int, accessFlags := 25, slot := 18, constantValue := 0 }, { name := "JLA", type := (.object "jdk/internal/access/JavaLangAccess"), accessFlags := 26, slot := 19, constantValue := 0 }, { name := "SOFT_MAX_ARRAY_LENGTH", type := .int, accessFlags := 25, slot := 20, constantValue := 0 }]
  methods := #[k13m0, k13m1]
  instanceTypes := #[]
  staticTypes := #[(.object "jdk/internal/misc/Unsafe"), .boolean, .int, .int, .int, .int, .int, .int, .int, .int, .int, .int, .int, .int, .int, .int, .int, .int, .int, (.object "jdk/internal/access/JavaLangAccess"), .int]
  resolved := Array.replicate 378 none
  statics := none }

def pool14 : Array CpInfo := pool [(2, .class_ 4), (1, u "java/lang/Object"), (0, u "<init>"), (0, u "()V"), (17, .class_ 26), (1, u "jdk/internal/util/Preconditions"), (28, .class_ 56), (0, u "jdk/internal/util/Preconditions$4"), (57, .class_ 115), (0, u "jdk/internal/util/Preconditions$1"), (7, u "SIOOBE_FORMATTER"), (0, u "Ljava/util/function/BiFunction;"), (0, .class_ 126), (0, u "jdk/internal/util/Preconditions$2"), (3, u "AIOOBE_FORMATTER"), (0, .class_ 132), (0, u "jdk/internal/util/Preconditions$3"), (3, u "IOOBE_FORMATTER")] 57

def k14m0 : Method := { name := "<init>", desc := "()V", sig := { parameters := [], returnType := none }, accessFlags := 1, code := none }
/-- jdk/internal/util/Preconditions -/
def k14 : Class := { plain "jdk/internal/util/Preconditions" (some 0) with
  accessFlags := 33
  interfaces := #[]
  cf := some (fileOf pool14 24 #[.nestMembers #[55, 131, 125, 114]] #[{ accessFlags := 1, nameIndex := 5, descriptorIndex := 6, attributes := #[] }] 33 2 #[] #[{ accessFlags := 25, nameIndex := 123, descriptorIndex := 124, attributes := #[] }, { accessFlags := 25, nameIndex := 130, descriptorIndex := 124, attributes := #[] }, { accessFlags := 25, nameIndex := 136, descriptorIndex := 124, attributes := #[] }])
  fields := #[{ name := "SIOOBE_FORMATTER", type := (.object "java/util/function/BiFunction"), accessFlags := 25, slot := 0, constantValue := 0 }, { name := "AIOOBE_FORMATTER", type := (.object "java/util/function/BiFunction"), accessFlags := 25, slot := 1, constantValue := 0 }, { name := "IOOBE_FORMATTER", type := (.object "java/util/function/BiFunction"), accessFlags := 25, slot := 2, constantValue := 0 }]
  methods := #[k14m0]
  instanceTypes := #[]
  staticTypes := #[(.object "java/util/function/BiFunction"), (.object "java/util/function/BiFunction"), (.object "java/util/function/BiFunction")]
  resolved := Array.replicate 194 none
  statics := some 1 }

def pool15 : Array CpInfo := pool [(1, u "java/lang/Cloneable"), (0, .class_ 1), (0, u "java/lang/Object"), (0, .class_ 3)] 3

/-- java/lang/Cloneable -/
def k15 : Class := { plain "java/lang/Cloneable" (some 0) with
  accessFlags := 1537
  interfaces := #[]
  cf := some (fileOf pool15 2 #[] #[] 1537 4 #[] #[])
  fields := #[]
  methods := #[]
  instanceTypes := #[]
  staticTypes := #[]
  resolved := Array.replicate 8 none
  statics := none }

/-- the primitive byte -/
def k16 : Class := { plain "byte" none with kind := .primitive 'B', accessFlags := 0x411 }
/-- [B -/
def k17 : Class := { plain "[B" (some 0) with kind := .array 16 .byte, interfaces := #[15, 4], accessFlags := 1041 }

/-- the primitive char -/
def k18 : Class := { plain "char" none with kind := .primitive 'C', accessFlags := 0x411 }
/-- [C -/
def k19 : Class := { plain "[C" (some 0) with kind := .array 18 .char, interfaces := #[15, 4], accessFlags := 1041 }

/-- the primitive int -/
def k20 : Class := { plain "int" none with kind := .primitive 'I', accessFlags := 0x411 }
/-- [I -/
def k21 : Class := { plain "[I" (some 0) with kind := .array 20 .int, interfaces := #[15, 4], accessFlags := 1041 }

def heap : Heap := #[{ cls := 9, slots := #[.long 0, .int 1, .null, .int 0, .null, .int 0, .int 0], vm := .statics 9 },
  { cls := 14, slots := #[.null, .null, .null], vm := .statics 14 }]
def classes : Array Class := #[k0, k1, k2, k3, k4, k5, k6, k7, k8, k9, k10, k11, k12, k13, k14, k15, k16, k17, k18, k19, k20, k21]
def interned : List (Array UInt16 × Addr) := []
def slotsUsed : Nat := 10
def theMethod : MethodId := ⟨1, 1⟩
def args0 : Array Value := #[.int 5, .int 6, .int 7, .int 8]
def aboutOver (below : List Frame) : State where
  vm := { classes := classes, interned := interned.toArray }
  heap := heap
  slotsUsed := slotsUsed
  threads := #[{ frames := .invoking theMethod args0 :: below }]
def below0 : List Frame := [.native { method := ⟨0, 0⟩, args := #[] }]
def about1 : State := aboutOver below0
def p0 : Program := .bare "" "" ""
def e0 : Env := launch0.env 0 0 0
theorem w_frames : about1.frames = Frame.invoking theMethod args0 :: below0 := rfl
set_option maxRecDepth 65536 in
theorem w_args : argsFit about1.vm theMethod args0 = true := by decide +kernel
set_option maxRecDepth 65536 in
theorem w_heap : heapFits about1 = true := by decide +kernel
set_option maxRecDepth 65536 in
theorem w_runnable : about1.curStatus? = some .runnable := by decide +kernel
set_option maxRecDepth 65536 in
theorem w_alone : about1.alone = true := by decide +kernel
set_option maxRecDepth 65536 in
theorem w_named : about1.methodNamed? x = some theMethod := by decide +kernel
set_option maxRecDepth 65536 in
theorem w_hears : about1.hears theMethod below0 = true := by decide +kernel
set_option maxRecDepth 65536 in
theorem w_ripe : about1.ripe theMethod args0 below0 = true := by decide +kernel
theorem w_running : about1.status = .running := rfl
set_option maxRecDepth 65536 in
theorem w_room : about1.hasRoom e0.platform room_1 = true :=
  launch0.hasRoom_least _ room_1 (by decide +kernel) (by decide +kernel) (by decide +kernel) (by decide +kernel) (by decide +kernel) (by decide +kernel)
theorem allAtoms_all (ts : List Jvm.Cond) (a : Array Jvm.Value) (st : Jvm.State) : (allAtoms ts).before a st = ts.all (fun c => c.before a st) := by
  induction ts with
  | nil => rfl
  | cons c t ih =>
    show (Jvm.Cond.and c (allAtoms t)).before a st = _
    rw [Jvm.Cond.before_and, ih, List.all_cons]
def words1 : List Jvm.Cond := Jvm.Cond.code x code maxLocals ret :: tables_1
/-- a 'code' word, met by the world's own term for the bytes: nothing is compared byte by byte -/
theorem code_word {y : MethodName} {bytes : ByteArray} {mx : Nat} {rt : Option FieldType} {a : Array Value} {s : State} {m : MethodId} {meth : Method} {c : Code} (h1 : s.methodNamed? y = some m) (h2 : s.vm.method? m = some meth) (h3 : meth.code = some c) (h4 : c.code = bytes)
    (h5 : (c.maxLocals == mx && c.exceptionTable.isEmpty && decide (c.maxStack ≤ mostOperands) && decide (meth.sig.returnType = rt) && !meth.locks && decide (parseMethodDescriptor y.desc = some meth.sig)) = true) : (Jvm.Cond.code y bytes mx rt).before a s = true := by
  simp only [Bool.and_eq_true, beq_iff_eq, Bool.not_eq_true', decide_eq_true_eq] at h5
  obtain ⟨⟨⟨⟨⟨g1, g2⟩, g3⟩, g4⟩, g5⟩, g6⟩ := h5
  simp [Cond.before, Cond.holds, Cond.value, h1, h2, h3, h4, g1, g2, g3, g4, g5, g6]
def isCode : Jvm.Cond → Bool
  | .code _ _ _ _ => true
  | _ => false
theorem all_split {L : List Jvm.Cond} {P : Jvm.Cond → Bool} (h1 : L.all (fun c => isCode c || P c) = true) (h2 : ∀ c ∈ L.filter isCode, P c = true) : L.all P = true := by
  refine List.all_eq_true.mpr fun c hc => ?_
  have h := List.all_eq_true.mp h1 c hc
  rcases Bool.eq_false_or_eq_true (isCode c) with hi | hi
  · exact h2 c (List.mem_filter.mpr ⟨hc, hi⟩)
  · simpa [hi] using h
set_option maxRecDepth 65536 in
theorem w_c0 : (Jvm.Cond.code x code maxLocals ret).before args0 about1 = true := code_word (m := ⟨1, 1⟩) (meth := k1m1) (c := k1c1) (by decide +kernel) rfl rfl rfl (by decide +kernel)
set_option maxRecDepth 65536 in
theorem w_c1 : (Jvm.Cond.code ({ cls := "org/adviceweft/pointcut/NamePatternMatchesPinLaw", name := "coreChar", desc := "(I)C" } : Jvm.MethodName) method_3_code (2 : Nat) (Option.some Jvm.ClassFile.FieldType.char)).before args0 about1 = true := code_word (m := ⟨1, 2⟩) (meth := k1m2) (c := k1c2) (by decide +kernel) rfl rfl rfl (by decide +kernel)
set_option maxRecDepth 65536 in
theorem w_c2 : (Jvm.Cond.code ({ cls := "java/lang/String", name := "<init>", desc := "([C)V" } : Jvm.MethodName) jdk_42_method_3_code (2 : Nat) (Option.none : Option Jvm.ClassFile.FieldType)).before args0 about1 = true := code_word (m := ⟨9, 1⟩) (meth := k9m1) (c := k9c1) (by decide +kernel) rfl rfl rfl (by decide +kernel)
set_option maxRecDepth 65536 in
theorem w_c3 : (Jvm.Cond.code ({ cls := "java/lang/String", name := "<init>", desc := "([CIILjava/lang/Void;)V" } : Jvm.MethodName) jdk_42_method_149_code (6 : Nat) (Option.none : Option Jvm.ClassFile.FieldType)).before args0 about1 = true := code_word (m := ⟨9, 11⟩) (meth := k9m11) (c := k9c11) (by decide +kernel) rfl rfl rfl (by decide +kernel)
set_option maxRecDepth 65536 in
theorem w_c4 : (Jvm.Cond.code ({ cls := "java/lang/Object", name := "<init>", desc := "()V" } : Jvm.MethodName) object_method_1_code (1 : Nat) (Option.none : Option Jvm.ClassFile.FieldType)).before args0 about1 = true := code_word (m := ⟨0, 0⟩) (meth := k0m0) (c := k0c0) (by decide +kernel) rfl rfl rfl (by decide +kernel)
set_option maxRecDepth 65536 in
theorem w_c5 : (Jvm.Cond.code ({ cls := "java/lang/StringUTF16", name := "compress", desc := "([CII)[B" } : Jvm.MethodName) jdk_52_method_16_code (6 : Nat) (Option.some (Jvm.ClassFile.FieldType.array Jvm.ClassFile.FieldType.byte))).before args0 about1 = true := code_word (m := ⟨10, 2⟩) (meth := k10m2) (c := k10c2) (by decide +kernel) rfl rfl rfl (by decide +kernel)
set_option maxRecDepth 65536 in
theorem w_c6 : (Jvm.Cond.code ({ cls := "java/lang/StringUTF16", name := "compress", desc := "([CI[BII)I" } : Jvm.MethodName) jdk_52_method_21_code (7 : Nat) (Option.some Jvm.ClassFile.FieldType.int)).before args0 about1 = true := code_word (m := ⟨10, 3⟩) (meth := k10m3) (c := k10c3) (by decide +kernel) rfl rfl rfl (by decide +kernel)
set_option maxRecDepth 65536 in
theorem w_c7 : (Jvm.Cond.code ({ cls := "java/lang/StringUTF16", name := "coderFromArrayLen", desc := "([BI)B" } : Jvm.MethodName) jdk_52_method_15_code (2 : Nat) (Option.some Jvm.ClassFile.FieldType.byte)).before args0 about1 = true := code_word (m := ⟨10, 1⟩) (meth := k10m1) (c := k10c1) (by decide +kernel) rfl rfl rfl (by decide +kernel)
set_option maxRecDepth 65536 in
theorem w_c8 : (Jvm.Cond.code ({ cls := "org/adviceweft/pointcut/NamePattern", name := "<init>", desc := "(Ljava/lang/String;ZZ)V" } : Jvm.MethodName) prog_8_method_1_code (4 : Nat) (Option.none : Option Jvm.ClassFile.FieldType)).before args0 about1 = true := code_word (m := ⟨3, 0⟩) (meth := k3m0) (c := k3c0) (by decide +kernel) rfl rfl rfl (by decide +kernel)
set_option maxRecDepth 65536 in
theorem w_c9 : (Jvm.Cond.code ({ cls := "java/lang/Record", name := "<init>", desc := "()V" } : Jvm.MethodName) jdk_30_method_1_code (1 : Nat) (Option.none : Option Jvm.ClassFile.FieldType)).before args0 about1 = true := code_word (m := ⟨2, 0⟩) (meth := k2m0) (c := k2c0) (by decide +kernel) rfl rfl rfl (by decide +kernel)
set_option maxRecDepth 65536 in
theorem w_c10 : (Jvm.Cond.code ({ cls := "java/util/Objects", name := "requireNonNull", desc := "(Ljava/lang/Object;Ljava/lang/String;)Ljava/lang/Object;" } : Jvm.MethodName) jdk_31_method_11_code (2 : Nat) (Option.some (Jvm.ClassFile.FieldType.object "java/lang/Object"))).before args0 about1 = true := code_word (m := ⟨11, 1⟩) (meth := k11m1) (c := k11c1) (by decide +kernel) rfl rfl rfl (by decide +kernel)
set_option maxRecDepth 65536 in
theorem w_c11 : (Jvm.Cond.code ({ cls := "java/lang/String", name := "contains", desc := "(Ljava/lang/CharSequence;)Z" } : Jvm.MethodName) jdk_42_method_97_code (2 : Nat) (Option.some Jvm.ClassFile.FieldType.boolean)).before args0 about1 = true := code_word (m := ⟨9, 9⟩) (meth := k9m9) (c := k9c9) (by decide +kernel) rfl rfl rfl (by decide +kernel)
set_option maxRecDepth 65536 in
theorem w_c12 : (Jvm.Cond.code ({ cls := "java/lang/String", name := "toString", desc := "()Ljava/lang/String;" } : Jvm.MethodName) jdk_42_method_126_code (1 : Nat) (Option.some (Jvm.ClassFile.FieldType.object "java/lang/String"))).before args0 about1 = true := code_word (m := ⟨9, 10⟩) (meth := k9m10) (c := k9c10) (by decide +kernel) rfl rfl rfl (by decide +kernel)
set_option maxRecDepth 65536 in
theorem w_c13 : (Jvm.Cond.code ({ cls := "java/lang/String", name := "indexOf", desc := "(Ljava/lang/String;)I" } : Jvm.MethodName) jdk_42_method_84_code (3 : Nat) (Option.some Jvm.ClassFile.FieldType.int)).before args0 about1 = true := code_word (m := ⟨9, 8⟩) (meth := k9m8) (c := k9c8) (by decide +kernel) rfl rfl rfl (by decide +kernel)
set_option maxRecDepth 65536 in
theorem w_c14 : (Jvm.Cond.code ({ cls := "java/lang/String", name := "coder", desc := "()B" } : Jvm.MethodName) jdk_42_method_152_code (1 : Nat) (Option.some Jvm.ClassFile.FieldType.byte)).before args0 about1 = true := code_word (m := ⟨9, 12⟩) (meth := k9m12) (c := k9c12) (by decide +kernel) rfl rfl rfl (by decide +kernel)
set_option maxRecDepth 65536 in
theorem w_c15 : (Jvm.Cond.code ({ cls := "java/lang/String", name := "isLatin1", desc := "()Z" } : Jvm.MethodName) jdk_42_method_154_code (1 : Nat) (Option.some Jvm.ClassFile.FieldType.boolean)).before args0 about1 = true := code_word (m := ⟨9, 13⟩) (meth := k9m13) (c := k9c13) (by decide +kernel) rfl rfl rfl (by decide +kernel)
set_option maxRecDepth 65536 in
theorem w_c16 : (Jvm.Cond.code ({ cls := "java/lang/StringLatin1", name := "indexOf", desc := "([B[B)I" } : Jvm.MethodName) jdk_43_method_24_code (2 : Nat) (Option.some Jvm.ClassFile.FieldType.int)).before args0 about1 = true := code_word (m := ⟨12, 2⟩) (meth := k12m2) (c := k12c2) (by decide +kernel) rfl rfl rfl (by decide +kernel)
set_option maxRecDepth 65536 in
theorem w_c17 : (Jvm.Cond.code ({ cls := "java/lang/StringLatin1", name := "indexOf", desc := "([BI[BII)I" } : Jvm.MethodName) jdk_43_method_25_code (11 : Nat) (Option.some Jvm.ClassFile.FieldType.int)).before args0 about1 = true := code_word (m := ⟨12, 3⟩) (meth := k12m3) (c := k12c3) (by decide +kernel) rfl rfl rfl (by decide +kernel)
set_option maxRecDepth 65536 in
theorem w_c18 : (Jvm.Cond.code ({ cls := "java/lang/String", name := "isEmpty", desc := "()Z" } : Jvm.MethodName) jdk_42_method_55_code (1 : Nat) (Option.some Jvm.ClassFile.FieldType.boolean)).before args0 about1 = true := code_word (m := ⟨9, 3⟩) (meth := k9m3) (c := k9c3) (by decide +kernel) rfl rfl rfl (by decide +kernel)
set_option maxRecDepth 65536 in
theorem w_c19 : (Jvm.Cond.code ({ cls := "org/adviceweft/pointcut/NamePattern", name := "matches", desc := "(Ljava/lang/String;)Z" } : Jvm.MethodName) prog_8_method_3_code (2 : Nat) (Option.some Jvm.ClassFile.FieldType.boolean)).before args0 about1 = true := code_word (m := ⟨3, 1⟩) (meth := k3m1) (c := k3c1) (by decide +kernel) rfl rfl rfl (by decide +kernel)
set_option maxRecDepth 65536 in
theorem w_c20 : (Jvm.Cond.code ({ cls := "java/lang/String", name := "endsWith", desc := "(Ljava/lang/String;)Z" } : Jvm.MethodName) jdk_42_method_77_code (2 : Nat) (Option.some Jvm.ClassFile.FieldType.boolean)).before args0 about1 = true := code_word (m := ⟨9, 7⟩) (meth := k9m7) (c := k9c7) (by decide +kernel) rfl rfl rfl (by decide +kernel)
set_option maxRecDepth 65536 in
theorem w_c21 : (Jvm.Cond.code ({ cls := "java/lang/String", name := "length", desc := "()I" } : Jvm.MethodName) jdk_42_method_54_code (1 : Nat) (Option.some Jvm.ClassFile.FieldType.int)).before args0 about1 = true := code_word (m := ⟨9, 2⟩) (meth := k9m2) (c := k9c2) (by decide +kernel) rfl rfl rfl (by decide +kernel)
set_option maxRecDepth 65536 in
theorem w_c22 : (Jvm.Cond.code ({ cls := "java/lang/String", name := "startsWith", desc := "(Ljava/lang/String;I)Z" } : Jvm.MethodName) jdk_42_method_75_code (8 : Nat) (Option.some Jvm.ClassFile.FieldType.boolean)).before args0 about1 = true := code_word (m := ⟨9, 5⟩) (meth := k9m5) (c := k9c5) (by decide +kernel) rfl rfl rfl (by decide +kernel)
set_option maxRecDepth 65536 in
theorem w_c23 : (Jvm.Cond.code ({ cls := "org/adviceweft/pointcut/NamePatternMatchesPinLaw", name := "at", desc := "([CI[CII)Z" } : Jvm.MethodName) method_4_code (5 : Nat) (Option.some Jvm.ClassFile.FieldType.boolean)).before args0 about1 = true := code_word (m := ⟨1, 3⟩) (meth := k1m3) (c := k1c3) (by decide +kernel) rfl rfl rfl (by decide +kernel)
set_option maxRecDepth 65536 in
theorem w_c24 : (Jvm.Cond.code ({ cls := "jdk/internal/util/ArraysSupport", name := "mismatch", desc := "([BI[BII)I" } : Jvm.MethodName) jdk_48_method_14_code (8 : Nat) (Option.some Jvm.ClassFile.FieldType.int)).before args0 about1 = true := code_word (m := ⟨13, 1⟩) (meth := k13m1) (c := k13c1) (by decide +kernel) rfl rfl rfl (by decide +kernel)
set_option maxRecDepth 65536 in
theorem w_c25 : (Jvm.Cond.code ({ cls := "java/lang/String", name := "equals", desc := "(Ljava/lang/Object;)Z" } : Jvm.MethodName) jdk_42_method_66_code (3 : Nat) (Option.some Jvm.ClassFile.FieldType.boolean)).before args0 about1 = true := code_word (m := ⟨9, 4⟩) (meth := k9m4) (c := k9c4) (by decide +kernel) rfl rfl rfl (by decide +kernel)
set_option maxRecDepth 65536 in
theorem w_c26 : (Jvm.Cond.code ({ cls := "java/lang/StringLatin1", name := "equals", desc := "([B[B)Z" } : Jvm.MethodName) jdk_43_method_13_code (3 : Nat) (Option.some Jvm.ClassFile.FieldType.boolean)).before args0 about1 = true := code_word (m := ⟨12, 1⟩) (meth := k12m1) (c := k12c1) (by decide +kernel) rfl rfl rfl (by decide +kernel)
set_option maxRecDepth 65536 in
theorem w_c27 : (Jvm.Cond.code ({ cls := "java/lang/String", name := "startsWith", desc := "(Ljava/lang/String;)Z" } : Jvm.MethodName) jdk_42_method_76_code (2 : Nat) (Option.some Jvm.ClassFile.FieldType.boolean)).before args0 about1 = true := code_word (m := ⟨9, 6⟩) (meth := k9m6) (c := k9c6) (by decide +kernel) rfl rfl rfl (by decide +kernel)
def codes1 : List Jvm.Cond := [Jvm.Cond.code x code maxLocals ret, Jvm.Cond.code ({ cls := "org/adviceweft/pointcut/NamePatternMatchesPinLaw", name := "coreChar", desc := "(I)C" } : Jvm.MethodName) method_3_code (2 : Nat) (Option.some Jvm.ClassFile.FieldType.char), Jvm.Cond.code ({ cls := "java/lang/String", name := "<init>", desc := "([C)V" } : Jvm.MethodName) jdk_42_method_3_code (2 : Nat) (Option.none : Option Jvm.ClassFile.FieldType), Jvm.Cond.code ({ cls := "java/lang/String", name := "<init>", desc := "([CIILjava/lang/Void;)V" } : Jvm.MethodName) jdk_42_method_149_code (6 : Nat) (Option.none : Option Jvm.ClassFile.FieldType), Jvm.Cond.code ({ cls := "java/lang/Object", name := "<init>", desc := "()V" } : Jvm.MethodName) object_method_1_code (1 : Nat) (Option.none : Option Jvm.ClassFile.FieldType), Jvm.Cond.code ({ cls := "java/lang/StringUTF16", name := "compress", desc := "([CII)[B" } : Jvm.MethodName) jdk_52_method_16_code (6 : Nat) (Option.some (Jvm.ClassFile.FieldType.array Jvm.ClassFile.FieldType.byte)), Jvm.Cond.code ({ cls := "java/lang/StringUTF16", name := "compress", desc := "([CI[BII)I" } : Jvm.MethodName) jdk_52_method_21_code (7 : Nat) (Option.some Jvm.ClassFile.FieldType.int), Jvm.Cond.code ({ cls := "java/lang/StringUTF16", name := "coderFromArrayLen", desc := "([BI)B" } : Jvm.MethodName) jdk_52_method_15_code (2 : Nat) (Option.some Jvm.ClassFile.FieldType.byte), Jvm.Cond.code ({ cls := "org/adviceweft/pointcut/NamePattern", name := "<init>", desc := "(Ljava/lang/String;ZZ)V" } : Jvm.MethodName) prog_8_method_1_code (4 : Nat) (Option.none : Option Jvm.ClassFile.FieldType), Jvm.Cond.code ({ cls := "java/lang/Record", name := "<init>", desc := "()V" } : Jvm.MethodName) jdk_30_method_1_code (1 : Nat) (Option.none : Option Jvm.ClassFile.FieldType), Jvm.Cond.code ({ cls := "java/util/Objects", name := "requireNonNull", desc := "(Ljava/lang/Object;Ljava/lang/String;)Ljava/lang/Object;" } : Jvm.MethodName) jdk_31_method_11_code (2 : Nat) (Option.some (Jvm.ClassFile.FieldType.object "java/lang/Object")), Jvm.Cond.code ({ cls := "java/lang/String", name := "contains", desc := "(Ljava/lang/CharSequence;)Z" } : Jvm.MethodName) jdk_42_method_97_code (2 : Nat) (Option.some Jvm.ClassFile.FieldType.boolean), Jvm.Cond.code ({ cls := "java/lang/String", name := "toString", desc := "()Ljava/lang/String;" } : Jvm.MethodName) jdk_42_method_126_code (1 : Nat) (Option.some (Jvm.ClassFile.FieldType.object "java/lang/String")), Jvm.Cond.code ({ cls := "java/lang/String", name := "indexOf", desc := "(Ljava/lang/String;)I" } : Jvm.MethodName) jdk_42_method_84_code (3 : Nat) (Option.some Jvm.ClassFile.FieldType.int), Jvm.Cond.code ({ cls := "java/lang/String", name := "coder", desc := "()B" } : Jvm.MethodName) jdk_42_method_152_code (1 : Nat) (Option.some Jvm.ClassFile.FieldType.byte), Jvm.Cond.code ({ cls := "java/lang/String", name := "isLatin1", desc := "()Z" } : Jvm.MethodName) jdk_42_method_154_code (1 : Nat) (Option.some Jvm.ClassFile.FieldType.boolean), Jvm.Cond.code ({ cls := "java/lang/StringLatin1", name := "indexOf", desc := "([B[B)I" } : Jvm.MethodName) jdk_43_method_24_code (2 : Nat) (Option.some Jvm.ClassFile.FieldType.int), Jvm.Cond.code ({ cls := "java/lang/StringLatin1", name := "indexOf", desc := "([BI[BII)I" } : Jvm.MethodName) jdk_43_method_25_code (11 : Nat) (Option.some Jvm.ClassFile.FieldType.int), Jvm.Cond.code ({ cls := "java/lang/String", name := "isEmpty", desc := "()Z" } : Jvm.MethodName) jdk_42_method_55_code (1 : Nat) (Option.some Jvm.ClassFile.FieldType.boolean), Jvm.Cond.code ({ cls := "org/adviceweft/pointcut/NamePattern", name := "matches", desc := "(Ljava/lang/String;)Z" } : Jvm.MethodName) prog_8_method_3_code (2 : Nat) (Option.some Jvm.ClassFile.FieldType.boolean), Jvm.Cond.code ({ cls := "java/lang/String", name := "endsWith", desc := "(Ljava/lang/String;)Z" } : Jvm.MethodName) jdk_42_method_77_code (2 : Nat) (Option.some Jvm.ClassFile.FieldType.boolean), Jvm.Cond.code ({ cls := "java/lang/String", name := "length", desc := "()I" } : Jvm.MethodName) jdk_42_method_54_code (1 : Nat) (Option.some Jvm.ClassFile.FieldType.int), Jvm.Cond.code ({ cls := "java/lang/String", name := "startsWith", desc := "(Ljava/lang/String;I)Z" } : Jvm.MethodName) jdk_42_method_75_code (8 : Nat) (Option.some Jvm.ClassFile.FieldType.boolean), Jvm.Cond.code ({ cls := "org/adviceweft/pointcut/NamePatternMatchesPinLaw", name := "at", desc := "([CI[CII)Z" } : Jvm.MethodName) method_4_code (5 : Nat) (Option.some Jvm.ClassFile.FieldType.boolean), Jvm.Cond.code ({ cls := "jdk/internal/util/ArraysSupport", name := "mismatch", desc := "([BI[BII)I" } : Jvm.MethodName) jdk_48_method_14_code (8 : Nat) (Option.some Jvm.ClassFile.FieldType.int), Jvm.Cond.code ({ cls := "java/lang/String", name := "equals", desc := "(Ljava/lang/Object;)Z" } : Jvm.MethodName) jdk_42_method_66_code (3 : Nat) (Option.some Jvm.ClassFile.FieldType.boolean), Jvm.Cond.code ({ cls := "java/lang/StringLatin1", name := "equals", desc := "([B[B)Z" } : Jvm.MethodName) jdk_43_method_13_code (3 : Nat) (Option.some Jvm.ClassFile.FieldType.boolean), Jvm.Cond.code ({ cls := "java/lang/String", name := "startsWith", desc := "(Ljava/lang/String;)Z" } : Jvm.MethodName) jdk_42_method_76_code (2 : Nat) (Option.some Jvm.ClassFile.FieldType.boolean)]
set_option maxRecDepth 65536 in
theorem codes_eq : words1.filter isCode = codes1 := rfl
theorem w_codes : ∀ c ∈ words1.filter isCode, c.before args0 about1 = true := by
  rw [codes_eq]
  intro c hc
  simp only [codes1, List.mem_cons, List.not_mem_nil, or_false] at hc
  rcases hc with rfl | rfl | rfl | rfl | rfl | rfl | rfl | rfl | rfl | rfl | rfl | rfl | rfl | rfl | rfl | rfl | rfl | rfl | rfl | rfl | rfl | rfl | rfl | rfl | rfl | rfl | rfl | rfl
  · exact w_c0
  · exact w_c1
  · exact w_c2
  · exact w_c3
  · exact w_c4
  · exact w_c5
  · exact w_c6
  · exact w_c7
  · exact w_c8
  · exact w_c9
  · exact w_c10
  · exact w_c11
  · exact w_c12
  · exact w_c13
  · exact w_c14
  · exact w_c15
  · exact w_c16
  · exact w_c17
  · exact w_c18
  · exact w_c19
  · exact w_c20
  · exact w_c21
  · exact w_c22
  · exact w_c23
  · exact w_c24
  · exact w_c25
  · exact w_c26
  · exact w_c27
set_option maxRecDepth 65536 in
theorem w_t1 : (words1.take 24).all (fun c => isCode c || c.before args0 about1) = true := by decide +kernel
set_option maxRecDepth 65536 in
theorem w_t2 : ((words1.drop 24).take 24).all (fun c => isCode c || c.before args0 about1) = true := by decide +kernel
set_option maxRecDepth 65536 in
theorem w_t3 : (((words1.drop 24).drop 24).take 24).all (fun c => isCode c || c.before args0 about1) = true := by decide +kernel
set_option maxRecDepth 65536 in
theorem w_t4 : ((((words1.drop 24).drop 24).drop 24).take 24).all (fun c => isCode c || c.before args0 about1) = true := by decide +kernel
set_option maxRecDepth 65536 in
theorem w_t5 : (((((words1.drop 24).drop 24).drop 24).drop 24).take 24).all (fun c => isCode c || c.before args0 about1) = true := by decide +kernel
set_option maxRecDepth 65536 in
theorem w_t6 : (((((words1.drop 24).drop 24).drop 24).drop 24).drop 24).all (fun c => isCode c || c.before args0 about1) = true := by decide +kernel
theorem w_tables : (allAtoms (Jvm.Cond.code x code maxLocals ret :: tables_1)).before args0 about1 = true := by
  rw [allAtoms_all]
  show words1.all (fun c => c.before args0 about1) = true
  refine all_split ?_ w_codes
  rw [← List.take_append_drop 24 words1, List.all_append, w_t1, ← List.take_append_drop 24 (words1.drop 24), List.all_append, w_t2, ← List.take_append_drop 24 ((words1.drop 24).drop 24), List.all_append, w_t3, ← List.take_append_drop 24 (((words1.drop 24).drop 24).drop 24), List.all_append, w_t4, ← List.take_append_drop 24 ((((words1.drop 24).drop 24).drop 24).drop 24), List.all_append, w_t5, w_t6]
  rfl
set_option maxRecDepth 65536 in
theorem w_rest : rest_1_c.before args0 about1 = true := by decide +kernel
set_option maxRecDepth 65536 in
theorem w_case : (Jvm.Cond.and given_1 narrow_1).before args0 about1 = true := by decide +kernel
set_option maxRecDepth 65536 in
theorem w_consts : constsHeld consts_1 about1 := Jvm.Lit.constsHeldB_iff.mp (by decide +kernel)
theorem w_applies : (headSpec (Jvm.Cond.code x code maxLocals ret :: tables_1) room_1).applies x e0.platform about1 = true :=
  (Spec.applies_iff w_frames).mpr ⟨w_running, w_runnable, w_alone, w_named, w_hears, w_ripe, w_room, w_tables⟩
theorem atStart : AtStart classFile x code maxLocals ret World_1 tables_1 room_1 Calls_1 rest_1 Pre_1 launch0 p0 e0 about1 theMethod args0 below0 :=
  ⟨lists_1, trivial, launch0.admits_env _ _ _, launch0.least_env, fairChoices_fair.cas, fairChoices_fair.clock, w_frames, w_args, w_heap, w_applies, ⟨w_consts, trivial⟩, w_rest, w_case⟩
end start1
theorem witness_1 : WitnessClaimed_1 := ⟨start1.p0, start1.e0, start1.about1, start1.theMethod, start1.args0, start1.below0, start1.atStart⟩
end Jvm.Pilot.@@N@@
