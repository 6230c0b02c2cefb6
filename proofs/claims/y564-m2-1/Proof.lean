import JvmDerived
import JvmDerived.Pilot.@@N@@Statement
import JvmDerived.Pilot.@@N@@Code
set_option linter.unusedVariables false
set_option linter.unusedSimpArgs false
@@BLOCK:NumsL.lean.txt@@
namespace Jvm.RoadKit
open Sem ClassFile Op Lib Jvm.Stand Jvm.Free Jvm.LawKit
section Own
variable {p : Program} {l : Launch} {e : Env} {R : Room} {s : State} {m : MethodId} {args : Array Value} {below : List Frame} {meth : Method} {c : Code} {T T' : State} {locs : List Loc} {cells slots : Nat} {K : State → Outcome → Prop} {g g' : JFrame} {A A' : Array Slot} {S : List Value} {q : Nat} {x y : Int32} {v w : Value} {Z : State} {a0 : Array Value} {h : Heap}
theorem o_mask255 (x : Int32) : (x &&& 255).toInt = x.toInt % 256 := Jvm.Kit.i32_mask x 255 (k := 8) (by decide) (by decide)
/-- from T with the frame g the body comes to an end of which K is true -/
def o_G (p : Program) (e : Env) (below : List Frame) (K : State → Outcome → Prop) (T : State) (g : JFrame) : Prop := ∃ s₂ o, Steps p.tables e below (T.setTop g) s₂ ∧ s₂.status = .running ∧ Ended s₂ below o ∧ K s₂ o
def o_E (s : State) (Q : Option Value → Heap → List Loc → Prop) (C N : Nat) (t : State) (o : Outcome) : Prop := ∃ v L, o = .returned v ∧ Q v t.heap L ∧ FrameEnd s o t L C N
theorem o_st (h : ∀ t, Steps p.tables e below (T'.setTop g') t → Steps p.tables e below (T.setTop g) t) (k : o_G p e below K T' g') : o_G p e below K T g := by
  obtain ⟨a, b, c, d⟩ := k; exact ⟨a, b, h _ c, d⟩
theorem o_tr (h : Steps p.tables e below (T.setTop g) (T'.setTop g')) (k : o_G p e below K T' g') : o_G p e below K T g := by
  obtain ⟨a, b, c, d⟩ := k; exact ⟨a, b, h.trans c, d⟩
theorem o_up {C N : Nat} (X : Stand p l e R s m args below meth c T locs cells slots) (h1 : cells ≤ C) (h2 : slots ≤ N) : Stand p l e R s m args below meth c T locs C N := { X with same := X.same.mono h1 h2 }
theorem o_iload (X : Stand p l e R s m args below meth c T locs cells slots) (hx : p.tables.exec = Jvm.exec) {k : Nat} (hd : decode c.code q = .ok (.iload k, 2)) (hl : A[k]? = some (.val (.int x))) (kk : o_G p e below K T (mkF m (q + 2) A (.int x :: S))) : o_G p e below K T (mkF m q A S) := o_st (fun _ z => XS.iload X.here hx rfl hd hl z) kk
theorem o_iloadN (X : Stand p l e R s m args below meth c T locs cells slots) (hx : p.tables.exec = Jvm.exec) {k : Fin 4} (hd : decode c.code q = .ok (.iload_n k, 1)) (hl : A[k.val]? = some (.val (.int x))) (kk : o_G p e below K T (mkF m (q + 1) A (.int x :: S))) : o_G p e below K T (mkF m q A S) := o_st (fun _ z => XS.iloadN X.here hx rfl hd hl z) kk
theorem o_aload (X : Stand p l e R s m args below meth c T locs cells slots) (hx : p.tables.exec = Jvm.exec) {k : Nat} (hd : decode c.code q = .ok (.aload k, 2)) (hl : A[k]? = some (.val v)) (hv : v.isRef = true) (kk : o_G p e below K T (mkF m (q + 2) A (v :: S))) : o_G p e below K T (mkF m q A S) := o_st (fun _ z => XS.aload X.here hx rfl hd hl hv z) kk
theorem o_aloadN (X : Stand p l e R s m args below meth c T locs cells slots) (hx : p.tables.exec = Jvm.exec) {k : Fin 4} (hd : decode c.code q = .ok (.aload_n k, 1)) (hl : A[k.val]? = some (.val v)) (hv : v.isRef = true) (kk : o_G p e below K T (mkF m (q + 1) A (v :: S))) : o_G p e below K T (mkF m q A S) := o_st (fun _ z => XS.aloadN X.here hx rfl hd hl hv z) kk
theorem o_istore (X : Stand p l e R s m args below meth c T locs cells slots) (hx : p.tables.exec = Jvm.exec) {k : Nat} (hd : decode c.code q = .ok (.istore k, 2)) (hl : storeLocals A k (.int x) = some A') (kk : o_G p e below K T (mkF m (q + 2) A' S)) : o_G p e below K T (mkF m q A (.int x :: S)) := o_st (fun _ z => XS.istore X.here hx rfl hd rfl hl z) kk
theorem o_istoreN (X : Stand p l e R s m args below meth c T locs cells slots) (hx : p.tables.exec = Jvm.exec) {k : Fin 4} (hd : decode c.code q = .ok (.istore_n k, 1)) (hl : storeLocals A k.val (.int x) = some A') (kk : o_G p e below K T (mkF m (q + 1) A' S)) : o_G p e below K T (mkF m q A (.int x :: S)) := o_st (fun _ z => XS.istoreN X.here hx rfl hd rfl hl z) kk
theorem o_astore (X : Stand p l e R s m args below meth c T locs cells slots) (hx : p.tables.exec = Jvm.exec) {k : Nat} (hd : decode c.code q = .ok (.astore k, 2)) (hv : v.isRef = true) (hl : storeLocals A k v = some A') (kk : o_G p e below K T (mkF m (q + 2) A' S)) : o_G p e below K T (mkF m q A (v :: S)) := o_st (fun _ z => XS.astore X.here hx rfl hd rfl hv hl z) kk
theorem o_astoreN (X : Stand p l e R s m args below meth c T locs cells slots) (hx : p.tables.exec = Jvm.exec) {k : Fin 4} (hd : decode c.code q = .ok (.astore_n k, 1)) (hv : v.isRef = true) (hl : storeLocals A k.val v = some A') (kk : o_G p e below K T (mkF m (q + 1) A' S)) : o_G p e below K T (mkF m q A (v :: S)) := o_st (fun _ z => XS.astoreN X.here hx rfl hd rfl hv hl z) kk
theorem o_iconst (X : Stand p l e R s m args below meth c T locs cells slots) (hx : p.tables.exec = Jvm.exec) {i : Int} (hd : decode c.code q = .ok (.iconst i, 1)) (hv : Int32.ofInt i = x) (kk : o_G p e below K T (mkF m (q + 1) A (.int x :: S))) : o_G p e below K T (mkF m q A S) := o_st (fun _ z => XS.iconst X.here hx rfl hd z) (hv ▸ kk)
theorem o_bipush (X : Stand p l e R s m args below meth c T locs cells slots) (hx : p.tables.exec = Jvm.exec) {i : Int} (hd : decode c.code q = .ok (.bipush i, 2)) (hv : (Int8.ofInt i).toInt32 = x) (kk : o_G p e below K T (mkF m (q + 2) A (.int x :: S))) : o_G p e below K T (mkF m q A S) := o_st (fun _ z => XS.bipush X.here hx rfl hd z) (hv ▸ kk)
theorem o_sipush (X : Stand p l e R s m args below meth c T locs cells slots) (hx : p.tables.exec = Jvm.exec) {i : Int} (hd : decode c.code q = .ok (.sipush i, 3)) (hv : (Int16.ofInt i).toInt32 = x) (kk : o_G p e below K T (mkF m (q + 3) A (.int x :: S))) : o_G p e below K T (mkF m q A S) := o_st (fun _ z => XS.sipush X.here hx rfl hd z) (hv ▸ kk)
theorem o_anull (X : Stand p l e R s m args below meth c T locs cells slots) (hx : p.tables.exec = Jvm.exec) (hd : decode c.code q = .ok (.aconst_null, 1)) (kk : o_G p e below K T (mkF m (q + 1) A (.null :: S))) : o_G p e below K T (mkF m q A S) := o_st (fun _ z => XS.aconstNull X.here hx rfl hd z) kk
theorem o_iadd (X : Stand p l e R s m args below meth c T locs cells slots) (hx : p.tables.exec = Jvm.exec) (hd : decode c.code q = .ok (.iadd, 1)) (kk : o_G p e below K T (mkF m (q + 1) A (.int (x + y) :: S))) : o_G p e below K T (mkF m q A (.int y :: .int x :: S)) := o_st (fun _ z => XS.iadd X.here hx rfl hd rfl z) kk
theorem o_isub (X : Stand p l e R s m args below meth c T locs cells slots) (hx : p.tables.exec = Jvm.exec) (hd : decode c.code q = .ok (.isub, 1)) (kk : o_G p e below K T (mkF m (q + 1) A (.int (x - y) :: S))) : o_G p e below K T (mkF m q A (.int y :: .int x :: S)) := o_st (fun _ z => XS.isub X.here hx rfl hd rfl z) kk
theorem o_imul (X : Stand p l e R s m args below meth c T locs cells slots) (hx : p.tables.exec = Jvm.exec) (hd : decode c.code q = .ok (.imul, 1)) (kk : o_G p e below K T (mkF m (q + 1) A (.int (x * y) :: S))) : o_G p e below K T (mkF m q A (.int y :: .int x :: S)) := o_st (fun _ z => XS.imul X.here hx rfl hd rfl z) kk
theorem o_iand (X : Stand p l e R s m args below meth c T locs cells slots) (hx : p.tables.exec = Jvm.exec) (hd : decode c.code q = .ok (.iand, 1)) (kk : o_G p e below K T (mkF m (q + 1) A (.int (x &&& y) :: S))) : o_G p e below K T (mkF m q A (.int y :: .int x :: S)) := o_st (fun _ z => XS.iand X.here hx rfl hd rfl z) kk
theorem o_ior (X : Stand p l e R s m args below meth c T locs cells slots) (hx : p.tables.exec = Jvm.exec) (hd : decode c.code q = .ok (.ior, 1)) (kk : o_G p e below K T (mkF m (q + 1) A (.int (x ||| y) :: S))) : o_G p e below K T (mkF m q A (.int y :: .int x :: S)) := o_st (fun _ z => XT.ior X.here hx rfl hd rfl z) kk
theorem o_ixor (X : Stand p l e R s m args below meth c T locs cells slots) (hx : p.tables.exec = Jvm.exec) (hd : decode c.code q = .ok (.ixor, 1)) (kk : o_G p e below K T (mkF m (q + 1) A (.int (x ^^^ y) :: S))) : o_G p e below K T (mkF m q A (.int y :: .int x :: S)) := o_st (fun _ z => XT.ixor X.here hx rfl hd rfl z) kk
theorem o_irem (X : Stand p l e R s m args below meth c T locs cells slots) (hx : p.tables.exec = Jvm.exec) (hd : decode c.code q = .ok (.irem, 1)) (hy : y ≠ 0) (kk : o_G p e below K T (mkF m (q + 1) A (.int (x % y) :: S))) : o_G p e below K T (mkF m q A (.int y :: .int x :: S)) := o_st (fun _ z => iremM (g := mkF m q A (.int y :: .int x :: S)) X hx rfl hd rfl hy z) kk
theorem o_iushr (X : Stand p l e R s m args below meth c T locs cells slots) (hx : p.tables.exec = Jvm.exec) (hd : decode c.code q = .ok (.iushr, 1)) (kk : o_G p e below K T (mkF m (q + 1) A (.int (XT.ushr x y) :: S))) : o_G p e below K T (mkF m q A (.int y :: .int x :: S)) := o_st (fun _ z => XT.iushr X.here hx rfl hd rfl z) kk
theorem o_ishl (X : Stand p l e R s m args below meth c T locs cells slots) (hx : p.tables.exec = Jvm.exec) (hd : decode c.code q = .ok (.ishl, 1)) (kk : o_G p e below K T (mkF m (q + 1) A (.int (x <<< (y &&& 31)) :: S))) : o_G p e below K T (mkF m q A (.int y :: .int x :: S)) := o_st (fun _ z => XT.ishl X.here hx rfl hd rfl z) kk
theorem o_ishr (X : Stand p l e R s m args below meth c T locs cells slots) (hx : p.tables.exec = Jvm.exec) (hd : decode c.code q = .ok (.ishr, 1)) (kk : o_G p e below K T (mkF m (q + 1) A (.int (x >>> (y &&& 31)) :: S))) : o_G p e below K T (mkF m q A (.int y :: .int x :: S)) := o_st (fun _ z => XT.ishr X.here hx rfl hd rfl z) kk
theorem o_i2b (X : Stand p l e R s m args below meth c T locs cells slots) (hx : p.tables.exec = Jvm.exec) (hd : decode c.code q = .ok (.i2b, 1)) (kk : o_G p e below K T (mkF m (q + 1) A (.int x.toInt8.toInt32 :: S))) : o_G p e below K T (mkF m q A (.int x :: S)) := o_st (fun _ z => XT.i2b X.here hx rfl hd rfl z) kk
theorem o_i2c (X : Stand p l e R s m args below meth c T locs cells slots) (hx : p.tables.exec = Jvm.exec) (hd : decode c.code q = .ok (.i2c, 1)) (kk : o_G p e below K T (mkF m (q + 1) A (.int x.toUInt32.toUInt16.toUInt32.toInt32 :: S))) : o_G p e below K T (mkF m q A (.int x :: S)) := o_st (fun _ z => XT.i2c X.here hx rfl hd rfl z) kk
theorem o_iinc (X : Stand p l e R s m args below meth c T locs cells slots) (hx : p.tables.exec = Jvm.exec) {k : Nat} {cst : Int} (hd : decode c.code q = .ok (.iinc k cst, 3)) (hv : Int32.ofInt cst = y) (hl : A[k]? = some (.val (.int x))) (hs : storeLocals A k (.int (x + y)) = some A') (kk : o_G p e below K T (mkF m (q + 3) A' S)) : o_G p e below K T (mkF m q A S) := o_st (fun _ z => XS.iinc X.here hx rfl hd hl (hv ▸ hs) z) kk
theorem o_dup (X : Stand p l e R s m args below meth c T locs cells slots) (hx : p.tables.exec = Jvm.exec) (hd : decode c.code q = .ok (.dup, 1)) (hc : v.category = 1) (kk : o_G p e below K T (mkF m (q + 1) A (v :: v :: S))) : o_G p e below K T (mkF m q A (v :: S)) := o_st (fun _ z => XS.dup X.here hx rfl hd rfl hc z) kk
theorem o_dupX1 (X : Stand p l e R s m args below meth c T locs cells slots) (hx : p.tables.exec = Jvm.exec) (hd : decode c.code q = .ok (.dup_x1, 1)) (hc : v.category = 1) (hc' : w.category = 1) (kk : o_G p e below K T (mkF m (q + 1) A (v :: w :: v :: S))) : o_G p e below K T (mkF m q A (v :: w :: S)) := o_st (fun _ z => XT.dupX1 X.here hx rfl hd rfl hc hc' z) kk
theorem o_dup2 (X : Stand p l e R s m args below meth c T locs cells slots) (hx : p.tables.exec = Jvm.exec) (hd : decode c.code q = .ok (.dup2, 1)) (hc : v.category = 1) (hc' : w.category = 1) (kk : o_G p e below K T (mkF m (q + 1) A (v :: w :: v :: w :: S))) : o_G p e below K T (mkF m q A (v :: w :: S)) := o_st (fun _ z => XT.dup2 X.here hx rfl hd rfl hc hc' z) kk
theorem o_pop (X : Stand p l e R s m args below meth c T locs cells slots) (hx : p.tables.exec = Jvm.exec) (hd : decode c.code q = .ok (.pop, 1)) (hc : v.category = 1) (kk : o_G p e below K T (mkF m (q + 1) A S)) : o_G p e below K T (mkF m q A (v :: S)) := o_st (fun _ z => XT.pop X.here hx rfl hd rfl hc z) kk
theorem o_goto (X : Stand p l e R s m args below meth c T locs cells slots) (hx : p.tables.exec = Jvm.exec) {o : Int} {t : Nat} (hd : decode c.code q = .ok (.goto o, 3)) (ho : 0 ≤ (q : Int) + o) (ht : ((q : Int) + o).toNat = t) (kk : o_G p e below K T (mkF m t A S)) : o_G p e below K T (mkF m q A S) := o_st (fun _ z => XS.goto X.here hx rfl (pc0 := q) rfl hd ho ht z) kk
theorem o_if (X : Stand p l e R s m args below meth c T locs cells slots) (hx : p.tables.exec = Jvm.exec) {cd : ClassFile.Cond} {o : Int} {t : Nat} (hd : decode c.code q = .ok (.ifCond cd o, 3)) (ho : 0 ≤ (q : Int) + o) (ht : ((q : Int) + o).toNat = t) (kT : ifCond.holds cd x = true → o_G p e below K T (mkF m t A S)) (kF : ifCond.holds cd x = false → o_G p e below K T (mkF m (q + 3) A S)) : o_G p e below K T (mkF m q A (.int x :: S)) := by
  cases hc : ifCond.holds cd x with
  | true => exact o_st (fun _ z => XS.ifYes X.here hx rfl (pc0 := q) rfl hd rfl hc ho ht z) (kT hc)
  | false => exact o_st (fun _ z => XS.ifNo X.here hx rfl hd rfl hc z) (kF hc)
theorem o_icmp (X : Stand p l e R s m args below meth c T locs cells slots) (hx : p.tables.exec = Jvm.exec) {cd : ClassFile.Cond} {o : Int} {t : Nat} (hd : decode c.code q = .ok (.if_icmp cd o, 3)) (ho : 0 ≤ (q : Int) + o) (ht : ((q : Int) + o).toNat = t) (kT : if_icmp.holds cd x y = true → o_G p e below K T (mkF m t A S)) (kF : if_icmp.holds cd x y = false → o_G p e below K T (mkF m (q + 3) A S)) : o_G p e below K T (mkF m q A (.int y :: .int x :: S)) := by
  cases hc : if_icmp.holds cd x y with
  | true => exact o_st (fun _ z => XS.icmpYes X.here hx rfl (pc0 := q) rfl hd rfl hc ho ht z) (kT hc)
  | false => exact o_st (fun _ z => XS.icmpNo X.here hx rfl hd rfl hc z) (kF hc)
theorem o_h_eq : (ifCond.holds .eq x = true → x = 0) ∧ (ifCond.holds .eq x = false → ¬ x = 0) := by simp [ifCond.holds]
theorem o_h_ne : (ifCond.holds .ne x = true → ¬ x = 0) ∧ (ifCond.holds .ne x = false → x = 0) := by simp [ifCond.holds]
theorem o_h_lt : (ifCond.holds .lt x = true → x < 0) ∧ (ifCond.holds .lt x = false → ¬ x < 0) := by simp [ifCond.holds]
theorem o_h_ge : (ifCond.holds .ge x = true → ¬ x < 0) ∧ (ifCond.holds .ge x = false → x < 0) := by simp [ifCond.holds, ← Int32.not_lt]
theorem o_h_gt : (ifCond.holds .gt x = true → 0 < x) ∧ (ifCond.holds .gt x = false → ¬ 0 < x) := by simp [ifCond.holds]
theorem o_h_le : (ifCond.holds .le x = true → ¬ 0 < x) ∧ (ifCond.holds .le x = false → 0 < x) := by simp [ifCond.holds, ← Int32.not_lt]
theorem o_c_eq : (if_icmp.holds .eq x y = true → x = y) ∧ (if_icmp.holds .eq x y = false → ¬ x = y) := by simp [if_icmp.holds]
theorem o_c_ne : (if_icmp.holds .ne x y = true → ¬ x = y) ∧ (if_icmp.holds .ne x y = false → x = y) := by simp [if_icmp.holds]
theorem o_c_lt : (if_icmp.holds .lt x y = true → x < y) ∧ (if_icmp.holds .lt x y = false → ¬ x < y) := by simp [if_icmp.holds]
theorem o_c_ge : (if_icmp.holds .ge x y = true → ¬ x < y) ∧ (if_icmp.holds .ge x y = false → x < y) := by simp [if_icmp.holds, ← Int32.not_lt]
theorem o_c_gt : (if_icmp.holds .gt x y = true → y < x) ∧ (if_icmp.holds .gt x y = false → ¬ y < x) := by simp [if_icmp.holds]
theorem o_c_le : (if_icmp.holds .le x y = true → ¬ y < x) ∧ (if_icmp.holds .le x y = false → y < x) := by simp [if_icmp.holds, ← Int32.not_lt]
theorem o_acmp (X : Stand p l e R s m args below meth c T locs cells slots) (hx : p.tables.exec = Jvm.exec) {cd : ACond} {o : Int} {t : Nat} (h1 : v.isRef = true) (h2 : w.isRef = true) (hd : decode c.code q = .ok (.if_acmp cd o, 3)) (ho : 0 ≤ (q : Int) + o) (ht : ((q : Int) + o).toNat = t) (kY : v = w → o_G p e below K T (mkF m (if acV cd true = true then t else q + 3) A S)) (kN : ¬ v = w → o_G p e below K T (mkF m (if acV cd false = true then t else q + 3) A S)) : o_G p e below K T (mkF m q A (w :: v :: S)) := by
  by_cases hq : v = w
  · exact o_st (fun _ z => acmp (g := mkF m q A (w :: v :: S)) X hx rfl h1 h2 (pc0 := q) rfl hd rfl (decide_eq_true hq) ho (by rw [ht]) z) (kY hq)
  · exact o_st (fun _ z => acmp (g := mkF m q A (w :: v :: S)) X hx rfl h1 h2 (pc0 := q) rfl hd rfl (decide_eq_false hq) ho (by rw [ht]) z) (kN hq)
theorem o_nullY (X : Stand p l e R s m args below meth c T locs cells slots) (hx : p.tables.exec = Jvm.exec) {o : Int} {t : Nat} (hd : decode c.code q = .ok (.ifnull o, 3)) (ho : 0 ≤ (q : Int) + o) (ht : ((q : Int) + o).toNat = t) (kk : o_G p e below K T (mkF m t A S)) : o_G p e below K T (mkF m q A (.null :: S)) := o_st (fun _ z => XS.ifnullYes X.here hx rfl (pc0 := q) rfl hd rfl ho ht z) kk
theorem o_nullN {b : Addr} (X : Stand p l e R s m args below meth c T locs cells slots) (hx : p.tables.exec = Jvm.exec) {o : Int} (hd : decode c.code q = .ok (.ifnull o, 3)) (kk : o_G p e below K T (mkF m (q + 3) A S)) : o_G p e below K T (mkF m q A (.ref b :: S)) := o_st (fun _ z => XS.ifnullNo X.here hx rfl hd rfl z) kk
theorem o_nonnullY {b : Addr} (X : Stand p l e R s m args below meth c T locs cells slots) (hx : p.tables.exec = Jvm.exec) {o : Int} {t : Nat} (hd : decode c.code q = .ok (.ifnonnull o, 3)) (ho : 0 ≤ (q : Int) + o) (ht : ((q : Int) + o).toNat = t) (kk : o_G p e below K T (mkF m t A S)) : o_G p e below K T (mkF m q A (.ref b :: S)) := o_st (fun _ z => XT.ifnonnullYes X.here hx rfl (pc0 := q) rfl hd rfl ho ht z) kk
theorem o_nonnullN (X : Stand p l e R s m args below meth c T locs cells slots) (hx : p.tables.exec = Jvm.exec) {o : Int} (hd : decode c.code q = .ok (.ifnonnull o, 3)) (kk : o_G p e below K T (mkF m (q + 3) A S)) : o_G p e below K T (mkF m q A (.null :: S)) := o_st (fun _ z => XT.ifnonnullNo X.here hx rfl hd rfl z) kk
theorem o_fitR {ty : FieldType} (ht : ty.isReference = true) (hv : v.isRef = true) : fits ty v = true := by
  rcases ref_cases hv with rfl | ⟨a, rfl⟩ <;> cases ty <;> simp_all [fits, FieldType.isReference]
theorem o_chr (x : Int32) : ∃ c : Int32, c = x &&& 255 ∧ (x &&& 255).toUInt32.toUInt16.toUInt32.toInt32 = c ∧ nar .char c = c ∧ ¬ c < 0 ∧ ¬ (255 : Int32) < c := by
  have h1 : (x &&& 255).toInt = x.toInt % 256 := by
    have := Jvm.RoadKit.o_mask255 x
    exact this
  refine ⟨x &&& 255, rfl, i2c_mask x, i2c_mask x, ?_, ?_⟩
  · rw [Int32.lt_iff_toInt_lt, h1]; show ¬ _ < (0 : Int); omega
  · rw [Int32.lt_iff_toInt_lt, h1]; show ¬ (255 : Int) < _; omega
theorem o_join {α : Type} {P : α → Prop} {F : α → JFrame} (X : Stand p l e R s m args below meth c T locs cells slots) (eT : T.heap = h) (kJ : ∀ T', Stand p l e R s m args below meth c T' locs cells slots → T'.heap = h → ∀ a, P a → o_G p e below K T' (F a)) (kB : (∀ T', Stand p l e R s m args below meth c T' locs cells slots → T'.heap = h → ∀ a, P a → o_G p e below K T' (F a)) → o_G p e below K T g) : o_G p e below K T g := kB kJ
theorem o_notInst {C Kn : String} {n : Nat} (w : (Cond.superclass C "java/lang/Object").before a0 Z = true) (w0 : (Cond.noSuperclass "java/lang/Object").before a0 Z = true) (wi : (Cond.instantiable Kn n).before a0 Z = true) (h1 : C ≠ Kn) (h2 : "java/lang/Object" ≠ Kn) : ∃ c t, Z.vm.findClass C = some c ∧ Z.vm.findClass Kn = some t ∧ Z.vm.assignable c t = false := by
  obtain ⟨t, kt, g0, g2, g5, g7, -⟩ := Cond.instantiable_spec wi
  obtain ⟨c, h0⟩ := found_sup w
  obtain ⟨p, k, kp, e1, e2, e3, e4, e5, -, e7⟩ := Cond.superclass_spec h0 w
  obtain ⟨o, ko, o1, o2, o3, -, -⟩ := Cond.noSuperclass_spec w0
  cases o1.symm.trans e1
  have ne := ids_ne h0 g0 h1
  have ne2 := ids_ne o1 g0 h2
  have n3 : ∀ fuel, Z.vm.isSubclassAux fuel c t = false := fun fuel => by
    cases fuel with
    | zero => rfl
    | succ f =>
      cases f with
      | zero => simp [Vm.isSubclassAux, ne, e2, e4]
      | succ f => simp [Vm.isSubclassAux, ne, e2, e4, ne2, o2, o3]
  have g8 : kt.isInterface = false := by
    cases hi : kt.isInterface with
    | false => rfl
    | true => rw [hi] at g7; simp at g7
  refine ⟨c, t, h0, g0, ?_⟩
  show Z.vm.assignableAux (255 + 1) c t = false
  simp [Vm.assignableAux, ne, e2, g2, e5, g5, g8, Vm.isSubclass, n3]
/-! the ends of a body -/
section Ends
variable {Q : Option Value → Heap → List Loc → Prop} {C N : Nat}
theorem o_retN {t : FieldType} (X : Stand p l e R s m args below meth c T locs cells slots) (hx : p.tables.exec = Jvm.exec) (hret : meth.sig.returnType = some t) (hlocks : meth.locks = false) (ht : t = .boolean ∨ t = .byte ∨ t = .char ∨ t = .short) (hd : decode c.code q = .ok (.ireturn, 1)) (hn : nar t x = x) (hc : cells ≤ C) (hs : slots ≤ N) (hQ : Q (some (.int x)) T.heap locs) : o_G p e below (o_E s Q C N) T (mkF m q A (.int x :: S)) := by
  obtain ⟨fs, hr, hrun, hended, hW, hsame⟩ := X.leave (v := some (.int (nar t x))) (fun h => by rw [hret] at h; cases h) hlocks
  refine ⟨_, _, retN X hx hret ht hd hr, hrun, hended, _, _, rfl, ?_, ⟨_, rfl⟩, hW, hsame.mono hc hs⟩
  rw [hn]; exact hQ
theorem o_retI (X : Stand p l e R s m args below meth c T locs cells slots) (hx : p.tables.exec = Jvm.exec) (hret : meth.sig.returnType = some .int) (hlocks : meth.locks = false) (hd : decode c.code q = .ok (.ireturn, 1)) (hc : cells ≤ C) (hs : slots ≤ N) (hQ : Q (some (.int x)) T.heap locs) : o_G p e below (o_E s Q C N) T (mkF m q A (.int x :: S)) := by
  obtain ⟨fs, hr, hrun, hended, hW, hsame⟩ := X.leave (v := some (.int x)) (fun h => by rw [hret] at h; cases h) hlocks
  exact ⟨_, _, retOut X hx hret rfl (Or.inl ⟨rfl, Or.inl rfl, _, rfl⟩) hd hr, hrun, hended, _, _, rfl, hQ, ⟨_, rfl⟩, hW, hsame.mono hc hs⟩
theorem o_retA {t : FieldType} (X : Stand p l e R s m args below meth c T locs cells slots) (hx : p.tables.exec = Jvm.exec) (hret : meth.sig.returnType = some t) (hlocks : meth.locks = false) (ht : t.isReference = true) (hv : v.isRef = true) (hn : narrow t v = v) (hd : decode c.code q = .ok (.areturn, 1)) (hc : cells ≤ C) (hs : slots ≤ N) (hQ : Q (some v) T.heap locs) : o_G p e below (o_E s Q C N) T (mkF m q A (v :: S)) := by
  obtain ⟨fs, hr, hrun, hended, hW, hsame⟩ := X.leave (v := some v) (fun h => by rw [hret] at h; cases h) hlocks
  exact ⟨_, _, retOut X hx hret hn (Or.inr (Or.inr (Or.inr (Or.inr ⟨rfl, ht, hv⟩)))) hd hr, hrun, hended, _, _, rfl, hQ, ⟨_, rfl⟩, hW, hsame.mono hc hs⟩
theorem o_retV (X : Stand p l e R s m args below meth c T locs cells slots) (hx : p.tables.exec = Jvm.exec) (hret : meth.sig.returnType = none) (hlocks : meth.locks = false) (hd : decode c.code q = .ok (.return_, 1)) (hc : cells ≤ C) (hs : slots ≤ N) (hQ : Q none T.heap locs) : o_G p e below (o_E s Q C N) T (mkF m q A []) := by
  obtain ⟨fs, hr, hrun, hended, hW, hsame⟩ := X.leave (v := none) (fun _ => rfl) hlocks
  exact ⟨_, _, X.returnOut hx hret hd hr, hrun, hended, _, _, rfl, hQ, ⟨_, rfl⟩, hW, hsame.mono hc hs⟩
end Ends
/-! calls, by what pays them -/
section Calls
variable {Q : Option Value → Heap → List Loc → Prop} {kc ks W : Nat} {own C : String} {index : Nat} {z y : MethodName} {argsL St : List Value} {b : Addr}
theorem o_static {bytes : ByteArray} {maxL : Nat} {ret : Option FieldType} {y : MethodName} (X : Stand p l e R s m args below meth c T locs cells slots) (hx : p.tables.exec = Jvm.exec) (hZ : Z.Warmed39 s.vm) (hown : s.vm.findClass own = some m.cls) (w1 : (Cond.methodLink own index y).before a0 Z = true) (w2 : (Cond.static y).before a0 Z = true) (w3 : (Cond.initialized y.cls).before a0 Z = true) (w4 : (Cond.code y bytes maxL ret).before a0 Z = true) (hy : y.cls ≠ "java/lang/invoke/MethodHandle" ∧ y.cls ≠ "java/lang/invoke/VarHandle")
    (hK : Back l R p e below s args y 3 W (fun P a => a = argsL.toArray ∧ P.U.heap = h ∧ P.cells + kc ≤ R.cells ∧ P.slots + ks ≤ R.slots) (fun P _ v B => ∃ L, Q v B.U.heap L ∧ B.locs = P.locs ++ L ∧ B.cells = P.cells + kc ∧ B.slots = P.slots + ks))
    (eT : T.heap = h) (hsz : A.size = c.maxLocals) (hlen : ∀ sig, parseMethodDescriptor y.desc = some sig → argsL.length = sig.parameters.length) (hst : St = argsL.reverse ++ S) (hW : (S.map fun v => v.category).sum ≤ W) (hd : decode c.code q = .ok (.invokestatic index, 3)) (hc : cells + kc ≤ R.cells) (hs : slots + ks ≤ R.slots)
    (kk : ∀ T' L v, Stand p l e R s m args below meth c T' (locs ++ L) (cells + kc) (slots + ks) → Q v T'.heap L → o_G p e below K T' (mkF m (q + 3) A (v.toList ++ S))) : o_G p e below K T (mkF m q A St) := by
  subst hst
  obtain ⟨v, _, ⟨T', L', k', n'⟩, -, X', ⟨L, hQ, l1, l2, l3⟩, st⟩ := Jvm.LawKit.callS X hx hown (mvT hZ w1) (mvT hZ w2) (mvT hZ w3) (mvT hZ w4) hy hK (g := mkF m q A (argsL.reverse ++ S)) rfl hsz hlen rfl (by show 2 * 0 + _ ≤ _; omega) hd (fun _ _ => ⟨rfl, eT, hc, hs⟩)
  dsimp only [Pt.U, Pt.locs, Pt.cells, Pt.slots] at X' l1 l2 l3 st hQ
  subst l1 l2 l3
  exact o_st st (kk _ _ _ X' hQ)
theorem o_init {bytes : ByteArray} {maxL : Nat} {y : MethodName} (hy1 : y.name = "<init>") (X : Stand p l e R s m args below meth c T locs cells slots) (hx : p.tables.exec = Jvm.exec) (hZ : Z.Warmed39 s.vm) (hown : s.vm.findClass own = some m.cls) (w1 : (Cond.methodLink own index y).before a0 Z = true) (w2 : (Cond.instanceMethod y).before a0 Z = true) (w4 : (Cond.code y bytes maxL none).before a0 Z = true) (hy : y.cls ≠ "java/lang/invoke/MethodHandle" ∧ y.cls ≠ "java/lang/invoke/VarHandle")
    (hK : Back l R p e below s args y 3 W (fun P a => a = (Value.ref b :: argsL).toArray ∧ P.U.heap = h ∧ P.cells + kc ≤ R.cells ∧ P.slots + ks ≤ R.slots) (fun P _ v B => ∃ L, Q v B.U.heap L ∧ B.locs = P.locs ++ L ∧ B.cells = P.cells + kc ∧ B.slots = P.slots + ks))
    (eT : T.heap = h) (hsz : A.size = c.maxLocals) (hlen : ∀ sig, parseMethodDescriptor y.desc = some sig → argsL.length = sig.parameters.length) (hst : St = argsL.reverse ++ .ref b :: S) (hW : (S.map fun v => v.category).sum ≤ W) (hd : decode c.code q = .ok (.invokespecial index, 3)) (hc : cells + kc ≤ R.cells) (hs : slots + ks ≤ R.slots)
    (kk : ∀ T' L v, Stand p l e R s m args below meth c T' (locs ++ L) (cells + kc) (slots + ks) → Q v T'.heap L → o_G p e below K T' (mkF m (q + 3) A (v.toList ++ S))) : o_G p e below K T (mkF m q A St) := by
  subst hst
  obtain ⟨v, _, ⟨T', L', k', n'⟩, -, X', ⟨L, hQ, l1, l2, l3⟩, st⟩ := X.specialBack hx hy1 hown (mvT hZ w1) (mvT hZ w2) (mvT hZ w4) hy hK (g := mkF m q A (argsL.reverse ++ .ref b :: S)) rfl hsz (Steps.refl _) (a := b) (argsL := argsL) (rest := S) hlen rfl (by show 2 * 0 + _ ≤ _; omega) hd (fun _ _ => ⟨rfl, eT, hc, hs⟩)
  dsimp only [Pt.U, Pt.locs, Pt.cells, Pt.slots] at X' l1 l2 l3 st hQ
  subst l1 l2 l3
  exact o_tr st (kk _ _ _ X' hQ)
theorem o_virtual {y z : MethodName} (X : Stand p l e R s m args below meth c T locs cells slots) (hx : p.tables.exec = Jvm.exec) (hZ : Z.Warmed39 s.vm) (hown : s.vm.findClass own = some m.cls) (w1 : (Cond.methodLink own index y).before a0 Z = true) (w2 : (Cond.declares y).before a0 Z = true) (hnf : NotFace s y) (w3 : (Cond.selects C y z).before a0 Z = true) (w4 : (Cond.instanceMethod z).before a0 Z = true) (hy : y.cls ≠ "java/lang/invoke/MethodHandle" ∧ y.cls ≠ "java/lang/invoke/VarHandle")
    (hK : Back l R p e below s args z 3 W (fun P a => a = (Value.ref b :: argsL).toArray ∧ P.U.heap = h ∧ P.cells + kc ≤ R.cells ∧ P.slots + ks ≤ R.slots) (fun P _ v B => ∃ L, Q v B.U.heap L ∧ B.locs = P.locs ++ L ∧ B.cells = P.cells + kc ∧ B.slots = P.slots + ks))
    (eT : T.heap = h) (E : Exa Z h b C) (hsz : A.size = c.maxLocals) (hlen : ∀ sig, parseMethodDescriptor y.desc = some sig → argsL.length = sig.parameters.length) (hst : St = argsL.reverse ++ .ref b :: S) (hW : (S.map fun v => v.category).sum ≤ W) (hd : decode c.code q = .ok (.invokevirtual index, 3)) (hc : cells + kc ≤ R.cells) (hs : slots + ks ≤ R.slots)
    (kk : ∀ T' L v, Stand p l e R s m args below meth c T' (locs ++ L) (cells + kc) (slots + ks) → Q v T'.heap L → o_G p e below K T' (mkF m (q + 3) A (v.toList ++ S))) : o_G p e below K T (mkF m q A St) := by
  subst hst
  obtain ⟨cq, kq, q1, q2, q3⟩ := isOf hZ eT E
  obtain ⟨v, _, ⟨T', L', k', n'⟩, -, X', ⟨L, hQ, l1, l2, l3⟩, st⟩ := X.virtualBack hx hown (mvT hZ w1) (mvT hZ w2) hnf (mvT hZ w3) (mvT hZ w4) hy hK q1 q3 (g := mkF m q A (argsL.reverse ++ .ref b :: S)) rfl hsz (Steps.refl _) (argsL := argsL) (rest := S) hlen rfl (by show 2 * 0 + _ ≤ _; omega) hd (fun _ _ => ⟨rfl, eT, hc, hs⟩)
  dsimp only [Pt.U, Pt.locs, Pt.cells, Pt.slots] at X' l1 l2 l3 st hQ
  subst l1 l2 l3
  exact o_tr st (kk _ _ _ X' hQ)
end Calls
end Own
end Jvm.RoadKit
namespace Jvm.RoadKit
open Sem ClassFile Op Lib Jvm.Stand Jvm.Free Jvm.LawKit
section OwnW
variable {p : Program} {l : Launch} {e : Env} {R : Room} {s : State} {vm0 : Vm} {m : MethodId} {args : Array Value} {below : List Frame} {meth : Method} {c : Code} {T T' : State} {locs : List Loc} {cells slots : Nat} {K : State → Outcome → Prop} {g g' : JFrame} {A A' : Array Slot} {S : List Value} {q k0 : Nat} {x y : Int32} {v w : Value} {Z : State} {a0 : Array Value} {h : Heap}
def o_EW (s : State) (Q : Option Value → Heap → List Loc → Prop) (C N : Nat) (t : State) (o : Outcome) : Prop := ∃ v L, o = .returned v ∧ Q v t.heap L ∧ ReturnedEndW s o t L C N
section EndsW
variable {Q : Option Value → Heap → List Loc → Prop} {C N : Nat}
theorem o_monoW {o : Outcome} {t : State} {L : List Loc} {k n : Nat} (hh : ReturnedEndW s o t L k n) (hc : k ≤ C) (hs : n ≤ N) : ReturnedEndW s o t L C N := ⟨hh.1, hh.2.1, hh.2.2.1, hh.2.2.2.mono hc hs⟩
theorem o_retNW {t : FieldType} (X : Stand p l e R (s.setVm vm0) m args below meth c T locs cells slots) (hx : p.tables.exec = Jvm.exec) (hS : s.Since vm0 k0) (hk : k0 ≤ T.heap.size) (hret : meth.sig.returnType = some t) (hlocks : meth.locks = false) (ht : t = .boolean ∨ t = .byte ∨ t = .char ∨ t = .short) (hd : decode c.code q = .ok (.ireturn, 1)) (hn : nar t x = x) (hc : cells ≤ C) (hs : slots ≤ N) (hQ : Q (some (.int x)) T.heap locs) : o_G p e below (o_EW s Q C N) T (mkF m q A (.int x :: S)) := by
  obtain ⟨fs, hr, hrun, hended, hW⟩ := X.leaveW hS hk (v := some (.int (nar t x))) (fun h => by rw [hret] at h; cases h) hlocks
  refine ⟨_, _, retN X hx hret ht hd hr, hrun, hended, _, _, rfl, ?_, o_monoW hW hc hs⟩
  rw [hn]; exact hQ
theorem o_retIW (X : Stand p l e R (s.setVm vm0) m args below meth c T locs cells slots) (hx : p.tables.exec = Jvm.exec) (hS : s.Since vm0 k0) (hk : k0 ≤ T.heap.size) (hret : meth.sig.returnType = some .int) (hlocks : meth.locks = false) (hd : decode c.code q = .ok (.ireturn, 1)) (hc : cells ≤ C) (hs : slots ≤ N) (hQ : Q (some (.int x)) T.heap locs) : o_G p e below (o_EW s Q C N) T (mkF m q A (.int x :: S)) := by
  obtain ⟨fs, hr, hrun, hended, hW⟩ := X.leaveW hS hk (v := some (.int x)) (fun h => by rw [hret] at h; cases h) hlocks
  exact ⟨_, _, retOut X hx hret rfl (Or.inl ⟨rfl, Or.inl rfl, _, rfl⟩) hd hr, hrun, hended, _, _, rfl, hQ, o_monoW hW hc hs⟩
theorem o_retAW {t : FieldType} (X : Stand p l e R (s.setVm vm0) m args below meth c T locs cells slots) (hx : p.tables.exec = Jvm.exec) (hS : s.Since vm0 k0) (hk : k0 ≤ T.heap.size) (hret : meth.sig.returnType = some t) (hlocks : meth.locks = false) (ht : t.isReference = true) (hv : v.isRef = true) (hn : narrow t v = v) (hd : decode c.code q = .ok (.areturn, 1)) (hc : cells ≤ C) (hs : slots ≤ N) (hQ : Q (some v) T.heap locs) : o_G p e below (o_EW s Q C N) T (mkF m q A (v :: S)) := by
  obtain ⟨fs, hr, hrun, hended, hW⟩ := X.leaveW hS hk (v := some v) (fun h => by rw [hret] at h; cases h) hlocks
  exact ⟨_, _, retOut X hx hret hn (Or.inr (Or.inr (Or.inr (Or.inr ⟨rfl, ht, hv⟩)))) hd hr, hrun, hended, _, _, rfl, hQ, o_monoW hW hc hs⟩
theorem o_retVW (X : Stand p l e R (s.setVm vm0) m args below meth c T locs cells slots) (hx : p.tables.exec = Jvm.exec) (hS : s.Since vm0 k0) (hk : k0 ≤ T.heap.size) (hret : meth.sig.returnType = none) (hlocks : meth.locks = false) (hd : decode c.code q = .ok (.return_, 1)) (hc : cells ≤ C) (hs : slots ≤ N) (hQ : Q none T.heap locs) : o_G p e below (o_EW s Q C N) T (mkF m q A []) := by
  obtain ⟨fs, hr, hrun, hended, hW⟩ := X.leaveW hS hk (v := none) (fun _ => rfl) hlocks
  exact ⟨_, _, X.returnOut hx hret hd hr, hrun, hended, _, _, rfl, hQ, o_monoW hW hc hs⟩
end EndsW
theorem o_ldcS {own text : String} {index n : Nat} (X : Stand p l e R (s.setVm vm0) m args below meth c T locs cells slots) (hx : p.tables.exec = Jvm.exec) (hZ : Z.Warmed39 vm0) (hown : vm0.findClass own = some m.cls) (w : (Cond.stringLink own index text).before a0 Z = true) (wS : ∀ a ∈ Bundle.stringAtoms, a.before a0 Z = true) (eT : T.heap = h) (hS : s.Since vm0 k0) (hk : k0 ≤ h.size) (hd : decode c.code q = .ok (.ldc index, 2)) (hn : 4 * text.toList.length ≤ n) (hbig : n ≤ 536870912) (hc : cells + 2 ≤ R.cells) (hl : slots + (n + 4) ≤ R.slots)
    (kk : ∀ a T' k1, Stand p l e R (s.setVm T'.vm) m args below meth c T' locs (cells + 2) (slots + (n + 4)) → Ext h T'.heap → s.Since T'.vm k1 → k1 ≤ T'.heap.size → Z.Warmed39 T'.vm → T'.vm.findClass own = some m.cls → o_G p e below K T' (mkF m (q + 2) A (.ref a :: S))) : o_G p e below K T (mkF m q A S) := by
  obtain ⟨a, T', h', k1, X', e', E, hS', hk', hZ', ho', st⟩ := ldcS X hx hZ hown w wS eT hS hk (g := mkF m q A S) rfl hd hn hbig hc hl
  subst e'
  exact o_st st (kk a T' k1 X' E hS' hk' hZ' ho')
section CallsW
variable {Q : Option Value → Heap → List Loc → Prop} {kc ks W : Nat} {own C : String} {index : Nat} {argsL St : List Value} {b : Addr}
theorem o_initS {bytes : ByteArray} {maxL : Nat} {y : MethodName} (hy1 : y.name = "<init>") (X : Stand p l e R (s.setVm vm0) m args below meth c T locs cells slots) (hx : p.tables.exec = Jvm.exec) (hZ : Z.Warmed39 vm0) (hS : s.Since vm0 k0) (hown : vm0.findClass own = some m.cls) (w1 : (Cond.methodLink own index y).before a0 Z = true) (w2 : (Cond.instanceMethod y).before a0 Z = true) (w4 : (Cond.code y bytes maxL none).before a0 Z = true) (hy : y.cls ≠ "java/lang/invoke/MethodHandle" ∧ y.cls ≠ "java/lang/invoke/VarHandle")
    (hK : BackS l R p e below (s.setVm vm0) args y 3 W (fun P a => a = (Value.ref b :: argsL).toArray ∧ P.U.heap = h ∧ P.cells + kc ≤ R.cells ∧ P.slots + ks ≤ R.slots) (fun P _ v B => ∃ L, Q v B.U.heap L ∧ B.locs = P.locs ++ L ∧ B.cells = P.cells + kc ∧ B.slots = P.slots + ks))
    (eT : T.heap = h) (hk : k0 ≤ h.size) (hsz : A.size = c.maxLocals) (hlen : ∀ sig, parseMethodDescriptor y.desc = some sig → argsL.length = sig.parameters.length) (hst : St = argsL.reverse ++ .ref b :: S) (hW : (S.map fun v => v.category).sum ≤ W) (hd : decode c.code q = .ok (.invokespecial index, 3)) (hc : cells + kc ≤ R.cells) (hs : slots + ks ≤ R.slots)
    (kk : ∀ T' L v k1, Stand p l e R (s.setVm T'.vm) m args below meth c T' (locs ++ L) (cells + kc) (slots + ks) → s.Since T'.vm k1 → k1 ≤ T'.heap.size → Z.Warmed39 T'.vm → T'.vm.findClass own = some m.cls → Q v T'.heap L → o_G p e below K T' (mkF m (q + 3) A (v.toList ++ S))) : o_G p e below K T (mkF m q A St) := by
  subst hst eT
  have hZ1 : Z.Warmed39 (s.setVm vm0).vm := hZ
  obtain ⟨v, _, ⟨T', L', k', n'⟩, -, X', hS', hg', ⟨L, hQ, l1, l2, l3⟩, st⟩ := X.specialBackS hx hy1 (show (s.setVm vm0).vm.findClass own = some m.cls from hown) (mvT hZ1 w1) (mvT hZ1 w2) (mvT hZ1 w4) hy hK (g := mkF m q A (argsL.reverse ++ .ref b :: S)) rfl hsz (Steps.refl _) (a := b) (argsL := argsL) (rest := S) hlen rfl (by show 2 * 0 + _ ≤ _; omega) hd (fun _ _ => ⟨rfl, rfl, hc, hs⟩)
  dsimp only [Pt.U, Pt.locs, Pt.cells, Pt.slots] at X' l1 l2 l3 st hQ hS' hg'
  subst l1 l2 l3
  obtain ⟨X2, hS2, hZ2, ho2⟩ := rebS hS hk X' hS' hg' hZ1 (show (s.setVm vm0).vm.findClass own = some m.cls from hown)
  exact o_tr st (kk _ _ _ _ X2 hS2 (Nat.le_refl _) hZ2 ho2 hQ)
theorem o_staticS {bytes : ByteArray} {maxL : Nat} {ret : Option FieldType} {y : MethodName} (X : Stand p l e R (s.setVm vm0) m args below meth c T locs cells slots) (hx : p.tables.exec = Jvm.exec) (hZ : Z.Warmed39 vm0) (hS : s.Since vm0 k0) (hown : vm0.findClass own = some m.cls) (w1 : (Cond.methodLink own index y).before a0 Z = true) (w2 : (Cond.static y).before a0 Z = true) (w3 : (Cond.initialized y.cls).before a0 Z = true) (w4 : (Cond.code y bytes maxL ret).before a0 Z = true) (hy : y.cls ≠ "java/lang/invoke/MethodHandle" ∧ y.cls ≠ "java/lang/invoke/VarHandle")
    (hK : BackS l R p e below (s.setVm vm0) args y 3 W (fun P a => a = argsL.toArray ∧ P.U.heap = h ∧ P.cells + kc ≤ R.cells ∧ P.slots + ks ≤ R.slots) (fun P _ v B => ∃ L, Q v B.U.heap L ∧ B.locs = P.locs ++ L ∧ B.cells = P.cells + kc ∧ B.slots = P.slots + ks))
    (eT : T.heap = h) (hk : k0 ≤ h.size) (hsz : A.size = c.maxLocals) (hlen : ∀ sig, parseMethodDescriptor y.desc = some sig → argsL.length = sig.parameters.length) (hst : St = argsL.reverse ++ S) (hW : (S.map fun v => v.category).sum ≤ W) (hd : decode c.code q = .ok (.invokestatic index, 3)) (hc : cells + kc ≤ R.cells) (hs : slots + ks ≤ R.slots)
    (kk : ∀ T' L v k1, Stand p l e R (s.setVm T'.vm) m args below meth c T' (locs ++ L) (cells + kc) (slots + ks) → s.Since T'.vm k1 → k1 ≤ T'.heap.size → Z.Warmed39 T'.vm → T'.vm.findClass own = some m.cls → Q v T'.heap L → o_G p e below K T' (mkF m (q + 3) A (v.toList ++ S))) : o_G p e below K T (mkF m q A St) := by
  subst hst eT
  have hZ1 : Z.Warmed39 (s.setVm vm0).vm := hZ
  obtain ⟨v, _, ⟨T', L', k', n'⟩, -, X', hS', hg', ⟨L, hQ, l1, l2, l3⟩, st⟩ := callSS X hx (show (s.setVm vm0).vm.findClass own = some m.cls from hown) (mvT hZ1 w1) (mvT hZ1 w2) (mvT hZ1 w3) (mvT hZ1 w4) hy hK (g := mkF m q A (argsL.reverse ++ S)) rfl hsz hlen rfl (by show 2 * 0 + _ ≤ _; omega) hd (fun _ _ => ⟨rfl, rfl, hc, hs⟩)
  dsimp only [Pt.U, Pt.locs, Pt.cells, Pt.slots] at X' l1 l2 l3 st hQ hS' hg'
  subst l1 l2 l3
  obtain ⟨X2, hS2, hZ2, ho2⟩ := rebS hS hk X' hS' hg' hZ1 (show (s.setVm vm0).vm.findClass own = some m.cls from hown)
  exact o_tr st (kk _ _ _ _ X2 hS2 (Nat.le_refl _) hZ2 ho2 hQ)
theorem o_virtualS {y z : MethodName} (X : Stand p l e R (s.setVm vm0) m args below meth c T locs cells slots) (hx : p.tables.exec = Jvm.exec) (hZ : Z.Warmed39 vm0) (hS : s.Since vm0 k0) (hown : vm0.findClass own = some m.cls) (w1 : (Cond.methodLink own index y).before a0 Z = true) (w2 : (Cond.declares y).before a0 Z = true) (hnf : NotFace (s.setVm vm0) y) (w3 : (Cond.selects C y z).before a0 Z = true) (w4 : (Cond.instanceMethod z).before a0 Z = true) (hy : y.cls ≠ "java/lang/invoke/MethodHandle" ∧ y.cls ≠ "java/lang/invoke/VarHandle")
    (hK : BackS l R p e below (s.setVm vm0) args z 3 W (fun P a => a = (Value.ref b :: argsL).toArray ∧ P.U.heap = h ∧ P.cells + kc ≤ R.cells ∧ P.slots + ks ≤ R.slots) (fun P _ v B => ∃ L, Q v B.U.heap L ∧ B.locs = P.locs ++ L ∧ B.cells = P.cells + kc ∧ B.slots = P.slots + ks))
    (eT : T.heap = h) (hk : k0 ≤ h.size) (E : Exa Z h b C) (hsz : A.size = c.maxLocals) (hlen : ∀ sig, parseMethodDescriptor y.desc = some sig → argsL.length = sig.parameters.length) (hst : St = argsL.reverse ++ .ref b :: S) (hW : (S.map fun v => v.category).sum ≤ W) (hd : decode c.code q = .ok (.invokevirtual index, 3)) (hc : cells + kc ≤ R.cells) (hs : slots + ks ≤ R.slots)
    (kk : ∀ T' L v k1, Stand p l e R (s.setVm T'.vm) m args below meth c T' (locs ++ L) (cells + kc) (slots + ks) → s.Since T'.vm k1 → k1 ≤ T'.heap.size → Z.Warmed39 T'.vm → T'.vm.findClass own = some m.cls → Q v T'.heap L → o_G p e below K T' (mkF m (q + 3) A (v.toList ++ S))) : o_G p e below K T (mkF m q A St) := by
  subst hst eT
  have hZ1 : Z.Warmed39 (s.setVm vm0).vm := hZ
  obtain ⟨cq, kq, q1, q2, q3⟩ := isOf (s := s.setVm vm0) hZ1 rfl E
  obtain ⟨v, _, ⟨T', L', k', n'⟩, -, X', hS', hg', ⟨L, hQ, l1, l2, l3⟩, st⟩ := X.virtualBackS hx (show (s.setVm vm0).vm.findClass own = some m.cls from hown) (mvT hZ1 w1) (mvT hZ1 w2) hnf (mvT hZ1 w3) (mvT hZ1 w4) hy hK q1 q3 (g := mkF m q A (argsL.reverse ++ .ref b :: S)) rfl hsz (Steps.refl _) (argsL := argsL) (rest := S) hlen rfl (by show 2 * 0 + _ ≤ _; omega) hd (fun _ _ => ⟨rfl, rfl, hc, hs⟩)
  dsimp only [Pt.U, Pt.locs, Pt.cells, Pt.slots] at X' l1 l2 l3 st hQ hS' hg'
  subst l1 l2 l3
  obtain ⟨X2, hS2, hZ2, ho2⟩ := rebS hS hk X' hS' hg' hZ1 (show (s.setVm vm0).vm.findClass own = some m.cls from hown)
  exact o_tr st (kk _ _ _ _ X2 hS2 (Nat.le_refl _) hZ2 ho2 hQ)
end CallsW
end OwnW
end Jvm.RoadKit
namespace Jvm.RoadKit
open Sem ClassFile Op Lib Jvm.Stand Jvm.Free Jvm.LawKit
section OwnM
variable {p : Program} {l : Launch} {e : Env} {R : Room} {s : State} {m : MethodId} {args : Array Value} {below : List Frame} {meth : Method} {c : Code} {T T' : State} {locs : List Loc} {cells slots : Nat} {K K' : State → Outcome → Prop} {g g' : JFrame} {A A' : Array Slot} {S : List Value} {q : Nat} {x y z : Int32} {v w : Value} {Z : State} {a0 : Array Value} {h : Heap} {a : Addr} {ka : ClassId} {vs : List Value} {dv : Value} {n : Int32}
theorem o_mono (hK : ∀ t o, K t o → K' t o) (k : o_G p e below K T g) : o_G p e below K' T g := by
  obtain ⟨a, b, h1, h2, h3, h4⟩ := k; exact ⟨a, b, h1, h2, h3, hK _ _ h4⟩
theorem o_valE (hz : x = z) (k : o_G p e below K T (mkF m q A (.int z :: S))) : o_G p e below K T (mkF m q A (.int x :: S)) := hz ▸ k
theorem o_ifT (X : Stand p l e R s m args below meth c T locs cells slots) (hx : p.tables.exec = Jvm.exec) {cd : ClassFile.Cond} {o : Int} {t : Nat} (hd : decode c.code q = .ok (.ifCond cd o, 3)) (ho : 0 ≤ (q : Int) + o) (ht : ((q : Int) + o).toNat = t) (hc : ifCond.holds cd x = true) (k : o_G p e below K T (mkF m t A S)) : o_G p e below K T (mkF m q A (.int x :: S)) := o_st (fun _ z => XS.ifYes X.here hx rfl (pc0 := q) rfl hd rfl hc ho ht z) k
theorem o_ifF (X : Stand p l e R s m args below meth c T locs cells slots) (hx : p.tables.exec = Jvm.exec) {cd : ClassFile.Cond} {o : Int} (hd : decode c.code q = .ok (.ifCond cd o, 3)) (hc : ifCond.holds cd x = false) (k : o_G p e below K T (mkF m (q + 3) A S)) : o_G p e below K T (mkF m q A (.int x :: S)) := o_st (fun _ z => XS.ifNo X.here hx rfl hd rfl hc z) k
theorem o_icmpT (X : Stand p l e R s m args below meth c T locs cells slots) (hx : p.tables.exec = Jvm.exec) {cd : ClassFile.Cond} {o : Int} {t : Nat} (hd : decode c.code q = .ok (.if_icmp cd o, 3)) (ho : 0 ≤ (q : Int) + o) (ht : ((q : Int) + o).toNat = t) (hc : if_icmp.holds cd x y = true) (k : o_G p e below K T (mkF m t A S)) : o_G p e below K T (mkF m q A (.int y :: .int x :: S)) := o_st (fun _ z => XS.icmpYes X.here hx rfl (pc0 := q) rfl hd rfl hc ho ht z) k
theorem o_icmpF (X : Stand p l e R s m args below meth c T locs cells slots) (hx : p.tables.exec = Jvm.exec) {cd : ClassFile.Cond} {o : Int} (hd : decode c.code q = .ok (.if_icmp cd o, 3)) (hc : if_icmp.holds cd x y = false) (k : o_G p e below K T (mkF m (q + 3) A S)) : o_G p e below K T (mkF m q A (.int y :: .int x :: S)) := o_st (fun _ z => XS.icmpNo X.here hx rfl hd rfl hc z) k
theorem o_iincK (X : Stand p l e R s m args below meth c T locs cells slots) (hx : p.tables.exec = Jvm.exec) {k : Nat} {cst : Int} (hd : decode c.code q = .ok (.iinc k cst, 3)) (hv : Int32.ofInt cst = y) (hl : A[k]? = some (.val (.int x))) (hz : x + y = z) (hs : storeLocals A k (.int z) = some A') (kk : o_G p e below K T (mkF m (q + 3) A' S)) : o_G p e below K T (mkF m q A S) := o_iinc X hx hd hv hl (hz ▸ hs) kk
theorem o_bload (X : Stand p l e R s m args below meth c T locs cells slots) (hx : p.tables.exec = Jvm.exec) (hZ : Z.Warmed39 s.vm) (eT : T.heap = h) (F : Arv Z h a ka .byte n vs dv) (hd : decode c.code q = .ok (.baload, 1)) (hj : ¬ y < 0 ∧ y < n) (hv : vs.getD y.toNatClampNeg dv = v) (k : o_G p e below K T (mkF m (q + 1) A (v :: S))) : o_G p e below K T (mkF m q A (.int y :: .ref a :: S)) := by
  obtain ⟨cl, F1, F2, F3, F4, F5, F6⟩ := F
  have hin := inb_of F3 hj
  exact o_st (fun t z => X.baloadBytes hx (by rw [eT]; exact F1.1) (State.isArrayOf_alike hZ.alike F1.2.1) F1.2.2 hin (F5.at hin hv) (g := mkF m q A (.int y :: .ref a :: S)) rfl rfl hd t z) k
theorem o_cload (X : Stand p l e R s m args below meth c T locs cells slots) (hx : p.tables.exec = Jvm.exec) (hZ : Z.Warmed39 s.vm) (eT : T.heap = h) (F : Arv Z h a ka .char n vs dv) (hd : decode c.code q = .ok (.caload, 1)) (hj : ¬ y < 0 ∧ y < n) (hv : vs.getD y.toNatClampNeg dv = v) (k : o_G p e below K T (mkF m (q + 1) A (v :: S))) : o_G p e below K T (mkF m q A (.int y :: .ref a :: S)) := by
  obtain ⟨cl, F1, F2, F3, F4, F5, F6⟩ := F
  have hin := inb_of F3 hj
  exact o_st (fun t z => X.caload hx (by rw [eT]; exact F1.1) (State.isArrayOf_alike hZ.alike F1.2.1) F1.2.2 hin (F5.at hin hv) (g := mkF m q A (.int y :: .ref a :: S)) rfl rfl hd t z) k
theorem o_iaload (X : Stand p l e R s m args below meth c T locs cells slots) (hx : p.tables.exec = Jvm.exec) (hZ : Z.Warmed39 s.vm) (eT : T.heap = h) (F : Arv Z h a ka .int n vs dv) (hd : decode c.code q = .ok (.iaload, 1)) (hj : ¬ y < 0 ∧ y < n) (hv : vs.getD y.toNatClampNeg dv = v) (k : o_G p e below K T (mkF m (q + 1) A (v :: S))) : o_G p e below K T (mkF m q A (.int y :: .ref a :: S)) := by
  obtain ⟨cl, F1, F2, F3, F4, F5, F6⟩ := F
  have hin := inb_of F3 hj
  exact o_st (fun t z => X.iaload hx (by rw [eT]; exact F1.1) (State.isArrayOf_alike hZ.alike F1.2.1) F1.2.2 hin (F5.at hin hv) (g := mkF m q A (.int y :: .ref a :: S)) rfl rfl hd t z) k
theorem o_alen {ty : FieldType} (X : Stand p l e R s m args below meth c T locs cells slots) (hx : p.tables.exec = Jvm.exec) (hZ : Z.Warmed39 s.vm) (eT : T.heap = h) (F : Arv Z h a ka ty n vs dv) (hd : decode c.code q = .ok (.arraylength, 1)) (k : o_G p e below K T (mkF m (q + 1) A (.int n :: S))) : o_G p e below K T (mkF m q A (.ref a :: S)) := by
  obtain ⟨cl, F1, F2, F3, F4, F5, F6⟩ := F
  refine o_st (g' := mkF m (q + 1) A (.int cl.slots.size.toInt32 :: S)) (fun t z => X.arraylength hx (by rw [eT]; exact F1.1) (State.isArrayOf_alike hZ.alike F1.2.1) (g := mkF m q A (.ref a :: S)) rfl rfl hd t z) ?_
  rw [len_of F3 F4]; exact k
section CallsM
variable {Q : Option Value → Heap → List Loc → Prop} {kc ks W : Nat} {own C : String} {index cnt : Nat} {argsL St : List Value} {b : Addr}
theorem o_iface {xi y : MethodName} (X : Stand p l e R s m args below meth c T locs cells slots) (hx : p.tables.exec = Jvm.exec) (hZ : Z.Warmed39 s.vm) (hown : s.vm.findClass own = some m.cls) (w1 : (Cond.methodLink own index xi).before a0 Z = true) (w2 : (Cond.declares xi).before a0 Z = true) (w3 : (Cond.interfaceMethod xi.cls xi.cls xi.name xi.desc).before args s = true) (w4 : (Cond.selects C xi y).before a0 Z = true) (w5 : (Cond.instanceMethod y).before a0 Z = true) (w6 : (Cond.publicMethod y).before a0 Z = true) (w7 : (Cond.unhidden C xi.name xi.desc).before a0 Z = true) (w8 : (Cond.castable C xi.cls).before a0 Z = true) (hy : xi.cls ≠ "java/lang/invoke/MethodHandle" ∧ xi.cls ≠ "java/lang/invoke/VarHandle")
    (hK : Back l R p e below s args y 5 W (fun P a => a = (Value.ref b :: argsL).toArray ∧ P.U.heap = h ∧ P.cells + kc ≤ R.cells ∧ P.slots + ks ≤ R.slots) (fun P _ v B => ∃ L, Q v B.U.heap L ∧ B.locs = P.locs ++ L ∧ B.cells = P.cells + kc ∧ B.slots = P.slots + ks))
    (eT : T.heap = h) (E : Exa Z h b C) (hsz : A.size = c.maxLocals) (hlen : ∀ sig, parseMethodDescriptor xi.desc = some sig → argsL.length = sig.parameters.length) (hst : St = argsL.reverse ++ .ref b :: S) (hW : (S.map fun v => v.category).sum ≤ W) (hd : decode c.code q = .ok (.invokeinterface index cnt, 5)) (hc : cells + kc ≤ R.cells) (hs : slots + ks ≤ R.slots)
    (kk : ∀ T' L v, Stand p l e R s m args below meth c T' (locs ++ L) (cells + kc) (slots + ks) → Q v T'.heap L → o_G p e below K T' (mkF m (q + 5) A (v.toList ++ S))) : o_G p e below K T (mkF m q A St) := by
  subst hst
  obtain ⟨cq, kq, q1, q2, q3⟩ := isOf hZ eT E
  obtain ⟨v, _, ⟨T', L', k', n'⟩, -, X', ⟨L, hQ, l1, l2, l3⟩, st⟩ := X.interfaceBack hx hown (mvT hZ w1) (mvT hZ w2) w3 (mvT hZ w4) (mvT hZ w5) (mvT hZ w6) (mvT hZ w7) (mvT hZ w8) hy hK q1 q2 q3 (g := mkF m q A (argsL.reverse ++ .ref b :: S)) rfl hsz (Steps.refl _) (argsL := argsL) (rest := S) hlen rfl (by show 2 * 0 + _ ≤ _; omega) hd (fun _ _ => ⟨rfl, eT, hc, hs⟩)
  dsimp only [Pt.U, Pt.locs, Pt.cells, Pt.slots] at X' l1 l2 l3 st hQ
  subst l1 l2 l3
  exact o_tr st (kk _ _ _ X' hQ)
end CallsM
end OwnM
end Jvm.RoadKit
namespace Jvm.RoadKit
open Sem ClassFile Op Lib Bundle Jvm.Stand Jvm.Free Jvm.LawKit Jvm.Free.SB Jvm.Free.SBG
section OwnH
variable {p : Program} {l : Launch} {e : Env} {R : Room} {s : State} {vm0 : Vm} {m : MethodId} {args : Array Value} {below : List Frame} {meth : Method} {c : Code} {T T' : State} {locs : List Loc} {cells slots : Nat} {K : State → Outcome → Prop} {g g' : JFrame} {A A' : Array Slot} {S : List Value} {q k0 : Nat} {x y : Int32} {v w : Value} {Z : State} {a0 : Array Value} {h h0 : Heap} {EL : List (String × Nat)}
def o_EH (Z : State) (EL : List (String × Nat)) (s : State) (h0 : Heap) (Q : Option Value → Heap → List Loc → Prop) (C N : Nat) (t : State) (o : Outcome) : Prop := ∃ v L, o = .returned v ∧ Q v t.heap L ∧ CHr Z EL s.vm h0 t.vm t.heap ∧ ReturnedEndW s o t L C N
section EndsH
variable {Q : Option Value → Heap → List Loc → Prop} {C N : Nat}
theorem o_retVH (X : Stand p l e R (s.setVm vm0) m args below meth c T locs cells slots) (hx : p.tables.exec = Jvm.exec) (hS : s.Since vm0 k0) (hk : k0 ≤ T.heap.size) (hZ : Z.Warmed39 vm0) (hEL : EW Z a0 EL) (hC : CHr Z EL s.vm h0 vm0 T.heap) (hret : meth.sig.returnType = none) (hlocks : meth.locks = false) (hd : decode c.code q = .ok (.return_, 1)) (hc : cells ≤ C) (hs : slots ≤ N) (hQ : Q none T.heap locs) : o_G p e below (o_EH Z EL s h0 Q C N) T (mkF m q A []) := by
  have hA : CHr Z EL s.vm h0 T.vm T.heap := hC.trans (CHv.at X hZ hEL hC.1)
  obtain ⟨fs, hr, hrun, hended, hW⟩ := X.leaveW hS hk (v := none) (fun _ => rfl) hlocks
  exact ⟨_, _, X.returnOut hx hret hd hr, hrun, hended, _, _, rfl, hQ, hA, o_monoW hW hc hs⟩
theorem o_retNH {t : FieldType} (X : Stand p l e R (s.setVm vm0) m args below meth c T locs cells slots) (hx : p.tables.exec = Jvm.exec) (hS : s.Since vm0 k0) (hk : k0 ≤ T.heap.size) (hZ : Z.Warmed39 vm0) (hEL : EW Z a0 EL) (hC : CHr Z EL s.vm h0 vm0 T.heap) (hret : meth.sig.returnType = some t) (hlocks : meth.locks = false) (ht : t = .boolean ∨ t = .byte ∨ t = .char ∨ t = .short) (hd : decode c.code q = .ok (.ireturn, 1)) (hn : nar t x = x) (hc : cells ≤ C) (hs : slots ≤ N) (hQ : Q (some (.int x)) T.heap locs) : o_G p e below (o_EH Z EL s h0 Q C N) T (mkF m q A (.int x :: S)) := by
  have hA : CHr Z EL s.vm h0 T.vm T.heap := hC.trans (CHv.at X hZ hEL hC.1)
  obtain ⟨fs, hr, hrun, hended, hW⟩ := X.leaveW hS hk (v := some (.int (nar t x))) (fun h => by rw [hret] at h; cases h) hlocks
  refine ⟨_, _, retN X hx hret ht hd hr, hrun, hended, _, _, rfl, ?_, hA, o_monoW hW hc hs⟩
  rw [hn]; exact hQ
theorem o_retAH {t : FieldType} (X : Stand p l e R (s.setVm vm0) m args below meth c T locs cells slots) (hx : p.tables.exec = Jvm.exec) (hS : s.Since vm0 k0) (hk : k0 ≤ T.heap.size) (hZ : Z.Warmed39 vm0) (hEL : EW Z a0 EL) (hC : CHr Z EL s.vm h0 vm0 T.heap) (hret : meth.sig.returnType = some t) (hlocks : meth.locks = false) (ht : t.isReference = true) (hv : v.isRef = true) (hn : narrow t v = v) (hd : decode c.code q = .ok (.areturn, 1)) (hc : cells ≤ C) (hs : slots ≤ N) (hQ : Q (some v) T.heap locs) : o_G p e below (o_EH Z EL s h0 Q C N) T (mkF m q A (v :: S)) := by
  have hA : CHr Z EL s.vm h0 T.vm T.heap := hC.trans (CHv.at X hZ hEL hC.1)
  obtain ⟨fs, hr, hrun, hended, hW⟩ := X.leaveW hS hk (v := some v) (fun h => by rw [hret] at h; cases h) hlocks
  exact ⟨_, _, retOut X hx hret hn (Or.inr (Or.inr (Or.inr (Or.inr ⟨rfl, ht, hv⟩)))) hd hr, hrun, hended, _, _, rfl, hQ, hA, o_monoW hW hc hs⟩
end EndsH
theorem o_ldcH {own text : String} {index n : Nat} {vs : List Value} {z : Int32} (X : Stand p l e R (s.setVm vm0) m args below meth c T locs cells slots) (hx : p.tables.exec = Jvm.exec) (hZ : Z.Warmed39 vm0) (hown : vm0.findClass own = some m.cls) (w : (Cond.stringLink own index text).before a0 Z = true) (wS : ∀ a ∈ Bundle.stringAtoms, a.before a0 Z = true) (eT : T.heap = h) (hS : s.Since vm0 k0) (hk : k0 ≤ h.size) (hEL : EW Z a0 EL) (hmem : (own, index) ∈ EL) (H : CHv Z EL vm0 h)
    (ht : (∀ c ∈ text.toList, c.toNat < 256) ∧ text.toList.map (fun c => Value.int (Jvm.Lit.byteI c.toNat.toUInt16)) = vs) (hz : ¬ z < 0) (hzl : z.toNatClampNeg = vs.length) (hd : decode c.code q = .ok (.ldc index, 2)) (hn : 4 * text.toList.length ≤ n) (hbig : n ≤ 536870912) (hc : cells + 2 ≤ R.cells) (hl : slots + (n + 4) ≤ R.slots)
    (kk : ∀ a b kb T' k1, Stand p l e R (s.setVm T'.vm) m args below meth c T' locs (cells + 2) (slots + (n + 4)) → Ext h T'.heap → s.Since T'.vm k1 → k1 ≤ T'.heap.size → Z.Warmed39 T'.vm → T'.vm.findClass own = some m.cls → Exa Z T'.heap a "java/lang/String" → Fld Z T'.heap a "java/lang/String" "coder" "B" (.int 0) → Fld Z T'.heap a "java/lang/String" "value" "[B" (.ref b) → Arv Z T'.heap b kb .byte z vs (.int 0) → CHr Z EL vm0 h T'.vm T'.heap → Lit (s.setVm T'.vm) own index a → (∀ x, Safe Z EL T'.vm T'.heap x → x ≠ a ∧ x ≠ b) → o_G p e below K T' (mkF m (q + 2) A (.ref a :: S))) : o_G p e below K T (mkF m q A S) := by
  obtain ⟨a, T', h', k1, b, kb, X', e', E, hS', hk', hZ', ho', r1, r2, r3, r4, -, -, r5, r6, r7, st⟩ := ldcCH X hx hZ hown w wS eT hS hk hEL hmem H ht hz hzl (g := mkF m q A S) rfl hd hn hbig hc hl
  subst e'
  exact o_st st (kk a b kb T' k1 X' E hS' hk' hZ' ho' r1 r2 r3 r4 r5 r6 r7)
theorem o_ldcA {own text : String} {index : Nat} {a : Addr} (X : Stand p l e R (s.setVm vm0) m args below meth c T locs cells slots) (hx : p.tables.exec = Jvm.exec) (hZ : Z.Warmed39 vm0) (hown : vm0.findClass own = some m.cls) (w : (Cond.stringLink own index text).before a0 Z = true) (L : Lit (s.setVm vm0) own index a) (hd : decode c.code q = .ok (.ldc index, 2)) (kk : o_G p e below K T (mkF m (q + 2) A (.ref a :: S))) : o_G p e below K T (mkF m q A S) :=
  o_st (fun t z => ldcAgain X hx hZ hown w L (g := mkF m q A S) rfl hd t z) kk
section CallsH
variable {Q : Option Value → Heap → List Loc → Prop} {kc ks W : Nat} {own C : String} {index : Nat} {argsL St : List Value} {b : Addr}
theorem o_initH {bytes : ByteArray} {maxL : Nat} {y : MethodName} (hy1 : y.name = "<init>") (X : Stand p l e R (s.setVm vm0) m args below meth c T locs cells slots) (hx : p.tables.exec = Jvm.exec) (hZ : Z.Warmed39 vm0) (hS : s.Since vm0 k0) (hown : vm0.findClass own = some m.cls) (w1 : (Cond.methodLink own index y).before a0 Z = true) (w2 : (Cond.instanceMethod y).before a0 Z = true) (w4 : (Cond.code y bytes maxL none).before a0 Z = true) (hy : y.cls ≠ "java/lang/invoke/MethodHandle" ∧ y.cls ≠ "java/lang/invoke/VarHandle")
    (hK : BackS l R p e below (s.setVm vm0) args y 3 W (fun P a => a = (Value.ref b :: argsL).toArray ∧ P.U.heap = h ∧ P.cells + kc ≤ R.cells ∧ P.slots + ks ≤ R.slots) (fun P _ v B => ∃ L, Q v B.U.heap L ∧ B.locs = P.locs ++ L ∧ B.cells = P.cells + kc ∧ B.slots = P.slots + ks ∧ CHr Z EL vm0 h B.U.vm B.U.heap))
    (eT : T.heap = h) (hk : k0 ≤ h.size) (hsz : A.size = c.maxLocals) (hlen : ∀ sig, parseMethodDescriptor y.desc = some sig → argsL.length = sig.parameters.length) (hst : St = argsL.reverse ++ .ref b :: S) (hW : (S.map fun v => v.category).sum ≤ W) (hd : decode c.code q = .ok (.invokespecial index, 3)) (hc : cells + kc ≤ R.cells) (hs : slots + ks ≤ R.slots)
    (kk : ∀ T' L v k1, Stand p l e R (s.setVm T'.vm) m args below meth c T' (locs ++ L) (cells + kc) (slots + ks) → s.Since T'.vm k1 → k1 ≤ T'.heap.size → Z.Warmed39 T'.vm → T'.vm.findClass own = some m.cls → Q v T'.heap L → CHr Z EL vm0 h T'.vm T'.heap → o_G p e below K T' (mkF m (q + 3) A (v.toList ++ S))) : o_G p e below K T (mkF m q A St) := by
  subst hst eT
  have hZ1 : Z.Warmed39 (s.setVm vm0).vm := hZ
  obtain ⟨v, _, ⟨T', L', k', n'⟩, -, X', hS', hg', ⟨L, hQ, l1, l2, l3, hC⟩, st⟩ := X.specialBackS hx hy1 (show (s.setVm vm0).vm.findClass own = some m.cls from hown) (mvT hZ1 w1) (mvT hZ1 w2) (mvT hZ1 w4) hy hK (g := mkF m q A (argsL.reverse ++ .ref b :: S)) rfl hsz (Steps.refl _) (a := b) (argsL := argsL) (rest := S) hlen rfl (by show 2 * 0 + _ ≤ _; omega) hd (fun _ _ => ⟨rfl, rfl, hc, hs⟩)
  dsimp only [Pt.U, Pt.locs, Pt.cells, Pt.slots] at X' l1 l2 l3 st hQ hS' hg' hC
  subst l1 l2 l3
  obtain ⟨X2, hS2, hZ2, ho2⟩ := rebS hS hk X' hS' hg' hZ1 (show (s.setVm vm0).vm.findClass own = some m.cls from hown)
  exact o_tr st (kk _ _ _ _ X2 hS2 (Nat.le_refl _) hZ2 ho2 hQ hC)
theorem o_staticH {bytes : ByteArray} {maxL : Nat} {ret : Option FieldType} {y : MethodName} (X : Stand p l e R (s.setVm vm0) m args below meth c T locs cells slots) (hx : p.tables.exec = Jvm.exec) (hZ : Z.Warmed39 vm0) (hS : s.Since vm0 k0) (hown : vm0.findClass own = some m.cls) (w1 : (Cond.methodLink own index y).before a0 Z = true) (w2 : (Cond.static y).before a0 Z = true) (w3 : (Cond.initialized y.cls).before a0 Z = true) (w4 : (Cond.code y bytes maxL ret).before a0 Z = true) (hy : y.cls ≠ "java/lang/invoke/MethodHandle" ∧ y.cls ≠ "java/lang/invoke/VarHandle")
    (hK : BackS l R p e below (s.setVm vm0) args y 3 W (fun P a => a = argsL.toArray ∧ P.U.heap = h ∧ P.cells + kc ≤ R.cells ∧ P.slots + ks ≤ R.slots) (fun P _ v B => ∃ L, Q v B.U.heap L ∧ B.locs = P.locs ++ L ∧ B.cells = P.cells + kc ∧ B.slots = P.slots + ks ∧ CHr Z EL vm0 h B.U.vm B.U.heap))
    (eT : T.heap = h) (hk : k0 ≤ h.size) (hsz : A.size = c.maxLocals) (hlen : ∀ sig, parseMethodDescriptor y.desc = some sig → argsL.length = sig.parameters.length) (hst : St = argsL.reverse ++ S) (hW : (S.map fun v => v.category).sum ≤ W) (hd : decode c.code q = .ok (.invokestatic index, 3)) (hc : cells + kc ≤ R.cells) (hs : slots + ks ≤ R.slots)
    (kk : ∀ T' L v k1, Stand p l e R (s.setVm T'.vm) m args below meth c T' (locs ++ L) (cells + kc) (slots + ks) → s.Since T'.vm k1 → k1 ≤ T'.heap.size → Z.Warmed39 T'.vm → T'.vm.findClass own = some m.cls → Q v T'.heap L → CHr Z EL vm0 h T'.vm T'.heap → o_G p e below K T' (mkF m (q + 3) A (v.toList ++ S))) : o_G p e below K T (mkF m q A St) := by
  subst hst eT
  have hZ1 : Z.Warmed39 (s.setVm vm0).vm := hZ
  obtain ⟨v, _, ⟨T', L', k', n'⟩, -, X', hS', hg', ⟨L, hQ, l1, l2, l3, hC⟩, st⟩ := callSS X hx (show (s.setVm vm0).vm.findClass own = some m.cls from hown) (mvT hZ1 w1) (mvT hZ1 w2) (mvT hZ1 w3) (mvT hZ1 w4) hy hK (g := mkF m q A (argsL.reverse ++ S)) rfl hsz hlen rfl (by show 2 * 0 + _ ≤ _; omega) hd (fun _ _ => ⟨rfl, rfl, hc, hs⟩)
  dsimp only [Pt.U, Pt.locs, Pt.cells, Pt.slots] at X' l1 l2 l3 st hQ hS' hg' hC
  subst l1 l2 l3
  obtain ⟨X2, hS2, hZ2, ho2⟩ := rebS hS hk X' hS' hg' hZ1 (show (s.setVm vm0).vm.findClass own = some m.cls from hown)
  exact o_tr st (kk _ _ _ _ X2 hS2 (Nat.le_refl _) hZ2 ho2 hQ hC)
theorem o_virtualH {y z : MethodName} (X : Stand p l e R (s.setVm vm0) m args below meth c T locs cells slots) (hx : p.tables.exec = Jvm.exec) (hZ : Z.Warmed39 vm0) (hS : s.Since vm0 k0) (hown : vm0.findClass own = some m.cls) (w1 : (Cond.methodLink own index y).before a0 Z = true) (w2 : (Cond.declares y).before a0 Z = true) (hnf : NotFace (s.setVm vm0) y) (w3 : (Cond.selects C y z).before a0 Z = true) (w4 : (Cond.instanceMethod z).before a0 Z = true) (hy : y.cls ≠ "java/lang/invoke/MethodHandle" ∧ y.cls ≠ "java/lang/invoke/VarHandle")
    (hK : BackS l R p e below (s.setVm vm0) args z 3 W (fun P a => a = (Value.ref b :: argsL).toArray ∧ P.U.heap = h ∧ P.cells + kc ≤ R.cells ∧ P.slots + ks ≤ R.slots) (fun P _ v B => ∃ L, Q v B.U.heap L ∧ B.locs = P.locs ++ L ∧ B.cells = P.cells + kc ∧ B.slots = P.slots + ks ∧ CHr Z EL vm0 h B.U.vm B.U.heap))
    (eT : T.heap = h) (hk : k0 ≤ h.size) (E : Exa Z h b C) (hsz : A.size = c.maxLocals) (hlen : ∀ sig, parseMethodDescriptor y.desc = some sig → argsL.length = sig.parameters.length) (hst : St = argsL.reverse ++ .ref b :: S) (hW : (S.map fun v => v.category).sum ≤ W) (hd : decode c.code q = .ok (.invokevirtual index, 3)) (hc : cells + kc ≤ R.cells) (hs : slots + ks ≤ R.slots)
    (kk : ∀ T' L v k1, Stand p l e R (s.setVm T'.vm) m args below meth c T' (locs ++ L) (cells + kc) (slots + ks) → s.Since T'.vm k1 → k1 ≤ T'.heap.size → Z.Warmed39 T'.vm → T'.vm.findClass own = some m.cls → Q v T'.heap L → CHr Z EL vm0 h T'.vm T'.heap → o_G p e below K T' (mkF m (q + 3) A (v.toList ++ S))) : o_G p e below K T (mkF m q A St) := by
  subst hst eT
  have hZ1 : Z.Warmed39 (s.setVm vm0).vm := hZ
  obtain ⟨cq, kq, q1, q2, q3⟩ := isOf (s := s.setVm vm0) hZ1 rfl E
  obtain ⟨v, _, ⟨T', L', k', n'⟩, -, X', hS', hg', ⟨L, hQ, l1, l2, l3, hC⟩, st⟩ := X.virtualBackS hx (show (s.setVm vm0).vm.findClass own = some m.cls from hown) (mvT hZ1 w1) (mvT hZ1 w2) hnf (mvT hZ1 w3) (mvT hZ1 w4) hy hK q1 q3 (g := mkF m q A (argsL.reverse ++ .ref b :: S)) rfl hsz (Steps.refl _) (argsL := argsL) (rest := S) hlen rfl (by show 2 * 0 + _ ≤ _; omega) hd (fun _ _ => ⟨rfl, rfl, hc, hs⟩)
  dsimp only [Pt.U, Pt.locs, Pt.cells, Pt.slots] at X' l1 l2 l3 st hQ hS' hg' hC
  subst l1 l2 l3
  obtain ⟨X2, hS2, hZ2, ho2⟩ := rebS hS hk X' hS' hg' hZ1 (show (s.setVm vm0).vm.findClass own = some m.cls from hown)
  exact o_tr st (kk _ _ _ _ X2 hS2 (Nat.le_refl _) hZ2 ho2 hQ hC)
end CallsH
end OwnH
end Jvm.RoadKit
namespace Jvm.RoadKit
open Sem ClassFile Op Lib Bundle Jvm.Stand Jvm.Free Jvm.LawKit Jvm.Free.SB Jvm.Free.SBG
section OwnH2
variable {p : Program} {l : Launch} {e : Env} {R : Room} {s : State} {vm0 vm : Vm} {m : MethodId} {args : Array Value} {below : List Frame} {meth : Method} {c : Code} {T : State} {locs : List Loc} {cells slots : Nat} {K : State → Outcome → Prop} {g : JFrame} {Z : State} {h : Heap} {EL : List (String × Nat)} {x : Addr} {own : String} {n0 : Nat}
/-- a String whose value is not yet laid is no booked one -/
theorem o_safeN (hal : Z.vm.Alike vm) (E : Exa Z h x "java/lang/String") (F : Fld Z h x "java/lang/String" "value" "[B" .null) : Safe Z EL vm h x := fun B => by
  obtain ⟨p, -, u, a, -, q, -, G, rfl | rfl⟩ := B
  · obtain ⟨cell, cf, k, i, f, h1, h2, h3, h4, h5, h6, h7⟩ := F
    cases (show h[q.sa]? = some q.sC from G.ha).symm.trans h1
    obtain ⟨cS, ⟨⟨-, -, -, ⟨c1, k1, i1, f1, -⟩, -, -, -, v1, -⟩, -⟩, -⟩ := G
    obtain ⟨k3, e3, -⟩ := State.fieldFound?_setVm (s := Z) hal h2
    have e4 := (show (Wst Z vm h).fieldFound? _ _ _ = _ from e3).symm.trans f1
    simp only [Option.some.injEq, Prod.mk.injEq] at e4
    rw [← e4.2.2.2, h7] at v1
    cases v1
  · obtain ⟨cell, k, e1, e2, e3, -, -⟩ := E
    cases (show h[q.sd]? = some q.SA from G.hd).symm.trans e1
    obtain ⟨cS, -, -, f, -⟩ := G
    rw [show (Wst Z vm h).vm = vm from rfl, hal.findClass] at f
    obtain ⟨k1, q1, q2⟩ := Vm.findClass_spec f
    obtain ⟨k2, q3, q4⟩ := Vm.findClass_spec e2
    cases q1.symm.trans q3
    exact absurd (q4.symm.trans q2) (by decide)
theorem o_joinH {α : Type} {P : Heap → α → Prop} {F : α → JFrame} {C N : Nat} (X : Stand p l e R (s.setVm vm0) m args below meth c T locs cells slots) (hZ : Z.Warmed39 vm0) (hown : vm0.findClass own = some m.cls) (hN : Fr n0 locs)
    (kJ : ∀ T' locs' vm' k', Stand p l e R (s.setVm vm') m args below meth c T' locs' C N → s.Since vm' k' → k' ≤ T'.heap.size → Z.Warmed39 vm' → vm'.findClass own = some m.cls → Fr n0 locs' → Old Z n0 T'.heap → ∀ a, P T'.heap a → o_G p e below K T' (F a))
    (kB : (∀ T' locs' vm' k', Stand p l e R (s.setVm vm') m args below meth c T' locs' C N → s.Since vm' k' → k' ≤ T'.heap.size → Z.Warmed39 vm' → vm'.findClass own = some m.cls → Fr n0 locs' → Old Z n0 T'.heap → ∀ a, P T'.heap a → o_G p e below K T' (F a)) → o_G p e below K T g) : o_G p e below K T g := kB kJ
end OwnH2
end Jvm.RoadKit
namespace Jvm.RoadKit
open Sem ClassFile Op Lib Bundle Jvm.Stand Jvm.Free Jvm.LawKit Jvm.Free.SB Jvm.Free.SBG
section OwnC
variable {p : Program} {l : Launch} {e : Env} {R : Room} {s : State} {m : MethodId} {args : Array Value} {below : List Frame} {meth : Method} {c : Code} {T T' : State} {locs : List Loc} {cells slots : Nat} {K : State → Outcome → Prop} {A : Array Slot} {S : List Value} {q : Nat} {x y z : Int32} {v w : Value} {Z : State} {a0 : Array Value} {h : Heap} {a : Addr} {own : String} {index : Nat}
theorem o_getS {R0 O n d host : String} (X : Stand p l e R s m args below meth c T locs cells slots) (hx : p.tables.exec = Jvm.exec) (hZ : Z.Warmed39 s.vm) (hown : s.vm.findClass own = some m.cls) (w : (Cond.fieldLink own index R0 n d).before a0 Z = true ∨ (Cond.fieldLinkNest own index R0 n d host).before a0 Z = true) (via : Via Z R0 O n d) (eT : T.heap = h) (F : Sta Z h O n d v) (hd : decode c.code q = .ok (.getstatic index, 3)) (kk : ∀ T', Stand p l e R s m args below meth c T' locs cells slots → T'.heap = h → o_G p e below K T' (mkF m (q + 3) A (v :: S))) : o_G p e below K T (mkF m q A S) := by
  obtain ⟨T', X', e', st⟩ := getS2 X hx hZ hown w via eT F (g := mkF m q A S) rfl hd
  exact o_st st (kk T' X' e')
theorem o_getF {R0 O n d host : String} (X : Stand p l e R s m args below meth c T locs cells slots) (hx : p.tables.exec = Jvm.exec) (hZ : Z.Warmed39 s.vm) (hown : s.vm.findClass own = some m.cls) (w : (Cond.fieldLink own index R0 n d).before a0 Z = true ∨ (Cond.fieldLinkNest own index R0 n d host).before a0 Z = true) (via : Via Z R0 O n d) (eT : T.heap = h) (F : Fld Z h a O n d v) (hd : decode c.code q = .ok (.getfield index, 3)) (kk : ∀ T', Stand p l e R s m args below meth c T' locs cells slots → T'.heap = h → o_G p e below K T' (mkF m (q + 3) A (v :: S))) : o_G p e below K T (mkF m q A (.ref a :: S)) := by
  obtain ⟨T', X', e', st⟩ := getF X hx hZ hown w via eT F (g := mkF m q A (.ref a :: S)) rfl rfl hd
  exact o_st st (kk T' X' e')
theorem o_putF {R0 O n d host C : String} {kk : Nat} {ty : FieldType} {old : Value} (X : Stand p l e R s m args below meth c T locs cells slots) (hx : p.tables.exec = Jvm.exec) (hZ : Z.Warmed39 s.vm) (hown : s.vm.findClass own = some m.cls) (w : (Cond.fieldLink own index R0 n d).before a0 Z = true ∨ (Cond.fieldLinkNest own index R0 n d host).before a0 Z = true) (via : Via Z R0 O n d) (eT : T.heap = h) (F : Fld Z h a O n d old) (E : Exa Z h a C) (L : (Cond.lays C O n d).before a0 Z = true ∨ ((Cond.laysFinal C O n d).before a0 Z = true ∧ own = O ∧ meth.name = "<init>")) (wi : (Cond.instantiable C kk).before a0 Z = true) (hty : parseFieldDescriptor d = some ty) (hn : narrow ty v = v) (hf : fits ty v = true) (hd : decode c.code q = .ok (.putfield index, 3))
    (k : ∀ T' h', Stand p l e R s m args below meth c T' (locs ++ [⟨a, slotOf Z O n d⟩]) cells slots → T'.heap = h' → Wr h h' a (slotOf Z O n d) v → o_G p e below K T' (mkF m (q + 3) A S)) : o_G p e below K T (mkF m q A (v :: .ref a :: S)) := by
  obtain ⟨T', h', X', e', W, st⟩ := putF X hx hZ hown w via eT F E L wi hty hn hf (g := mkF m q A (v :: .ref a :: S)) rfl rfl hd
  exact o_st st (k T' h' X' e' W)
theorem o_putFN {R0 O n d C : String} {kk : Nat} {ty : FieldType} {old v' : Value} (X : Stand p l e R s m args below meth c T locs cells slots) (hx : p.tables.exec = Jvm.exec) (hZ : Z.Warmed39 s.vm) (hown : s.vm.findClass own = some m.cls) (w : (Cond.fieldLink own index R0 n d).before a0 Z = true) (via : Via Z R0 O n d) (eT : T.heap = h) (F : Fld Z h a O n d old) (E : Exa Z h a C) (L : (Cond.lays C O n d).before a0 Z = true ∨ ((Cond.laysFinal C O n d).before a0 Z = true ∧ own = O ∧ meth.name = "<init>")) (wi : (Cond.instantiable C kk).before a0 Z = true) (hty : parseFieldDescriptor d = some ty) (hn : narrow ty v = v') (hf : fits ty v' = true) (hd : decode c.code q = .ok (.putfield index, 3))
    (k : ∀ T' h', Stand p l e R s m args below meth c T' (locs ++ [⟨a, slotOf Z O n d⟩]) cells slots → T'.heap = h' → Wr h h' a (slotOf Z O n d) v' → o_G p e below K T' (mkF m (q + 3) A S)) : o_G p e below K T (mkF m q A (v :: .ref a :: S)) := by
  obtain ⟨T', h', X', e', W, st⟩ := putFN X hx hZ hown w via eT F E L wi hty hn hf (g := mkF m q A (v :: .ref a :: S)) rfl rfl hd
  exact o_st st (k T' h' X' e' W)
theorem o_new {C : String} {n : Nat} (X : Stand p l e R s m args below meth c T locs cells slots) (hx : p.tables.exec = Jvm.exec) (hZ : Z.Warmed39 s.vm) (hown : s.vm.findClass own = some m.cls) (w : (Cond.classLink own index C).before a0 Z = true) (wi : (Cond.instantiable C n).before a0 Z = true) (wz : (Cond.initialized C).before a0 Z = true) (eT : T.heap = h) (hd : decode c.code q = .ok (.new index, 3)) (hc : cells + 1 ≤ R.cells) (hl : slots + n ≤ R.slots)
    (k : ∀ T' h' b, Stand p l e R s m args below meth c T' locs (cells + 1) (slots + n) → T'.heap = h' → b = h.size → Ext h h' → Exa Z h' b C → (∀ {O nm d : String} {ty : FieldType}, Laid Z a0 C O nm d → parseFieldDescriptor d = some ty → Fld Z h' b O nm d (defaultValue ty)) → o_G p e below K T' (mkF m (q + 3) A (.ref b :: S))) : o_G p e below K T (mkF m q A S) := by
  obtain ⟨T', h', X', e', E, E2, D, -, st⟩ := newO X hx hZ hown w wi wz eT (g := mkF m q A S) rfl hd hc hl
  exact o_st st (k T' h' _ X' e' rfl E E2 D)
theorem o_newA {aty : ArrayType} {cap : Nat} (X : Stand p l e R s m args below meth c T locs cells slots) (hx : p.tables.exec = Jvm.exec) (hZ : Z.Warmed39 s.vm) (w : (Cond.arrayClass (newarray.typeOf aty)).before a0 Z = true) (eT : T.heap = h) (hd : decode c.code q = .ok (.newarray aty, 2)) (hn : ¬ x < 0) (hcap : x.toNatClampNeg ≤ cap) (hb : cap * 8 ≤ 536870912) (hc : cells + 1 ≤ R.cells) (hl : slots + cap ≤ R.slots)
    (k : ∀ T' h' ka b, Stand p l e R s m args below meth c T' locs (cells + 1) (slots + cap) → T'.heap = h' → b = h.size → Ext h h' → Arv Z h' b ka (newarray.typeOf aty) x [] (defaultValue (newarray.typeOf aty)) → o_G p e below K T' (mkF m (q + 2) A (.ref b :: S))) : o_G p e below K T (mkF m q A (.int x :: S)) := by
  obtain ⟨T', h', ka, X', e', E, A', st⟩ := newP X hx hZ w eT (g := mkF m q A (.int x :: S)) rfl hd rfl hn hcap hb hc hl
  exact o_st st (k T' h' ka _ X' e' rfl E (Arv.new A' hn))
section Sto
variable {ka : ClassId} {n : Int32} {vs : List Value} {dv : Value} {i : Nat}
theorem o_stC (X : Stand p l e R s m args below meth c T locs cells slots) (hx : p.tables.exec = Jvm.exec) (hZ : Z.Warmed39 s.vm) (eT : T.heap = h) (F : Arv Z h a ka .char n vs dv) (hd : decode c.code q = .ok (.castore, 1)) (hj : ¬ y < 0 ∧ y < n) (hi : y.toNatClampNeg = i) (hl : i < vs.length) (hn : nar .char x = z)
    (k : ∀ T' h', Stand p l e R s m args below meth c T' (locs ++ [⟨a, y.toNatClampNeg⟩]) cells slots → T'.heap = h' → Wr h h' a y.toNatClampNeg (.int z) → Arv Z h' a ka .char n (vs.set i (.int z)) dv → o_G p e below K T' (mkF m (q + 1) A S)) : o_G p e below K T (mkF m q A (.int x :: .int y :: .ref a :: S)) := by
  obtain ⟨cl, F1, F2, F3, F4, F5, F6⟩ := F
  obtain ⟨T', h', X', e', W, st⟩ := stC X hx hZ eT F1 (inb_of F3 hj) (g := mkF m q A (.int x :: .int y :: .ref a :: S)) rfl rfl hd
  have W' := W
  rw [hn] at W'
  have hf := fits_nar_char x
  rw [hn] at hf
  exact o_st st (k T' h' X' e' W' (Arv.set F1 F2 F3 F4 F5 F6 hf W' i hi hl))
theorem o_stB (X : Stand p l e R s m args below meth c T locs cells slots) (hx : p.tables.exec = Jvm.exec) (hZ : Z.Warmed39 s.vm) (eT : T.heap = h) (F : Arv Z h a ka .byte n vs dv) (hd : decode c.code q = .ok (.bastore, 1)) (hj : ¬ y < 0 ∧ y < n) (hi : y.toNatClampNeg = i) (hl : i < vs.length) (hn : nar .byte x = z)
    (k : ∀ T' h', Stand p l e R s m args below meth c T' (locs ++ [⟨a, y.toNatClampNeg⟩]) cells slots → T'.heap = h' → Wr h h' a y.toNatClampNeg (.int z) → Arv Z h' a ka .byte n (vs.set i (.int z)) dv → o_G p e below K T' (mkF m (q + 1) A S)) : o_G p e below K T (mkF m q A (.int x :: .int y :: .ref a :: S)) := by
  obtain ⟨cl, F1, F2, F3, F4, F5, F6⟩ := F
  obtain ⟨T', h', X', e', W, st⟩ := stB X hx hZ eT F1 (inb_of F3 hj) (g := mkF m q A (.int x :: .int y :: .ref a :: S)) rfl rfl hd
  have W' := W
  rw [hn] at W'
  have hf := fits_nar_byte x
  rw [show x.toInt8.toInt32 = z from hn] at hf
  exact o_st st (k T' h' X' e' W' (Arv.set F1 F2 F3 F4 F5 F6 hf W' i hi hl))
theorem o_stI (X : Stand p l e R s m args below meth c T locs cells slots) (hx : p.tables.exec = Jvm.exec) (hZ : Z.Warmed39 s.vm) (eT : T.heap = h) (F : Arv Z h a ka .int n vs dv) (hd : decode c.code q = .ok (.iastore, 1)) (hj : ¬ y < 0 ∧ y < n) (hi : y.toNatClampNeg = i) (hl : i < vs.length)
    (k : ∀ T' h', Stand p l e R s m args below meth c T' (locs ++ [⟨a, y.toNatClampNeg⟩]) cells slots → T'.heap = h' → Wr h h' a y.toNatClampNeg (.int x) → Arv Z h' a ka .int n (vs.set i (.int x)) dv → o_G p e below K T' (mkF m (q + 1) A S)) : o_G p e below K T (mkF m q A (.int x :: .int y :: .ref a :: S)) := by
  obtain ⟨cl, F1, F2, F3, F4, F5, F6⟩ := F
  obtain ⟨T', h', X', e', W, st⟩ := stI X hx hZ eT F1 (inb_of F3 hj) (g := mkF m q A (.int x :: .int y :: .ref a :: S)) rfl rfl hd
  exact o_st st (k T' h' X' e' W (Arv.set F1 F2 F3 F4 F5 F6 rfl W i hi hl))
end Sto
theorem o_initO {W : Nat} (X : Stand p l e R s m args below meth c T locs cells slots) (hx : p.tables.exec = Jvm.exec) (hZ : Z.Warmed39 s.vm) (hown : s.vm.findClass own = some m.cls) (w1 : (Cond.methodLink own index Lib.objectInit).before a0 Z = true) (w2 : (Cond.instanceMethod Lib.objectInit).before a0 Z = true) (w3 : (Cond.code Lib.objectInit ⟨#[0xb1]⟩ 1 none).before a0 Z = true) (eT : T.heap = h) (hsz : A.size = c.maxLocals) (hd : decode c.code q = .ok (.invokespecial index, 3)) (hf : 1 ≤ R.frames) (hW : (S.map fun v => v.category).sum ≤ W) (hl : W + 12 ≤ R.locals)
    (kk : ∀ T', Stand p l e R s m args below meth c T' locs cells slots → T'.heap = h → o_G p e below K T' (mkF m (q + 3) A S)) : o_G p e below K T (mkF m q A (.ref a :: S)) := by
  obtain ⟨T', X', e', st⟩ := initO X hx hZ hown w1 w2 w3 eT (g := mkF m q A (.ref a :: S)) rfl hsz rfl hd hf (W := W) (by show 2 * 0 + _ ≤ _; omega) hl
  exact o_st st (kk T' X' e')
theorem o_instY {Kn : String} (X : Stand p l e R s m args below meth c T locs cells slots) (hx : p.tables.exec = Jvm.exec) (hZ : Z.Warmed39 s.vm) (hown : s.vm.findClass own = some m.cls) (w : (Cond.classLink own index Kn).before a0 Z = true) (eT : T.heap = h) (F : Ins Z h a Kn true) (hd : decode c.code q = .ok (.instanceof index, 3)) (kk : ∀ T', Stand p l e R s m args below meth c T' locs cells slots → T'.heap = h → o_G p e below K T' (mkF m (q + 3) A (.int 1 :: S))) : o_G p e below K T (mkF m q A (.ref a :: S)) := by
  obtain ⟨T', X', e', st⟩ := instY X hx hZ hown w eT F (g := mkF m q A (.ref a :: S)) rfl rfl hd
  exact o_st st (kk T' X' e')
theorem o_castY {Kn : String} (X : Stand p l e R s m args below meth c T locs cells slots) (hx : p.tables.exec = Jvm.exec) (hZ : Z.Warmed39 s.vm) (hown : s.vm.findClass own = some m.cls) (w : (Cond.classLink own index Kn).before a0 Z = true) (eT : T.heap = h) (F : Ins Z h a Kn true) (hd : decode c.code q = .ok (.checkcast index, 3)) (kk : ∀ T', Stand p l e R s m args below meth c T' locs cells slots → T'.heap = h → o_G p e below K T' (mkF m (q + 3) A (.ref a :: S))) : o_G p e below K T (mkF m q A (.ref a :: S)) := by
  obtain ⟨T', X', e', st⟩ := castY X hx hZ hown w eT F (g := mkF m q A (.ref a :: S)) rfl rfl hd
  exact o_st st (kk T' X' e')
theorem o_fresh {n0 : Nat} {b : Addr} (O : Old Z n0 h) (g : b = h.size) : n0 ≤ b := by rw [g, ← O.1]; exact O.2.1
theorem o_size {n0 : Nat} (O : Old Z n0 h) : n0 ≤ h.size := by rw [← O.1]; exact O.2.1
theorem o_hQ {Q : Option Value → Heap → List Loc → Prop} {v : Option Value} {T : State} {h : Heap} {L : List Loc} (e : T.heap = h) (hq : Q v h L) : Q v T.heap L := e ▸ hq
theorem o_b {a b : Nat} (h : Nat.ble a b = true) : a ≤ b := Nat.le_of_ble_eq_true h
abbrev vI (x : Int32) : Slot := .val (.int x)
abbrev vR (x : Addr) : Slot := .val (.ref x)
section Autos
variable {Q : Option Value → Heap → List Loc → Prop} {kc ks W : Nat} {C : String} {argsL St : List Value} {b : Addr}
theorem o_vir {ml : Nat} {y : MethodName} (X : Stand p l e R s m args below meth c T locs cells slots) (hx : p.tables.exec = Jvm.exec) (hZ : Z.Warmed39 s.vm) (hown : s.vm.findClass own = some m.cls) (w1 : (Cond.methodLink own index y).before a0 Z = true) (w2 : (Cond.declares y).before a0 Z = true) (w3 : (Cond.selects C y y).before a0 Z = true) (w4 : (Cond.instanceMethod y).before a0 Z = true) (hK : Back l R p e below s args y 3 W (fun P a => a = (Value.ref b :: argsL).toArray ∧ P.U.heap = h ∧ P.cells + kc ≤ R.cells ∧ P.slots + ks ≤ R.slots) (fun P _ v B => ∃ L, Q v B.U.heap L ∧ B.locs = P.locs ++ L ∧ B.cells = P.cells + kc ∧ B.slots = P.slots + ks)) (eT : T.heap = h) (E : Exa Z h b C) (hml : c.maxLocals = ml) (hlen : ∀ sig, parseMethodDescriptor y.desc = some sig → argsL.length = sig.parameters.length) (hd : decode c.code q = .ok (.invokevirtual index, 3))
    (kk : ∀ T' L v, Stand p l e R s m args below meth c T' (locs ++ L) (cells + kc) (slots + ks) → Q v T'.heap L → o_G p e below K T' (mkF m (q + 3) A (v.toList ++ S)))
    (hy : y.cls ≠ "java/lang/invoke/MethodHandle" ∧ y.cls ≠ "java/lang/invoke/VarHandle" := by decide) (hsz : A.size = ml := by rfl) (hst : St = argsL.reverse ++ .ref b :: S := by rfl) (hW : (S.map fun v => v.category).sum ≤ W := by exact Nat.le_of_eq rfl) (hc : cells + kc ≤ R.cells := by decide) (hs : slots + ks ≤ R.slots := by decide) : o_G p e below K T (mkF m q A St) :=
  o_virtual X hx hZ hown w1 w2 (notFace_of_selects (args := #[]) (mvT hZ w3)) w3 w4 hy hK eT E (hsz.trans hml.symm) hlen hst hW hd hc hs kk
theorem o_sta {bytes : ByteArray} {maxL ml : Nat} {ret : Option FieldType} {y : MethodName} (X : Stand p l e R s m args below meth c T locs cells slots) (hx : p.tables.exec = Jvm.exec) (hZ : Z.Warmed39 s.vm) (hown : s.vm.findClass own = some m.cls) (w1 : (Cond.methodLink own index y).before a0 Z = true) (w2 : (Cond.static y).before a0 Z = true) (w3 : (Cond.initialized y.cls).before a0 Z = true) (w4 : (Cond.code y bytes maxL ret).before a0 Z = true) (hK : Back l R p e below s args y 3 W (fun P a => a = argsL.toArray ∧ P.U.heap = h ∧ P.cells + kc ≤ R.cells ∧ P.slots + ks ≤ R.slots) (fun P _ v B => ∃ L, Q v B.U.heap L ∧ B.locs = P.locs ++ L ∧ B.cells = P.cells + kc ∧ B.slots = P.slots + ks)) (eT : T.heap = h) (hml : c.maxLocals = ml) (hlen : ∀ sig, parseMethodDescriptor y.desc = some sig → argsL.length = sig.parameters.length) (hd : decode c.code q = .ok (.invokestatic index, 3))
    (kk : ∀ T' L v, Stand p l e R s m args below meth c T' (locs ++ L) (cells + kc) (slots + ks) → Q v T'.heap L → o_G p e below K T' (mkF m (q + 3) A (v.toList ++ S)))
    (hy : y.cls ≠ "java/lang/invoke/MethodHandle" ∧ y.cls ≠ "java/lang/invoke/VarHandle" := by decide) (hsz : A.size = ml := by rfl) (hst : St = argsL.reverse ++ S := by rfl) (hW : (S.map fun v => v.category).sum ≤ W := by exact Nat.le_of_eq rfl) (hc : cells + kc ≤ R.cells := by decide) (hs : slots + ks ≤ R.slots := by decide) : o_G p e below K T (mkF m q A St) :=
  o_static X hx hZ hown w1 w2 w3 w4 hy hK eT (hsz.trans hml.symm) hlen hst hW hd hc hs kk
theorem o_ini {bytes : ByteArray} {maxL ml : Nat} {y : MethodName} (hy1 : y.name = "<init>") (X : Stand p l e R s m args below meth c T locs cells slots) (hx : p.tables.exec = Jvm.exec) (hZ : Z.Warmed39 s.vm) (hown : s.vm.findClass own = some m.cls) (w1 : (Cond.methodLink own index y).before a0 Z = true) (w2 : (Cond.instanceMethod y).before a0 Z = true) (w4 : (Cond.code y bytes maxL none).before a0 Z = true) (hK : Back l R p e below s args y 3 W (fun P a => a = (Value.ref b :: argsL).toArray ∧ P.U.heap = h ∧ P.cells + kc ≤ R.cells ∧ P.slots + ks ≤ R.slots) (fun P _ v B => ∃ L, Q v B.U.heap L ∧ B.locs = P.locs ++ L ∧ B.cells = P.cells + kc ∧ B.slots = P.slots + ks)) (eT : T.heap = h) (hml : c.maxLocals = ml) (hlen : ∀ sig, parseMethodDescriptor y.desc = some sig → argsL.length = sig.parameters.length) (hd : decode c.code q = .ok (.invokespecial index, 3))
    (kk : ∀ T' L v, Stand p l e R s m args below meth c T' (locs ++ L) (cells + kc) (slots + ks) → Q v T'.heap L → o_G p e below K T' (mkF m (q + 3) A (v.toList ++ S)))
    (hy : y.cls ≠ "java/lang/invoke/MethodHandle" ∧ y.cls ≠ "java/lang/invoke/VarHandle" := by decide) (hsz : A.size = ml := by rfl) (hst : St = argsL.reverse ++ .ref b :: S := by rfl) (hW : (S.map fun v => v.category).sum ≤ W := by exact Nat.le_of_eq rfl) (hc : cells + kc ≤ R.cells := by decide) (hs : slots + ks ≤ R.slots := by decide) : o_G p e below K T (mkF m q A St) :=
  o_init hy1 X hx hZ hown w1 w2 w4 hy hK eT (hsz.trans hml.symm) hlen hst hW hd hc hs kk
theorem o_iF (X : Stand p l e R s m args below meth c T locs cells slots) (hx : p.tables.exec = Jvm.exec) {cd : ClassFile.Cond} {o : Int} {t : Nat} (hd : decode c.code q = .ok (.ifCond cd o, 3)) (kT : ifCond.holds cd x = true → o_G p e below K T (mkF m t A S)) (kF : ifCond.holds cd x = false → o_G p e below K T (mkF m (q + 3) A S)) (ho : 0 ≤ (q : Int) + o := by decide) (ht : ((q : Int) + o).toNat = t := by decide) : o_G p e below K T (mkF m q A (.int x :: S)) := o_if X hx hd ho ht kT kF
theorem o_iFT (X : Stand p l e R s m args below meth c T locs cells slots) (hx : p.tables.exec = Jvm.exec) {cd : ClassFile.Cond} {o : Int} {t : Nat} (hd : decode c.code q = .ok (.ifCond cd o, 3)) (k : o_G p e below K T (mkF m t A S)) (ho : 0 ≤ (q : Int) + o := by decide) (ht : ((q : Int) + o).toNat = t := by decide) (hc : ifCond.holds cd x = true := by decide) : o_G p e below K T (mkF m q A (.int x :: S)) := o_ifT X hx hd ho ht hc k
theorem o_iFF (X : Stand p l e R s m args below meth c T locs cells slots) (hx : p.tables.exec = Jvm.exec) {cd : ClassFile.Cond} {o : Int} (hd : decode c.code q = .ok (.ifCond cd o, 3)) (k : o_G p e below K T (mkF m (q + 3) A S)) (hc : ifCond.holds cd x = false := by decide) : o_G p e below K T (mkF m q A (.int x :: S)) := o_ifF X hx hd hc k
theorem o_iC (X : Stand p l e R s m args below meth c T locs cells slots) (hx : p.tables.exec = Jvm.exec) {cd : ClassFile.Cond} {o : Int} {t : Nat} (hd : decode c.code q = .ok (.if_icmp cd o, 3)) (kT : if_icmp.holds cd x y = true → o_G p e below K T (mkF m t A S)) (kF : if_icmp.holds cd x y = false → o_G p e below K T (mkF m (q + 3) A S)) (ho : 0 ≤ (q : Int) + o := by decide) (ht : ((q : Int) + o).toNat = t := by decide) : o_G p e below K T (mkF m q A (.int y :: .int x :: S)) := o_icmp X hx hd ho ht kT kF
theorem o_iCT (X : Stand p l e R s m args below meth c T locs cells slots) (hx : p.tables.exec = Jvm.exec) {cd : ClassFile.Cond} {o : Int} {t : Nat} (hd : decode c.code q = .ok (.if_icmp cd o, 3)) (k : o_G p e below K T (mkF m t A S)) (ho : 0 ≤ (q : Int) + o := by decide) (ht : ((q : Int) + o).toNat = t := by decide) (hc : if_icmp.holds cd x y = true := by decide) : o_G p e below K T (mkF m q A (.int y :: .int x :: S)) := o_icmpT X hx hd ho ht hc k
theorem o_iCF (X : Stand p l e R s m args below meth c T locs cells slots) (hx : p.tables.exec = Jvm.exec) {cd : ClassFile.Cond} {o : Int} (hd : decode c.code q = .ok (.if_icmp cd o, 3)) (k : o_G p e below K T (mkF m (q + 3) A S)) (hc : if_icmp.holds cd x y = false := by decide) : o_G p e below K T (mkF m q A (.int y :: .int x :: S)) := o_icmpF X hx hd hc k
theorem o_gO (X : Stand p l e R s m args below meth c T locs cells slots) (hx : p.tables.exec = Jvm.exec) {o : Int} {t : Nat} (hd : decode c.code q = .ok (.goto o, 3)) (kk : o_G p e below K T (mkF m t A S)) (ho : 0 ≤ (q : Int) + o := by decide) (ht : ((q : Int) + o).toNat = t := by decide) : o_G p e below K T (mkF m q A S) := o_goto X hx hd ho ht kk
theorem o_ng {a b n : Nat} (h : a < n) (g : b = n) : a ≠ b := by omega
end Autos
end OwnC
section Enter
variable {l : Launch} {Z : State} {h0 : Heap} {y : MethodName} {bytes : ByteArray} {ml : Nat} {ret : Option FieldType} {ws : List Cond} {rm : Room} {as' : Array Value} {Q : Option Value → Heap → List Loc → Prop} {Ls : Array Slot} {EL : List (String × Nat)}
abbrev o_Met (l : Launch) (Z : State) (y : MethodName) (bytes : ByteArray) (ml : Nat) (ret : Option FieldType) (ws : List Cond) (rm : Room) (as' : Array Value) (h0 : Heap) (Q : Option Value → Heap → List Loc → Prop) : Prop := MetFree l y (head1 (Cond.code y bytes ml ret :: ws) rm) (fun a U => a = as' ∧ Z.Warmed39 U.vm ∧ U.heap = h0) (fun _ _ _ _ _ => True) (fun _ U o U' => ∃ v L, o = .returned v ∧ Q v U'.heap L ∧ FrameEnd U o U' L rm.cells rm.slots)
abbrev o_MetW (l : Launch) (Z : State) (y : MethodName) (bytes : ByteArray) (ml : Nat) (ret : Option FieldType) (ws : List Cond) (rm : Room) (as' : Array Value) (h0 : Heap) (Q : Option Value → Heap → List Loc → Prop) : Prop := MetFree l y (head1 (Cond.code y bytes ml ret :: ws) rm) (fun a U => a = as' ∧ Z.Warmed39 U.vm ∧ U.heap = h0) (fun _ _ _ _ _ => True) (fun _ U o U' => ∃ v L, o = .returned v ∧ Q v U'.heap L ∧ ReturnedEndW U o U' L rm.cells rm.slots)
abbrev o_MetH (EL : List (String × Nat)) (l : Launch) (Z : State) (y : MethodName) (bytes : ByteArray) (ml : Nat) (ret : Option FieldType) (ws : List Cond) (rm : Room) (as' : Array Value) (h0 : Heap) (Q : Option Value → Heap → List Loc → Prop) : Prop := MetFree l y (head1 (Cond.code y bytes ml ret :: ws) rm) (fun a U => a = as' ∧ Z.Warmed39 U.vm ∧ U.heap = h0 ∧ CHv Z EL U.vm h0) (fun _ _ _ _ _ => True) (fun _ U o U' => ∃ v L, o = .returned v ∧ Q v U'.heap L ∧ CHr Z EL U.vm U.heap U'.vm U'.heap ∧ ReturnedEndW U o U' L rm.cells rm.slots)
/-- a law's own: the constants are held at its start; of its end only the wide frame is said -/
abbrev o_MetL (EL : List (String × Nat)) (l : Launch) (Z : State) (y : MethodName) (bytes : ByteArray) (ml : Nat) (ret : Option FieldType) (ws : List Cond) (rm : Room) (as' : Array Value) (h0 : Heap) (Q : Option Value → Heap → List Loc → Prop) : Prop := MetFree l y (head1 (Cond.code y bytes ml ret :: ws) rm) (fun a U => a = as' ∧ Z.Warmed39 U.vm ∧ U.heap = h0 ∧ CHv Z EL U.vm h0) (fun _ _ _ _ _ => True) (fun _ U o U' => ∃ v L, o = .returned v ∧ Q v U'.heap L ∧ ReturnedEndW U o U' L rm.cells rm.slots)
theorem o_enterM (hpl : plainFor y = true) (hef : ∀ m, entryFrame m as' ml = mkF m 0 Ls []) (body : ∀ (p : Program) (e : Env) (s : State) (m : MethodId) (below : List Frame) (meth : Method) (c : Code) (s₁ : State), p.tables.exec = Jvm.exec → c.code = bytes → c.maxLocals = ml → Z.Warmed39 s.vm → s.vm.findClass y.cls = some m.cls → meth.name = y.name → meth.locks = false → meth.sig.returnType = ret → Stand p l e rm s m as' below meth c s₁ [] 0 0 → s₁.heap = h0 → o_G p e below (o_E s Q rm.cells rm.slots) s₁ (mkF m 0 Ls [])) : o_Met l Z y bytes ml ret ws rm as' h0 Q := by
  refine MetFree.of_bodySF hpl hisR ?_
  intro p e s m args below meth c s₁ Bd hml hP hK
  obtain ⟨rfl, hZ, hh⟩ := hP
  have hG := body p e s m below meth c s₁ Bd.exec Bd.bytes hml hZ (findClass_of_methodNamed Bd.named) (name_of_methodNamed Bd.named Bd.method).1 (BodyLoose.notSynchronized Bd) Bd.returns (Stand.of_body Bd) (by rw [← hh, Bd.state]; rfl)
  rw [← hef] at hG; exact hG
theorem o_enter (hpl : plainName y.cls = true) (hef : ∀ m, entryFrame m as' ml = mkF m 0 Ls []) (body : ∀ (p : Program) (e : Env) (s : State) (m : MethodId) (below : List Frame) (meth : Method) (c : Code) (s₁ : State), p.tables.exec = Jvm.exec → c.code = bytes → c.maxLocals = ml → Z.Warmed39 s.vm → s.vm.findClass y.cls = some m.cls → meth.name = y.name → meth.locks = false → meth.sig.returnType = ret → Stand p l e rm s m as' below meth c s₁ [] 0 0 → s₁.heap = h0 → o_G p e below (o_E s Q rm.cells rm.slots) s₁ (mkF m 0 Ls [])) : o_Met l Z y bytes ml ret ws rm as' h0 Q := o_enterM (plainFor_of_name hpl) hef body
theorem o_enterW (hpl : plainName y.cls = true) (hef : ∀ m, entryFrame m as' ml = mkF m 0 Ls []) (body : ∀ (p : Program) (e : Env) (s : State) (m : MethodId) (below : List Frame) (meth : Method) (c : Code) (s₁ : State), p.tables.exec = Jvm.exec → c.code = bytes → c.maxLocals = ml → Z.Warmed39 s.vm → s.vm.findClass y.cls = some m.cls → meth.name = y.name → meth.locks = false → meth.sig.returnType = ret → Stand p l e rm (s.setVm s.vm) m as' below meth c s₁ [] 0 0 → s₁.heap = h0 → s.Since s.vm 0 → 0 ≤ h0.size → o_G p e below (o_EW s Q rm.cells rm.slots) s₁ (mkF m 0 Ls [])) : o_MetW l Z y bytes ml ret ws rm as' h0 Q := by
  refine MetFree.of_bodySF (plainFor_of_name hpl) hisR ?_
  intro p e s m args below meth c s₁ Bd hml hP hK
  obtain ⟨rfl, hZ, hh⟩ := hP
  have hG := body p e s m below meth c s₁ Bd.exec Bd.bytes hml hZ (findClass_of_methodNamed Bd.named) (name_of_methodNamed Bd.named Bd.method).1 (BodyLoose.notSynchronized Bd) Bd.returns (Stand.of_body Bd) (by rw [← hh, Bd.state]; rfl) ((State.WarmedH.refl s).since 0) (Nat.zero_le _)
  rw [← hef] at hG; exact hG
theorem o_enterH (hpl : plainName y.cls = true) (hef : ∀ m, entryFrame m as' ml = mkF m 0 Ls []) (body : ∀ (p : Program) (e : Env) (s : State) (m : MethodId) (below : List Frame) (meth : Method) (c : Code) (s₁ : State), p.tables.exec = Jvm.exec → c.code = bytes → c.maxLocals = ml → Z.Warmed39 s.vm → s.vm.findClass y.cls = some m.cls → meth.name = y.name → meth.locks = false → meth.sig.returnType = ret → Stand p l e rm (s.setVm s.vm) m as' below meth c s₁ [] 0 0 → s₁.heap = h0 → s.Since s.vm 0 → 0 ≤ h0.size → CHr Z EL s.vm h0 s.vm h0 → o_G p e below (o_EH Z EL s h0 Q rm.cells rm.slots) s₁ (mkF m 0 Ls [])) : o_MetH EL l Z y bytes ml ret ws rm as' h0 Q := by
  refine MetFree.of_bodySF (plainFor_of_name hpl) hisR ?_
  intro p e s m args below meth c s₁ Bd hml hP hK
  obtain ⟨rfl, hZ, hh, hC⟩ := hP
  have hG := body p e s m below meth c s₁ Bd.exec Bd.bytes hml hZ (findClass_of_methodNamed Bd.named) (name_of_methodNamed Bd.named Bd.method).1 (BodyLoose.notSynchronized Bd) Bd.returns (Stand.of_body Bd) (by rw [← hh, Bd.state]; rfl) ((State.WarmedH.refl s).since 0) (Nat.zero_le _) (CHr.refl hC)
  rw [← hef] at hG
  exact o_mono (K := o_EH Z EL s h0 Q rm.cells rm.slots) (fun t o hq => by rw [hh]; exact hq) hG
theorem o_enterL (hpl : plainName y.cls = true) (hef : ∀ m, entryFrame m as' ml = mkF m 0 Ls []) (body : ∀ (p : Program) (e : Env) (s : State) (m : MethodId) (below : List Frame) (meth : Method) (c : Code) (s₁ : State), p.tables.exec = Jvm.exec → c.code = bytes → c.maxLocals = ml → Z.Warmed39 s.vm → s.vm.findClass y.cls = some m.cls → meth.name = y.name → meth.locks = false → meth.sig.returnType = ret → Stand p l e rm (s.setVm s.vm) m as' below meth c s₁ [] 0 0 → s₁.heap = h0 → s.Since s.vm 0 → 0 ≤ h0.size → CHr Z EL s.vm h0 s.vm h0 → o_G p e below (o_EW s Q rm.cells rm.slots) s₁ (mkF m 0 Ls [])) : o_MetL EL l Z y bytes ml ret ws rm as' h0 Q := by
  refine MetFree.of_bodySF (plainFor_of_name hpl) hisR ?_
  intro p e s m args below meth c s₁ Bd hml hP hK
  obtain ⟨rfl, hZ, hh, hC⟩ := hP
  have hG := body p e s m below meth c s₁ Bd.exec Bd.bytes hml hZ (findClass_of_methodNamed Bd.named) (name_of_methodNamed Bd.named Bd.method).1 (BodyLoose.notSynchronized Bd) Bd.returns (Stand.of_body Bd) (by rw [← hh, Bd.state]; rfl) ((State.WarmedH.refl s).since 0) (Nat.zero_le _) (CHr.refl hC)
  rw [← hef] at hG; exact hG
end Enter
end Jvm.RoadKit
namespace Jvm.RoadKit
open Sem ClassFile Op Lib Bundle Jvm.Stand Jvm.Free Jvm.LawKit Jvm.Free.SB Jvm.Free.SBG
section OwnSafe
variable {Z : State} {a0 : Array Value} {EL : List (String × Nat)} {vm : Vm} {h : Heap} {own text : String} {index zz : Nat}
/-- of each entry of EL: it names a text below 256, of another length than zz -/
def o_EN (Z : State) (a0 : Array Value) (EL : List (String × Nat)) (zz : Nat) : Prop := ∀ p ∈ EL, ∃ text : String, (Cond.stringLink p.1 p.2 text).before a0 Z = true ∧ (∀ c ∈ text.toList, c.toNat < 256) ∧ text.toList.length ≠ zz
theorem o_EN.nil : o_EN Z a0 [] zz := fun _ hp => by cases hp
theorem o_EN.cons (w : (Cond.stringLink own index text).before a0 Z = true) (ht : ∀ c ∈ text.toList, c.toNat < 256) (hn : text.toList.length ≠ zz) (E : o_EN Z a0 EL zz) : o_EN Z a0 ((own, index) :: EL) zz := fun p hp => by
  rcases List.mem_cons.mp hp with rfl | hp
  · exact ⟨text, w, ht, hn⟩
  · exact E p hp
/-- a byte array of another length than each constant's is none of theirs -/
theorem o_safeL {x : Addr} {k : ClassId} {z : Int32} {vs : List Value} {dv : Value} (hZ : Z.Warmed39 vm) (E : o_EN Z a0 EL z.toNatClampNeg) (F : Arv Z h x k .byte z vs dv) : Safe Z EL vm h x := fun B => by
  obtain ⟨cl, ⟨A1, ⟨-, kA, hkA, compA, hkindA⟩, -⟩, -, hsize, -⟩ := F
  have hal := hZ.alike
  obtain ⟨kA', hkA', ekA⟩ := hal.2.2 _ _ hkA
  obtain ⟨p, hp, u, a, hb, q, -, F, rfl | rfl⟩ := B
  · cases (show h[q.sa]? = some q.sC from F.ha).symm.trans A1
    obtain ⟨cS, ⟨-, -, e⟩, ⟨kS, g1, g2, -⟩, -⟩ := F
    subst e
    cases (show vm.classes[q.sC.cls]? = some kS from g1).symm.trans hkA'
    rw [ekA] at g2
    have := hkindA.symm.trans g2
    cases this
  · cases (show h[q.sd]? = some q.SA from F.hd).symm.trans A1
    obtain ⟨cS, -, -, -, hbyt⟩ := F
    obtain ⟨text, wl, ht, hn⟩ := E p hp
    obtain ⟨c, k', cf, i, hc, hk', hcf', hpool, hu, -⟩ := hb
    have wl' : (Cond.stringLink p.1 p.2 text).before a0 (Wst Z vm h) = true := mvS (s := { Z with heap := h }) hZ wl
    obtain ⟨k, cf0, i0, units0, hk, hcf, hp0, hu0, hnm, htext, -⟩ := Cond.stringLink_spec (s := Wst Z vm h) hc wl'
    cases (show vm.classes[c]? = some k from hk).symm.trans hk'
    cases hcf'.symm.trans hcf
    cases hpool.symm.trans hp0
    cases hu.symm.trans hu0
    have hlat := Jvm.ClassFile.lat_of_text htext ht
    have el := Jvm.ClassFile.units_of_text htext ht
    have e1 : q.SA.slots.size = u.size := by rw [hbyt, SBG.stringBytes_lat hlat, Array.size_map]
    have e2 : u.size = text.toList.length := by
      have := congrArg List.length el
      simpa using this
    exact hn (by rw [← e2, ← e1, hsize])
end OwnSafe
section OwnCp
variable {p : Program} {l : Launch} {e : Env} {R : Room} {s : State} {m : MethodId} {args : Array Value} {below : List Frame} {meth : Method} {c : Code} {T T' : State} {locs : List Loc} {cells slots : Nat} {K : State → Outcome → Prop} {A : Array Slot} {S : List Value} {q W n0 : Nat} {Z : State} {a0 : Array Value} {h : Heap} {a b : Addr} {own : String} {index : Nat}
/-- System.arraycopy of bytes: cs from sp on, behind the first vd.length places of b -/
theorem o_cpB {k k' : ClassId} {z z' sp dp nn : Int32} {vs vd us : List Value} (X : Stand p l e R s m args below meth c T locs cells slots) (hx : p.tables.exec = Jvm.exec) (hZ : Z.Warmed39 s.vm) (hown : s.vm.findClass own = some m.cls)
    (w1 : (Cond.methodLink own index Jvm.Stand.acN).before a0 Z = true) (w2 : (Cond.native Jvm.Stand.acN).before a0 Z = true) (w3 : (Cond.static Jvm.Stand.acN).before a0 Z = true) (w4 : (Cond.initialized "java/lang/System").before a0 Z = true) (eT : T.heap = h)
    (F : Arv Z h a k .byte z vs (.int 0)) (G : Arv Z h b k' .byte z' vd (.int 0)) (h1 : ¬ sp < 0) (h2 : ¬ dp < 0) (h3 : ¬ nn < 0) (h4 : sp.toNatClampNeg + nn.toNatClampNeg ≤ z.toNatClampNeg) (h5 : dp.toNatClampNeg + nn.toNatClampNeg ≤ z'.toNatClampNeg)
    (hus : us = (List.range nn.toNatClampNeg).map fun i => vs.getD (sp.toNatClampNeg + i) (.int 0)) (hl : dp.toNatClampNeg = vd.length) (N : Fr n0 locs) (ge : n0 ≤ b) (hsz : A.size = c.maxLocals) (hd : decode c.code q = .ok (.invokestatic index, 3)) (hf : 1 ≤ R.frames) (hW : (S.map fun v => v.category).sum ≤ W) (hlo : W + (nativeFrameWords "java/lang/System" "arraycopy" 5 + 11) ≤ R.locals)
    (kk : ∀ T' h' L, Stand p l e R s m args below meth c T' L cells slots → T'.heap = h' → Fr n0 L → Keep h h' [b] → Arv Z h' b k' .byte z' (vd ++ us) (.int 0) → o_G p e below K T' (mkF m (q + 3) A S)) : o_G p e below K T (mkF m q A (.int nn :: .int dp :: .ref b :: .int sp :: .ref a :: S)) := by
  have Gp : Arv Z h b k' .byte z' (vd ++ List.replicate nn.toNatClampNeg (.int 0)) (.int 0) := G.pad (pad_rep vd (.int 0) nn.toNatClampNeg)
  obtain ⟨T', h', L, X', eh, hN, hK, hA, st⟩ := cpA X hx hZ hown w1 w2 w3 w4 eT (us := us) F Gp (Or.inl ⟨rfl, rfl⟩) h1 h2 h3 h4 h5 hus (by rw [List.length_append, List.length_replicate, hl]; exact Nat.le_refl _) N ge (g := mkF m q A (.int nn :: .int dp :: .ref b :: .int sp :: .ref a :: S)) rfl hsz (rest := S) rfl hd hf (W := W) (by show 2 * 0 + _ ≤ _; omega) hlo
  have e1 : (vd ++ List.replicate nn.toNatClampNeg (Value.int 0)).take dp.toNatClampNeg ++ us ++ (vd ++ List.replicate nn.toNatClampNeg (Value.int 0)).drop (dp.toNatClampNeg + nn.toNatClampNeg) = vd ++ us := by
    rw [hl, List.take_left', List.drop_eq_nil_of_le, List.append_nil]
    · rw [List.length_append, List.length_replicate]; exact Nat.le_refl _
    · rfl
  rw [e1] at hA
  exact o_st st (kk T' h' L X' eh hN hK hA)
/-- a store just behind the first places -/
theorem o_stBp {ka : ClassId} {n x y zz : Int32} {vs : List Value} (X : Stand p l e R s m args below meth c T locs cells slots) (hx : p.tables.exec = Jvm.exec) (hZ : Z.Warmed39 s.vm) (eT : T.heap = h) (F : Arv Z h a ka .byte n vs (.int 0)) (hd : decode c.code q = .ok (.bastore, 1)) (hj : ¬ y < 0 ∧ y < n) (hi : y.toNatClampNeg = vs.length) (hn : nar .byte x = zz)
    (k : ∀ T' h', Stand p l e R s m args below meth c T' (locs ++ [⟨a, y.toNatClampNeg⟩]) cells slots → T'.heap = h' → Wr h h' a y.toNatClampNeg (.int zz) → Arv Z h' a ka .byte n (vs ++ [.int zz]) (.int 0) → o_G p e below K T' (mkF m (q + 1) A S)) : o_G p e below K T (mkF m q A (.int x :: .int y :: .ref a :: S)) := by
  have Fp : Arv Z h a ka .byte n (vs ++ List.replicate 1 (.int 0)) (.int 0) := F.pad (pad_rep vs (.int 0) 1)
  refine o_stB (i := vs.length) X hx hZ eT Fp hd hj hi (by simp) hn (fun T' h' X' e' W V => k T' h' X' e' W ?_)
  have e1 : (vs ++ List.replicate 1 (Value.int 0)).set vs.length (.int zz) = vs ++ [.int zz] := by simp
  rw [e1] at V; exact V
theorem o_decl {y : MethodName} {bytes : ByteArray} {ml : Nat} {ret : Option FieldType} (wi : (Cond.instanceMethod y).before a0 Z = true) (wc : (Cond.code y bytes ml ret).before a0 Z = true) : (Cond.declares y).before a0 Z = true := by
  obtain ⟨mk, methM, hnamed, hmethM, hstM, habM⟩ := Cond.instanceMethod_spec wi
  obtain ⟨m2, cM, q1, -, -, -, -, -, -, hsig⟩ := Cond.code_spec hnamed wc
  cases hmethM.symm.trans q1
  simp [Cond.before, Cond.holds, Cond.value, hnamed, hmethM, hstM, hsig]
theorem o_same {y y2 : MethodName} {C : String} (wi : (Cond.instanceMethod y).before a0 Z = true) (ws : (Cond.selects C y2 y2).before a0 Z = true) (hc : y2.cls = y.cls) (hmh : y.cls ≠ "java/lang/invoke/MethodHandle" ∧ y.cls ≠ "java/lang/invoke/VarHandle") : (Cond.sameMethod y.cls y.cls y.name y.desc).before a0 Z = true := by
  obtain ⟨mk, methM, hnamed, hmethM, hstM, habM⟩ := Cond.instanceMethod_spec wi
  have hcn := findClass_of_methodNamed hnamed
  obtain ⟨c1, r1, m1, -, -, q3, -, k1, hk1, hi1⟩ := Cond.selects_spec ws
  have hc1 := findClass_of_methodNamed q3
  rw [hc, hcn] at hc1
  have hcls : mk.cls = m1.cls := Option.some.inj hc1
  have hf := State.methodFound?_of_named hnamed hmh
  have hk : Z.vm.classes[mk.cls]? = some k1 := by rw [hcls]; exact hk1
  have hn' : Z.methodNamed? ⟨y.cls, y.name, y.desc⟩ = some mk := hnamed
  simp [Cond.before, Cond.holds, Cond.value, hcn, hf, hn', hk, hi1]
/-- super.y() -/
theorem o_sup {bytes : ByteArray} {maxL ml kc ks : Nat} {ret : Option FieldType} {y : MethodName} {C : String} {argsL St : List Value} {Q : Option Value → Heap → List Loc → Prop} (X : Stand p l e R s m args below meth c T locs cells slots) (hx : p.tables.exec = Jvm.exec) (hZ : Z.Warmed39 s.vm) (hown : s.vm.findClass own = some m.cls) (w1 : (Cond.methodLink own index y).before a0 Z = true) (w2 : (Cond.sameMethod y.cls y.cls y.name y.desc).before a0 Z = true) (w3 : (Cond.instanceMethod y).before a0 Z = true) (w4 : (Cond.superclass own y.cls).before a0 Z = true) (wc : (Cond.code y bytes maxL ret).before a0 Z = true)
    (hK : Back l R p e below s args y 3 W (fun P a => a = (Value.ref b :: argsL).toArray ∧ P.U.heap = h ∧ P.cells + kc ≤ R.cells ∧ P.slots + ks ≤ R.slots) (fun P _ v B => ∃ L, Q v B.U.heap L ∧ B.locs = P.locs ++ L ∧ B.cells = P.cells + kc ∧ B.slots = P.slots + ks)) (eT : T.heap = h) (E : Exa Z h b C) (hml : c.maxLocals = ml) (hlen : ∀ sig, parseMethodDescriptor y.desc = some sig → argsL.length = sig.parameters.length) (hd : decode c.code q = .ok (.invokespecial index, 3))
    (kk : ∀ T' L v, Stand p l e R s m args below meth c T' (locs ++ L) (cells + kc) (slots + ks) → Q v T'.heap L → o_G p e below K T' (mkF m (q + 3) A (v.toList ++ S)))
    (hn : y.name ≠ "<init>" := by decide) (hsz : A.size = ml := by rfl) (hst : St = argsL.reverse ++ .ref b :: S := by rfl) (hW : (S.map fun v => v.category).sum ≤ W := by exact Nat.le_of_eq rfl) (hc : cells + kc ≤ R.cells := by decide) (hs : slots + ks ≤ R.slots := by decide) : o_G p e below K T (mkF m q A St) := by
  subst hst
  obtain ⟨v, _, ⟨T', L', k', n'⟩, -, X', ⟨L, hQ, l1, l2, l3⟩, st⟩ := superBack X hx hZ hown w1 w2 w3 w4 hn hK eT (Ins.self E) (g := mkF m q A (argsL.reverse ++ .ref b :: S)) rfl (hsz.trans hml.symm) wc (argsL := argsL) (rest := S) hlen rfl (by show 2 * 0 + _ ≤ _; omega) hd (fun _ _ => ⟨rfl, eT, hc, hs⟩)
  dsimp only [Pt.U, Pt.locs, Pt.cells, Pt.slots] at X' l1 l2 l3 st hQ
  subst l1 l2 l3
  exact o_tr st (kk _ _ _ X' hQ)
/-- clone() of a byte array -/
theorem o_cloneB {k : ClassId} {z : Int32} {vs : List Value} {dv : Value} {cap ml : Nat} (X : Stand p l e R s m args below meth c T locs cells slots) (hx : p.tables.exec = Jvm.exec) (hZ : Z.Warmed39 s.vm) (hown : s.vm.findClass own = some m.cls)
    (w1 : (Cond.methodLink own index ⟨"[B", "clone", "()Ljava/lang/Object;"⟩).before a0 Z = true) (w2 : (Cond.sameMethod "[B" "java/lang/Object" "clone" "()Ljava/lang/Object;").before a0 Z = true) (w3 : (Cond.native ⟨"java/lang/Object", "clone", "()Ljava/lang/Object;"⟩).before a0 Z = true)
    (w4 : (Cond.instanceMethod ⟨"java/lang/Object", "clone", "()Ljava/lang/Object;"⟩).before a0 Z = true) (w5 : (Cond.selects "[B" ⟨"[B", "clone", "()Ljava/lang/Object;"⟩ ⟨"java/lang/Object", "clone", "()Ljava/lang/Object;"⟩).before a0 Z = true) (w6 : (Cond.castable "[B" "java/lang/Cloneable").before a0 Z = true)
    (eT : T.heap = h) (F : Arv Z h a k .byte z vs dv) (E : Exa Z h a "[B") (hml : c.maxLocals = ml) (hd : decode c.code q = .ok (.invokevirtual index, 3)) (hcap : z.toNatClampNeg ≤ cap)
    (kk : ∀ T' h' a', Stand p l e R s m args below meth c T' locs (cells + 1) (slots + cap) → T'.heap = h' → a' = h.size → Ext h h' → Arv Z h' a' k .byte z vs dv → Exa Z h' a' "[B" → o_G p e below K T' (mkF m (q + 3) A (.ref a' :: S)))
    (hf : 1 ≤ R.frames := by decide) (hsz : A.size = ml := by rfl) (hW : (S.map fun v => v.category).sum ≤ W := by exact Nat.le_of_eq rfl) (hl : W + 14 ≤ R.locals := by decide) (hc : cells + 1 ≤ R.cells := by decide) (hs : slots + cap ≤ R.slots := by decide) : o_G p e below K T (mkF m q A (.ref a :: S)) := by
  obtain ⟨T', h', X', e', E', F', A', st⟩ := cloneH X hx hZ hown w1 w2 w3 w4 w5 w6 eT F.arh E (g := mkF m q A (.ref a :: S)) rfl (hsz.trans hml.symm) (rest := S) rfl hd hf (W := W) (by show 2 * 0 + _ ≤ _; omega) hl hcap hc hs
  exact o_st st (kk T' h' _ X' e' rfl E' F' A')
/-- new byte[x], with its class -/
theorem o_newE {cap : Nat} {x : Int32} (X : Stand p l e R s m args below meth c T locs cells slots) (hx : p.tables.exec = Jvm.exec) (hZ : Z.Warmed39 s.vm) (w : (Cond.arrayClass .byte).before a0 Z = true) (eT : T.heap = h) (hd : decode c.code q = .ok (.newarray .byte, 2)) (hn : ¬ x < 0) (hcap : x.toNatClampNeg ≤ cap)
    (k : ∀ T' h' ka b, Stand p l e R s m args below meth c T' locs (cells + 1) (slots + cap) → T'.heap = h' → b = h.size → Ext h h' → Arv Z h' b ka .byte x [] (.int 0) → Exa Z h' b "[B" → o_G p e below K T' (mkF m (q + 2) A (.ref b :: S))) (hb : cap * 8 ≤ 536870912 := by decide) (hc : cells + 1 ≤ R.cells := by decide) (hl : slots + cap ≤ R.slots := by decide) : o_G p e below K T (mkF m q A (.int x :: S)) := by
  obtain ⟨T', h', ka, X', e', E, A', Ex, st⟩ := newPE X hx hZ (aty := .byte) w eT (g := mkF m q A (.int x :: S)) rfl hd rfl hn hcap hb hc hl (ad := "[B") (by decide)
  exact o_st st (k T' h' ka _ X' e' rfl E (Arv.new A' hn) Ex)
end OwnCp
end Jvm.RoadKit

/- laws to paste: Road.backV, Road.codOf, Road.chN (cut by pick.py; bodies as the Statement names them) -/
namespace Jvm.Pilot.@@N@@
namespace StrChars
open Jvm Sem ClassFile Op Lib Jvm.Stand Jvm.Free.XT Jvm.Free.ALB Jvm.Free.JM Jvm.Free
open Jvm.Lib.Cold (StaticIs)
/-- a char array whose places are chars -/
def Ch (a : Addr) (A : Cell) (U : State) : Prop := Arr .char a A U ∧ Typed .char A
theorem Ch.mv {a : Addr} {A : Cell} {U U' : State} (h : Ch a A U) (hal : U.vm.Alike U'.vm) (hh : U'.heap = U.heap) : Ch a A U' := ⟨h.1.mv hal hh, h.2⟩
theorem Ch.keep {a : Addr} {A : Cell} {U U' : State} (h : Ch a A U) (hal : U.vm.Alike U'.vm) (hk : U'.heap[a]? = some A) : Ch a A U' := ⟨h.1.keep hal hk, h.2⟩
/-- what place i of a char[]'s cell holds -/
def cv (A : Cell) (i : Nat) : Int32 := match A.slots[i]? with | some (.int x) => x | _ => 0
theorem Ch.get {a : Addr} {A : Cell} {U : State} (h : Ch a A U) {i : Nat} (hi : i < A.slots.size) : A.slots[i]? = some (.int (cv A i)) := by
  have e := Array.getElem?_eq_getElem hi
  have f := h.2 i _ e
  unfold cv; rw [e]
  generalize A.slots[i] = v at f
  cases v <;> simp [fits] at f ⊢
/-- the byte that i2b leaves of a char -/
def lo8 (x : Int32) : Int32 := x.toInt8.toInt32
theorem fits_lo8 (y : Int32) : fits .byte (.int (lo8 y)) = true := by
  have h1 := y.toInt8.le_toInt
  have h2 := y.toInt8.toInt_lt
  simp only [lo8, fits, Bool.and_eq_true, decide_eq_true_eq, Int32.le_iff_toInt_le, Int8.toInt_toInt32, show (-128 : Int32).toInt = -128 from by decide, show (127 : Int32).toInt = 127 from by decide]
  omega
/-- A' is A but that each place j of lo .. hi - 1 holds f j -/
def Laid (A A' : Cell) (lo hi : Nat) (f : Nat → Value) : Prop := A'.cls = A.cls ∧ A'.vm = A.vm ∧ A'.slots.size = A.slots.size ∧ ∀ i, A'.slots[i]? = if lo ≤ i ∧ i < hi then some (f i) else A.slots[i]?
theorem Laid.zero (A : Cell) (lo : Nat) (f : Nat → Value) : Laid A A lo (lo + 0) f := ⟨rfl, rfl, rfl, fun i => by rw [if_neg (by omega)]⟩
theorem Laid.step {A Ak : Cell} {lo k : Nat} {f : Nat → Value} {v : Value} (h : Laid A Ak lo k f) (hlo : lo ≤ k) (hk : k < Ak.slots.size) (hv : v = f k) : Laid A (Ak.setSlot k v) lo (k + 1) f := by
  refine ⟨h.1, h.2.1, by simpa [Cell.setSlot] using h.2.2.1, fun i => ?_⟩
  by_cases e : k = i
  · subst e; rw [Cell.slots_setSlot_self v hk, if_pos (by omega), hv]
  · rw [Cell.slots_setSlot_ne v e, h.2.2.2 i]
    by_cases q : lo ≤ i ∧ i < k
    · rw [if_pos q, if_pos (by omega)]
    · rw [if_neg q, if_neg (by omega)]
def U16 : String := "java/lang/StringUTF16"
namespace Cmp5
def yN : MethodName := ⟨"java/lang/StringUTF16", "compress", "([CI[BII)I"⟩
abbrev yB : ByteArray := jdk_52_method_21_code
theorem d0 : decode yB 0 = .ok (.iconst 0, 1) := by decide +kernel
theorem d1 : decode yB 1 = .ok (.istore 5, 2) := by decide +kernel
theorem d3 : decode yB 3 = .ok (.iload 5, 2) := by decide +kernel
theorem d5 : decode yB 5 = .ok (.iload 4, 2) := by decide +kernel
theorem d7 : decode yB 7 = .ok (.if_icmp (.ge) 37, 3) := by decide +kernel
theorem d10 : decode yB 10 = .ok (.aload_n 0, 1) := by decide +kernel
theorem d11 : decode yB 11 = .ok (.iload_n 1, 1) := by decide +kernel
theorem d12 : decode yB 12 = .ok (.caload, 1) := by decide +kernel
theorem d13 : decode yB 13 = .ok (.istore 6, 2) := by decide +kernel
theorem d15 : decode yB 15 = .ok (.iload 6, 2) := by decide +kernel
theorem d17 : decode yB 17 = .ok (.sipush 255, 3) := by decide +kernel
theorem d20 : decode yB 20 = .ok (.if_icmp (.le) 6, 3) := by decide +kernel
theorem d26 : decode yB 26 = .ok (.aload_n 2, 1) := by decide +kernel
theorem d27 : decode yB 27 = .ok (.iload_n 3, 1) := by decide +kernel
theorem d28 : decode yB 28 = .ok (.iload 6, 2) := by decide +kernel
theorem d30 : decode yB 30 = .ok (.i2b, 1) := by decide +kernel
theorem d31 : decode yB 31 = .ok (.bastore, 1) := by decide +kernel
theorem d32 : decode yB 32 = .ok (.iinc 1 1, 3) := by decide +kernel
theorem d35 : decode yB 35 = .ok (.iinc 3 1, 3) := by decide +kernel
theorem d38 : decode yB 38 = .ok (.iinc 5 1, 3) := by decide +kernel
theorem d41 : decode yB 41 = .ok (.goto (-38), 3) := by decide +kernel
theorem d44 : decode yB 44 = .ok (.iload 4, 2) := by decide +kernel
theorem d46 : decode yB 46 = .ok (.ireturn, 1) := by decide +kernel
def site : List Cond := []
def tab : Cond := tabOf yN yB 7 (some .int) site
def P (b : Addr) (A : Cell) (d : Addr) (B : Cell) (o q len : Nat) (args : Array Value) (s : State) : Prop := args = #[.ref b, .int (Int32.ofNat o), .ref d, .int (Int32.ofNat q), .int (Int32.ofNat len)] ∧ Ch b A s ∧ Arr .byte d B s ∧ b ≠ d ∧ o + len ≤ A.slots.size ∧ q + len ≤ B.slots.size ∧ ∀ i, i < len → ¬ 255 < cv A (o + i)
def E (b : Addr) (A : Cell) (d : Addr) (B : Cell) (o q len : Nat) (r : Option Value) (s u : State) : Prop := r = some (.int (Int32.ofNat len)) ∧ ∃ B', Put d B' s u ∧ Laid B B' q (q + len) (fun j => Value.int (lo8 (cv A (o + (j - q)))))
/-- no char of the range above 255: len; the places written hold each char's low byte -/
theorem law (l : Launch) (b : Addr) (A : Cell) (d : Addr) (B : Cell) (o q len : Nat) : Law l yN 5 5 0 0 yB 7 (some .int) site (P b A d B o q len) (E b A d B o q len) (copyLocs d q len) 0 0 := by
  refine Law.of_walk (plainFor_of_name (by decide +kernel)) (by decide +kernel) (by decide +kernel) (by decide) (fun _ _ h => by rw [h.1]; rfl) (fun _ U U' hal hh h => ⟨h.1, h.2.1.mv hal hh, h.2.2.1.mv hal hh, h.2.2.2⟩) (fun r U U' V V' h1 hal h2 h => ⟨h.1, h.2.elim fun B' q => ⟨B', q.1.mv h1 h2, q.2⟩⟩) ?_
  intro p e s m args below meth c s₁ X0 hexec hbytes hml hret hlk hnm hown hh0 W hP
  obtain ⟨rfl, hA, hB, hne, l1, l2, hp⟩ := hP
  have c1 : Steps p.tables e below (s₁.setTop (entryFrame m #[.ref b, .int (Int32.ofNat o), .ref d, .int (Int32.ofNat q), .int (Int32.ofNat len)] 7)) (s₁.setTop (mkF m 0 #[.val (.ref b), .val (.int (Int32.ofNat o)), .val (.ref d), .val (.int (Int32.ofNat q)), .val (.int (Int32.ofNat len)), .unset, .unset] [])) := entry rfl
  have hA0 := hA.1.mv X0.warmed.alike hh0
  have hB0 := hB.mv X0.warmed.alike hh0
  have a31 := hA.1.2.2.2
  have c2 : Steps p.tables e below (s₁.setTop (entryFrame m #[.ref b, .int (Int32.ofNat o), .ref d, .int (Int32.ofNat q), .int (Int32.ofNat len)] 7)) (s₁.setTop (mkF m 3 #[.val (.ref b), .val (.int (Int32.ofNat o)), .val (.ref d), .val (.int (Int32.ofNat q)), .val (.int (Int32.ofNat len)), .val (.int 0), .unset] [])) := c1.trans (by
    refine iconstV X0.here hexec rfl 0 (hb hbytes d0) (by decide) ?_
    refine XS.istore X0.here hexec rfl (hb hbytes d1) rfl rfl ?_
    exact Steps.refl _)
  have loop : ∀ (r i : Nat), i + r = len → ∀ (z : Slot), (z = .unset ∨ ∃ w, z = .val w ∧ w.category = 1) → ∀ (Tl : State) (Bk : Cell), Stand p l e { frames := 0, locals := 0, cells := 0, slots := 0 } s m #[.ref b, .int (Int32.ofNat o), .ref d, .int (Int32.ofNat q), .int (Int32.ofNat len)] below meth c Tl ([] ++ copyLocs d q i) 0 0 → Put d Bk s₁ Tl → Laid B Bk q (q + i) (fun j => Value.int (lo8 (cv A (o + (j - q))))) →
      Steps p.tables e below (s₁.setTop (entryFrame m #[.ref b, .int (Int32.ofNat o), .ref d, .int (Int32.ofNat q), .int (Int32.ofNat len)] 7)) (Tl.setTop (mkF m 3 #[.val (.ref b), .val (.int (Int32.ofNat (o + i))), .val (.ref d), .val (.int (Int32.ofNat (q + i))), .val (.int (Int32.ofNat len)), .val (.int (Int32.ofNat i)), z] [])) → ∃ (T' : State) (B' : Cell) (z' : Slot), Stand p l e { frames := 0, locals := 0, cells := 0, slots := 0 } s m #[.ref b, .int (Int32.ofNat o), .ref d, .int (Int32.ofNat q), .int (Int32.ofNat len)] below meth c T' ([] ++ copyLocs d q len) 0 0 ∧ Put d B' s₁ T' ∧ Laid B B' q (q + len) (fun j => Value.int (lo8 (cv A (o + (j - q))))) ∧
      Steps p.tables e below (s₁.setTop (entryFrame m #[.ref b, .int (Int32.ofNat o), .ref d, .int (Int32.ofNat q), .int (Int32.ofNat len)] 7)) (T'.setTop (mkF m 3 #[.val (.ref b), .val (.int (Int32.ofNat (o + len))), .val (.ref d), .val (.int (Int32.ofNat (q + len))), .val (.int (Int32.ofNat len)), .val (.int (Int32.ofNat len)), z'] [])) := by
    intro r
    induction r with
    | zero =>
      intro i hi z hz Tl Bk Xl pl fl cl
      have hil : i = len := by omega
      rw [hil] at Xl fl cl
      exact ⟨Tl, Bk, z, Xl, pl, fl, cl⟩
    | succ r ih =>
      intro i hi z hz Tl Bk Xl pl fl cl
      have all := X0.warmed.alike.symm.trans Xl.warmed.alike
      have hAl := hA0.keep all (pl.other hne hA0.1)
      have hBk := hB0.like all pl.1 fl.1 fl.2.1 fl.2.2.1
      have hlt : q + i < Bk.slots.size := by rw [fl.2.2.1]; omega
      have c3 : Steps p.tables e below (s₁.setTop (entryFrame m #[.ref b, .int (Int32.ofNat o), .ref d, .int (Int32.ofNat q), .int (Int32.ofNat len)] 7)) (Tl.setTop (mkF m 12 #[.val (.ref b), .val (.int (Int32.ofNat (o + i))), .val (.ref d), .val (.int (Int32.ofNat (q + i))), .val (.int (Int32.ofNat len)), .val (.int (Int32.ofNat i)), z] [.int (Int32.ofNat (o + i)), .ref b])) := cl.trans (by
        refine XS.iload Xl.here hexec rfl (hb hbytes d3) rfl ?_
        refine XS.iload Xl.here hexec rfl (hb hbytes d5) rfl ?_
        refine XS.icmpNo Xl.here hexec rfl (hb hbytes d7) rfl (ii_ge_f (lt32 (by omega) (by omega))) ?_
        refine XS.aloadN Xl.here hexec rfl (hb hbytes d10) rfl rfl ?_
        refine XS.iloadN Xl.here hexec rfl (hb hbytes d11) rfl ?_
        exact Steps.refl _)
      have c4 : Steps p.tables e below (s₁.setTop (entryFrame m #[.ref b, .int (Int32.ofNat o), .ref d, .int (Int32.ofNat q), .int (Int32.ofNat len)] 7)) (Tl.setTop (mkF m 13 #[.val (.ref b), .val (.int (Int32.ofNat (o + i))), .val (.ref d), .val (.int (Int32.ofNat (q + i))), .val (.int (Int32.ofNat len)), .val (.int (Int32.ofNat i)), z] [.int (cv A (o + i))])) := c3.trans (by
        refine Xl.aget hexec hAl rfl (hA.get (i := o + i) (by omega)) rfl rfl (hb hbytes d12) ?_
        exact Steps.refl _)
      have c5 : Steps p.tables e below (s₁.setTop (entryFrame m #[.ref b, .int (Int32.ofNat o), .ref d, .int (Int32.ofNat q), .int (Int32.ofNat len)] 7)) (Tl.setTop (mkF m 15 #[.val (.ref b), .val (.int (Int32.ofNat (o + i))), .val (.ref d), .val (.int (Int32.ofNat (q + i))), .val (.int (Int32.ofNat len)), .val (.int (Int32.ofNat i)), .val (.int (cv A (o + i)))] [])) := c4.trans (by
        refine XS.istoreS Xl.here hexec rfl (hb hbytes d13) rfl rfl hz ?_
        exact Steps.refl _)
      have c6 : Steps p.tables e below (s₁.setTop (entryFrame m #[.ref b, .int (Int32.ofNat o), .ref d, .int (Int32.ofNat q), .int (Int32.ofNat len)] 7)) (Tl.setTop (mkF m 31 #[.val (.ref b), .val (.int (Int32.ofNat (o + i))), .val (.ref d), .val (.int (Int32.ofNat (q + i))), .val (.int (Int32.ofNat len)), .val (.int (Int32.ofNat i)), .val (.int (cv A (o + i)))] [.int (lo8 (cv A (o + i))), .int (Int32.ofNat (q + i)), .ref d])) := c5.trans (by
        refine XS.iload Xl.here hexec rfl (hb hbytes d15) rfl ?_
        refine sipushV Xl.here hexec rfl 255 (hb hbytes d17) (by decide) ?_
        refine XS.icmpYes Xl.here hexec rfl (pc0 := 20) rfl (hb hbytes d20) rfl (ii_le_t (hp i (by omega))) (by decide) rfl ?_
        refine XS.aloadN Xl.here hexec rfl (hb hbytes d26) rfl rfl ?_
        refine XS.iloadN Xl.here hexec rfl (hb hbytes d27) rfl ?_
        refine XS.iload Xl.here hexec rfl (hb hbytes d28) rfl ?_
        refine i2b Xl.here hexec rfl (hb hbytes d30) rfl ?_
        exact Steps.refl _)
      obtain ⟨T7, X7, p7, st7⟩ := Xl.aput hexec hBk rfl hlt rfl (fits_lo8 (cv A (o + i))) (g := (mkF m 31 #[.val (.ref b), .val (.int (Int32.ofNat (o + i))), .val (.ref d), .val (.int (Int32.ofNat (q + i))), .val (.int (Int32.ofNat len)), .val (.int (Int32.ofNat i)), .val (.int (cv A (o + i)))] [.int (lo8 (cv A (o + i))), .int (Int32.ofNat (q + i)), .ref d])) rfl (rest := []) rfl (hb hbytes d31)
      have c8 : Steps p.tables e below (s₁.setTop (entryFrame m #[.ref b, .int (Int32.ofNat o), .ref d, .int (Int32.ofNat q), .int (Int32.ofNat len)] 7)) (T7.setTop (mkF m 32 #[.val (.ref b), .val (.int (Int32.ofNat (o + i))), .val (.ref d), .val (.int (Int32.ofNat (q + i))), .val (.int (Int32.ofNat len)), .val (.int (Int32.ofNat i)), .val (.int (cv A (o + i)))] [])) := c6.trans (st7 _ (Steps.refl _))
      have c9 : Steps p.tables e below (s₁.setTop (entryFrame m #[.ref b, .int (Int32.ofNat o), .ref d, .int (Int32.ofNat q), .int (Int32.ofNat len)] 7)) (T7.setTop (mkF m 3 #[.val (.ref b), .val (.int (Int32.ofNat (o + i) + 1)), .val (.ref d), .val (.int (Int32.ofNat (q + i) + 1)), .val (.int (Int32.ofNat len)), .val (.int (Int32.ofNat i + 1)), .val (.int (cv A (o + i)))] [])) := c8.trans (by
        refine iincV X7.here hexec rfl 1 (hb hbytes d32) (by decide) rfl rfl ?_
        refine iincV X7.here hexec rfl 1 (hb hbytes d35) (by decide) rfl rfl ?_
        refine iincV X7.here hexec rfl 1 (hb hbytes d38) (by decide) rfl rfl ?_
        refine XS.goto X7.here hexec rfl (pc0 := 41) rfl (hb hbytes d41) (by decide) rfl ?_
        exact Steps.refl _)
      have c10 : Steps p.tables e below (s₁.setTop (entryFrame m #[.ref b, .int (Int32.ofNat o), .ref d, .int (Int32.ofNat q), .int (Int32.ofNat len)] 7)) (T7.setTop (mkF m 3 #[.val (.ref b), .val (.int (Int32.ofNat (o + (i + 1)))), .val (.ref d), .val (.int (Int32.ofNat (q + (i + 1)))), .val (.int (Int32.ofNat len)), .val (.int (Int32.ofNat (i + 1))), .val (.int (cv A (o + i)))] [])) := by
        have := c9
        rw [succ32, succ32, succ32] at this
        exact this
      exact ih (i + 1) (by omega) _ (Or.inr ⟨_, rfl, rfl⟩) T7 _ (by rw [copyLocs_step, ← List.append_assoc]; exact X7) (pl.trans p7) (fl.step (by omega) hlt (by simp)) c10
  obtain ⟨T9, B9, z9, X9, p9, f9, g9⟩ := loop len 0 (by omega) .unset (Or.inl rfl) s₁ B (by simpa [copyLocs] using X0) ⟨hB0.1, fun _ _ => rfl, rfl⟩ (Laid.zero _ _ _) c2
  have c11 : Steps p.tables e below (s₁.setTop (entryFrame m #[.ref b, .int (Int32.ofNat o), .ref d, .int (Int32.ofNat q), .int (Int32.ofNat len)] 7)) (T9.setTop (mkF m 46 #[.val (.ref b), .val (.int (Int32.ofNat (o + len))), .val (.ref d), .val (.int (Int32.ofNat (q + len))), .val (.int (Int32.ofNat len)), .val (.int (Int32.ofNat len)), z9] [.int (Int32.ofNat len)])) := g9.trans (by
    refine XS.iload X9.here hexec rfl (hb hbytes d3) rfl ?_
    refine XS.iload X9.here hexec rfl (hb hbytes d5) rfl ?_
    refine XS.icmpYes X9.here hexec rfl (pc0 := 7) rfl (hb hbytes d7) rfl (ii_ge_t (nlt32 (by omega) (Nat.le_refl _))) (by decide) rfl ?_
    refine XS.iload X9.here hexec rfl (hb hbytes d44) rfl ?_
    exact Steps.refl _)
  exact ⟨T9, some (.int (Int32.ofNat len)), _, _, _, X9, by simp, rfl, rfl, (fun h => by cases h), ⟨rfl, B9, p9.from hh0, f9⟩, fun fs hl => c11.trans (X9.ireturnOut hexec hret rfl (Or.inl rfl) (hb hbytes d46) hl)⟩
end Cmp5
namespace Cmp3
def yN : MethodName := ⟨"java/lang/StringUTF16", "compress", "([CII)[B"⟩
abbrev yB : ByteArray := jdk_52_method_16_code
theorem d0 : decode yB 0 = .ok (.iload_n 2, 1) := by decide +kernel
theorem d1 : decode yB 1 = .ok (.newarray .byte, 2) := by decide +kernel
theorem d3 : decode yB 3 = .ok (.astore_n 3, 1) := by decide +kernel
theorem d4 : decode yB 4 = .ok (.aload_n 0, 1) := by decide +kernel
theorem d5 : decode yB 5 = .ok (.iload_n 1, 1) := by decide +kernel
theorem d6 : decode yB 6 = .ok (.aload_n 3, 1) := by decide +kernel
theorem d7 : decode yB 7 = .ok (.iconst 0, 1) := by decide +kernel
theorem d8 : decode yB 8 = .ok (.iload_n 2, 1) := by decide +kernel
theorem d9 : decode yB 9 = .ok (.invokestatic 115, 3) := by decide +kernel
theorem d12 : decode yB 12 = .ok (.istore 4, 2) := by decide +kernel
theorem d14 : decode yB 14 = .ok (.iload 4, 2) := by decide +kernel
theorem d16 : decode yB 16 = .ok (.iload_n 2, 1) := by decide +kernel
theorem d17 : decode yB 17 = .ok (.if_icmp (.eq) 40, 3) := by decide +kernel
theorem d57 : decode yB 57 = .ok (.aload_n 3, 1) := by decide +kernel
theorem d58 : decode yB 58 = .ok (.areturn, 1) := by decide +kernel
def site : List Cond := [.arrayClass .byte, Cmp5.tab] ++ staticW U16 115 Cmp5.yN
def tab : Cond := tabOf yN yB 6 (some (.array .byte)) site
def P (b : Addr) (A : Cell) (o len : Nat) (args : Array Value) (s : State) : Prop := args = #[.ref b, .int (Int32.ofNat o), .int (Int32.ofNat len)] ∧ Ch b A s ∧ o + len ≤ A.slots.size ∧ len ≤ 536870912 ∧ ∀ i, i < len → ¬ 255 < cv A (o + i)
def E (b : Addr) (A : Cell) (o len : Nat) (r : Option Value) (s u : State) : Prop := NewArr .byte "[B" len (fun j => .int (lo8 (cv A (o + j)))) r s u ∧ u.heap.size = s.heap.size + 1
/-- no char of the range above 255: a new byte[] of their low bytes -/
theorem law (l : Launch) (b : Addr) (A : Cell) (o len : Nat) : Law l yN 3 3 1 18 yB 6 (some (.array .byte)) site (P b A o len) (E b A o len) [] 1 len := by
  refine Law.of_walk (plainFor_of_name (by decide +kernel)) (by decide +kernel) (by decide +kernel) (by decide) (fun _ _ h => by rw [h.1]; rfl) (fun _ U U' hal hh h => ⟨h.1, h.2.1.mv hal hh, h.2.2⟩) (fun r U U' V V' h1 hal h2 h => ⟨NewArr.mv r U U' V V' h1 hal h2 h.1, by rw [h1, h2]; exact h.2⟩) ?_
  intro p e s m args below meth c s₁ X0 hexec hbytes hml hret hlk hnm hown hh0 W hP
  obtain ⟨rfl, hA, l1, l2, hp⟩ := hP
  have a31 := hA.1.2.2.2
  have c1 : Steps p.tables e below (s₁.setTop (entryFrame m #[.ref b, .int (Int32.ofNat o), .int (Int32.ofNat len)] 6)) (s₁.setTop (mkF m 0 #[.val (.ref b), .val (.int (Int32.ofNat o)), .val (.int (Int32.ofNat len)), .unset, .unset, .unset] [])) := entry rfl
  have c2 : Steps p.tables e below (s₁.setTop (entryFrame m #[.ref b, .int (Int32.ofNat o), .int (Int32.ofNat len)] 6)) (s₁.setTop (mkF m 1 #[.val (.ref b), .val (.int (Int32.ofNat o)), .val (.int (Int32.ofNat len)), .unset, .unset, .unset] [.int (Int32.ofNat len)])) := c1.trans (by
    refine XS.iloadN X0.here hexec rfl (hb hbytes d0) rfl ?_
    exact Steps.refl _)
  obtain ⟨T3, B3, X3, ba3, bs3, bv3, bh3, bf3, st3⟩ := X0.anew hexec (atype := .byte) (wk W (.arrayClass .byte)) rfl (by show len * 1 ≤ _; omega) (by omega) (g := (mkF m 1 #[.val (.ref b), .val (.int (Int32.ofNat o)), .val (.int (Int32.ofNat len)), .unset, .unset, .unset] [.int (Int32.ofNat len)])) rfl (hb hbytes d1) (rest := []) rfl (Nat.le_refl _) (by show 0 + len ≤ len; omega)
  rw [hh0] at ba3 st3
  have kp3 : XT.Kept s T3 := (XT.Kept.of_eq hh0).push bh3
  have hA3 := hA.keep X3.warmed.alike (kp3 _ _ hA.1.1)
  have hne : b ≠ s.heap.size := hA.1.ne
  have c4 : Steps p.tables e below (s₁.setTop (entryFrame m #[.ref b, .int (Int32.ofNat o), .int (Int32.ofNat len)] 6)) (T3.setTop (mkF m 3 #[.val (.ref b), .val (.int (Int32.ofNat o)), .val (.int (Int32.ofNat len)), .unset, .unset, .unset] [.ref s.heap.size])) := c2.trans (st3 _ (Steps.refl _))
  have c5 : Steps p.tables e below (s₁.setTop (entryFrame m #[.ref b, .int (Int32.ofNat o), .int (Int32.ofNat len)] 6)) (T3.setTop (mkF m 9 #[.val (.ref b), .val (.int (Int32.ofNat o)), .val (.int (Int32.ofNat len)), .val (.ref s.heap.size), .unset, .unset] [.int (Int32.ofNat len), .int 0, .ref s.heap.size, .int (Int32.ofNat o), .ref b])) := c4.trans (by
    refine XS.astoreN X3.here hexec rfl (hb hbytes d3) rfl rfl rfl ?_
    refine XS.aloadN X3.here hexec rfl (hb hbytes d4) rfl rfl ?_
    refine XS.iloadN X3.here hexec rfl (hb hbytes d5) rfl ?_
    refine XS.aloadN X3.here hexec rfl (hb hbytes d6) rfl rfl ?_
    refine iconstV X3.here hexec rfl 0 (hb hbytes d7) (by decide) ?_
    refine XS.iloadN X3.here hexec rfl (hb hbytes d8) rfl ?_
    exact Steps.refl _)
  obtain ⟨v6, T6, X6, E6, g6⟩ := X3.callS hexec (Cmp5.law l b A s.heap.size B3 o 0 len) hown (wks W (staticW U16 115 Cmp5.yN)) (wk W Cmp5.tab) (W := 0) (Nat.le_of_ble_eq_true rfl) (Nat.le_of_ble_eq_true rfl) (Nat.le_refl _) (by show 0 + len + 0 ≤ len; omega) (g := (mkF m 9 #[.val (.ref b), .val (.int (Int32.ofNat o)), .val (.int (Int32.ofNat len)), .val (.ref s.heap.size), .unset, .unset] [.int (Int32.ofNat len), .int (Int32.ofNat 0), .ref s.heap.size, .int (Int32.ofNat o), .ref b])) rfl (by rw [hml]; rfl) c5 (argsL := [.ref b, .int (Int32.ofNat o), .ref s.heap.size, .int (Int32.ofNat 0), .int (Int32.ofNat len)]) (rest := []) rfl rfl (by show 2 * 0 + 0 ≤ _; decide) (hb hbytes d9) (⟨rfl, hA3, ba3, hne, l1, by rw [bs3]; simp, hp⟩)
  obtain ⟨rfl, B6, p6, f6⟩ := E6
  have c7 : Steps p.tables e below (s₁.setTop (entryFrame m #[.ref b, .int (Int32.ofNat o), .int (Int32.ofNat len)] 6)) (T6.setTop (mkF m 12 #[.val (.ref b), .val (.int (Int32.ofNat o)), .val (.int (Int32.ofNat len)), .val (.ref s.heap.size), .unset, .unset] [.int (Int32.ofNat len)])) := g6
  have c8 : Steps p.tables e below (s₁.setTop (entryFrame m #[.ref b, .int (Int32.ofNat o), .int (Int32.ofNat len)] 6)) (T6.setTop (mkF m 58 #[.val (.ref b), .val (.int (Int32.ofNat o)), .val (.int (Int32.ofNat len)), .val (.ref s.heap.size), .val (.int (Int32.ofNat len)), .unset] [.ref s.heap.size])) := c7.trans (by
    refine XS.istore X6.here hexec rfl (hb hbytes d12) rfl rfl ?_
    refine XS.iload X6.here hexec rfl (hb hbytes d14) rfl ?_
    refine XS.iloadN X6.here hexec rfl (hb hbytes d16) rfl ?_
    refine XS.icmpYes X6.here hexec rfl (pc0 := 17) rfl (hb hbytes d17) rfl (ii_eq_t rfl) (by decide) rfl ?_
    refine XS.aloadN X6.here hexec rfl (hb hbytes d57) rfl rfl ?_
    exact Steps.refl _)
  have X8 := X6.wide (L' := []) (cells' := 1) (slots' := len) (fun x hx hlt => by
    simp only [List.nil_append, copyLocs, List.mem_map, List.mem_range] at hx
    obtain ⟨i, -, rfl⟩ := hx
    exact absurd hlt (Nat.lt_irrefl _)) (Nat.le_refl _) (by omega)
  exact ⟨T6, some (.ref s.heap.size), _, _, _, X8, rfl, rfl, rfl, (fun h => by cases h), ⟨⟨rfl, B6, ba3.like (X3.warmed.alike.symm.trans X6.warmed.alike) p6.1 f6.1 f6.2.1 f6.2.2.1, f6.2.1.trans bv3, by rw [X6.warmed.alike.findClass, f6.1]; exact bf3, by rw [f6.2.2.1, bs3]; simp, fun j hj => by rw [f6.2.2.2 j, if_pos (by omega)]; rfl, kp3.put p6 (Nat.le_refl _)⟩, by rw [p6.2.2, bh3, hh0]; simp⟩, fun fs hl => c8.trans (X8.areturnOut hexec rfl hret rfl (hb hbytes d58) hl)⟩
end Cmp3
namespace CodL
def yN : MethodName := ⟨"java/lang/StringUTF16", "coderFromArrayLen", "([BI)B"⟩
abbrev yB : ByteArray := jdk_52_method_15_code
theorem d0 : decode yB 0 = .ok (.iload_n 1, 1) := by decide +kernel
theorem d1 : decode yB 1 = .ok (.aload_n 0, 1) := by decide +kernel
theorem d2 : decode yB 2 = .ok (.arraylength, 1) := by decide +kernel
theorem d3 : decode yB 3 = .ok (.isub, 1) := by decide +kernel
theorem d4 : decode yB 4 = .ok (.bipush 31, 2) := by decide +kernel
theorem d6 : decode yB 6 = .ok (.iushr, 1) := by decide +kernel
theorem d7 : decode yB 7 = .ok (.i2b, 1) := by decide +kernel
theorem d8 : decode yB 8 = .ok (.ireturn, 1) := by decide +kernel
def site : List Cond := []
def tab : Cond := tabOf yN yB 2 (some .byte) site
def P (d : Addr) (B : Cell) (args : Array Value) (s : State) : Prop := args = #[.ref d, .int (Int32.ofNat B.slots.size)] ∧ Arr .byte d B s
def E (r : Option Value) (s u : State) : Prop := XT.PureE (some (.int 0)) r s u
/-- an array as long as the number of chars: LATIN1 -/
theorem law (l : Launch) (d : Addr) (B : Cell) : Law l yN 2 2 0 0 yB 2 (some .byte) site (P d B) E [] 0 0 := by
  refine Law.of_walk (plainFor_of_name (by decide +kernel)) (by decide +kernel) (by decide +kernel) (by decide) (fun _ _ h => by rw [h.1]; rfl) (fun _ U U' hal hh h => ⟨h.1, h.2.mv hal hh⟩) (fun r U U' V V' h1 hal h2 h => XT.PureE.mv r U U' V V' h1 hal h2 h) ?_
  intro p e s m args below meth c s₁ X0 hexec hbytes hml hret hlk hnm hown hh0 W hP
  obtain ⟨rfl, hB⟩ := hP
  have hB0 := hB.mv X0.warmed.alike hh0
  have c1 : Steps p.tables e below (s₁.setTop (entryFrame m #[.ref d, .int (Int32.ofNat B.slots.size)] 2)) (s₁.setTop (mkF m 0 #[.val (.ref d), .val (.int (Int32.ofNat B.slots.size))] [])) := entry rfl
  have c2 : Steps p.tables e below (s₁.setTop (entryFrame m #[.ref d, .int (Int32.ofNat B.slots.size)] 2)) (s₁.setTop (mkF m 2 #[.val (.ref d), .val (.int (Int32.ofNat B.slots.size))] [.ref d, .int (Int32.ofNat B.slots.size)])) := c1.trans (by
    refine XS.iloadN X0.here hexec rfl (hb hbytes d0) rfl ?_
    refine XS.aloadN X0.here hexec rfl (hb hbytes d1) rfl rfl ?_
    exact Steps.refl _)
  have c3 : Steps p.tables e below (s₁.setTop (entryFrame m #[.ref d, .int (Int32.ofNat B.slots.size)] 2)) (s₁.setTop (mkF m 8 #[.val (.ref d), .val (.int (Int32.ofNat B.slots.size))] [.int (lo8 (ushr (Int32.ofNat B.slots.size - Int32.ofNat B.slots.size) 31))])) := c2.trans (by
    refine X0.alen hexec hB0 rfl rfl (hb hbytes d2) ?_
    refine XS.isub X0.here hexec rfl (hb hbytes d3) rfl ?_
    refine bipushV X0.here hexec rfl 31 (hb hbytes d4) (by decide) ?_
    refine iushr X0.here hexec rfl (hb hbytes d6) rfl ?_
    refine i2b X0.here hexec rfl (hb hbytes d7) rfl ?_
    exact Steps.refl _)
  have e0 : lo8 (ushr (Int32.ofNat B.slots.size - Int32.ofNat B.slots.size) 31) = 0 := by rw [Int32.sub_self]; decide
  rw [e0] at c3
  exact ⟨s₁, some (.int 0), _, _, _, X0, rfl, rfl, rfl, (fun h => by cases h), ⟨rfl, hh0⟩, fun fs hl => c3.trans (X0.ireturnOut hexec hret rfl (Or.inr (Or.inr (Or.inl rfl))) (hb hbytes d8) hl)⟩
end CodL
/-- the String at a is Latin-1 over a new byte[] (the heap's one new cell): the low bytes of the len chars of A from o on; every cell but a is kept -/
def Got (a : Addr) (D : Cell) (fV fC : Field) (A : Cell) (o len : Nat) (r : Option Value) (s u : State) : Prop := r = none ∧ ∃ D' V : Cell, Blank "java/lang/String" a D' u ∧ Same D D' [fV.slot, fC.slot] ∧ D'.slots[fV.slot]? = some (.ref s.heap.size) ∧ D'.slots[fC.slot]? = some (.int 0) ∧ Arr .byte s.heap.size V u ∧ V.vm = .none ∧ u.vm.findClass "[B" = some V.cls ∧ V.slots.size = len ∧ (∀ j, j < len → V.slots[j]? = some (.int (lo8 (cv A (o + j))))) ∧ (∀ (y : Addr) (c : Cell), y ≠ a → s.heap[y]? = some c → u.heap[y]? = some c) ∧ u.heap.size = s.heap.size + 1
theorem Got.mv {a : Addr} {D A : Cell} {fV fC : Field} {o len : Nat} : ∀ r (U U' V V' : State), U'.heap = U.heap → V.vm.Alike V'.vm → V'.heap = V.heap → Got a D fV fC A o len r U V → Got a D fV fC A o len r U' V' :=
  fun r U U' V V' h1 hal h2 ⟨e0, D', X, a1, a2, a3, a4, a5, a6, a7, a8, a9, a10, a11⟩ => ⟨e0, D', X, a1.mv hal h2, a2, by rw [h1]; exact a3, a4, by rw [h1]; exact a5.mv hal h2, a6, by rw [hal.findClass]; exact a7, a8, a9, by rw [h1, h2]; exact a10, by rw [h1, h2]; exact a11⟩
namespace New4
def yN : MethodName := ⟨"java/lang/String", "<init>", "([CIILjava/lang/Void;)V"⟩
abbrev yB : ByteArray := jdk_42_method_149_code
theorem d0 : decode yB 0 = .ok (.aload_n 0, 1) := by decide +kernel
theorem d1 : decode yB 1 = .ok (.invokespecial 1, 3) := by decide +kernel
theorem d4 : decode yB 4 = .ok (.iload_n 3, 1) := by decide +kernel
theorem d5 : decode yB 5 = .ok (.ifCond (.ne) 22, 3) := by decide +kernel
theorem d27 : decode yB 27 = .ok (.getstatic 38, 3) := by decide +kernel
theorem d30 : decode yB 30 = .ok (.ifCond (.eq) 28, 3) := by decide +kernel
theorem d33 : decode yB 33 = .ok (.aload_n 1, 1) := by decide +kernel
theorem d34 : decode yB 34 = .ok (.iload_n 2, 1) := by decide +kernel
theorem d35 : decode yB 35 = .ok (.iload_n 3, 1) := by decide +kernel
theorem d36 : decode yB 36 = .ok (.invokestatic 177, 3) := by decide +kernel
theorem d39 : decode yB 39 = .ok (.astore 5, 2) := by decide +kernel
theorem d41 : decode yB 41 = .ok (.aload_n 0, 1) := by decide +kernel
theorem d42 : decode yB 42 = .ok (.aload 5, 2) := by decide +kernel
theorem d44 : decode yB 44 = .ok (.iload_n 3, 1) := by decide +kernel
theorem d45 : decode yB 45 = .ok (.invokestatic 47, 3) := by decide +kernel
theorem d48 : decode yB 48 = .ok (.putfield 15, 3) := by decide +kernel
theorem d51 : decode yB 51 = .ok (.aload_n 0, 1) := by decide +kernel
theorem d52 : decode yB 52 = .ok (.aload 5, 2) := by decide +kernel
theorem d54 : decode yB 54 = .ok (.putfield 9, 3) := by decide +kernel
theorem d57 : decode yB 57 = .ok (.return_, 1) := by decide +kernel
def site : List Cond := [.fieldLink "java/lang/String" 38 "java/lang/String" "COMPACT_STRINGS" "Z", Cmp3.tab, CodL.tab, .laysFinal "java/lang/String" "java/lang/String" "value" "[B", .fieldLink "java/lang/String" 9 "java/lang/String" "value" "[B", .laysFinal "java/lang/String" "java/lang/String" "coder" "B", .fieldLink "java/lang/String" 15 "java/lang/String" "coder" "B"] ++ objW "java/lang/String" 1 ++ staticW "java/lang/String" 177 Cmp3.yN ++ staticW "java/lang/String" 47 CodL.yN
def tab : Cond := tabOf yN yB 6 none site
def P (a : Addr) (D : Cell) (fV fC : Field) (b : Addr) (A : Cell) (z : Int32) (o len : Nat) (args : Array Value) (s : State) : Prop := args = #[.ref a, .ref b, .int (Int32.ofNat o), .int (Int32.ofNat len), .null] ∧ Blank "java/lang/String" a D s ∧ Found "java/lang/String" "value" "[B" fV s ∧ Found "java/lang/String" "coder" "B" fC s ∧ Ch b A s ∧ StaticIs s "java/lang/String" "COMPACT_STRINGS" "Z" (.int z) ∧ ¬ z = 0 ∧ 0 < len ∧ o + len ≤ A.slots.size ∧ len ≤ 536870912 ∧ ∀ i, i < len → ¬ 255 < cv A (o + i)
def E (a : Addr) (D : Cell) (fV fC : Field) (A : Cell) (o len : Nat) (r : Option Value) (s u : State) : Prop := Got a D fV fC A o len r s u
/-- len > 0, no char of the range above 255: a Latin-1 String of their low bytes -/
theorem law (l : Launch) (a : Addr) (D : Cell) (fV fC : Field) (b : Addr) (A : Cell) (z : Int32) (o len : Nat) : Law l yN 5 4 2 35 yB 6 none site (P a D fV fC b A z o len) (E a D fV fC A o len) [⟨a, fC.slot⟩, ⟨a, fV.slot⟩] 1 len := by
  refine Law.of_walk (plainFor_of_name (by decide +kernel)) (by decide +kernel) (by decide +kernel) (by decide) (fun _ _ h => by rw [h.1]; rfl) (fun _ U U' hal hh h => ⟨h.1, h.2.1.mv hal hh, h.2.2.1.al hal, h.2.2.2.1.al hal, h.2.2.2.2.1.mv hal hh, h.2.2.2.2.2.1.there hal hh, h.2.2.2.2.2.2⟩) (fun r U U' V V' h1 hal h2 h => Got.mv r U U' V V' h1 hal h2 h) ?_
  intro p e s m args below meth c s₁ X0 hexec hbytes hml hret hlk hnm hown hh0 W hP
  obtain ⟨rfl, hB, f1, f2, hA, s1, hz, l0, l1, l2, hp⟩ := hP
  have a31 := hA.1.2.2.2
  have c1 : Steps p.tables e below (s₁.setTop (entryFrame m #[.ref a, .ref b, .int (Int32.ofNat o), .int (Int32.ofNat len), .null] 6)) (s₁.setTop (mkF m 0 #[.val (.ref a), .val (.ref b), .val (.int (Int32.ofNat o)), .val (.int (Int32.ofNat len)), .val .null, .unset] [])) := entry rfl
  have c2 : Steps p.tables e below (s₁.setTop (entryFrame m #[.ref a, .ref b, .int (Int32.ofNat o), .int (Int32.ofNat len), .null] 6)) (s₁.setTop (mkF m 1 #[.val (.ref a), .val (.ref b), .val (.int (Int32.ofNat o)), .val (.int (Int32.ofNat len)), .val .null, .unset] [.ref a])) := c1.trans (by
    refine XS.aloadN X0.here hexec rfl (hb hbytes d0) rfl rfl ?_
    exact Steps.refl _)
  obtain ⟨T3, X3, q3, st3⟩ := X0.oinit hexec hown (wks W (objW "java/lang/String" 1)) (g := (mkF m 1 #[.val (.ref a), .val (.ref b), .val (.int (Int32.ofNat o)), .val (.int (Int32.ofNat len)), .val .null, .unset] [.ref a])) rfl (by rw [hml]; rfl) (rest := []) rfl (hb hbytes d1) (W := 0) (by show 2 * 0 + 0 ≤ _; decide) (Nat.le_of_ble_eq_true rfl) (Nat.le_of_ble_eq_true rfl)
  have hh3 := q3.trans hh0
  have c4 : Steps p.tables e below (s₁.setTop (entryFrame m #[.ref a, .ref b, .int (Int32.ofNat o), .int (Int32.ofNat len), .null] 6)) (T3.setTop (mkF m 27 #[.val (.ref a), .val (.ref b), .val (.int (Int32.ofNat o)), .val (.int (Int32.ofNat len)), .val .null, .unset] [])) := (c2.trans (st3 _ (Steps.refl _))).trans (by
    refine XS.iloadN X3.here hexec rfl (hb hbytes d4) rfl ?_
    refine XS.ifYes X3.here hexec rfl (pc0 := 5) rfl (hb hbytes d5) rfl (i0_ne_t (nz32 (by omega) l0)) (by decide) rfl ?_
    exact Steps.refl _)
  obtain ⟨T5, X5, q5, st5⟩ := X3.sget hexec hown (wk W (.fieldLink "java/lang/String" 38 "java/lang/String" "COMPACT_STRINGS" "Z")) s1 (fun _ _ h => by rw [hh3]; exact h) (g := (mkF m 27 #[.val (.ref a), .val (.ref b), .val (.int (Int32.ofNat o)), .val (.int (Int32.ofNat len)), .val .null, .unset] [])) rfl (hb hbytes d27)
  have hh5 := q5.trans hh3
  have c6 : Steps p.tables e below (s₁.setTop (entryFrame m #[.ref a, .ref b, .int (Int32.ofNat o), .int (Int32.ofNat len), .null] 6)) (T5.setTop (mkF m 30 #[.val (.ref a), .val (.ref b), .val (.int (Int32.ofNat o)), .val (.int (Int32.ofNat len)), .val .null, .unset] [.int z])) := c4.trans (st5 _ (Steps.refl _))
  have c7 : Steps p.tables e below (s₁.setTop (entryFrame m #[.ref a, .ref b, .int (Int32.ofNat o), .int (Int32.ofNat len), .null] 6)) (T5.setTop (mkF m 36 #[.val (.ref a), .val (.ref b), .val (.int (Int32.ofNat o)), .val (.int (Int32.ofNat len)), .val .null, .unset] [.int (Int32.ofNat len), .int (Int32.ofNat o), .ref b])) := c6.trans (by
    refine XS.ifNo X5.here hexec rfl (hb hbytes d30) rfl (i0_eq_f hz) ?_
    refine XS.aloadN X5.here hexec rfl (hb hbytes d33) rfl rfl ?_
    refine XS.iloadN X5.here hexec rfl (hb hbytes d34) rfl ?_
    refine XS.iloadN X5.here hexec rfl (hb hbytes d35) rfl ?_
    exact Steps.refl _)
  obtain ⟨v8, T8, X8, E8, g8⟩ := X5.callS hexec (Cmp3.law l b A o len) hown (wks W (staticW "java/lang/String" 177 Cmp3.yN)) (wk W Cmp3.tab) (W := 0) (Nat.le_of_ble_eq_true rfl) (Nat.le_of_ble_eq_true rfl) (Nat.le_refl _) (by show 0 + len ≤ len; omega) (g := (mkF m 36 #[.val (.ref a), .val (.ref b), .val (.int (Int32.ofNat o)), .val (.int (Int32.ofNat len)), .val .null, .unset] [.int (Int32.ofNat len), .int (Int32.ofNat o), .ref b])) rfl (by rw [hml]; rfl) c7 (argsL := [.ref b, .int (Int32.ofNat o), .int (Int32.ofNat len)]) (rest := []) rfl rfl (by show 2 * 0 + 0 ≤ _; decide) (hb hbytes d36) (⟨rfl, hA.mv X5.warmed.alike hh5, l1, l2, hp⟩)
  obtain ⟨e8, z8⟩ := E8
  obtain ⟨rfl, N, n1, n2, n3, n4, n5, n6⟩ := NewArr.mv _ T5 s _ _ hh5.symm (Vm.Alike.refl _) rfl e8
  rw [hh5] at z8
  have hB1 := hB.keep X8.warmed.alike (n6 _ _ hB.1)
  have hne : s.heap.size ≠ a := (Nat.ne_of_lt (Array.getElem?_eq_some_iff.mp hB.1).1).symm
  have c9 : Steps p.tables e below (s₁.setTop (entryFrame m #[.ref a, .ref b, .int (Int32.ofNat o), .int (Int32.ofNat len), .null] 6)) (T8.setTop (mkF m 39 #[.val (.ref a), .val (.ref b), .val (.int (Int32.ofNat o)), .val (.int (Int32.ofNat len)), .val .null, .unset] [.ref s.heap.size])) := g8
  have c10 : Steps p.tables e below (s₁.setTop (entryFrame m #[.ref a, .ref b, .int (Int32.ofNat o), .int (Int32.ofNat len), .null] 6)) (T8.setTop (mkF m 45 #[.val (.ref a), .val (.ref b), .val (.int (Int32.ofNat o)), .val (.int (Int32.ofNat len)), .val .null, .val (.ref s.heap.size)] [.int (Int32.ofNat N.slots.size), .ref s.heap.size, .ref a])) := by
    have hc : Steps p.tables e below (s₁.setTop (entryFrame m #[.ref a, .ref b, .int (Int32.ofNat o), .int (Int32.ofNat len), .null] 6)) (T8.setTop (mkF m 45 #[.val (.ref a), .val (.ref b), .val (.int (Int32.ofNat o)), .val (.int (Int32.ofNat len)), .val .null, .val (.ref s.heap.size)] [.int (Int32.ofNat len), .ref s.heap.size, .ref a])) := c9.trans (by
      refine XS.astore X8.here hexec rfl (hb hbytes d39) rfl rfl rfl ?_
      refine XS.aloadN X8.here hexec rfl (hb hbytes d41) rfl rfl ?_
      refine XS.aload X8.here hexec rfl (hb hbytes d42) rfl rfl ?_
      refine XS.iloadN X8.here hexec rfl (hb hbytes d44) rfl ?_
      exact Steps.refl _)
    rw [n4]; exact hc
  obtain ⟨v11, T11, X11, E11, g11⟩ := X8.callS hexec (CodL.law l s.heap.size N) hown (wks W (staticW "java/lang/String" 47 CodL.yN)) (wk W CodL.tab) (W := 1) (Nat.le_of_ble_eq_true rfl) (Nat.le_of_ble_eq_true rfl) (Nat.le_refl _) (by show 0 + len + 0 ≤ len; omega) (g := (mkF m 45 #[.val (.ref a), .val (.ref b), .val (.int (Int32.ofNat o)), .val (.int (Int32.ofNat len)), .val .null, .val (.ref s.heap.size)] [.int (Int32.ofNat N.slots.size), .ref s.heap.size, .ref a])) rfl (by rw [hml]; rfl) c10 (argsL := [.ref s.heap.size, .int (Int32.ofNat N.slots.size)]) (rest := [.ref a]) rfl rfl (by show 2 * 0 + (1 + 0) ≤ _; decide) (hb hbytes d45) (⟨rfl, n1⟩)
  obtain ⟨rfl, q11⟩ := E11
  have hB11 := hB1.mv (X8.warmed.alike.symm.trans X11.warmed.alike) q11
  have c12 : Steps p.tables e below (s₁.setTop (entryFrame m #[.ref a, .ref b, .int (Int32.ofNat o), .int (Int32.ofNat len), .null] 6)) (T11.setTop (mkF m 48 #[.val (.ref a), .val (.ref b), .val (.int (Int32.ofNat o)), .val (.int (Int32.ofNat len)), .val .null, .val (.ref s.heap.size)] [.int 0, .ref a])) := g11
  obtain ⟨T13, X13, p13, bl13, sl13, st13⟩ := X11.finit hexec hown (wk W (.fieldLink "java/lang/String" 15 "java/lang/String" "coder" "B")) (Or.inr ⟨_, (wk W (.laysFinal "java/lang/String" "java/lang/String" "coder" "B"))⟩) (Or.inl ⟨rfl, hnm⟩) f2 (Or.inl rfl) hB11 (t := .byte) (by decide +kernel) rfl (g := (mkF m 48 #[.val (.ref a), .val (.ref b), .val (.int (Int32.ofNat o)), .val (.int (Int32.ofNat len)), .val .null, .val (.ref s.heap.size)] [.int 0, .ref a])) rfl (rest := []) rfl (hb hbytes d48)
  have c14 : Steps p.tables e below (s₁.setTop (entryFrame m #[.ref a, .ref b, .int (Int32.ofNat o), .int (Int32.ofNat len), .null] 6)) (T13.setTop (mkF m 54 #[.val (.ref a), .val (.ref b), .val (.int (Int32.ofNat o)), .val (.int (Int32.ofNat len)), .val .null, .val (.ref s.heap.size)] [.ref s.heap.size, .ref a])) := (c12.trans (st13 _ (Steps.refl _))).trans (by
    refine XS.aloadN X13.here hexec rfl (hb hbytes d51) rfl rfl ?_
    refine XS.aload X13.here hexec rfl (hb hbytes d52) rfl rfl ?_
    exact Steps.refl _)
  obtain ⟨T15, X15, p15, bl15, sl15, st15⟩ := X13.finit hexec hown (wk W (.fieldLink "java/lang/String" 9 "java/lang/String" "value" "[B")) (Or.inr ⟨_, (wk W (.laysFinal "java/lang/String" "java/lang/String" "value" "[B"))⟩) (Or.inl ⟨rfl, hnm⟩) f1 (Or.inl rfl) bl13 (t := (.array .byte)) (by decide +kernel) rfl (g := (mkF m 54 #[.val (.ref a), .val (.ref b), .val (.int (Int32.ofNat o)), .val (.int (Int32.ofNat len)), .val .null, .val (.ref s.heap.size)] [.ref s.heap.size, .ref a])) rfl (rest := []) rfl (hb hbytes d54)
  have c16 : Steps p.tables e below (s₁.setTop (entryFrame m #[.ref a, .ref b, .int (Int32.ofNat o), .int (Int32.ofNat len), .null] 6)) (T15.setTop (mkF m 57 #[.val (.ref a), .val (.ref b), .val (.int (Int32.ofNat o)), .val (.int (Int32.ofNat len)), .val .null, .val (.ref s.heap.size)] [])) := c14.trans (st15 _ (Steps.refl _))
  have ap := apart (Or.inr ⟨_, (wk W (.laysFinal "java/lang/String" "java/lang/String" "value" "[B"))⟩) (Or.inr ⟨_, (wk W (.laysFinal "java/lang/String" "java/lang/String" "coder" "B"))⟩) f1 f2 (t₁ := .array .byte) (t₂ := .byte) (by decide +kernel) (by decide +kernel) (by decide)
  have al := X8.warmed.alike.symm.trans X15.warmed.alike
  have n7 : T11.heap[s.heap.size]? = some N := by rw [q11]; exact n1.1
  exact ⟨T15, none, _, _, _, X15, by simp, rfl, by omega, (fun _ => rfl), ⟨rfl, _, N, bl15, ((Same.refl D _).set _ (by simp)).set _ (by simp), sl15, (Cell.slots_setSlot_ne _ ap).trans sl13, n1.keep al (p15.other hne (p13.other hne n7)), n2, by rw [al.findClass]; exact n3, n4, n5, fun y c h1 h2 => p15.other h1 (p13.other h1 (by rw [q11]; exact n6 y c h2)), by rw [p15.2.2, p13.2.2, q11]; exact z8⟩, fun fs hl => c16.trans (X15.returnOut hexec hret (hb hbytes d57) hl)⟩
end New4
namespace New1
def yN : MethodName := ⟨"java/lang/String", "<init>", "([C)V"⟩
abbrev yB : ByteArray := jdk_42_method_3_code
theorem d0 : decode yB 0 = .ok (.aload_n 0, 1) := by decide +kernel
theorem d1 : decode yB 1 = .ok (.aload_n 1, 1) := by decide +kernel
theorem d2 : decode yB 2 = .ok (.iconst 0, 1) := by decide +kernel
theorem d3 : decode yB 3 = .ok (.aload_n 1, 1) := by decide +kernel
theorem d4 : decode yB 4 = .ok (.arraylength, 1) := by decide +kernel
theorem d5 : decode yB 5 = .ok (.aconst_null, 1) := by decide +kernel
theorem d6 : decode yB 6 = .ok (.invokespecial 27, 3) := by decide +kernel
theorem d9 : decode yB 9 = .ok (.return_, 1) := by decide +kernel
def site : List Cond := [New4.tab] ++ initW "java/lang/String" 27 New4.yN
def tab : Cond := tabOf yN yB 2 none site
def P (a : Addr) (D : Cell) (fV fC : Field) (b : Addr) (A : Cell) (z : Int32) (args : Array Value) (s : State) : Prop := args = #[.ref a, .ref b] ∧ Blank "java/lang/String" a D s ∧ Found "java/lang/String" "value" "[B" fV s ∧ Found "java/lang/String" "coder" "B" fC s ∧ Ch b A s ∧ StaticIs s "java/lang/String" "COMPACT_STRINGS" "Z" (.int z) ∧ ¬ z = 0 ∧ 0 < A.slots.size ∧ A.slots.size ≤ 536870912 ∧ ∀ i, i < A.slots.size → ¬ 255 < cv A i
def E (a : Addr) (D : Cell) (fV fC : Field) (A : Cell) (r : Option Value) (s u : State) : Prop := Got a D fV fC A 0 A.slots.size r s u
/-- new String(chars), not empty, no char above 255: a Latin-1 String of their low bytes -/
theorem law (l : Launch) (a : Addr) (D : Cell) (fV fC : Field) (b : Addr) (A : Cell) (z : Int32) : Law l yN 2 1 3 52 yB 2 none site (P a D fV fC b A z) (E a D fV fC A) [⟨a, fC.slot⟩, ⟨a, fV.slot⟩] 1 A.slots.size := by
  refine Law.of_walk (plainFor_of_name (by decide +kernel)) (by decide +kernel) (by decide +kernel) (by decide) (fun _ _ h => by rw [h.1]; rfl) (fun _ U U' hal hh h => ⟨h.1, h.2.1.mv hal hh, h.2.2.1.al hal, h.2.2.2.1.al hal, h.2.2.2.2.1.mv hal hh, h.2.2.2.2.2.1.there hal hh, h.2.2.2.2.2.2⟩) (fun r U U' V V' h1 hal h2 h => Got.mv r U U' V V' h1 hal h2 h) ?_
  intro p e s m args below meth c s₁ X0 hexec hbytes hml hret hlk hnm hown hh0 W hP
  obtain ⟨rfl, hB, f1, f2, hA, s1, hz, l0, l2, hp⟩ := hP
  have c1 : Steps p.tables e below (s₁.setTop (entryFrame m #[.ref a, .ref b] 2)) (s₁.setTop (mkF m 0 #[.val (.ref a), .val (.ref b)] [])) := entry rfl
  have c2 : Steps p.tables e below (s₁.setTop (entryFrame m #[.ref a, .ref b] 2)) (s₁.setTop (mkF m 6 #[.val (.ref a), .val (.ref b)] [.null, .int (Int32.ofNat A.slots.size), .int 0, .ref b, .ref a])) := c1.trans (by
    refine XS.aloadN X0.here hexec rfl (hb hbytes d0) rfl rfl ?_
    refine XS.aloadN X0.here hexec rfl (hb hbytes d1) rfl rfl ?_
    refine iconstV X0.here hexec rfl 0 (hb hbytes d2) (by decide) ?_
    refine XS.aloadN X0.here hexec rfl (hb hbytes d3) rfl rfl ?_
    refine X0.alen hexec (hA.1.mv X0.warmed.alike hh0) rfl rfl (hb hbytes d4) ?_
    refine XS.aconstNull X0.here hexec rfl (hb hbytes d5) ?_
    exact Steps.refl _)
  obtain ⟨v3, T3, X3, E3, g3⟩ := X0.callN hexec (New4.law l a D fV fC b A z 0 A.slots.size) rfl hown (wks W (initW "java/lang/String" 27 New4.yN)) (W New4.tab (by simp only [site, List.mem_cons, List.mem_append, true_or, or_true])) (W := 0) (Nat.le_of_ble_eq_true rfl) (Nat.le_of_ble_eq_true rfl) (Nat.le_refl _) (by show 0 + A.slots.size ≤ A.slots.size; omega) (g := (mkF m 6 #[.val (.ref a), .val (.ref b)] [.null, .int (Int32.ofNat A.slots.size), .int (Int32.ofNat 0), .ref b, .ref a])) rfl (by rw [hml]; rfl) c2 (argsL := [.ref b, .int (Int32.ofNat 0), .int (Int32.ofNat A.slots.size), .null]) (rest := []) rfl rfl (by show 2 * 0 + 0 ≤ _; decide) (hb hbytes d6) (⟨rfl, hB.mv X0.warmed.alike hh0, f1.al X0.warmed.alike, f2.al X0.warmed.alike, hA.mv X0.warmed.alike hh0, s1.there X0.warmed.alike hh0, hz, l0, by omega, l2, fun i hi => by rw [Nat.zero_add]; exact hp i hi⟩)
  have e0 := Got.mv _ s₁ s _ _ hh0.symm (Vm.Alike.refl _) rfl E3
  obtain rfl := e0.1
  have c4 : Steps p.tables e below (s₁.setTop (entryFrame m #[.ref a, .ref b] 2)) (T3.setTop (mkF m 9 #[.val (.ref a), .val (.ref b)] [])) := g3
  exact ⟨T3, none, _, _, _, X3, by simp, rfl, by omega, (fun _ => rfl), e0, fun fs hl => c4.trans (X3.returnOut hexec hret (hb hbytes d9) hl)⟩
theorem pays {l : Launch} {R : Room} {p : Program} {e : Env} {below : List Frame} {s : State} {sargs : Array Value} {len W : Nat} (a : Addr) (D : Cell) (fV fC : Field) (b : Addr) (A : Cell) (z : Int32) (htab : tab.before sargs s = true) (hfr : 4 ≤ R.frames) (hlo : W + 65 ≤ R.locals) :
    Back l R p e below s sargs yN len W (fun A₁ a₁ => A₁.cells + 1 ≤ R.cells ∧ A₁.slots + A.slots.size ≤ R.slots ∧ P a D fV fC b A z a₁ A₁.U) (fun A₁ _ v₁ B₁ => E a D fV fC A v₁ A₁.U B₁.U ∧ B₁.locs = A₁.locs ++ [⟨a, fC.slot⟩, ⟨a, fV.slot⟩] ∧ B₁.cells = A₁.cells + 1 ∧ B₁.slots = A₁.slots + A.slots.size) :=
  (law l a D fV fC b A z).pays htab hfr (by omega)
end New1
/-- the byte, read back as charAt reads it, is the char -/
theorem lo8_mask {x : Int32} (h0 : ¬ x < 0) (h1 : ¬ 255 < x) : lo8 x &&& 255 = x := by
  have t : ∀ k : Fin 256, lo8 (Int32.ofNat k.val) &&& 255 = Int32.ofNat k.val := by decide +kernel
  rw [Int32.lt_iff_toInt_lt] at h0 h1
  have e0 : (0 : Int32).toInt = 0 := rfl
  have e1 : (255 : Int32).toInt = 255 := rfl
  obtain ⟨k, hk⟩ : ∃ k : Nat, x.toInt = k := ⟨x.toInt.toNat, by omega⟩
  have hx : x = Int32.ofNat k := Int32.toInt_inj.mp (by rw [hk, Int32.toInt_ofNat_small (by omega)])
  rw [hx]
  exact t ⟨k, by omega⟩
end StrChars
namespace StrChars.Road
open Jvm Sem ClassFile Op Lib Jvm.Stand Jvm.Free Jvm.Free.XT
open Jvm.Lib.Cold (StaticIs)
abbrev ST : String := "java/lang/String"
/-- every table word that New1's law asks, flat -/
abbrev words : List Jvm.Cond := [.code New1.yN New1.yB 2 none, .initialized ST, .methodLink ST 27 New4.yN, .instanceMethod New4.yN,
  .code New4.yN New4.yB 6 none, .fieldLink ST 38 ST "COMPACT_STRINGS" "Z", .laysFinal ST ST "value" "[B", .fieldLink ST 9 ST "value" "[B", .laysFinal ST ST "coder" "B", .fieldLink ST 15 ST "coder" "B",
  .methodLink ST 1 Lib.objectInit, .instanceMethod Lib.objectInit, .code Lib.objectInit ⟨#[0xb1]⟩ 1 none, .methodLink ST 177 Cmp3.yN, .static Cmp3.yN, .methodLink ST 47 CodL.yN, .static CodL.yN,
  .code Cmp3.yN Cmp3.yB 6 (some (.array .byte)), .initialized U16, .arrayClass .byte, .methodLink U16 115 Cmp5.yN, .static Cmp5.yN, .code Cmp5.yN Cmp5.yB 7 (some .int), .code CodL.yN CodL.yB 2 (some .byte)]
theorem tab_of {a : Array Value} {s : State} (h : ∀ w ∈ words, w.before a s = true) : New1.tab.before a s = true := by
  have h5 : Cmp5.tab.before a s = true := unparts (wk h (.code Cmp5.yN Cmp5.yB 7 (some .int))) (wks h (.initialized Cmp5.yN.cls :: Cmp5.site))
  have hc : CodL.tab.before a s = true := unparts (wk h (.code CodL.yN CodL.yB 2 (some .byte))) (wks h (.initialized CodL.yN.cls :: CodL.site))
  have q5 : ∀ w ∈ Cmp5.tab :: words, w.before a s = true := fun w hw => (List.mem_cons.mp hw).elim (fun e => e ▸ h5) (h w)
  have h3 : Cmp3.tab.before a s = true := unparts (wk q5 (.code Cmp3.yN Cmp3.yB 6 (some (.array .byte)))) (wks q5 (.initialized Cmp3.yN.cls :: Cmp3.site))
  have q3 : ∀ w ∈ Cmp3.tab :: CodL.tab :: words, w.before a s = true := fun w hw => (List.mem_cons.mp hw).elim (fun e => e ▸ h3) fun hw => (List.mem_cons.mp hw).elim (fun e => e ▸ hc) (h w)
  have h4 : New4.tab.before a s = true := unparts (wk q3 (.code New4.yN New4.yB 6 none)) (wks q3 (.initialized New4.yN.cls :: New4.site))
  have q4 : ∀ w ∈ New4.tab :: words, w.before a s = true := fun w hw => (List.mem_cons.mp hw).elim (fun e => e ▸ h4) (h w)
  exact unparts (wk q4 (.code New1.yN New1.yB 2 none)) (wks q4 (.initialized New1.yN.cls :: New1.site))
/-- the words ride from the start Z to the walk's own state -/
theorem moved {Z s : State} {a0 args : Array Value} (hZ : Z.Warmed39 s.vm) (hw : ∀ d ∈ words, d.before a0 Z = true) : ∀ d ∈ words, d.before args s = true := fun d hd => by
  have q := hw d hd
  have t : ∀ d ∈ words, d = .arrayClass .byte ∨ (d.onTables && d.keepsFace) = true := by decide +kernel
  rcases t d hd with rfl | t
  · exact RoadKit.mvA hZ q
  · exact RoadKit.mv hZ q t
/-- WHAT COMES BACK, over the tables of the start Z: h the heap at the call, h' behind it -/
def Q (Z : State) (x : Addr) (A : Cell) (h : Heap) (v : Option Value) (h' : Heap) (L : List Loc) : Prop := v = none ∧ (∀ y ∈ L, y.base = x) ∧ RoadKit.Keep h h' [x] ∧ h'.size = h.size + 1 ∧ RoadKit.Exa Z h' x ST ∧ RoadKit.Fld Z h' x ST "value" "[B" (.ref h.size) ∧ RoadKit.Fld Z h' x ST "coder" "B" (.int 0) ∧
  (∃ V : Cell, RoadKit.Arr Z h' h.size V .byte ∧ V.vm = .none ∧ Z.vm.findClass "[B" = some V.cls ∧ V.slots.size = A.slots.size ∧ ∀ j, j < A.slots.size → V.slots[j]? = some (.int (lo8 (cv A j)))) ∧
  ∀ (O n d : String) (w : Value), RoadKit.Fld Z h x O n d w → RoadKit.slotOf Z O n d ≠ RoadKit.slotOf Z ST "value" "[B" → RoadKit.slotOf Z O n d ≠ RoadKit.slotOf Z ST "coder" "B" → RoadKit.Fld Z h' x O n d w
/-- **new String(chars) AT A CALL, IN THE ROAD'S FORM**: for specialBack behind newO: x the fresh String, b the char[] with the cell A -/
theorem back {p : Program} {l : Launch} {e : Env} {R : Room} {s : State} {args : Array Value} {below : List Frame} {len W : Nat} {Z : State} {a0 : Array Value} {h : Heap} (hZ : Z.Warmed39 s.vm) (hw : ∀ d ∈ words, d.before a0 Z = true) {kI : Nat} (wi : (Jvm.Cond.instantiable ST kI).before a0 Z = true)
    {x b : Addr} {A : Cell} {z : Int32} {v0 c0 : Value} (E : RoadKit.Exa Z h x ST) (V : RoadKit.Fld Z h x ST "value" "[B" v0) (C : RoadKit.Fld Z h x ST "coder" "B" c0) (K : RoadKit.Arr Z h b A .char) (hty : Typed .char A) (S : RoadKit.Sta Z h ST "COMPACT_STRINGS" "Z" (.int z)) (hz : ¬ z = 0)
    (l0 : 0 < A.slots.size) (l2 : A.slots.size ≤ 536870912) (hp : ∀ i, i < A.slots.size → ¬ 255 < cv A i) (hfr : 4 ≤ R.frames) (hlo : W + 65 ≤ R.locals) :
    Back l R p e below s args New1.yN len W (fun P a => a = #[.ref x, .ref b] ∧ P.U.heap = h ∧ P.cells + 1 ≤ R.cells ∧ P.slots + A.slots.size ≤ R.slots)
      (fun P _ v B => ∃ L, Q Z x A h v B.U.heap L ∧ B.locs = P.locs ++ L ∧ B.cells = P.cells + 1 ∧ B.slots = P.slots + A.slots.size) := by
  intro m meth c P g ig mk a X hg hsize hdg hW hn hp'
  obtain ⟨rfl, rfl, r1, r2⟩ := hp'
  have al : Z.vm.Alike P.U.vm := hZ.alike.trans X.warmed.alike
  obtain ⟨D, cfV, kV, iV, fV, hD, gV, stV, knV, obV, asV, slV⟩ := id V
  obtain ⟨D', cfC, kC, iC, fC, hD', gC, stC, -, -, asC, slC⟩ := id C
  cases hD.symm.trans hD'
  obtain ⟨D2, kD, e1, e2, e3, e4, e5⟩ := id E
  cases hD.symm.trans e1
  obtain ⟨c2, k2, i1, i2, i3, -⟩ := Cond.instantiable_spec wi
  cases e2.symm.trans i1
  cases e3.symm.trans i2
  obtain ⟨kU, u1, u2⟩ := al.2.2 _ _ e3
  have hB : Blank ST x D P.U := ⟨hD, ⟨knV, fun q hq => by rw [hq] at obV; cases obV⟩, by rw [al.findClass]; exact e2, kU, u1, by rw [u2]; exact i3, by rw [u2]; exact e5 i3⟩
  have F1 : Found ST "value" "[B" fV P.U := ⟨SBG.found_only al ⟨cfV, kV, iV, gV⟩, stV⟩
  have F2 : Found ST "coder" "B" fC P.U := ⟨SBG.found_only al ⟨cfC, kC, iC, gC⟩, stC⟩
  have hA : Ch b A P.U := ⟨⟨K.1, State.isArrayOf_alike al K.2.1, K.2.2, by omega⟩, hty⟩
  have hS : StaticIs P.U ST "COMPACT_STRINGS" "Z" (.int z) := by
    obtain ⟨cfS, iS, kS, fS, st, cS, t1, t2, t3, t4, t5, t6, t7⟩ := S
    exact StaticIs.there (s := { Z with heap := P.U.heap }) ⟨cfS, iS, kS, fS, st, cS, t1, t2, t3, t4, t5, (fun q => by rw [q] at t6; cases t6), t7⟩ al rfl
  obtain ⟨v, B, X', ⟨⟨hv, E', V', q1, q2, q3, q4, q5, q6, q7, q8, q9, q10, q11⟩, hl, hc, hs⟩, st⟩ := New1.pays x D fV fC b A z (tab_of (moved hZ hw)) hfr hlo m meth c P g ig mk _ X hg hsize hdg hW hn ⟨r1, r2, rfl, hB, F1, F2, hA, hS, hz, l0, l2, hp⟩
  have al' : Z.vm.Alike B.U.vm := hZ.alike.trans X'.warmed.alike
  have hsz : E'.slots.size = D.slots.size := by
    obtain ⟨-, -, -, kB, w1, w2, w3⟩ := q1
    obtain ⟨kB', y1, y2⟩ := al'.2.2 _ _ e3
    rw [q2.2.1] at w1
    cases w1.symm.trans y1
    rw [w3, e5 i3, y2]
  refine ⟨v, B, X', ⟨_, ⟨hv, ?_, ⟨by omega, fun y cy hy hn' => q10 y cy (by simpa using hn') hy, fun y cy hy => ?_⟩, q11, ⟨E', _, q1.1, by rw [q2.2.1]; exact e2, by rw [q2.2.1]; exact e3, by rw [q2.1]; exact obV, fun _ => by rw [hsz]; exact e5 i3⟩,
    ⟨E', cfV, kV, iV, fV, q1.1, gV, stV, by rw [q2.1]; exact knV, by rw [q2.1]; exact obV, by rw [q2.2.1]; exact asV, q3⟩, ⟨E', cfC, kC, iC, fC, q1.1, gC, stC, by rw [q2.1]; exact knV, by rw [q2.1]; exact obV, by rw [q2.2.1]; exact asC, q4⟩,
    ⟨V', ⟨q5.1, State.isArrayOf_alike al'.symm q5.2.1, q5.2.2.1⟩, q6, by rw [← al'.findClass]; exact q7, q8, fun j hj => by have := q9 j hj; rwa [Nat.zero_add] at this⟩, fun O n d w F n1 n2 => ?_⟩, hl, hc, hs⟩, st⟩
  · intro y hy
    simp only [List.mem_cons, List.not_mem_nil, or_false] at hy
    rcases hy with rfl | rfl <;> rfl
  · by_cases q : y = x
    · subst q
      cases hD.symm.trans hy
      exact ⟨E', q1.1, q2.2.1, q2.1, hsz⟩
    · exact ⟨cy, q10 y cy q hy, rfl, rfl, rfl⟩
  · obtain ⟨D3, cf, k, i, f, g1, g2, g3, g4, g5, g6, g7⟩ := F
    cases hD.symm.trans g1
    simp only [RoadKit.slotOf, g2, gV, gC, Option.map_some, Option.getD_some] at n1 n2
    exact ⟨E', cf, k, i, f, q1.1, g2, g3, by rw [q2.1]; exact g4, by rw [q2.1]; exact g5, by rw [q2.2.1]; exact g6, by rw [q2.2.2 f.slot (by simp [n1, n2])]; exact g7⟩
end StrChars.Road
namespace StrChars.Road
open Jvm Sem ClassFile Op Lib Jvm.Stand Jvm.Free Jvm.Free.XT
/-- WHAT COMES BACK, the byte[] as a list of values -/
def QA (Z : State) (x : Addr) (zn : Int32) (cs : List Int32) (h : Heap) (v : Option Value) (h' : Heap) (L : List Loc) : Prop := v = none ∧ (∀ y ∈ L, y.base = x) ∧ RoadKit.Keep h h' [x] ∧ h'.size = h.size + 1 ∧ RoadKit.Exa Z h' x ST ∧ RoadKit.Fld Z h' x ST "value" "[B" (.ref h.size) ∧ RoadKit.Fld Z h' x ST "coder" "B" (.int 0) ∧
  (∃ kb, Z.vm.findClass "[B" = some kb ∧ RoadKit.Arv Z h' h.size kb .byte zn (cs.map fun c => .int (lo8 c)) (.int 0)) ∧
  ∀ (O n d : String) (w : Value), RoadKit.Fld Z h x O n d w → RoadKit.slotOf Z O n d ≠ RoadKit.slotOf Z ST "value" "[B" → RoadKit.slotOf Z O n d ≠ RoadKit.slotOf Z ST "coder" "B" → RoadKit.Fld Z h' x O n d w
/-- **new String(chars) AT A CALL, THE ARRAYS AS LISTS**: the char[] at b holds cs, not empty, no char above 255 -/
theorem backArv {p : Program} {l : Launch} {e : Env} {R : Room} {s : State} {args : Array Value} {below : List Frame} {len W : Nat} {Z : State} {a0 : Array Value} {h : Heap} (hZ : Z.Warmed39 s.vm) (hw : ∀ d ∈ words, d.before a0 Z = true) {kI : Nat} (wi : (Jvm.Cond.instantiable ST kI).before a0 Z = true)
    {x b : Addr} {k : ClassId} {zn z : Int32} {cs : List Int32} {dv v0 c0 : Value} (E : RoadKit.Exa Z h x ST) (V : RoadKit.Fld Z h x ST "value" "[B" v0) (C : RoadKit.Fld Z h x ST "coder" "B" c0) (K : RoadKit.Arv Z h b k .char zn (cs.map Value.int) dv) (S : RoadKit.Sta Z h ST "COMPACT_STRINGS" "Z" (.int z)) (hz : ¬ z = 0)
    (hlen : zn.toNatClampNeg = cs.length) (h0 : 0 < cs.length) (hbig : cs.length ≤ 536870912) (hall : ∀ c ∈ cs, ¬ 255 < c) (hfr : 4 ≤ R.frames) (hlo : W + 65 ≤ R.locals) :
    Back l R p e below s args New1.yN len W (fun P a => a = #[.ref x, .ref b] ∧ P.U.heap = h ∧ P.cells + 1 ≤ R.cells ∧ P.slots + cs.length ≤ R.slots)
      (fun P _ v B => ∃ L, QA Z x zn cs h v B.U.heap L ∧ B.locs = P.locs ++ L ∧ B.cells = P.cells + 1 ∧ B.slots = P.slots + cs.length) := by
  obtain ⟨A, K1, K2, K3, K4, K5, K6⟩ := K
  have e : A.slots.size = cs.length := K3.trans hlen
  have hat : ∀ (i : Nat) (hi : i < cs.length), A.slots[i]? = some (.int cs[i]) := fun i hi => by rw [K5 i (by omega)]; simp [List.getD_eq_getElem?_getD, hi]
  have hcv : ∀ (i : Nat) (hi : i < cs.length), cv A i = cs[i] := fun i hi => by unfold cv; rw [hat i hi]
  have hty : Typed .char A := fun i v hv => by
    have hi : i < A.slots.size := (Array.getElem?_eq_some_iff.mp hv).1
    have q := K5 i hi
    rw [hv] at q
    rw [Option.some.inj q]
    exact K6 i hi
  refine Back.mono (back hZ hw wi E V C K1 hty S hz (by omega) (by omega) (fun i hi => by rw [hcv i (by omega)]; exact hall _ (List.getElem_mem _)) hfr hlo) (fun P a hp => ⟨hp.1, hp.2.1, hp.2.2.1, by rw [e]; exact hp.2.2.2⟩) (fun P a v B hp hq => ?_)
  obtain ⟨L, ⟨q1, q2, q3, q4, q5, q6, q7, ⟨V', v1, v2, v3, v4, v5⟩, q9⟩, hl, hc, hs⟩ := hq
  refine ⟨L, ⟨q1, q2, q3, q4, q5, q6, q7, ⟨V'.cls, v3, V', v1, rfl, by rw [v4, e, hlen], K4, fun i hi => ?_, fun i hi => ?_⟩, q9⟩, hl, hc, by rw [hs, e]⟩
  · have hi' : i < cs.length := by omega
    rw [v5 i (by omega), hcv i hi']; simp [List.getD_eq_getElem?_getD, hi']
  · have hi' : i < cs.length := by omega
    simp only [List.getD_eq_getElem?_getD, List.getElem?_map, List.getElem?_eq_getElem hi', Option.map_some, Option.getD_some]
    exact fits_lo8 _
end StrChars.Road
namespace StrChars.Road
open Jvm Sem ClassFile Op Lib Jvm.Stand Jvm.Free Jvm.Free.XT
/-- WHAT COMES BACK, in the writer's own shape -/
def QV (Z : State) (x : Addr) (N : Int32) (bs : List Int32) (h : Heap) (n0 : Nat) (v : Option Value) (h' : Heap) (L : List Loc) : Prop := v = none ∧ RoadKit.Fr n0 L ∧ RoadKit.Keep h h' [x] ∧ RoadKit.Exa Z h' x ST ∧ RoadKit.Fld Z h' x ST "coder" "B" (.int 0) ∧
  ∃ (t : Addr) (kb : ClassId), n0 ≤ t ∧ h.size ≤ t ∧ ¬ t = x ∧ RoadKit.Fld Z h' x ST "value" "[B" (.ref t) ∧ RoadKit.Arv Z h' t kb .byte N (bs.map Value.int) (.int 0)
/-- **new String(chars) AT A CALL, FOR THE WRITER**: a char[] of n known ints, each 0 to 255 -/
theorem backV {p : Program} {l : Launch} {e : Env} {R : Room} {s : State} {args : Array Value} {below : List Frame} {len W : Nat} {Z : State} {a0 : Array Value} {h : Heap} (hZ : Z.Warmed39 s.vm) (hw : ∀ d ∈ words, d.before a0 Z = true) {kI : Nat} (wi : (Jvm.Cond.instantiable ST kI).before a0 Z = true)
    {x b : Addr} {kC : ClassId} {cs bs : List Int32} {d v0 c0 : Value} {z N : Int32} {n n0 : Nat} (hx0 : n0 ≤ x) (hh0 : n0 ≤ h.size) (E : RoadKit.Exa Z h x ST) (V : RoadKit.Fld Z h x ST "value" "[B" v0) (C : RoadKit.Fld Z h x ST "coder" "B" c0) (K : RoadKit.Arv Z h b kC .char N (cs.map Value.int) d) (S : RoadKit.Sta Z h ST "COMPACT_STRINGS" "Z" (.int z)) (hz : ¬ z = 0)
    (hn : cs.length = n) (hN : N = Int32.ofNat n) (l0 : 0 < n) (l2 : n ≤ 4000) (hp : ∀ c ∈ cs, ¬ c < 0 ∧ ¬ (255 : Int32) < c) (hb : bs = cs.map (fun c => c.toInt8.toInt32)) (hfr : 4 ≤ R.frames) (hlo : W + 65 ≤ R.locals) :
    Back l R p e below s args (⟨"java/lang/String", "<init>", "([C)V"⟩ : MethodName) len W (fun P a => a = #[.ref x, .ref b] ∧ P.U.heap = h ∧ P.cells + 1 ≤ R.cells ∧ P.slots + n ≤ R.slots)
      (fun P _ v B => ∃ L, QV Z x N bs h n0 v B.U.heap L ∧ B.locs = P.locs ++ L ∧ B.cells = P.cells + 1 ∧ B.slots = P.slots + n) := by
  subst hn hN hb
  refine Back.mono (backArv hZ hw wi E V C K S hz (n32 (by omega)) l0 (by omega) (fun c hc => (hp c hc).2) hfr hlo) (fun P a hp => hp) (fun P a v B hp hq => ?_)
  obtain ⟨L, ⟨q1, q2, q3, q4, q5, q6, q7, ⟨kb, v1, v2⟩, q9⟩, hl, hc, hs⟩ := hq
  exact ⟨L, ⟨q1, fun y hy => by rw [q2 y hy]; exact hx0, q3, q5, q7, h.size, kb, hh0, Nat.le_refl _, Nat.ne_of_gt E.lt, q6, by rw [List.map_map]; exact v2⟩, hl, hc, hs⟩
end StrChars.Road
namespace StrChars
open Jvm Sem ClassFile Op Lib Jvm.Stand Jvm.Free.XT Jvm.Free.ALB Jvm.Free.JM Jvm.Free
open Jvm.Lib.Cold (StaticIs)
def hi8 (x : Int32) : Int32 := lo8 (x >>> ((8 : Int32) &&& 31))
/-- what StringUTF16.getChar makes of two bytes -/
def pairCh (u v : Int32) : Int32 := (((u &&& 255) <<< ((0 : Int32) &&& 31)) ||| ((v &&& 255) <<< ((8 : Int32) &&& 31))).toUInt32.toUInt16.toUInt32.toInt32
theorem lo8_and (x : Int32) : (lo8 x &&& 255).toBitVec.toNat = x.toBitVec.toNat % 256 := by
  have h : (lo8 x).toBitVec = (x.toBitVec.signExtend 8).signExtend 32 := by rw [lo8, Int8.toBitVec_toInt32, Int32.toBitVec_toInt8]
  rw [Int32.toBitVec_and, BitVec.toNat_and, h]
  have e : ((x.toBitVec.signExtend 8).signExtend 32).toNat % 256 = x.toBitVec.toNat % 256 := by
    rw [BitVec.toNat_signExtend]
    have hlt := x.toBitVec.isLt
    simp only [BitVec.toNat_setWidth, BitVec.toNat_signExtend]
    split <;> split <;> omega
  rw [← e]
  exact Nat.and_two_pow_sub_one_eq_mod _ 8
theorem pair_says {c : Int32} (h0 : ¬ c < 0) (h1 : ¬ 65535 < c) : pairCh (lo8 c) (hi8 c) = c := by
  rw [Int32.lt_iff_toInt_lt] at h0 h1
  have e0 : (0 : Int32).toInt = 0 := rfl
  have e1 : (65535 : Int32).toInt = 65535 := rfl
  have hc : c.toInt = c.toBitVec.toNat := by
    have := c.toBitVec.isLt
    have e : c.toInt = c.toBitVec.toInt := rfl
    rw [e] at h0 h1
    rw [e]
    rw [BitVec.toInt_eq_toNat_cond] at h0 h1 ⊢
    split at h0 <;> split <;> omega
  have hn : c.toBitVec.toNat < 65536 := by omega
  have a1 := lo8_and c
  have a2 : (hi8 c &&& 255).toBitVec.toNat = c.toBitVec.toNat / 256 := by
    rw [hi8, lo8_and]
    have e : ((8 : Int32) &&& 31) = 8 := by decide
    rw [e, Int32.toBitVec_shiftRight]
    have e2 : ((8 : Int32).toBitVec.smod 32) = 8#32 := by decide
    rw [e2, BitVec.sshiftRight_eq', BitVec.toNat_sshiftRight_of_msb_false (by rw [BitVec.msb_eq_false_iff_two_mul_lt]; omega)]
    show c.toBitVec.toNat >>> 8 % 256 = _
    rw [Nat.shiftRight_eq_div_pow]
    omega
  unfold pairCh
  apply Int32.toBitVec_inj.mp
  apply BitVec.eq_of_toNat_eq
  have f0 : ((0 : Int32) &&& 31) = 0 := by decide
  have f8 : ((8 : Int32) &&& 31) = 8 := by decide
  rw [f0, f8]
  have g : (((lo8 c &&& 255) <<< (0 : Int32)) ||| ((hi8 c &&& 255) <<< (8 : Int32))).toBitVec.toNat = c.toBitVec.toNat := by
    rw [Int32.toBitVec_or, Int32.toBitVec_shiftLeft, Int32.toBitVec_shiftLeft]
    have s0 : ((0 : Int32).toBitVec.smod 32) = 0#32 := by decide
    have s8 : ((8 : Int32).toBitVec.smod 32) = 8#32 := by decide
    rw [s0, s8, BitVec.toNat_or]
    simp only [BitVec.shiftLeft_eq', BitVec.toNat_shiftLeft, a1, a2]
    show (c.toBitVec.toNat % 256) <<< 0 % 2 ^ 32 ||| (c.toBitVec.toNat / 256) <<< 8 % 2 ^ 32 = _
    rw [Nat.shiftLeft_zero, Nat.mod_eq_of_lt (show c.toBitVec.toNat % 256 < 2 ^ 32 by omega), Nat.mod_eq_of_lt (show (c.toBitVec.toNat / 256) <<< 8 < 2 ^ 32 by rw [Nat.shiftLeft_eq]; omega), Nat.or_comm, ← Nat.shiftLeft_add_eq_or_of_lt (by omega), Nat.shiftLeft_eq]
    omega
  show BitVec.toNat (((((lo8 c &&& 255) <<< (0 : Int32)) ||| ((hi8 c &&& 255) <<< (8 : Int32))).toBitVec.setWidth 16).setWidth 32) = _
  rw [BitVec.toNat_setWidth, BitVec.toNat_setWidth, g]
  omega
end StrChars
namespace StrChars
open Jvm Sem ClassFile Op Lib Jvm.Stand Jvm.Free.XT Jvm.Free.ALB Jvm.Free.JM Jvm.Free
open Jvm.Lib.Cold (StaticIs)
/-- charAt's cast of a byte read back -/
def chr8 (u : Int32) : Int32 := (u &&& 255).toUInt32.toUInt16.toUInt32.toInt32
theorem chr8_lo8 {c : Int32} (h0 : ¬ c < 0) (h1 : ¬ 255 < c) : chr8 (lo8 c) = c := by
  have t : ∀ k : Fin 256, (Int32.ofNat k.val).toUInt32.toUInt16.toUInt32.toInt32 = Int32.ofNat k.val := by decide +kernel
  unfold chr8
  rw [lo8_mask h0 h1]
  rw [Int32.lt_iff_toInt_lt] at h0 h1
  have e0 : (0 : Int32).toInt = 0 := rfl
  have e1 : (255 : Int32).toInt = 255 := rfl
  obtain ⟨k, hk⟩ : ∃ k : Nat, c.toInt = k := ⟨c.toInt.toNat, by omega⟩
  have hx : c = Int32.ofNat k := Int32.toInt_inj.mp (by rw [hk, Int32.toInt_ofNat_small (by omega)])
  rw [hx]
  exact t ⟨k, by omega⟩
theorem narrow_ch {c : Int32} (h0 : ¬ c < 0) (h1 : ¬ 65535 < c) : narrow .char (.int c) = .int c := by
  have q : narrow .char (.int (pairCh (lo8 c) (hi8 c))) = .int (pairCh (lo8 c) (hi8 c)) := narrow_c _
  rwa [pair_says h0 h1] at q
/-- the array's cell V codes the n chars f 0 .. f (n - 1) by the coder cd, as the JDK does: coder 1 just where some char is above 255 -/
def Cod (cd : Int32) (n : Nat) (f : Nat → Int32) (V : Cell) : Prop := (cd = 0 ∧ V.slots.size = n ∧ ∀ j, j < n → V.slots[j]? = some (.int (lo8 (f j))) ∧ ¬ 255 < f j) ∨ (cd = 1 ∧ V.slots.size = 2 * n ∧ (∀ j, j < n → V.slots[2 * j]? = some (.int (lo8 (f j))) ∧ V.slots[2 * j + 1]? = some (.int (hi8 (f j)))) ∧ ∃ j, j < n ∧ 255 < f j)
theorem Cod.cd {cd : Int32} {n : Nat} {f : Nat → Int32} {V : Cell} (h : Cod cd n f V) : cd = 0 ∨ cd = 1 := h.imp (fun q => q.1) fun q => q.1
/-- **x is a String of the n chars f 0 .. f (n - 1)**, Latin-1 or UTF-16; its array at t has the cell V -/
def Txt (x t : Addr) (V : Cell) (cd : Int32) (n : Nat) (f : Nat → Int32) (U : State) : Prop := Exact "java/lang/String" x U ∧ Has x "java/lang/String" "value" "[B" (.ref t) U ∧ Has x "java/lang/String" "coder" "B" (.int cd) U ∧ XT.Arr .byte t V U ∧ Cod cd n f V ∧ ∀ j, j < n → ¬ f j < 0 ∧ ¬ 65535 < f j
theorem Txt.mv {x t : Addr} {V : Cell} {cd : Int32} {n : Nat} {f : Nat → Int32} {U U' : State} (h : Txt x t V cd n f U) (hal : U.vm.Alike U'.vm) (hh : U'.heap = U.heap) : Txt x t V cd n f U' := ⟨h.1.mv hal hh, h.2.1.mv hal hh, h.2.2.1.mv hal hh, h.2.2.2.1.mv hal hh, h.2.2.2.2⟩
namespace IsL
def yN : MethodName := ⟨"java/lang/String", "isLatin1", "()Z"⟩
abbrev yB : ByteArray := jdk_42_method_154_code
theorem d0 : decode yB 0 = .ok (.getstatic 38, 3) := by decide +kernel
theorem d3 : decode yB 3 = .ok (.ifCond (.eq) 14, 3) := by decide +kernel
theorem d6 : decode yB 6 = .ok (.aload_n 0, 1) := by decide +kernel
theorem d7 : decode yB 7 = .ok (.getfield 15, 3) := by decide +kernel
theorem d10 : decode yB 10 = .ok (.ifCond (.ne) 7, 3) := by decide +kernel
theorem d13 : decode yB 13 = .ok (.iconst 1, 1) := by decide +kernel
theorem d14 : decode yB 14 = .ok (.goto 4, 3) := by decide +kernel
theorem d17 : decode yB 17 = .ok (.iconst 0, 1) := by decide +kernel
theorem d18 : decode yB 18 = .ok (.ireturn, 1) := by decide +kernel
def site : List Cond := [.fieldLink "java/lang/String" 38 "java/lang/String" "COMPACT_STRINGS" "Z", .fieldLink "java/lang/String" 15 "java/lang/String" "coder" "B"]
def tab : Cond := tabOf yN yB 1 (some .boolean) site
def P (x : Addr) (cd z : Int32) (args : Array Value) (s : State) : Prop := args = #[.ref x] ∧ Has x "java/lang/String" "coder" "B" (.int cd) s ∧ (cd = 0 ∨ cd = 1) ∧ StaticIs s "java/lang/String" "COMPACT_STRINGS" "Z" (.int z) ∧ ¬ z = 0
def E (cd : Int32) (r : Option Value) (s u : State) : Prop := XT.PureE (some (.int (1 - cd))) r s u
theorem law (l : Launch) (x : Addr) (cd z : Int32) : Law l yN 1 0 0 0 yB 1 (some .boolean) site (P x cd z) (E cd) [] 0 0 := by
  refine Law.of_walk (plainFor_of_name (by decide +kernel)) (by decide +kernel) (by decide +kernel) (by decide) (fun _ _ h => by rw [h.1]; rfl) (fun _ U U' hal hh h => ⟨h.1, h.2.1.mv hal hh, h.2.2.1, h.2.2.2.1.there hal hh, h.2.2.2.2⟩) (fun r U U' V V' h1 hal h2 h => XT.PureE.mv r U U' V V' h1 hal h2 h) ?_
  intro p e s m args below meth c s₁ X0 hexec hbytes hml hret hlk hnm hown hh0 W hP
  obtain ⟨rfl, hx, hc, s1, hz⟩ := hP
  have c1 : Steps p.tables e below (s₁.setTop (entryFrame m #[.ref x] 1)) (s₁.setTop (mkF m 0 #[.val (.ref x)] [])) := entry rfl
  obtain ⟨T2, X2, q2, st2⟩ := X0.sget hexec hown (wk W (.fieldLink "java/lang/String" 38 "java/lang/String" "COMPACT_STRINGS" "Z")) s1 (fun _ _ h => by rw [hh0]; exact h) (g := (mkF m 0 #[.val (.ref x)] [])) rfl (hb hbytes d0)
  have hh2 := q2.trans hh0
  have c3 : Steps p.tables e below (s₁.setTop (entryFrame m #[.ref x] 1)) (T2.setTop (mkF m 7 #[.val (.ref x)] [.ref x])) := (c1.trans (st2 _ (Steps.refl _))).trans (by
    refine XS.ifNo X2.here hexec rfl (hb hbytes d3) rfl (i0_eq_f hz) ?_
    refine XS.aloadN X2.here hexec rfl (hb hbytes d6) rfl rfl ?_
    exact Steps.refl _)
  obtain ⟨T4, X4, q4, st4⟩ := X2.hget hexec hown (wk W (.fieldLink "java/lang/String" 15 "java/lang/String" "coder" "B")) (hx.mv X2.warmed.alike hh2) (g := (mkF m 7 #[.val (.ref x)] [.ref x])) rfl (rest := []) rfl (hb hbytes d7)
  have c5 : Steps p.tables e below (s₁.setTop (entryFrame m #[.ref x] 1)) (T4.setTop (mkF m 10 #[.val (.ref x)] [.int cd])) := c3.trans (st4 _ (Steps.refl _))
  have c6 : Steps p.tables e below (s₁.setTop (entryFrame m #[.ref x] 1)) (T4.setTop (mkF m 18 #[.val (.ref x)] [.int (1 - cd)])) := by
    rcases hc with rfl | rfl
    · exact c5.trans (by
        refine XS.ifNo X4.here hexec rfl (hb hbytes d10) rfl (i0_ne_f rfl) ?_
        refine iconstV X4.here hexec rfl 1 (hb hbytes d13) (by decide) ?_
        refine XS.goto X4.here hexec rfl (pc0 := 14) rfl (hb hbytes d14) (by decide) rfl ?_
        exact Steps.refl _)
    · exact c5.trans (by
        refine XS.ifYes X4.here hexec rfl (pc0 := 10) rfl (hb hbytes d10) rfl (i0_ne_t (by decide)) (by decide) rfl ?_
        refine iconstV X4.here hexec rfl 0 (hb hbytes d17) (by decide) ?_
        exact Steps.refl _)
  exact ⟨T4, some (.int (1 - cd)), _, _, _, X4, rfl, rfl, rfl, (fun h => by cases h), ⟨rfl, q4.trans hh2⟩, fun fs hl => c6.trans (X4.ireturnOut hexec hret (by rcases hc with rfl | rfl <;> rfl) (Or.inr (Or.inl rfl)) (hb hbytes d18) hl)⟩
end IsL
namespace LChA
def yN : MethodName := ⟨"java/lang/StringLatin1", "charAt", "([BI)C"⟩
abbrev yB : ByteArray := jdk_43_method_2_code
theorem d0 : decode yB 0 = .ok (.iload_n 1, 1) := by decide +kernel
theorem d1 : decode yB 1 = .ok (.aload_n 0, 1) := by decide +kernel
theorem d2 : decode yB 2 = .ok (.arraylength, 1) := by decide +kernel
theorem d3 : decode yB 3 = .ok (.invokestatic 9, 3) := by decide +kernel
theorem d6 : decode yB 6 = .ok (.aload_n 0, 1) := by decide +kernel
theorem d7 : decode yB 7 = .ok (.iload_n 1, 1) := by decide +kernel
theorem d8 : decode yB 8 = .ok (.baload, 1) := by decide +kernel
theorem d9 : decode yB 9 = .ok (.sipush 255, 3) := by decide +kernel
theorem d12 : decode yB 12 = .ok (.iand, 1) := by decide +kernel
theorem d13 : decode yB 13 = .ok (.i2c, 1) := by decide +kernel
theorem d14 : decode yB 14 = .ok (.ireturn, 1) := by decide +kernel
def site : List Cond := [JO.Str_checkIndex.tab] ++ staticW "java/lang/StringLatin1" 9 JO.Str_checkIndex.yN
def tab : Cond := tabOf yN yB 2 (some .char) site
def P (t : Addr) (V : Cell) (i : Nat) (u : Int32) (fm : Value) (args : Array Value) (s : State) : Prop := args = #[.ref t, .int (Int32.ofNat i)] ∧ XT.Arr .byte t V s ∧ V.slots[i]? = some (.int u) ∧ (StaticIs s "jdk/internal/util/Preconditions" "SIOOBE_FORMATTER" "Ljava/util/function/BiFunction;" fm ∧ fm.isRef = true)
def E (u : Int32) (r : Option Value) (s w : State) : Prop := XT.PureE (some (.int (chr8 u))) r s w
theorem law (l : Launch) (t : Addr) (V : Cell) (i : Nat) (u : Int32) (fm : Value) : Law l yN 2 2 2 27 yB 2 (some .char) site (P t V i u fm) (E u) [] 0 0 := by
  refine Law.of_walk (plainFor_of_name (by decide +kernel)) (by decide +kernel) (by decide +kernel) (by decide) (fun _ _ h => by rw [h.1]; rfl) (fun _ U U' hal hh h => ⟨h.1, h.2.1.mv hal hh, h.2.2.1, h.2.2.2.1.there hal hh, h.2.2.2.2⟩) (fun r U U' V V' h1 hal h2 h => XT.PureE.mv r U U' V V' h1 hal h2 h) ?_
  intro p e s m args below meth c s₁ X0 hexec hbytes hml hret hlk hnm hown hh0 W hP
  obtain ⟨rfl, hV, hu, s1, rf⟩ := hP
  have v31 := hV.2.2.2
  have hi : i < V.slots.size := (Array.getElem?_eq_some_iff.mp hu).1
  have c1 : Steps p.tables e below (s₁.setTop (entryFrame m #[.ref t, .int (Int32.ofNat i)] 2)) (s₁.setTop (mkF m 0 #[.val (.ref t), .val (.int (Int32.ofNat i))] [])) := entry rfl
  have c2 : Steps p.tables e below (s₁.setTop (entryFrame m #[.ref t, .int (Int32.ofNat i)] 2)) (s₁.setTop (mkF m 3 #[.val (.ref t), .val (.int (Int32.ofNat i))] [.int (Int32.ofNat V.slots.size), .int (Int32.ofNat i)])) := c1.trans (by
    refine XS.iloadN X0.here hexec rfl (hb hbytes d0) rfl ?_
    refine XS.aloadN X0.here hexec rfl (hb hbytes d1) rfl rfl ?_
    refine X0.alen hexec (hV.mv X0.warmed.alike hh0) rfl rfl (hb hbytes d2) ?_
    exact Steps.refl _)
  obtain ⟨v3, T3, X3, E3, g3⟩ := X0.callS hexec (JO.Str_checkIndex.law l (Int32.ofNat i) (Int32.ofNat V.slots.size) fm) hown (wks W (staticW "java/lang/StringLatin1" 9 JO.Str_checkIndex.yN)) (wk W JO.Str_checkIndex.tab) (W := 0) (Nat.le_of_ble_eq_true rfl) (Nat.le_of_ble_eq_true rfl) (Nat.le_refl _) (Nat.le_refl _) (g := (mkF m 3 #[.val (.ref t), .val (.int (Int32.ofNat i))] [.int (Int32.ofNat V.slots.size), .int (Int32.ofNat i)])) rfl (by rw [hml]; rfl) c2 (argsL := [.int (Int32.ofNat i), .int (Int32.ofNat V.slots.size)]) (rest := []) rfl rfl (by show 2 * 0 + 0 ≤ _; decide) (hb hbytes d3) (⟨rfl, rf, s1.there X0.warmed.alike hh0, Int32.ofNat_not_neg (by omega), lt32 v31 hi⟩)
  obtain ⟨rfl, q3⟩ := E3
  have hh3 := q3.trans hh0
  have c4 : Steps p.tables e below (s₁.setTop (entryFrame m #[.ref t, .int (Int32.ofNat i)] 2)) (T3.setTop (mkF m 14 #[.val (.ref t), .val (.int (Int32.ofNat i))] [.int (chr8 u)])) := Steps.trans g3 (by
    refine XS.aloadN X3.here hexec rfl (hb hbytes d6) rfl rfl ?_
    refine XS.iloadN X3.here hexec rfl (hb hbytes d7) rfl ?_
    refine X3.aget hexec (hV.mv X3.warmed.alike hh3) rfl hu rfl rfl (hb hbytes d8) ?_
    refine sipushV X3.here hexec rfl 255 (hb hbytes d9) (by decide) ?_
    refine XS.iand X3.here hexec rfl (hb hbytes d12) rfl ?_
    refine i2c X3.here hexec rfl (hb hbytes d13) rfl ?_
    exact Steps.refl _)
  exact ⟨T3, some (.int (chr8 u)), _, _, _, X3, rfl, rfl, rfl, (fun h => by cases h), ⟨rfl, hh3⟩, fun fs hl => c4.trans (X3.ireturnOut hexec hret (narrow_c _) (Or.inr (Or.inr (Or.inr (Or.inl rfl)))) (hb hbytes d14) hl)⟩
end LChA
end StrChars
namespace StrChars.Road
open Jvm Sem ClassFile Op Lib Jvm.Stand Jvm.Free Jvm.Free.XT
open Jvm.Lib.Cold (StaticIs)
theorem consq {a : Array Value} {s : State} {c : Jvm.Cond} {L : List Jvm.Cond} (h0 : c.before a s = true) (h : ∀ w ∈ L, w.before a s = true) : ∀ w ∈ c :: L, w.before a s = true := fun w hw => (List.mem_cons.mp hw).elim (fun e => e ▸ h0) (h w)
/-- the bytes of the chars cs, low before high -/
def wideBytes : List Int32 → List Value
  | [] => []
  | c :: cs => .int (lo8 c) :: .int (hi8 c) :: wideBytes cs
theorem wide_lo (d : Value) : ∀ (cs : List Int32) (j : Nat), j < cs.length → (wideBytes cs).getD (2 * j) d = .int (lo8 (cs.getD j 0))
  | [], j, h => absurd h (Nat.not_lt_zero j)
  | c :: cs, 0, _ => rfl
  | c :: cs, j + 1, h => by
    have q := wide_lo d cs j (by simpa using h)
    rw [show 2 * (j + 1) = 2 * j + 1 + 1 from by omega]
    simpa [wideBytes] using q
theorem wide_hi (d : Value) : ∀ (cs : List Int32) (j : Nat), j < cs.length → (wideBytes cs).getD (2 * j + 1) d = .int (hi8 (cs.getD j 0))
  | [], j, h => absurd h (Nat.not_lt_zero j)
  | c :: cs, 0, _ => rfl
  | c :: cs, j + 1, h => by
    have q := wide_hi d cs j (by simpa using h)
    rw [show 2 * (j + 1) + 1 = 2 * j + 1 + 1 + 1 from by omega]
    simpa [wideBytes] using q
theorem low_at (d : Value) (cs : List Int32) (j : Nat) (h : j < cs.length) : (cs.map fun c => Value.int (lo8 c)).getD j d = .int (lo8 (cs.getD j 0)) := by
  simp [List.getD_eq_getElem?_getD, h]
/-- an array of N2 bytes vs codes the chars cs by the coder cd -/
def CodA (cs : List Int32) (cd N2 : Int32) (vs : List Value) : Prop := (cd = 0 ∧ N2 = Int32.ofNat cs.length ∧ vs = (cs.map fun c => Value.int (lo8 c)) ∧ ∀ c ∈ cs, ¬ 255 < c) ∨ (cd = 1 ∧ N2 = Int32.ofNat (2 * cs.length) ∧ vs = wideBytes cs ∧ ∃ c ∈ cs, 255 < c)
theorem CodA.cod {cs : List Int32} {cd N2 : Int32} {vs : List Value} {V : Cell} (h : CodA cs cd N2 vs) (hn : 2 * cs.length < 2 ^ 31) (hs : V.slots.size = N2.toNatClampNeg) (hv : RoadKit.Has V vs (.int 0)) : Cod cd cs.length (fun j => cs.getD j 0) V := by
  rcases h with ⟨rfl, rfl, rfl, h⟩ | ⟨rfl, rfl, rfl, c, hc, hw⟩
  · rw [n32 (by omega)] at hs
    exact Or.inl ⟨rfl, hs, fun j hj => ⟨by rw [hv j (by omega), low_at _ _ _ hj], by
      have e : cs.getD j 0 = cs[j] := by simp [List.getD_eq_getElem?_getD, hj]
      show ¬ 255 < cs.getD j 0
      rw [e]; exact h _ (List.getElem_mem _)⟩⟩
  · rw [n32 (by omega)] at hs
    obtain ⟨j, hj, rfl⟩ := List.getElem_of_mem hc
    exact Or.inr ⟨rfl, hs, fun j hj => ⟨by rw [hv _ (by omega), wide_lo _ _ _ hj], by rw [hv _ (by omega), wide_hi _ _ _ hj]⟩, j, hj, by
      have e : cs.getD j 0 = cs[j] := by simp [List.getD_eq_getElem?_getD, hj]
      show 255 < cs.getD j 0
      rw [e]; exact hw⟩
/-- an object of exactly java/lang/String, its two fields found: as the laws ask it -/
theorem strObj {Z U : State} {a0 : Array Value} {kI : Nat} (wi : (Jvm.Cond.instantiable ST kI).before a0 Z = true) (al : Z.vm.Alike U.vm) {x : Addr} {v0 c0 : Value} (E : RoadKit.Exa Z U.heap x ST) (V : RoadKit.Fld Z U.heap x ST "value" "[B" v0) (C : RoadKit.Fld Z U.heap x ST "coder" "B" c0) :
    ∃ (D : Cell) (fV fC : Field), Blank ST x D U ∧ Found ST "value" "[B" fV U ∧ Found ST "coder" "B" fC U ∧ D.slots[fV.slot]? = some v0 ∧ D.slots[fC.slot]? = some c0 ∧ RoadKit.slotOf Z ST "value" "[B" = fV.slot ∧ RoadKit.slotOf Z ST "coder" "B" = fC.slot := by
  obtain ⟨D, cfV, kV, iV, fV, hD, gV, stV, knV, obV, asV, slV⟩ := V
  obtain ⟨D', cfC, kC, iC, fC, hD', gC, stC, -, -, asC, slC⟩ := C
  cases hD.symm.trans hD'
  obtain ⟨D2, kD, e1, e2, e3, e4, e5⟩ := E
  cases hD.symm.trans e1
  obtain ⟨c2, k2, i1, i2, i3, -⟩ := Cond.instantiable_spec wi
  cases e2.symm.trans i1
  cases e3.symm.trans i2
  obtain ⟨kU, u1, u2⟩ := al.2.2 _ _ e3
  exact ⟨D, fV, fC, ⟨hD, ⟨knV, fun q hq => by rw [hq] at obV; cases obV⟩, by rw [al.findClass]; exact e2, kU, u1, by rw [u2]; exact i3, by rw [u2]; exact e5 i3⟩, ⟨SBG.found_only al ⟨cfV, kV, iV, gV⟩, stV⟩, ⟨SBG.found_only al ⟨cfC, kC, iC, gC⟩, stC⟩, slV, slC, by simp [RoadKit.slotOf, gV], by simp [RoadKit.slotOf, gC]⟩
theorem sta_is {Z U : State} (al : Z.vm.Alike U.vm) {C n d : String} {v : Value} (S : RoadKit.Sta Z U.heap C n d v) : StaticIs U C n d v := by
  obtain ⟨cfS, iS, kS, fS, st, cS, t1, t2, t3, t4, t5, t6, t7⟩ := S
  exact StaticIs.there (s := { Z with heap := U.heap }) ⟨cfS, iS, kS, fS, st, cS, t1, t2, t3, t4, t5, (fun q => by rw [q] at t6; cases t6), t7⟩ al rfl
end StrChars.Road
namespace StrChars.Road
open Jvm Sem ClassFile Op Lib Jvm.Stand Jvm.Free Jvm.Free.XT
open Jvm.Lib.Cold (StaticIs)
/-- the road's facts of a String, as the laws ask it -/
theorem txt_of {Z U : State} {a0 : Array Value} {kI : Nat} (wi : (Jvm.Cond.instantiable ST kI).before a0 Z = true) (al : Z.vm.Alike U.vm) {x t : Addr} {kb : ClassId} {cs : List Int32} {cd N2 : Int32} {vs : List Value} (E : RoadKit.Exa Z U.heap x ST) (V : RoadKit.Fld Z U.heap x ST "value" "[B" (.ref t)) (C : RoadKit.Fld Z U.heap x ST "coder" "B" (.int cd)) (K : RoadKit.Arv Z U.heap t kb .byte N2 vs (.int 0)) (hc : CodA cs cd N2 vs) (hb : ∀ c ∈ cs, ¬ c < 0 ∧ ¬ (65535 : Int32) < c) (l2 : cs.length ≤ 4000) :
    ∃ A, Txt x t A cd cs.length (fun j => cs.getD j 0) U := by
  obtain ⟨A, K1, K2, K3, K4, K5, K6⟩ := K
  have hcod := hc.cod (by omega) K3 K5
  obtain ⟨D, fV, fC, hB, F1, F2, g1, g2, -, -⟩ := strObj wi al E V C
  exact ⟨A, ⟨_, hB.2.2.1, D, hB.1, rfl, by cases q : D.vm <;> first | rfl | exact absurd q (hB.2.1.2 _)⟩, Has.of hB F1 g1, Has.of hB F2 g2, ⟨K1.1, State.isArrayOf_alike al K1.2.1, K1.2.2, by rcases hcod with ⟨-, q, -⟩ | ⟨-, q, -⟩ <;> omega⟩, hcod, fun j hj => by
    have e : cs.getD j 0 = cs[j] := by simp [List.getD_eq_getElem?_getD, hj]
    show ¬ cs.getD j 0 < 0 ∧ ¬ 65535 < cs.getD j 0
    rw [e]; exact hb _ (List.getElem_mem _)⟩
end StrChars.Road
namespace StrChars
open Jvm Sem ClassFile Op Lib Jvm.Stand Jvm.Free.XT Jvm.Free.ALB Jvm.Free.JM Jvm.Free
open Jvm.Lib.Cold (StaticIs)
namespace ChN
def yN : MethodName := ⟨"java/lang/String", "charAt", "(I)C"⟩
abbrev yB : ByteArray := jdk_42_method_56_code
theorem d0 : decode yB 0 = .ok (.aload_n 0, 1) := by decide +kernel
theorem d1 : decode yB 1 = .ok (.invokevirtual 492, 3) := by decide +kernel
theorem d4 : decode yB 4 = .ok (.ifCond (.eq) 12, 3) := by decide +kernel
theorem d7 : decode yB 7 = .ok (.aload_n 0, 1) := by decide +kernel
theorem d8 : decode yB 8 = .ok (.getfield 9, 3) := by decide +kernel
theorem d11 : decode yB 11 = .ok (.iload_n 1, 1) := by decide +kernel
theorem d12 : decode yB 12 = .ok (.invokestatic 495, 3) := by decide +kernel
theorem d15 : decode yB 15 = .ok (.ireturn, 1) := by decide +kernel
def site : List Cond := [.fieldLink "java/lang/String" 9 "java/lang/String" "value" "[B", IsL.tab, LChA.tab] ++ virtW "java/lang/String" 492 "java/lang/String" IsL.yN IsL.yN ++ staticW "java/lang/String" 495 LChA.yN
def tab : Cond := tabOf yN yB 2 (some .char) site
def P (x t : Addr) (V : Cell) (n : Nat) (f : Nat → Int32) (z : Int32) (fm : Value) (i : Nat) (args : Array Value) (s : State) : Prop := args = #[.ref x, .int (Int32.ofNat i)] ∧ Txt x t V 0 n f s ∧ i < n ∧ StaticIs s "java/lang/String" "COMPACT_STRINGS" "Z" (.int z) ∧ ¬ z = 0 ∧ StaticIs s "jdk/internal/util/Preconditions" "SIOOBE_FORMATTER" "Ljava/util/function/BiFunction;" fm ∧ fm.isRef = true
def E (f : Nat → Int32) (i : Nat) (r : Option Value) (s u : State) : Prop := XT.PureE (some (.int (f i))) r s u
/-- charAt(i) of a Latin-1 String of n chars, i < n: f i -/
theorem law (l : Launch) (x t : Addr) (V : Cell) (n : Nat) (f : Nat → Int32) (z : Int32) (fm : Value) (i : Nat) : Law l yN 2 1 3 40 yB 2 (some .char) site (P x t V n f z fm i) (E f i) [] 0 0 := by
  refine Law.of_walk (plainFor_of_name (by decide +kernel)) (by decide +kernel) (by decide +kernel) (by decide) (fun _ _ h => by rw [h.1]; rfl) (fun _ U U' hal hh h => ⟨h.1, h.2.1.mv hal hh, h.2.2.1, h.2.2.2.1.there hal hh, h.2.2.2.2.1, h.2.2.2.2.2.1.there hal hh, h.2.2.2.2.2.2⟩) (fun r U U' V V' h1 hal h2 h => XT.PureE.mv r U U' V V' h1 hal h2 h) ?_
  intro p e s m args below meth c s₁ X0 hexec hbytes hml hret hlk hnm hown hh0 W hP
  obtain ⟨rfl, hx, hi, s1, hz, s3, rf⟩ := hP
  have v31 := hx.2.2.2.1.2.2.2
  have hr := hx.2.2.2.2.2 i hi
  have hx0 := hx.mv X0.warmed.alike hh0
  have c1 : Steps p.tables e below (s₁.setTop (entryFrame m #[.ref x, .int (Int32.ofNat i)] 2)) (s₁.setTop (mkF m 1 #[.val (.ref x), .val (.int (Int32.ofNat i))] [.ref x])) := Steps.trans (entry rfl) (by
    show Steps p.tables e below (s₁.setTop (mkF m 0 #[.val (.ref x), .val (.int (Int32.ofNat i))] [])) _
    refine XS.aloadN X0.here hexec rfl (hb hbytes d0) rfl rfl ?_
    exact Steps.refl _)
  obtain ⟨v2, T2, X2, E2, g2⟩ := X0.callV hexec (IsL.law l x 0 z) hown (wks W (virtW "java/lang/String" 492 "java/lang/String" IsL.yN IsL.yN)) rfl (by decide) (wk W IsL.tab) (W := 0) (Nat.le_of_ble_eq_true rfl) (Nat.le_of_ble_eq_true rfl) (Nat.le_refl _) (Nat.le_refl _) (hx0.1.fc X0.warmed.alike) hx0.1.is (g := (mkF m 1 #[.val (.ref x), .val (.int (Int32.ofNat i))] [.ref x])) rfl (by rw [hml]; rfl) c1 (argsL := []) (rest := []) rfl rfl (by show 2 * 0 + 0 ≤ _; decide) (hb hbytes d1) (⟨rfl, hx0.2.2.1, hx.2.2.2.2.1.cd, s1.there X0.warmed.alike hh0, hz⟩)
  obtain ⟨rfl, q2⟩ := E2
  have hh2 := q2.trans hh0
  have hx2 := hx.mv X2.warmed.alike hh2
  obtain ⟨-, k1, k2⟩ | ⟨k0, -⟩ := hx.2.2.2.2.1
  · have c3 : Steps p.tables e below (s₁.setTop (entryFrame m #[.ref x, .int (Int32.ofNat i)] 2)) (T2.setTop (mkF m 8 #[.val (.ref x), .val (.int (Int32.ofNat i))] [.ref x])) := Steps.trans g2 (by
      refine XS.ifNo X2.here hexec rfl (hb hbytes d4) rfl (i0_eq_f (by decide)) ?_
      refine XS.aloadN X2.here hexec rfl (hb hbytes d7) rfl rfl ?_
      exact Steps.refl _)
    obtain ⟨T4, X4, q4, st4⟩ := X2.hget hexec hown (wk W (.fieldLink "java/lang/String" 9 "java/lang/String" "value" "[B")) hx2.2.1 (g := (mkF m 8 #[.val (.ref x), .val (.int (Int32.ofNat i))] [.ref x])) rfl (rest := []) rfl (hb hbytes d8)
    have hh4 := q4.trans hh2
    have c5 : Steps p.tables e below (s₁.setTop (entryFrame m #[.ref x, .int (Int32.ofNat i)] 2)) (T4.setTop (mkF m 12 #[.val (.ref x), .val (.int (Int32.ofNat i))] [.int (Int32.ofNat i), .ref t])) := (c3.trans (st4 _ (Steps.refl _))).trans (by
      refine XS.iloadN X4.here hexec rfl (hb hbytes d11) rfl ?_
      exact Steps.refl _)
    obtain ⟨v6, T6, X6, E6, g6⟩ := X4.callS hexec (LChA.law l t V i (lo8 (f i)) fm) hown (wks W (staticW "java/lang/String" 495 LChA.yN)) (wk W LChA.tab) (W := 0) (Nat.le_of_ble_eq_true rfl) (Nat.le_of_ble_eq_true rfl) (Nat.le_refl _) (Nat.le_refl _) (g := (mkF m 12 #[.val (.ref x), .val (.int (Int32.ofNat i))] [.int (Int32.ofNat i), .ref t])) rfl (by rw [hml]; rfl) c5 (argsL := [.ref t, .int (Int32.ofNat i)]) (rest := []) rfl rfl (by show 2 * 0 + 0 ≤ _; decide) (hb hbytes d12) (⟨rfl, hx.2.2.2.1.mv X4.warmed.alike hh4, (k2 i hi).1, s3.there X4.warmed.alike hh4, rf⟩)
    obtain ⟨rfl, q6⟩ := E6
    rw [chr8_lo8 hr.1 (k2 i hi).2] at g6
    exact ⟨T6, some (.int (f i)), _, _, _, X6, rfl, rfl, rfl, (fun h => by cases h), ⟨rfl, q6.trans hh4⟩, fun fs hl => Steps.trans g6 (X6.ireturnOut hexec hret (narrow_ch hr.1 hr.2) (Or.inr (Or.inr (Or.inr (Or.inl rfl)))) (hb hbytes d15) hl)⟩
  · exact absurd k0 (by decide)
theorem pays {l : Launch} {R : Room} {p : Program} {e : Env} {below : List Frame} {s : State} {sargs : Array Value} {len W : Nat} (x t : Addr) (V : Cell) (n : Nat) (f : Nat → Int32) (z : Int32) (fm : Value) (i : Nat) (htab : tab.before sargs s = true) (hfr : 4 ≤ R.frames) (hlo : W + 53 ≤ R.locals) :
    Back l R p e below s sargs yN len W (fun A₁ a₁ => A₁.cells + 0 ≤ R.cells ∧ A₁.slots + 0 ≤ R.slots ∧ P x t V n f z fm i a₁ A₁.U) (fun A₁ _ v₁ B₁ => E f i v₁ A₁.U B₁.U ∧ B₁.locs = A₁.locs ++ [] ∧ B₁.cells = A₁.cells + 0 ∧ B₁.slots = A₁.slots + 0) :=
  (law l x t V n f z fm i).pays htab hfr (by omega)
end ChN
end StrChars
namespace StrChars.Road
open Jvm Sem ClassFile Op Lib Jvm.Stand Jvm.Free Jvm.Free.XT
open Jvm.Lib.Cold (StaticIs)
/-- the words of String.charAt(int), the Latin-1 road alone -/
abbrev wordsChN : List Jvm.Cond := [.code ChN.yN ChN.yB 2 (some .char), .initialized ST, .fieldLink ST 9 ST "value" "[B", .fieldLink ST 38 ST "COMPACT_STRINGS" "Z", .fieldLink ST 15 ST "coder" "B", .code IsL.yN IsL.yB 1 (some .boolean), .methodLink ST 492 IsL.yN, .declares IsL.yN, .selects ST IsL.yN IsL.yN, .instanceMethod IsL.yN,
  .methodLink ST 495 LChA.yN, .static LChA.yN, .code LChA.yN LChA.yB 2 (some .char), .initialized "java/lang/StringLatin1", .methodLink "java/lang/StringLatin1" 9 JO.Str_checkIndex.yN, .static JO.Str_checkIndex.yN, .code JO.Str_checkIndex.yN JO.Str_checkIndex.yB 2 none,
  .fieldLink ST 1053 "jdk/internal/util/Preconditions" "SIOOBE_FORMATTER" "Ljava/util/function/BiFunction;", .methodLink ST 1059 JC.PreCheck.yN, .static JC.PreCheck.yN, .code JC.PreCheck.yN JC.PreCheck.yB 3 (some .int), .initialized "jdk/internal/util/Preconditions"]
theorem tabChN_of {a : Array Value} {s : State} (h : ∀ w ∈ wordsChN, w.before a s = true) : ChN.tab.before a s = true := by
  have hp : JC.PreCheck.tab.before a s = true := unparts (wk h (.code JC.PreCheck.yN JC.PreCheck.yB 3 (some .int))) (wks h (.initialized JC.PreCheck.yN.cls :: JC.PreCheck.site))
  have qk := consq hp h
  have hk : JO.Str_checkIndex.tab.before a s = true := unparts (wk qk (.code JO.Str_checkIndex.yN JO.Str_checkIndex.yB 2 none)) (wks qk (.initialized JO.Str_checkIndex.yN.cls :: JO.Str_checkIndex.site))
  have ql := consq hk h
  have hl : LChA.tab.before a s = true := unparts (wk ql (.code LChA.yN LChA.yB 2 (some .char))) (wks ql (.initialized LChA.yN.cls :: LChA.site))
  have hi : IsL.tab.before a s = true := unparts (wk h (.code IsL.yN IsL.yB 1 (some .boolean))) (wks h (.initialized IsL.yN.cls :: IsL.site))
  have q := consq hi (consq hl h)
  exact unparts (wk q (.code ChN.yN ChN.yB 2 (some .char))) (wks q (.initialized ChN.yN.cls :: ChN.site))
theorem movedChN {Z s : State} {a0 args : Array Value} (hZ : Z.Warmed39 s.vm) (hw : ∀ d ∈ wordsChN, d.before a0 Z = true) : ∀ d ∈ wordsChN, d.before args s = true := fun d hd => by
  have t : ∀ d ∈ wordsChN, (d.onTables && d.keepsFace) = true := by decide +kernel
  exact RoadKit.mv hZ (hw d hd) (t d hd)
/-- **charAt(i) OF A LATIN-1 STRING**, i < n: the char -/
theorem chN {p : Program} {l : Launch} {e : Env} {R : Room} {s : State} {args : Array Value} {below : List Frame} {len W : Nat} {Z : State} {a0 : Array Value} {h : Heap} (hZ : Z.Warmed39 s.vm) (hw : ∀ d ∈ wordsChN, d.before a0 Z = true) {kI : Nat} (wi : (Jvm.Cond.instantiable ST kI).before a0 Z = true)
    {x t : Addr} {kb : ClassId} {cs : List Int32} {N2 z : Int32} {vs : List Value} {fm : Value} {i : Nat} {j : Int32} (E : RoadKit.Exa Z h x ST) (V : RoadKit.Fld Z h x ST "value" "[B" (.ref t)) (C : RoadKit.Fld Z h x ST "coder" "B" (.int 0)) (K : RoadKit.Arv Z h t kb .byte N2 vs (.int 0)) (hc : CodA cs 0 N2 vs) (hb : ∀ c ∈ cs, ¬ c < 0 ∧ ¬ (65535 : Int32) < c)
    (S : RoadKit.Sta Z h ST "COMPACT_STRINGS" "Z" (.int z)) (hz : ¬ z = 0) (F : RoadKit.Sta Z h "jdk/internal/util/Preconditions" "SIOOBE_FORMATTER" "Ljava/util/function/BiFunction;" fm) (rf : fm.isRef = true) (l2 : cs.length ≤ 4000) (hi : i < cs.length) (hj : j = Int32.ofNat i) (hfr : 4 ≤ R.frames) (hlo : W + 53 ≤ R.locals) :
    Back l R p e below s args (⟨"java/lang/String", "charAt", "(I)C"⟩ : MethodName) len W (fun P a => a = #[.ref x, .int j] ∧ P.U.heap = h ∧ P.cells + 0 ≤ R.cells ∧ P.slots + 0 ≤ R.slots)
      (fun P _ v B => ∃ L, (v = some (.int (cs.getD i 0)) ∧ L = [] ∧ B.U.heap = h) ∧ B.locs = P.locs ++ L ∧ B.cells = P.cells + 0 ∧ B.slots = P.slots + 0) := by
  subst hj
  intro m meth c P g ig mk a X hg hsize hdg hW hn hp'
  obtain ⟨rfl, rfl, r1, r2⟩ := hp'
  have al : Z.vm.Alike P.U.vm := hZ.alike.trans X.warmed.alike
  obtain ⟨A, hx⟩ := txt_of wi al E V C K hc hb l2
  obtain ⟨v, B, X', ⟨⟨hv, hh⟩, hl, hk, hs⟩, st⟩ := ChN.pays x t A cs.length (fun j => cs.getD j 0) z fm i (tabChN_of (movedChN hZ hw)) hfr hlo m meth c P g ig mk _ X hg hsize hdg hW hn ⟨r1, r2, rfl, hx, hi, sta_is al S, hz, sta_is al F, rf⟩
  exact ⟨v, B, X', ⟨[], ⟨hv, rfl, hh⟩, hl, hk, hs⟩, st⟩
/-- what backV says of its String, as the contracts of this text ask it: cs's low bytes, coder 0 -/
theorem codOf {cs : List Int32} {n : Nat} (hn : cs.length = n) (hb : ∀ c ∈ cs, ¬ 255 < c) : CodA cs 0 (Int32.ofNat n) ((cs.map lo8).map Value.int) := Or.inl ⟨rfl, by rw [hn], by simp [List.map_map, Function.comp_def], hb⟩
end StrChars.Road
end Jvm.Pilot.@@N@@

namespace Jvm.Pilot.@@N@@
open Jvm Jvm.ClassFile Sem Op Lib Jvm.Free Jvm.Stand Jvm.LawKit Jvm.RoadKit Bundle Jvm.Pilot.@@N@@.Jvm.D

/-! a String that spells the chars cs (each 0 to 255), its bytes at t -/
def o_Str (Z : State) (h : Heap) (x t : Addr) (cs : List Int32) : Prop := Exa Z h x "java/lang/String" ∧ Fld Z h x "java/lang/String" "coder" "B" (.int 0) ∧ Fld Z h x "java/lang/String" "value" "[B" (.ref t) ∧ (∃ kb, Arv Z h t kb .byte (Int32.ofNat cs.length) ((cs.map fun c => c.toInt8.toInt32).map Value.int) (.int 0)) ∧ (∀ c ∈ cs, ¬ c < 0 ∧ ¬ (255 : Int32) < c) ∧ cs.length ≤ 4000
def o_QP (r : Option Value) (h : Heap) (v : Option Value) (h' : Heap) (L : List Loc) : Prop := v = r ∧ L = [] ∧ h' = h
def o_QN (Z : State) (x : Addr) (cs : List Int32) (h : Heap) (n0 : Nat) (v : Option Value) (h' : Heap) (L : List Loc) : Prop := v = none ∧ Fr n0 L ∧ Keep h h' [x] ∧ ∃ t, n0 ≤ t ∧ h.size ≤ t ∧ ¬ t = x ∧ o_Str Z h' x t cs
section OwnStr
variable {p : Program} {l : Launch} {e : Env} {R : Room} {s : State} {args : Array Value} {below : List Frame} {W n0 : Nat} {Z : State} {a0 : Array Value} {h h' : Heap} {x t y u a : Addr} {cs ds : List Int32} {ws : List Addr} {sl : Nat} {v : Value}
theorem o_Str.ext (E : Ext h h') (F : o_Str Z h x t cs) : o_Str Z h' x t cs := by
  obtain ⟨f1, f2, f3, ⟨kb, f4⟩, f5⟩ := F; exact ⟨f1.ext E, f2.ext E, f3.ext E, ⟨kb, f4.ext E⟩, f5⟩
theorem o_Str.other (F : o_Str Z h x t cs) (Wq : Wr h h' a sl v) (q1 : x ≠ a) (q2 : t ≠ a) : o_Str Z h' x t cs := by
  obtain ⟨f1, f2, f3, ⟨kb, f4⟩, f5⟩ := F; exact ⟨f1.wr Wq, f2.other Wq (Or.inl q1), f3.other Wq (Or.inl q1), ⟨kb, f4.other Wq q2⟩, f5⟩
theorem o_Str.keep (F : o_Str Z h x t cs) (K : Keep h h' ws) (q1 : x ∉ ws) (q2 : t ∉ ws) : o_Str Z h' x t cs := by
  obtain ⟨f1, f2, f3, ⟨kb, f4⟩, f5⟩ := F; exact ⟨f1.keep K, f2.keep K q1, f3.keep K q1, ⟨kb, f4.keep K q2⟩, f5⟩
theorem o_Str.neT {C : String} {n : Nat} (F : o_Str Z h x t cs) (E : Exa Z h y C) (wi : (Jvm.Cond.instantiable C n).before a0 Z = true) : y ≠ t := by
  obtain ⟨_, _, _, ⟨_, f4⟩, _⟩ := F; exact Exa.neArv E f4 wi
theorem o_Str.lt (F : o_Str Z h x t cs) : x < h.size := F.1.lt
theorem o_Str.lt2 (F : o_Str Z h x t cs) : t < h.size := by obtain ⟨_, _, _, ⟨_, f4⟩, _⟩ := F; exact f4.lt
theorem o_up16 (h : ∀ c ∈ cs, ¬ c < 0 ∧ ¬ (255 : Int32) < c) : ∀ c ∈ cs, ¬ c < 0 ∧ ¬ (65535 : Int32) < c := fun c hc => ⟨(h c hc).1, fun q => (h c hc).2 (by
  rw [Int32.lt_iff_toInt_lt] at q ⊢
  have e1 : (65535 : Int32).toInt = 65535 := rfl
  have e2 : (255 : Int32).toInt = 255 := rfl
  omega)⟩
theorem o_cs0 : ∀ c ∈ ([] : List Int32), ¬ c < 0 ∧ ¬ (255 : Int32) < c := fun _ h => nomatch h
theorem o_csS {a : Int32} {L : List Int32} (h1 : ¬ a < 0 ∧ ¬ (255 : Int32) < a) (h2 : ∀ c ∈ L, ¬ c < 0 ∧ ¬ (255 : Int32) < c) : ∀ c ∈ a :: L, ¬ c < 0 ∧ ¬ (255 : Int32) < c := fun c hc => (List.mem_cons.mp hc).elim (fun e => e ▸ h1) (h2 c)
theorem o_strw : ∀ d ∈ StrChars.Road.words, d ∈ tables_1 := by decide +kernel
theorem o_newB {b : Addr} {kC : ClassId} {d v0 c0 : Value} {z N : Int32} {n : Nat} (hZ : Z.Warmed39 s.vm) (hw : ∀ d ∈ tables_1, d.before a0 Z = true) (wi : (Jvm.Cond.instantiable "java/lang/String" 4).before a0 Z = true) (O : Old Z n0 h) (hx0 : n0 ≤ x) (E : Exa Z h x "java/lang/String") (V : Fld Z h x "java/lang/String" "value" "[B" v0) (C : Fld Z h x "java/lang/String" "coder" "B" c0) (K : Arv Z h b kC .char N (cs.map Value.int) d) (S : Sta Z Z.heap "java/lang/String" "COMPACT_STRINGS" "Z" (.int z)) (hz : ¬ z = 0)
    (hn : cs.length = n) (hN : N = Int32.ofNat n) (l0 : 0 < n) (l2 : n ≤ 4000) (hp : ∀ c ∈ cs, ¬ c < 0 ∧ ¬ (255 : Int32) < c) (hfr : 4 ≤ R.frames) (hlo : W + 65 ≤ R.locals) :
    Back l R p e below s args (⟨"java/lang/String", "<init>", "([C)V"⟩ : MethodName) 3 W (fun P a => a = #[.ref x, .ref b] ∧ P.U.heap = h ∧ P.cells + 1 ≤ R.cells ∧ P.slots + n ≤ R.slots)
      (fun P _ v B => ∃ L, o_QN Z x cs h n0 v B.U.heap L ∧ B.locs = P.locs ++ L ∧ B.cells = P.cells + 1 ∧ B.slots = P.slots + n) := by
  have hh0 : n0 ≤ h.size := by rw [← O.1]; exact O.2.1
  refine Back.mono (StrChars.Road.backV hZ (fun d hd => hw d (o_strw d hd)) wi hx0 hh0 E V C K (Sta.ext O.2 S) hz hn hN l0 l2 hp rfl hfr hlo) (fun P a hz => hz) (fun P a v B _ hq => ?_)
  obtain ⟨L, ⟨q1, q2, q3, q4, q5, t, kb, q6, q7, q8, q9, q10⟩, r⟩ := hq
  subst hn hN
  exact ⟨L, ⟨q1, q2, q3, t, q6, q7, q8, q4, q5, q9, ⟨kb, q10⟩, hp, l2⟩, r⟩
theorem o_chw : ∀ d ∈ StrChars.Road.wordsChN, d ∈ tables_1 := by decide +kernel
theorem o_chB {z : Int32} {i : Nat} {j : Int32} {fm : Value} (hZ : Z.Warmed39 s.vm) (hw : ∀ d ∈ tables_1, d.before a0 Z = true) (wi : (Jvm.Cond.instantiable "java/lang/String" 4).before a0 Z = true) (O : Old Z n0 h) (F : o_Str Z h x t cs) (S : Sta Z Z.heap "java/lang/String" "COMPACT_STRINGS" "Z" (.int z)) (hz : ¬ z = 0) (G : Sta Z Z.heap "jdk/internal/util/Preconditions" "SIOOBE_FORMATTER" "Ljava/util/function/BiFunction;" fm) (rf : fm.isRef = true) (hi : i < cs.length) (hj : j = Int32.ofNat i) (hfr : 4 ≤ R.frames) (hlo : W + 53 ≤ R.locals) :
    Back l R p e below s args (⟨"java/lang/String", "charAt", "(I)C"⟩ : MethodName) 3 W (fun P a => a = #[.ref x, .int j] ∧ P.U.heap = h ∧ P.cells + 0 ≤ R.cells ∧ P.slots + 0 ≤ R.slots)
      (fun P _ v B => ∃ L, o_QP (some (.int (cs.getD i 0))) h v B.U.heap L ∧ B.locs = P.locs ++ L ∧ B.cells = P.cells + 0 ∧ B.slots = P.slots + 0) := by
  obtain ⟨f1, f2, f3, ⟨kb, f4⟩, f5, f6⟩ := F
  exact StrChars.Road.chN hZ (fun d hd => hw d (o_chw d hd)) wi f1 f3 f2 f4 (StrChars.Road.codOf rfl fun c hc => (f5 c hc).2) (o_up16 f5) (Sta.ext O.2 S) hz (Sta.ext O.2 G) rf f6 hi hj hfr hlo
end OwnStr
theorem o_shr0 {x : Int32} : x >>> ((0 : Int32) &&& 31) = x := by
  have e : ((0 : Int32) &&& 31) = 0 := by decide
  rw [e]; exact Int32.shiftRight_zero
theorem o_shl0 {x : Int32} : x <<< ((0 : Int32) &&& 31) = x := by
  have e : ((0 : Int32) &&& 31) = 0 := by decide
  rw [e]; exact Int32.shiftLeft_zero
theorem o_cl31 (z : Int32) : z.toNatClampNeg < 2 ^ 31 := by
  have := Int32.toInt_lt z
  simp only [Int32.toNatClampNeg]; omega
theorem o_o32 {n : Nat} (h : n < 2 ^ 31) : (Int32.ofNat n).toInt = n := Int32.toInt_ofNat_of_lt h
theorem o_oc {n : Nat} (h : n < 2 ^ 31) : (Int32.ofNat n).toNatClampNeg = n := by
  simp only [Int32.toNatClampNeg, o_o32 h]; rfl
theorem o_on {n : Nat} (h : n < 2 ^ 31) : ¬ Int32.ofNat n < 0 := by
  rw [Int32.lt_iff_toInt_lt, o_o32 h]; show ¬ (n : Int) < 0; omega
theorem o_oadd (a b : Nat) : Int32.ofNat a + Int32.ofNat b = Int32.ofNat (a + b) := (Int32.ofNat_add a b).symm
theorem o_zi {z : Int32} (h : ¬ z < 0) : z.toInt = (z.toNatClampNeg : Int) := nat_of h
theorem o_cap {a b : Nat} {z : Int32} (hz : ¬ z < 0) (h : a + b ≤ z.toNatClampNeg) : ¬ (0 : Int32) < (Int32.ofNat a + Int32.ofNat b) - z := by
  have hl := o_cl31 z
  rw [o_oadd, Int32.lt_iff_toInt_lt]
  have e0 : (0 : Int32).toInt = 0 := rfl
  have e1 : (Int32.ofNat (a + b) - z).toInt = (Int32.ofNat (a + b)).toInt - z.toInt := by
    rw [Int32.toInt_sub]
    have := o_zi hz
    have := o_o32 (n := a + b) (by omega)
    have h1 : (2 : Int) ^ 31 = 2147483648 := rfl
    rw [Int.bmod_eq_of_le] <;> omega
  rw [e1, o_o32 (by omega), o_zi hz, e0]; omega
abbrev o_V8 (cs : List Int32) : List Value := (cs.map fun c => c.toInt8.toInt32).map Value.int
theorem o_V8len (cs : List Int32) : (o_V8 cs).length = cs.length := by simp [o_V8]
theorem o_V8app (cs ds : List Int32) : o_V8 (cs ++ ds) = o_V8 cs ++ o_V8 ds := by simp [o_V8]
theorem o_V8range (cs : List Int32) : o_V8 cs = (List.range cs.length).map fun i => (o_V8 cs).getD (0 + i) (.int 0) := by
  apply List.ext_getElem
  · simp [o_V8]
  · intro i h1 h2
    simp [o_V8] at h1 ⊢
    simp [h1]
abbrev o_chs (cs : List Int32) : Prop := ∀ c ∈ cs, ¬ c < 0 ∧ ¬ (255 : Int32) < c
theorem o_chsA {cs ds : List Int32} (h1 : o_chs cs) (h2 : o_chs ds) : o_chs (cs ++ ds) := fun c hc => (List.mem_append.mp hc).elim (h1 c) (h2 c)
/-- a StringBuilder b whose bytes at t (z of them) begin with the chars cs -/
def o_Bl (Z : State) (h : Heap) (b t : Addr) (z : Int32) (cs : List Int32) : Prop := Exa Z h b "java/lang/StringBuilder" ∧ Fld Z h b "java/lang/AbstractStringBuilder" "coder" "B" (.int 0) ∧ Fld Z h b "java/lang/AbstractStringBuilder" "value" "[B" (.ref t) ∧ Fld Z h b "java/lang/AbstractStringBuilder" "count" "I" (.int (Int32.ofNat cs.length)) ∧ (∃ k, Arv Z h t k .byte z (o_V8 cs) (.int 0)) ∧ o_chs cs ∧ cs.length ≤ z.toNatClampNeg
section OwnBl
variable {Z : State} {a0 : Array Value} {h h' : Heap} {b t y a : Addr} {z : Int32} {cs ds : List Int32} {ws : List Addr} {sl : Nat} {v : Value}
theorem o_Bl.ext (E : Ext h h') (F : o_Bl Z h b t z cs) : o_Bl Z h' b t z cs := by
  obtain ⟨f1, f2, f3, f6, ⟨kb, f4⟩, f5⟩ := F; exact ⟨f1.ext E, f2.ext E, f3.ext E, f6.ext E, ⟨kb, f4.ext E⟩, f5⟩
theorem o_Bl.other (F : o_Bl Z h b t z cs) (Wq : Wr h h' a sl v) (q1 : b ≠ a) (q2 : t ≠ a) : o_Bl Z h' b t z cs := by
  obtain ⟨f1, f2, f3, f6, ⟨kb, f4⟩, f5⟩ := F; exact ⟨f1.wr Wq, f2.other Wq (Or.inl q1), f3.other Wq (Or.inl q1), f6.other Wq (Or.inl q1), ⟨kb, f4.other Wq q2⟩, f5⟩
theorem o_Bl.keep (F : o_Bl Z h b t z cs) (K : Keep h h' ws) (q1 : b ∉ ws) (q2 : t ∉ ws) : o_Bl Z h' b t z cs := by
  obtain ⟨f1, f2, f3, f6, ⟨kb, f4⟩, f5⟩ := F; exact ⟨f1.keep K, f2.keep K q1, f3.keep K q1, f6.keep K q1, ⟨kb, f4.keep K q2⟩, f5⟩
theorem o_Bl.neT {C : String} {n : Nat} (F : o_Bl Z h b t z cs) (E : Exa Z h y C) (wi : (Jvm.Cond.instantiable C n).before a0 Z = true) : y ≠ t := by
  obtain ⟨_, _, _, _, ⟨_, f4⟩, _⟩ := F; exact Exa.neArv E f4 wi
theorem o_Bl.lt (F : o_Bl Z h b t z cs) : b < h.size := F.1.lt
theorem o_Bl.lt2 (F : o_Bl Z h b t z cs) : t < h.size := by obtain ⟨_, _, _, _, ⟨_, f4⟩, _⟩ := F; exact f4.lt
theorem o_Bl.nn (F : o_Bl Z h b t z cs) : ¬ z < 0 := by obtain ⟨_, _, _, _, ⟨_, c, _, _, _, f, _⟩, _⟩ := F; exact f
theorem o_Bl.l31 (F : o_Bl Z h b t z cs) : cs.length < 2 ^ 31 := Nat.lt_of_le_of_lt F.2.2.2.2.2.2 (o_cl31 z)
theorem o_Bl.safe {EL : List (String × Nat)} {vm : Vm} (F : o_Bl Z h b t z cs) (hZ : Z.Warmed39 vm) (E : o_EN Z a0 EL z.toNatClampNeg) : Safe Z EL vm h t := by
  obtain ⟨_, _, _, _, ⟨_, f4⟩, _⟩ := F; exact o_safeL hZ E f4
theorem o_blMk {k : ClassId} (E : Exa Z h b "java/lang/StringBuilder") (Fc : Fld Z h b "java/lang/AbstractStringBuilder" "coder" "B" (.int 0)) (Fv : Fld Z h b "java/lang/AbstractStringBuilder" "value" "[B" (.ref t)) (Fn : Fld Z h b "java/lang/AbstractStringBuilder" "count" "I" (.int (Int32.ofNat cs.length + Int32.ofNat ds.length))) (A : Arv Z h t k .byte z (o_V8 cs ++ o_V8 ds) (.int 0)) (h1 : o_chs cs) (h2 : o_chs ds) (hs : cs.length + ds.length ≤ z.toNatClampNeg) : o_Bl Z h b t z (cs ++ ds) :=
  ⟨E, Fc, Fv, by rw [List.length_append, ← o_oadd]; exact Fn, ⟨k, by rw [o_V8app]; exact A⟩, o_chsA h1 h2, by rw [List.length_append]; exact hs⟩
theorem o_Str.l31 {x u : Addr} (F : o_Str Z h x u cs) : cs.length < 2 ^ 31 := by
  obtain ⟨_, _, _, ⟨_, c, _, _, f4, _⟩, _, f6⟩ := F; omega
theorem o_nf {s : State} {y y2 : MethodName} {C : String} (hZ : Z.Warmed39 s.vm) (ws : (Cond.selects C y2 y2).before a0 Z = true) (hc : y2.cls = y.cls) : NotFace s y := fun r0 h0 => by
  obtain ⟨c1, r1, m1, -, -, q3, -, k1, hk1, hi1⟩ := Cond.selects_spec (mvT (args := #[]) hZ ws)
  have h1 := findClass_of_methodNamed q3
  rw [hc, findClass_of_methodNamed h0] at h1
  have e : r0.cls = m1.cls := Option.some.inj h1
  exact ⟨k1, by rw [e]; exact hk1, hi1⟩
theorem o_inb {n : Nat} (hz : ¬ z < 0) (hs : n + 1 ≤ z.toNatClampNeg) : ¬ Int32.ofNat n < 0 ∧ Int32.ofNat n < z := by
  have hl := o_cl31 z
  refine ⟨o_on (by omega), ?_⟩
  rw [Int32.lt_iff_toInt_lt, o_o32 (by omega), o_zi hz]; omega
theorem o_nb8 (c : Int32) : nar .byte c.toInt8.toInt32 = c.toInt8.toInt32 := by
  have : c.toInt8.toInt32.toInt8 = c.toInt8 := Int8.toInt8_toInt32 _
  show c.toInt8.toInt32.toInt8.toInt32 = _
  rw [this]
theorem o_olt {n : Nat} (hz : ¬ z < 0) (hs : n < z.toNatClampNeg) : Int32.ofNat n < z := (o_inb hz hs).2
theorem o_one {n : Nat} (hz : ¬ z < 0) (hs : n < z.toNatClampNeg) : ¬ Int32.ofNat n = z := fun e => by
  have := o_olt hz hs; rw [e] at this; exact Int32.lt_irrefl this
end OwnBl
theorem o_b127 {c : Int32} (h1 : ¬ c < 0) (h2 : ¬ (127 : Int32) < c) : c.toInt8.toInt32 = c := by
  rw [Int32.lt_iff_toInt_lt] at h1 h2
  have e0 : (0 : Int32).toInt = 0 := rfl
  have e1 : (127 : Int32).toInt = 127 := rfl
  rw [← Int32.toInt_inj, Int8.toInt_toInt32, Int32.toInt_toInt8, Int.bmod_eq_of_le] <;> omega
abbrev o_asc (cs : List Int32) : Prop := ∀ c ∈ cs, ¬ c < 0 ∧ ¬ (127 : Int32) < c
theorem o_asc0 : o_asc [] := fun _ h => nomatch h
theorem o_ascS {a : Int32} {L : List Int32} (h1 : ¬ a < 0 ∧ ¬ (127 : Int32) < a) (h2 : o_asc L) : o_asc (a :: L) := fun c hc => (List.mem_cons.mp hc).elim (fun e => e ▸ h1) (h2 c)
theorem o_ascA {cs ds : List Int32} (h1 : o_asc cs) (h2 : o_asc ds) : o_asc (cs ++ ds) := fun c hc => (List.mem_append.mp hc).elim (h1 c) (h2 c)
theorem o_getnn {cs : List Int32} {i : Nat} (h : o_asc cs) (hi : i < cs.length) : ¬ (cs.getD i 0).toInt8.toInt32 < 0 := by
  have e : cs.getD i 0 = cs[i] := by simp [hi]
  have q := h cs[i] (List.getElem_mem hi)
  rw [e, o_b127 q.1 q.2]; exact q.1
theorem o_V8get {cs : List Int32} {i : Nat} (hi : i < cs.length) : (o_V8 cs).getD i (.int 0) = .int (cs.getD i 0).toInt8.toInt32 := by simp [o_V8, hi]
theorem o_ltO {i n : Nat} (h : i < n) (hn : n < 2 ^ 31) : Int32.ofNat i < Int32.ofNat n := by
  rw [Int32.lt_iff_toInt_lt, o_o32 (by omega), o_o32 hn]; omega
theorem o_nltO {i n : Nat} (h : i = n) : ¬ Int32.ofNat i < Int32.ofNat n := by subst h; exact fun q => Int32.lt_irrefl q

theorem o_not_zero {t : Term} {z : Int32} {args : Array Value} {Z : State} (h : (Jvm.Cond.not (.eq t (.int 0))).value args Z none Z [] = some true) (e : t.eval args Z none [] Z = some (.int z)) : ¬ z = 0 := fun q => by
  have h1 := not_v h
  subst q
  simp [Jvm.Cond.value, e, Term.eval] at h1
theorem o_k {Z : State} {a0 : Array Value} (hw : ∀ d ∈ tables_1, d.before a0 Z = true) (i : Nat) {d : Jvm.Cond} (h : tables_1[i]? = some d) : d.before a0 Z = true := hw d (List.mem_of_getElem? h)
abbrev o_SC (Z : State) (z : Int32) : Prop := Sta Z Z.heap "java/lang/String" "COMPACT_STRINGS" "Z" (.int z)
abbrev o_m0 : MethodName := ⟨"java/lang/String", "coder", "()B"⟩
abbrev o_R0 : Room := ({ frames := 0, cells := 0, slots := 0, locals := 0 } : Room)
abbrev o_m1 : MethodName := ⟨"java/lang/String", "isLatin1", "()Z"⟩
abbrev o_m2 : MethodName := ⟨"java/lang/String", "length", "()I"⟩
abbrev o_R1 : Room := ({ frames := 1, cells := 0, slots := 0, locals := 13 } : Room)
abbrev o_m3 : MethodName := ⟨"java/lang/AbstractStringBuilder", "ensureCapacityInternal", "(I)V"⟩
abbrev o_m4 : MethodName := ⟨"java/lang/AbstractStringBuilder", "inflateIfNeededFor", "(Ljava/lang/String;)V"⟩
abbrev o_m5 : MethodName := ⟨"java/lang/String", "getBytes", "([BIB)V"⟩
abbrev o_R2 : Room := ({ frames := 1, cells := 0, slots := 0, locals := 18 } : Room)
abbrev o_m6 : MethodName := ⟨"java/lang/AbstractStringBuilder", "putStringAt", "(ILjava/lang/String;)V"⟩
abbrev o_R3 : Room := ({ frames := 2, cells := 0, slots := 0, locals := 40 } : Room)
abbrev o_m7 : MethodName := ⟨"java/lang/AbstractStringBuilder", "append", "(Ljava/lang/String;)Ljava/lang/AbstractStringBuilder;"⟩
abbrev o_R4 : Room := ({ frames := 3, cells := 0, slots := 0, locals := 60 } : Room)
abbrev o_m8 : MethodName := ⟨"java/lang/StringBuilder", "append", "(Ljava/lang/String;)Ljava/lang/StringBuilder;"⟩
abbrev o_R5 : Room := ({ frames := 4, cells := 0, slots := 0, locals := 75 } : Room)
abbrev o_m9 : MethodName := ⟨"java/lang/StringBuilder", "append", "(Ljava/lang/String;)Ljava/lang/AbstractStringBuilder;"⟩
abbrev o_R6 : Room := ({ frames := 5, cells := 0, slots := 0, locals := 90 } : Room)
abbrev o_m10 : MethodName := ⟨"java/lang/StringLatin1", "canEncode", "(C)Z"⟩
abbrev o_m11 : MethodName := ⟨"java/lang/AbstractStringBuilder", "isLatin1", "()Z"⟩
abbrev o_m12 : MethodName := ⟨"java/lang/AbstractStringBuilder", "append", "(C)Ljava/lang/AbstractStringBuilder;"⟩
abbrev o_R7 : Room := ({ frames := 1, cells := 0, slots := 0, locals := 20 } : Room)
abbrev o_m13 : MethodName := ⟨"java/lang/StringBuilder", "append", "(C)Ljava/lang/StringBuilder;"⟩
abbrev o_m14 : MethodName := ⟨"java/lang/AbstractStringBuilder", "getValue", "()[B"⟩
abbrev o_m15 : MethodName := ⟨"java/lang/AbstractStringBuilder", "length", "()I"⟩
abbrev o_m16 : MethodName := ⟨"java/lang/StringBuilder", "length", "()I"⟩
abbrev o_m17 : MethodName := ⟨"java/lang/Math", "min", "(II)I"⟩
abbrev o_m18 : MethodName := ⟨"java/util/Arrays", "checkLength", "(II)V"⟩
abbrev o_m19 : MethodName := ⟨"java/util/Arrays", "copyOfRangeByte", "([BII)[B"⟩
abbrev o_R8 : Room := ({ frames := 1, cells := 1, slots := 30, locals := 24 } : Room)
abbrev o_m20 : MethodName := ⟨"java/util/Arrays", "copyOfRange", "([BII)[B"⟩
abbrev o_R9 : Room := ({ frames := 2, cells := 1, slots := 30, locals := 44 } : Room)
abbrev o_m21 : MethodName := ⟨"java/lang/String", "<init>", "(Ljava/lang/AbstractStringBuilder;Ljava/lang/Void;)V"⟩
abbrev o_R10 : Room := ({ frames := 3, cells := 1, slots := 30, locals := 64 } : Room)
abbrev o_m22 : MethodName := ⟨"java/lang/String", "<init>", "(Ljava/lang/StringBuilder;)V"⟩
abbrev o_R11 : Room := ({ frames := 4, cells := 1, slots := 30, locals := 84 } : Room)
abbrev o_m23 : MethodName := ⟨"java/lang/StringBuilder", "toString", "()Ljava/lang/String;"⟩
abbrev o_R12 : Room := ({ frames := 5, cells := 2, slots := 34, locals := 104 } : Room)
abbrev o_m24 : MethodName := ⟨"java/lang/StringCoding", "countPositives", "([BII)I"⟩
abbrev o_m25 : MethodName := ⟨"java/lang/StringCoding", "hasNegatives", "([BII)Z"⟩
abbrev o_m26 : MethodName := ⟨"java/lang/String", "encodeUTF8", "(B[BZ)[B"⟩
abbrev o_R13 : Room := ({ frames := 2, cells := 1, slots := 30, locals := 40 } : Room)
abbrev o_m27 : MethodName := ⟨"java/lang/String", "encode", "(Ljava/nio/charset/Charset;B[B)[B"⟩
abbrev o_R14 : Room := ({ frames := 3, cells := 1, slots := 30, locals := 62 } : Room)
abbrev o_m28 : MethodName := ⟨"java/lang/String", "getBytes", "(Ljava/nio/charset/Charset;)[B"⟩
abbrev o_R15 : Room := ({ frames := 4, cells := 1, slots := 30, locals := 80 } : Room)
abbrev o_m29 : MethodName := ⟨"java/lang/String", "<init>", "([CIILjava/lang/Void;)V"⟩
abbrev o_R16 : Room := ({ frames := 1, cells := 2, slots := 4, locals := 16 } : Room)
abbrev o_m30 : MethodName := ⟨"java/lang/String", "<init>", "([C)V"⟩
abbrev o_R17 : Room := ({ frames := 2, cells := 2, slots := 4, locals := 40 } : Room)
abbrev o_m31 : MethodName := ⟨"java/lang/AbstractStringBuilder", "<init>", "(Ljava/lang/String;)V"⟩
abbrev o_R18 : Room := ({ frames := 6, cells := 1, slots := 31, locals := 108 } : Room)
abbrev o_m32 : MethodName := ⟨"java/lang/StringBuilder", "<init>", "(Ljava/lang/String;)V"⟩
abbrev o_R19 : Room := ({ frames := 7, cells := 1, slots := 31, locals := 126 } : Room)
abbrev o_m33 : MethodName := ⟨"com/example/scholion/scholion/http/Html", "<init>", "()V"⟩
abbrev o_R20 : Room := ({ frames := 8, cells := 4, slots := 110, locals := 146 } : Room)
abbrev o_m34 : MethodName := ⟨"com/example/scholion/scholion/http/Html", "close", "(Ljava/lang/String;)Lcom/example/scholion/scholion/http/Html;"⟩
abbrev o_R21 : Room := ({ frames := 5, cells := 2, slots := 12, locals := 100 } : Room)
abbrev o_m35 : MethodName := ⟨"com/example/scholion/scholion/http/Html", "bytes", "()[B"⟩
abbrev o_R22 : Room := ({ frames := 6, cells := 3, slots := 66, locals := 130 } : Room)
abbrev o_m36 : MethodName := ⟨"com/example/scholion/scholion/http/HtmlClosePinLaw", "head", "([B)Z"⟩
abbrev o_R23 : Room := ({ frames := 4, cells := 2, slots := 64, locals := 58 } : Room)
abbrev o_m37 : MethodName := ⟨"java/lang/String", "charAt", "(I)C"⟩
theorem o_narB {P : Prop} [Decidable P] : nar .boolean (if P then 1 else 0) = (if P then 1 else 0) := by by_cases q : P <;> simp [q] <;> decide
def o_EL : List (String × Nat) := [("java/lang/String", 7), ("com/example/scholion/scholion/http/Html", 9), ("com/example/scholion/scholion/http/Html", 32), ("com/example/scholion/scholion/http/HtmlClosePinLaw", 29)]
theorem o_EWs {Z : State} {a0 : Array Value} (hw : ∀ d ∈ tables_1, d.before a0 Z = true) : EW Z a0 o_EL := (EW.cons (o_k hw 14 rfl) (by decide) (EW.cons (o_k hw 32 rfl) (by decide) (EW.cons (o_k hw 108 rfl) (by decide) (EW.cons (o_k hw 209 rfl) (by decide) EW.nil))))
theorem o_ENs {Z : State} {a0 : Array Value} (hw : ∀ d ∈ tables_1, d.before a0 Z = true) : o_EN Z a0 o_EL (31 : Int32).toNatClampNeg := (o_EN.cons (o_k hw 14 rfl) (by decide) (by decide) (o_EN.cons (o_k hw 32 rfl) (by decide) (by decide) (o_EN.cons (o_k hw 108 rfl) (by decide) (by decide) (o_EN.cons (o_k hw 209 rfl) (by decide) (by decide) o_EN.nil))))
theorem o_ELsub : ∀ p ∈ o_EL, p ∈ consts_1 := by decide
theorem o_strat : ∀ d ∈ Bundle.stringAtoms, d ∈ tables_1 := by decide +kernel
abbrev o_doc : List Int32 := [60, 33, 68, 79, 67, 84, 89, 80, 69, 32, 104, 116, 109, 108, 62]
abbrev o_lt : List Int32 := [60, 47]
theorem o_chr7 (x : Int32) : ∃ c : Int32, x &&& 127 = c ∧ (x &&& 127).toUInt32.toUInt16.toUInt32.toInt32 = c ∧ nar .char c = c ∧ ¬ c < 0 ∧ ¬ (255 : Int32) < c ∧ ¬ (127 : Int32) < c := by
  have h : (x &&& 127).toInt = x.toInt % 128 := Jvm.Kit.i32_mask x 127 (k := 7) (by decide) (by decide)
  have e : (x &&& 127) &&& 255 = x &&& 127 := by rw [Int32.and_assoc]; rfl
  obtain ⟨c, e1, e2, e3, e4, e5⟩ := o_chr (x &&& 127)
  rw [e] at e1 e2
  refine ⟨c, e1.symm, e2, e3, e4, e5, ?_⟩
  rw [e1, Int32.lt_iff_toInt_lt, h]
  have : (127 : Int32).toInt = 127 := rfl
  omega
theorem o_and3 (x : Int32) : x &&& 3 = 0 ∨ x &&& 3 = 1 ∨ x &&& 3 = 2 ∨ x &&& 3 = 3 := by
  have h : (x &&& 3).toInt = x.toInt % 4 := Jvm.Kit.i32_mask x 3 (k := 2) (by decide) (by decide)
  have e0 : (0 : Int32).toInt = 0 := rfl
  have e1 : (1 : Int32).toInt = 1 := rfl
  have e2 : (2 : Int32).toInt = 2 := rfl
  have e3 : (3 : Int32).toInt = 3 := rfl
  simp only [← Int32.toInt_inj]
  omega
theorem o_l15 {j nn : Int32} (h : (14 : Int32) < nn) (hj : j ≤ 14) : j < nn := by
  rw [Int32.lt_iff_toInt_lt] at h ⊢
  rw [Int32.le_iff_toInt_le] at hj
  omega

theorem o_ef0 (m : MethodId) (x0 : Addr) : entryFrame m #[(.ref x0)] 1 = mkF m 0 #[.val (.ref x0)] [] := by first | (simp [entryFrame, mkF, argsToLocals, Value.category]; done) | rfl
theorem o_pn_0 : plainName "java/lang/String" = true := by first | (simp [plainName, overriddenIn]; done) | decide +kernel
theorem oD0_0 : decode jdk_42_method_152_code 0 = .ok (.getstatic 38, 3) := by decide +kernel
theorem oD0_3 : decode jdk_42_method_152_code 3 = .ok (.ifCond .eq 10, 3) := by decide +kernel
theorem oD0_6 : decode jdk_42_method_152_code 6 = .ok (.aload_n 0, 1) := by decide +kernel
theorem oD0_7 : decode jdk_42_method_152_code 7 = .ok (.getfield 15, 3) := by decide +kernel
theorem oD0_10 : decode jdk_42_method_152_code 10 = .ok (.goto 4, 3) := by decide +kernel
theorem oD0_14 : decode jdk_42_method_152_code 14 = .ok (.ireturn, 1) := by decide +kernel
theorem oD1_0 : decode jdk_42_method_154_code 0 = .ok (.getstatic 38, 3) := by decide +kernel
theorem oD1_3 : decode jdk_42_method_154_code 3 = .ok (.ifCond .eq 14, 3) := by decide +kernel
theorem oD1_6 : decode jdk_42_method_154_code 6 = .ok (.aload_n 0, 1) := by decide +kernel
theorem oD1_7 : decode jdk_42_method_154_code 7 = .ok (.getfield 15, 3) := by decide +kernel
theorem oD1_10 : decode jdk_42_method_154_code 10 = .ok (.ifCond .ne 7, 3) := by decide +kernel
theorem oD1_13 : decode jdk_42_method_154_code 13 = .ok (.iconst 1, 1) := by decide +kernel
theorem oD1_14 : decode jdk_42_method_154_code 14 = .ok (.goto 4, 3) := by decide +kernel
theorem oD1_18 : decode jdk_42_method_154_code 18 = .ok (.ireturn, 1) := by decide +kernel
theorem oD2_0 : decode jdk_42_method_54_code 0 = .ok (.aload_n 0, 1) := by decide +kernel
theorem oD2_1 : decode jdk_42_method_54_code 1 = .ok (.getfield 9, 3) := by decide +kernel
theorem oD2_4 : decode jdk_42_method_54_code 4 = .ok (.arraylength, 1) := by decide +kernel
theorem oD2_5 : decode jdk_42_method_54_code 5 = .ok (.aload_n 0, 1) := by decide +kernel
theorem oD2_6 : decode jdk_42_method_54_code 6 = .ok (.invokevirtual 335, 3) := by decide +kernel
theorem o_pd__28_29B : parseMethodDescriptor "()B" = some ⟨[], some .byte⟩ := by decide +kernel
theorem oD2_9 : decode jdk_42_method_54_code 9 = .ok (.ishr, 1) := by decide +kernel
theorem oD2_10 : decode jdk_42_method_54_code 10 = .ok (.ireturn, 1) := by decide +kernel
theorem o_ef1 (m : MethodId) (x0 : Addr) (x1 : Int32) : entryFrame m #[(.ref x0), (.int x1)] 3 = mkF m 0 #[.val (.ref x0), .val (.int x1), .unset] [] := by first | (simp [entryFrame, mkF, argsToLocals, Value.category]; done) | rfl
theorem o_pn_1 : plainName "java/lang/AbstractStringBuilder" = true := by first | (simp [plainName, overriddenIn]; done) | decide +kernel
theorem oD3_0 : decode jdk_68_method_9_code 0 = .ok (.aload_n 0, 1) := by decide +kernel
theorem oD3_1 : decode jdk_68_method_9_code 1 = .ok (.getfield 15, 3) := by decide +kernel
theorem oD3_4 : decode jdk_68_method_9_code 4 = .ok (.arraylength, 1) := by decide +kernel
theorem oD3_5 : decode jdk_68_method_9_code 5 = .ok (.aload_n 0, 1) := by decide +kernel
theorem oD3_6 : decode jdk_68_method_9_code 6 = .ok (.getfield 22, 3) := by decide +kernel
theorem oD3_9 : decode jdk_68_method_9_code 9 = .ok (.ishr, 1) := by decide +kernel
theorem oD3_10 : decode jdk_68_method_9_code 10 = .ok (.istore_n 2, 1) := by decide +kernel
theorem oD3_11 : decode jdk_68_method_9_code 11 = .ok (.iload_n 1, 1) := by decide +kernel
theorem oD3_12 : decode jdk_68_method_9_code 12 = .ok (.iload_n 2, 1) := by decide +kernel
theorem oD3_13 : decode jdk_68_method_9_code 13 = .ok (.isub, 1) := by decide +kernel
theorem oD3_14 : decode jdk_68_method_9_code 14 = .ok (.ifCond .le 24, 3) := by decide +kernel
theorem oD3_38 : decode jdk_68_method_9_code 38 = .ok (.return_, 1) := by decide +kernel
theorem o_ef2 (m : MethodId) (x0 : Addr) (x1 : Addr) : entryFrame m #[(.ref x0), (.ref x1)] 2 = mkF m 0 #[.val (.ref x0), .val (.ref x1)] [] := by first | (simp [entryFrame, mkF, argsToLocals, Value.category]; done) | rfl
theorem oD4_0 : decode jdk_68_method_71_code 0 = .ok (.getstatic 18, 3) := by decide +kernel
theorem oD4_3 : decode jdk_68_method_71_code 3 = .ok (.ifCond .eq 18, 3) := by decide +kernel
theorem oD4_6 : decode jdk_68_method_71_code 6 = .ok (.aload_n 0, 1) := by decide +kernel
theorem oD4_7 : decode jdk_68_method_71_code 7 = .ok (.getfield 22, 3) := by decide +kernel
theorem oD4_10 : decode jdk_68_method_71_code 10 = .ok (.aload_n 1, 1) := by decide +kernel
theorem oD4_11 : decode jdk_68_method_71_code 11 = .ok (.invokevirtual 40, 3) := by decide +kernel
theorem oD4_14 : decode jdk_68_method_71_code 14 = .ok (.if_icmp .eq 7, 3) := by decide +kernel
theorem oD4_21 : decode jdk_68_method_71_code 21 = .ok (.return_, 1) := by decide +kernel
theorem o_ef3 (m : MethodId) (x0 : Addr) (x1 : Addr) (x2 : Int32) : entryFrame m #[(.ref x0), (.ref x1), (.int x2), (.int 0)] 4 = mkF m 0 #[.val (.ref x0), .val (.ref x1), .val (.int x2), .val (.int 0)] [] := by first | (simp [entryFrame, mkF, argsToLocals, Value.category]; done) | rfl
theorem oD5_0 : decode jdk_42_method_147_code 0 = .ok (.aload_n 0, 1) := by decide +kernel
theorem oD5_1 : decode jdk_42_method_147_code 1 = .ok (.invokevirtual 335, 3) := by decide +kernel
theorem oD5_4 : decode jdk_42_method_147_code 4 = .ok (.iload_n 3, 1) := by decide +kernel
theorem oD5_5 : decode jdk_42_method_147_code 5 = .ok (.if_icmp .ne 23, 3) := by decide +kernel
theorem oD5_8 : decode jdk_42_method_147_code 8 = .ok (.aload_n 0, 1) := by decide +kernel
theorem oD5_9 : decode jdk_42_method_147_code 9 = .ok (.getfield 9, 3) := by decide +kernel
theorem oD5_12 : decode jdk_42_method_147_code 12 = .ok (.iconst 0, 1) := by decide +kernel
theorem oD5_13 : decode jdk_42_method_147_code 13 = .ok (.aload_n 1, 1) := by decide +kernel
theorem oD5_14 : decode jdk_42_method_147_code 14 = .ok (.iload_n 2, 1) := by decide +kernel
theorem oD5_15 : decode jdk_42_method_147_code 15 = .ok (.iload_n 3, 1) := by decide +kernel
theorem oD5_16 : decode jdk_42_method_147_code 16 = .ok (.ishl, 1) := by decide +kernel
theorem oD5_17 : decode jdk_42_method_147_code 17 = .ok (.aload_n 0, 1) := by decide +kernel
theorem oD5_18 : decode jdk_42_method_147_code 18 = .ok (.getfield 9, 3) := by decide +kernel
theorem oD5_21 : decode jdk_42_method_147_code 21 = .ok (.arraylength, 1) := by decide +kernel
theorem oD5_22 : decode jdk_42_method_147_code 22 = .ok (.invokestatic 212, 3) := by decide +kernel
theorem oD5_25 : decode jdk_42_method_147_code 25 = .ok (.goto 18, 3) := by decide +kernel
theorem oD5_43 : decode jdk_42_method_147_code 43 = .ok (.return_, 1) := by decide +kernel
theorem o_ef4 (m : MethodId) (x0 : Addr) (x1 : Int32) (x2 : Addr) : entryFrame m #[(.ref x0), (.int x1), (.ref x2)] 3 = mkF m 0 #[.val (.ref x0), .val (.int x1), .val (.ref x2)] [] := by first | (simp [entryFrame, mkF, argsToLocals, Value.category]; done) | rfl
theorem oD6_0 : decode jdk_68_method_73_code 0 = .ok (.aload_n 0, 1) := by decide +kernel
theorem oD6_1 : decode jdk_68_method_73_code 1 = .ok (.aload_n 2, 1) := by decide +kernel
theorem oD6_2 : decode jdk_68_method_73_code 2 = .ok (.invokevirtual 397, 3) := by decide +kernel
theorem o_pd__28Ljava_2flang_2fString_3b_29V : parseMethodDescriptor "(Ljava/lang/String;)V" = some ⟨[(.object "java/lang/String")], none⟩ := by decide +kernel
theorem oD6_5 : decode jdk_68_method_73_code 5 = .ok (.aload_n 2, 1) := by decide +kernel
theorem oD6_6 : decode jdk_68_method_73_code 6 = .ok (.aload_n 0, 1) := by decide +kernel
theorem oD6_7 : decode jdk_68_method_73_code 7 = .ok (.getfield 15, 3) := by decide +kernel
theorem oD6_10 : decode jdk_68_method_73_code 10 = .ok (.iload_n 1, 1) := by decide +kernel
theorem oD6_11 : decode jdk_68_method_73_code 11 = .ok (.aload_n 0, 1) := by decide +kernel
theorem oD6_12 : decode jdk_68_method_73_code 12 = .ok (.getfield 22, 3) := by decide +kernel
theorem oD6_15 : decode jdk_68_method_73_code 15 = .ok (.invokevirtual 399, 3) := by decide +kernel
theorem o_pd__28_5bBIB_29V : parseMethodDescriptor "([BIB)V" = some ⟨[(.array .byte), .int, .byte], none⟩ := by decide +kernel
theorem oD6_18 : decode jdk_68_method_73_code 18 = .ok (.return_, 1) := by decide +kernel
theorem o_ef5 (m : MethodId) (x0 : Addr) (x1 : Addr) : entryFrame m #[(.ref x0), (.ref x1)] 3 = mkF m 0 #[.val (.ref x0), .val (.ref x1), .unset] [] := by first | (simp [entryFrame, mkF, argsToLocals, Value.category]; done) | rfl
theorem oD7_0 : decode jdk_68_method_22_code 0 = .ok (.aload_n 1, 1) := by decide +kernel
theorem oD7_1 : decode jdk_68_method_22_code 1 = .ok (.ifnonnull 8, 3) := by decide +kernel
theorem oD7_9 : decode jdk_68_method_22_code 9 = .ok (.aload_n 1, 1) := by decide +kernel
theorem oD7_10 : decode jdk_68_method_22_code 10 = .ok (.invokevirtual 32, 3) := by decide +kernel
theorem o_pd__28_29I : parseMethodDescriptor "()I" = some ⟨[], some .int⟩ := by decide +kernel
theorem oD7_13 : decode jdk_68_method_22_code 13 = .ok (.istore_n 2, 1) := by decide +kernel
theorem oD7_14 : decode jdk_68_method_22_code 14 = .ok (.aload_n 0, 1) := by decide +kernel
theorem oD7_15 : decode jdk_68_method_22_code 15 = .ok (.aload_n 0, 1) := by decide +kernel
theorem oD7_16 : decode jdk_68_method_22_code 16 = .ok (.getfield 79, 3) := by decide +kernel
theorem oD7_19 : decode jdk_68_method_22_code 19 = .ok (.iload_n 2, 1) := by decide +kernel
theorem oD7_20 : decode jdk_68_method_22_code 20 = .ok (.iadd, 1) := by decide +kernel
theorem oD7_21 : decode jdk_68_method_22_code 21 = .ok (.invokevirtual 100, 3) := by decide +kernel
theorem o_pd__28I_29V : parseMethodDescriptor "(I)V" = some ⟨[.int], none⟩ := by decide +kernel
theorem oD7_24 : decode jdk_68_method_22_code 24 = .ok (.aload_n 0, 1) := by decide +kernel
theorem oD7_25 : decode jdk_68_method_22_code 25 = .ok (.aload_n 0, 1) := by decide +kernel
theorem oD7_26 : decode jdk_68_method_22_code 26 = .ok (.getfield 79, 3) := by decide +kernel
theorem oD7_29 : decode jdk_68_method_22_code 29 = .ok (.aload_n 1, 1) := by decide +kernel
theorem oD7_30 : decode jdk_68_method_22_code 30 = .ok (.invokevirtual 208, 3) := by decide +kernel
theorem o_pd__28ILjava_2flang_2fString_3b_29V : parseMethodDescriptor "(ILjava/lang/String;)V" = some ⟨[.int, (.object "java/lang/String")], none⟩ := by decide +kernel
theorem oD7_33 : decode jdk_68_method_22_code 33 = .ok (.aload_n 0, 1) := by decide +kernel
theorem oD7_34 : decode jdk_68_method_22_code 34 = .ok (.dup, 1) := by decide +kernel
theorem oD7_35 : decode jdk_68_method_22_code 35 = .ok (.getfield 79, 3) := by decide +kernel
theorem oD7_38 : decode jdk_68_method_22_code 38 = .ok (.iload_n 2, 1) := by decide +kernel
theorem oD7_39 : decode jdk_68_method_22_code 39 = .ok (.iadd, 1) := by decide +kernel
theorem oD7_40 : decode jdk_68_method_22_code 40 = .ok (.putfield 79, 3) := by decide +kernel
theorem oD7_43 : decode jdk_68_method_22_code 43 = .ok (.aload_n 0, 1) := by decide +kernel
theorem oD7_44 : decode jdk_68_method_22_code 44 = .ok (.areturn, 1) := by decide +kernel
theorem o_pn_2 : plainName "java/lang/StringBuilder" = true := by first | (simp [plainName, overriddenIn]; done) | decide +kernel
theorem oD8_0 : decode jdk_67_method_7_code 0 = .ok (.aload_n 0, 1) := by decide +kernel
theorem oD8_1 : decode jdk_67_method_7_code 1 = .ok (.aload_n 1, 1) := by decide +kernel
theorem oD8_2 : decode jdk_67_method_7_code 2 = .ok (.invokespecial 29, 3) := by decide +kernel
theorem o_pd__28Ljava_2flang_2fString_3b_29Ljava_2flang_2fAbstractStringBuilder_3b : parseMethodDescriptor "(Ljava/lang/String;)Ljava/lang/AbstractStringBuilder;" = some ⟨[(.object "java/lang/String")], some (.object "java/lang/AbstractStringBuilder")⟩ := by decide +kernel
theorem oD8_5 : decode jdk_67_method_7_code 5 = .ok (.pop, 1) := by decide +kernel
theorem oD8_6 : decode jdk_67_method_7_code 6 = .ok (.aload_n 0, 1) := by decide +kernel
theorem oD8_7 : decode jdk_67_method_7_code 7 = .ok (.areturn, 1) := by decide +kernel
theorem oD9_0 : decode jdk_67_method_80_code 0 = .ok (.aload_n 0, 1) := by decide +kernel
theorem oD9_1 : decode jdk_67_method_80_code 1 = .ok (.aload_n 1, 1) := by decide +kernel
theorem oD9_2 : decode jdk_67_method_80_code 2 = .ok (.invokevirtual 23, 3) := by decide +kernel
theorem o_pd__28Ljava_2flang_2fString_3b_29Ljava_2flang_2fStringBuilder_3b : parseMethodDescriptor "(Ljava/lang/String;)Ljava/lang/StringBuilder;" = some ⟨[(.object "java/lang/String")], some (.object "java/lang/StringBuilder")⟩ := by decide +kernel
theorem oD9_5 : decode jdk_67_method_80_code 5 = .ok (.areturn, 1) := by decide +kernel
theorem o_ef6 (m : MethodId) (x0 : Int32) : entryFrame m #[(.int x0)] 1 = mkF m 0 #[.val (.int x0)] [] := by first | (simp [entryFrame, mkF, argsToLocals, Value.category]; done) | rfl
theorem o_pn_3 : plainName "java/lang/StringLatin1" = true := by first | (simp [plainName, overriddenIn]; done) | decide +kernel
theorem oD10_0 : decode jdk_43_method_3_code 0 = .ok (.iload_n 0, 1) := by decide +kernel
theorem oD10_1 : decode jdk_43_method_3_code 1 = .ok (.sipush 255, 3) := by decide +kernel
theorem oD10_4 : decode jdk_43_method_3_code 4 = .ok (.if_icmp .gt 7, 3) := by decide +kernel
theorem oD10_7 : decode jdk_43_method_3_code 7 = .ok (.iconst 1, 1) := by decide +kernel
theorem oD10_8 : decode jdk_43_method_3_code 8 = .ok (.goto 4, 3) := by decide +kernel
theorem oD10_12 : decode jdk_43_method_3_code 12 = .ok (.ireturn, 1) := by decide +kernel
theorem oD11_0 : decode jdk_68_method_68_code 0 = .ok (.getstatic 18, 3) := by decide +kernel
theorem oD11_3 : decode jdk_68_method_68_code 3 = .ok (.ifCond .eq 14, 3) := by decide +kernel
theorem oD11_6 : decode jdk_68_method_68_code 6 = .ok (.aload_n 0, 1) := by decide +kernel
theorem oD11_7 : decode jdk_68_method_68_code 7 = .ok (.getfield 22, 3) := by decide +kernel
theorem oD11_10 : decode jdk_68_method_68_code 10 = .ok (.ifCond .ne 7, 3) := by decide +kernel
theorem oD11_13 : decode jdk_68_method_68_code 13 = .ok (.iconst 1, 1) := by decide +kernel
theorem oD11_14 : decode jdk_68_method_68_code 14 = .ok (.goto 4, 3) := by decide +kernel
theorem oD11_18 : decode jdk_68_method_68_code 18 = .ok (.ireturn, 1) := by decide +kernel
theorem o_ef7 (m : MethodId) (x0 : Addr) (x1 : Int32) : entryFrame m #[(.ref x0), (.int x1)] 2 = mkF m 0 #[.val (.ref x0), .val (.int x1)] [] := by first | (simp [entryFrame, mkF, argsToLocals, Value.category]; done) | rfl
theorem oD12_0 : decode jdk_68_method_31_code 0 = .ok (.aload_n 0, 1) := by decide +kernel
theorem oD12_1 : decode jdk_68_method_31_code 1 = .ok (.aload_n 0, 1) := by decide +kernel
theorem oD12_2 : decode jdk_68_method_31_code 2 = .ok (.getfield 79, 3) := by decide +kernel
theorem oD12_5 : decode jdk_68_method_31_code 5 = .ok (.iconst 1, 1) := by decide +kernel
theorem oD12_6 : decode jdk_68_method_31_code 6 = .ok (.iadd, 1) := by decide +kernel
theorem oD12_7 : decode jdk_68_method_31_code 7 = .ok (.invokevirtual 100, 3) := by decide +kernel
theorem oD12_10 : decode jdk_68_method_31_code 10 = .ok (.aload_n 0, 1) := by decide +kernel
theorem oD12_11 : decode jdk_68_method_31_code 11 = .ok (.invokevirtual 83, 3) := by decide +kernel
theorem o_pd__28_29Z : parseMethodDescriptor "()Z" = some ⟨[], some .boolean⟩ := by decide +kernel
theorem oD12_14 : decode jdk_68_method_31_code 14 = .ok (.ifCond .eq 31, 3) := by decide +kernel
theorem oD12_17 : decode jdk_68_method_31_code 17 = .ok (.iload_n 1, 1) := by decide +kernel
theorem oD12_18 : decode jdk_68_method_31_code 18 = .ok (.invokestatic 191, 3) := by decide +kernel
theorem o_pd__28C_29Z : parseMethodDescriptor "(C)Z" = some ⟨[.char], some .boolean⟩ := by decide +kernel
theorem oD12_21 : decode jdk_68_method_31_code 21 = .ok (.ifCond .eq 24, 3) := by decide +kernel
theorem oD12_24 : decode jdk_68_method_31_code 24 = .ok (.aload_n 0, 1) := by decide +kernel
theorem oD12_25 : decode jdk_68_method_31_code 25 = .ok (.getfield 15, 3) := by decide +kernel
theorem oD12_28 : decode jdk_68_method_31_code 28 = .ok (.aload_n 0, 1) := by decide +kernel
theorem oD12_29 : decode jdk_68_method_31_code 29 = .ok (.dup, 1) := by decide +kernel
theorem oD12_30 : decode jdk_68_method_31_code 30 = .ok (.getfield 79, 3) := by decide +kernel
theorem oD12_33 : decode jdk_68_method_31_code 33 = .ok (.dup_x1, 1) := by decide +kernel
theorem oD12_34 : decode jdk_68_method_31_code 34 = .ok (.iconst 1, 1) := by decide +kernel
theorem oD12_35 : decode jdk_68_method_31_code 35 = .ok (.iadd, 1) := by decide +kernel
theorem oD12_36 : decode jdk_68_method_31_code 36 = .ok (.putfield 79, 3) := by decide +kernel
theorem oD12_39 : decode jdk_68_method_31_code 39 = .ok (.iload_n 1, 1) := by decide +kernel
theorem oD12_40 : decode jdk_68_method_31_code 40 = .ok (.i2b, 1) := by decide +kernel
theorem oD12_41 : decode jdk_68_method_31_code 41 = .ok (.bastore, 1) := by decide +kernel
theorem oD12_42 : decode jdk_68_method_31_code 42 = .ok (.goto 33, 3) := by decide +kernel
theorem oD12_75 : decode jdk_68_method_31_code 75 = .ok (.aload_n 0, 1) := by decide +kernel
theorem oD12_76 : decode jdk_68_method_31_code 76 = .ok (.areturn, 1) := by decide +kernel
theorem oD13_0 : decode jdk_67_method_14_code 0 = .ok (.aload_n 0, 1) := by decide +kernel
theorem oD13_1 : decode jdk_67_method_14_code 1 = .ok (.iload_n 1, 1) := by decide +kernel
theorem oD13_2 : decode jdk_67_method_14_code 2 = .ok (.invokespecial 50, 3) := by decide +kernel
theorem o_pd__28C_29Ljava_2flang_2fAbstractStringBuilder_3b : parseMethodDescriptor "(C)Ljava/lang/AbstractStringBuilder;" = some ⟨[.char], some (.object "java/lang/AbstractStringBuilder")⟩ := by decide +kernel
theorem oD13_5 : decode jdk_67_method_14_code 5 = .ok (.pop, 1) := by decide +kernel
theorem oD13_6 : decode jdk_67_method_14_code 6 = .ok (.aload_n 0, 1) := by decide +kernel
theorem oD13_7 : decode jdk_67_method_14_code 7 = .ok (.areturn, 1) := by decide +kernel
theorem oD14_0 : decode jdk_68_method_64_code 0 = .ok (.aload_n 0, 1) := by decide +kernel
theorem oD14_1 : decode jdk_68_method_64_code 1 = .ok (.getfield 15, 3) := by decide +kernel
theorem oD14_4 : decode jdk_68_method_64_code 4 = .ok (.areturn, 1) := by decide +kernel
theorem oD15_0 : decode jdk_68_method_6_code 0 = .ok (.aload_n 0, 1) := by decide +kernel
theorem oD15_1 : decode jdk_68_method_6_code 1 = .ok (.getfield 79, 3) := by decide +kernel
theorem oD15_4 : decode jdk_68_method_6_code 4 = .ok (.ireturn, 1) := by decide +kernel
theorem oD16_0 : decode jdk_67_method_93_code 0 = .ok (.aload_n 0, 1) := by decide +kernel
theorem oD16_1 : decode jdk_67_method_93_code 1 = .ok (.invokespecial 343, 3) := by decide +kernel
theorem oD16_4 : decode jdk_67_method_93_code 4 = .ok (.ireturn, 1) := by decide +kernel
theorem o_ef8 (m : MethodId) (x0 : Int32) (x1 : Int32) : entryFrame m #[(.int x0), (.int x1)] 2 = mkF m 0 #[.val (.int x0), .val (.int x1)] [] := by first | (simp [entryFrame, mkF, argsToLocals, Value.category]; done) | rfl
theorem oD17_0 : decode jdk_29_method_69_code 0 = .ok (.iload_n 0, 1) := by decide +kernel
theorem oD17_1 : decode jdk_29_method_69_code 1 = .ok (.iload_n 1, 1) := by decide +kernel
theorem oD17_2 : decode jdk_29_method_69_code 2 = .ok (.if_icmp .gt 7, 3) := by decide +kernel
theorem oD17_9 : decode jdk_29_method_69_code 9 = .ok (.iload_n 1, 1) := by decide +kernel
theorem oD17_10 : decode jdk_29_method_69_code 10 = .ok (.ireturn, 1) := by decide +kernel
theorem o_ef9 (m : MethodId) (x1 : Int32) : entryFrame m #[(.int 0), (.int x1)] 2 = mkF m 0 #[.val (.int 0), .val (.int x1)] [] := by first | (simp [entryFrame, mkF, argsToLocals, Value.category]; done) | rfl
theorem o_pn_4 : plainName "java/util/Arrays" = true := by first | (simp [plainName, overriddenIn]; done) | decide +kernel
theorem oD18_0 : decode jdk_65_method_131_code 0 = .ok (.iload_n 1, 1) := by decide +kernel
theorem oD18_1 : decode jdk_65_method_131_code 1 = .ok (.iload_n 0, 1) := by decide +kernel
theorem oD18_2 : decode jdk_65_method_131_code 2 = .ok (.if_icmp .ge 35, 3) := by decide +kernel
theorem oD18_37 : decode jdk_65_method_131_code 37 = .ok (.return_, 1) := by decide +kernel
theorem o_ef10 (m : MethodId) (x0 : Addr) (x2 : Int32) : entryFrame m #[(.ref x0), (.int 0), (.int x2)] 5 = mkF m 0 #[.val (.ref x0), .val (.int 0), .val (.int x2), .unset, .unset] [] := by first | (simp [entryFrame, mkF, argsToLocals, Value.category]; done) | rfl
theorem oD19_0 : decode jdk_65_method_133_code 0 = .ok (.iload_n 1, 1) := by decide +kernel
theorem oD19_1 : decode jdk_65_method_133_code 1 = .ok (.iload_n 2, 1) := by decide +kernel
theorem oD19_2 : decode jdk_65_method_133_code 2 = .ok (.invokestatic 343, 3) := by decide +kernel
theorem o_pd__28II_29V : parseMethodDescriptor "(II)V" = some ⟨[.int, .int], none⟩ := by decide +kernel
theorem oD19_5 : decode jdk_65_method_133_code 5 = .ok (.iload_n 2, 1) := by decide +kernel
theorem oD19_6 : decode jdk_65_method_133_code 6 = .ok (.iload_n 1, 1) := by decide +kernel
theorem oD19_7 : decode jdk_65_method_133_code 7 = .ok (.isub, 1) := by decide +kernel
theorem oD19_8 : decode jdk_65_method_133_code 8 = .ok (.istore_n 3, 1) := by decide +kernel
theorem oD19_9 : decode jdk_65_method_133_code 9 = .ok (.iload_n 3, 1) := by decide +kernel
theorem oD19_10 : decode jdk_65_method_133_code 10 = .ok (.newarray .byte, 2) := by decide +kernel
theorem oD19_12 : decode jdk_65_method_133_code 12 = .ok (.astore 4, 2) := by decide +kernel
theorem oD19_14 : decode jdk_65_method_133_code 14 = .ok (.aload_n 0, 1) := by decide +kernel
theorem oD19_15 : decode jdk_65_method_133_code 15 = .ok (.iload_n 1, 1) := by decide +kernel
theorem oD19_16 : decode jdk_65_method_133_code 16 = .ok (.aload 4, 2) := by decide +kernel
theorem oD19_18 : decode jdk_65_method_133_code 18 = .ok (.iconst 0, 1) := by decide +kernel
theorem oD19_19 : decode jdk_65_method_133_code 19 = .ok (.aload_n 0, 1) := by decide +kernel
theorem oD19_20 : decode jdk_65_method_133_code 20 = .ok (.arraylength, 1) := by decide +kernel
theorem oD19_21 : decode jdk_65_method_133_code 21 = .ok (.iload_n 1, 1) := by decide +kernel
theorem oD19_22 : decode jdk_65_method_133_code 22 = .ok (.isub, 1) := by decide +kernel
theorem oD19_23 : decode jdk_65_method_133_code 23 = .ok (.iload_n 3, 1) := by decide +kernel
theorem oD19_24 : decode jdk_65_method_133_code 24 = .ok (.invokestatic 304, 3) := by decide +kernel
theorem o_pd__28II_29I : parseMethodDescriptor "(II)I" = some ⟨[.int, .int], some .int⟩ := by decide +kernel
theorem oD19_27 : decode jdk_65_method_133_code 27 = .ok (.invokestatic 150, 3) := by decide +kernel
theorem oD19_30 : decode jdk_65_method_133_code 30 = .ok (.aload 4, 2) := by decide +kernel
theorem oD19_32 : decode jdk_65_method_133_code 32 = .ok (.areturn, 1) := by decide +kernel
theorem o_ef11 (m : MethodId) (x0 : Addr) (x2 : Int32) : entryFrame m #[(.ref x0), (.int 0), (.int x2)] 3 = mkF m 0 #[.val (.ref x0), .val (.int 0), .val (.int x2)] [] := by first | (simp [entryFrame, mkF, argsToLocals, Value.category]; done) | rfl
theorem oD20_0 : decode jdk_65_method_132_code 0 = .ok (.iload_n 1, 1) := by decide +kernel
theorem oD20_1 : decode jdk_65_method_132_code 1 = .ok (.ifCond .ne 9, 3) := by decide +kernel
theorem oD20_4 : decode jdk_65_method_132_code 4 = .ok (.iload_n 2, 1) := by decide +kernel
theorem oD20_5 : decode jdk_65_method_132_code 5 = .ok (.aload_n 0, 1) := by decide +kernel
theorem oD20_6 : decode jdk_65_method_132_code 6 = .ok (.arraylength, 1) := by decide +kernel
theorem oD20_7 : decode jdk_65_method_132_code 7 = .ok (.if_icmp .eq 10, 3) := by decide +kernel
theorem oD20_10 : decode jdk_65_method_132_code 10 = .ok (.aload_n 0, 1) := by decide +kernel
theorem oD20_11 : decode jdk_65_method_132_code 11 = .ok (.iload_n 1, 1) := by decide +kernel
theorem oD20_12 : decode jdk_65_method_132_code 12 = .ok (.iload_n 2, 1) := by decide +kernel
theorem oD20_13 : decode jdk_65_method_132_code 13 = .ok (.invokestatic 339, 3) := by decide +kernel
theorem o_pd__28_5bBII_29_5bB : parseMethodDescriptor "([BII)[B" = some ⟨[(.array .byte), .int, .int], some (.array .byte)⟩ := by decide +kernel
theorem oD20_16 : decode jdk_65_method_132_code 16 = .ok (.areturn, 1) := by decide +kernel
theorem o_ef12 (m : MethodId) (x0 : Addr) (x1 : Addr) : entryFrame m #[(.ref x0), (.ref x1), .null] 5 = mkF m 0 #[.val (.ref x0), .val (.ref x1), .val .null, .unset, .unset] [] := by first | (simp [entryFrame, mkF, argsToLocals, Value.category]; done) | rfl
theorem oD21_0 : decode jdk_42_method_150_code 0 = .ok (.aload_n 0, 1) := by decide +kernel
theorem oD21_1 : decode jdk_42_method_150_code 1 = .ok (.invokespecial 1, 3) := by decide +kernel
theorem oD21_4 : decode jdk_42_method_150_code 4 = .ok (.aload_n 1, 1) := by decide +kernel
theorem oD21_5 : decode jdk_42_method_150_code 5 = .ok (.invokevirtual 552, 3) := by decide +kernel
theorem o_pd__28_29_5bB : parseMethodDescriptor "()[B" = some ⟨[], some (.array .byte)⟩ := by decide +kernel
theorem oD21_8 : decode jdk_42_method_150_code 8 = .ok (.astore_n 3, 1) := by decide +kernel
theorem oD21_9 : decode jdk_42_method_150_code 9 = .ok (.aload_n 1, 1) := by decide +kernel
theorem oD21_10 : decode jdk_42_method_150_code 10 = .ok (.invokevirtual 549, 3) := by decide +kernel
theorem oD21_13 : decode jdk_42_method_150_code 13 = .ok (.istore 4, 2) := by decide +kernel
theorem oD21_15 : decode jdk_42_method_150_code 15 = .ok (.aload_n 1, 1) := by decide +kernel
theorem oD21_16 : decode jdk_42_method_150_code 16 = .ok (.invokevirtual 1047, 3) := by decide +kernel
theorem oD21_19 : decode jdk_42_method_150_code 19 = .ok (.ifCond .eq 22, 3) := by decide +kernel
theorem oD21_22 : decode jdk_42_method_150_code 22 = .ok (.aload_n 0, 1) := by decide +kernel
theorem oD21_23 : decode jdk_42_method_150_code 23 = .ok (.iconst 0, 1) := by decide +kernel
theorem oD21_24 : decode jdk_42_method_150_code 24 = .ok (.putfield 15, 3) := by decide +kernel
theorem oD21_27 : decode jdk_42_method_150_code 27 = .ok (.aload_n 0, 1) := by decide +kernel
theorem oD21_28 : decode jdk_42_method_150_code 28 = .ok (.aload_n 3, 1) := by decide +kernel
theorem oD21_29 : decode jdk_42_method_150_code 29 = .ok (.iconst 0, 1) := by decide +kernel
theorem oD21_30 : decode jdk_42_method_150_code 30 = .ok (.iload 4, 2) := by decide +kernel
theorem oD21_32 : decode jdk_42_method_150_code 32 = .ok (.invokestatic 54, 3) := by decide +kernel
theorem oD21_35 : decode jdk_42_method_150_code 35 = .ok (.putfield 9, 3) := by decide +kernel
theorem oD21_38 : decode jdk_42_method_150_code 38 = .ok (.goto 59, 3) := by decide +kernel
theorem oD21_97 : decode jdk_42_method_150_code 97 = .ok (.return_, 1) := by decide +kernel
theorem oD22_0 : decode jdk_42_method_53_code 0 = .ok (.aload_n 0, 1) := by decide +kernel
theorem oD22_1 : decode jdk_42_method_53_code 1 = .ok (.aload_n 1, 1) := by decide +kernel
theorem oD22_2 : decode jdk_42_method_53_code 2 = .ok (.aconst_null, 1) := by decide +kernel
theorem oD22_3 : decode jdk_42_method_53_code 3 = .ok (.invokespecial 489, 3) := by decide +kernel
theorem o_pd__28Ljava_2flang_2fAbstractStringBuilder_3bLjava_2flang_2fVoid_3b_29V : parseMethodDescriptor "(Ljava/lang/AbstractStringBuilder;Ljava/lang/Void;)V" = some ⟨[(.object "java/lang/AbstractStringBuilder"), (.object "java/lang/Void")], none⟩ := by decide +kernel
theorem oD22_6 : decode jdk_42_method_53_code 6 = .ok (.return_, 1) := by decide +kernel
theorem oD23_0 : decode jdk_67_method_42_code 0 = .ok (.new 18, 3) := by decide +kernel
theorem oD23_3 : decode jdk_67_method_42_code 3 = .ok (.dup, 1) := by decide +kernel
theorem oD23_4 : decode jdk_67_method_42_code 4 = .ok (.aload_n 0, 1) := by decide +kernel
theorem oD23_5 : decode jdk_67_method_42_code 5 = .ok (.invokespecial 137, 3) := by decide +kernel
theorem o_pd__28Ljava_2flang_2fStringBuilder_3b_29V : parseMethodDescriptor "(Ljava/lang/StringBuilder;)V" = some ⟨[(.object "java/lang/StringBuilder")], none⟩ := by decide +kernel
theorem oD23_8 : decode jdk_67_method_42_code 8 = .ok (.areturn, 1) := by decide +kernel
theorem o_pn_5 : plainName "java/lang/StringCoding" = true := by first | (simp [plainName, overriddenIn]; done) | decide +kernel
theorem oD24_0 : decode jdk_123_method_3_code 0 = .ok (.iload_n 1, 1) := by decide +kernel
theorem oD24_1 : decode jdk_123_method_3_code 1 = .ok (.iload_n 2, 1) := by decide +kernel
theorem oD24_2 : decode jdk_123_method_3_code 2 = .ok (.iadd, 1) := by decide +kernel
theorem oD24_3 : decode jdk_123_method_3_code 3 = .ok (.istore_n 3, 1) := by decide +kernel
theorem oD24_4 : decode jdk_123_method_3_code 4 = .ok (.iload_n 1, 1) := by decide +kernel
theorem oD24_5 : decode jdk_123_method_3_code 5 = .ok (.istore 4, 2) := by decide +kernel
theorem oD24_7 : decode jdk_123_method_3_code 7 = .ok (.iload 4, 2) := by decide +kernel
theorem oD24_9 : decode jdk_123_method_3_code 9 = .ok (.iload_n 3, 1) := by decide +kernel
theorem oD24_10 : decode jdk_123_method_3_code 10 = .ok (.if_icmp .ge 21, 3) := by decide +kernel
theorem oD24_31 : decode jdk_123_method_3_code 31 = .ok (.iload_n 2, 1) := by decide +kernel
theorem oD24_32 : decode jdk_123_method_3_code 32 = .ok (.ireturn, 1) := by decide +kernel
theorem oD24_13 : decode jdk_123_method_3_code 13 = .ok (.aload_n 0, 1) := by decide +kernel
theorem oD24_14 : decode jdk_123_method_3_code 14 = .ok (.iload 4, 2) := by decide +kernel
theorem oD24_16 : decode jdk_123_method_3_code 16 = .ok (.baload, 1) := by decide +kernel
theorem oD24_17 : decode jdk_123_method_3_code 17 = .ok (.ifCond .ge 8, 3) := by decide +kernel
theorem oD24_25 : decode jdk_123_method_3_code 25 = .ok (.iinc 4 1, 3) := by decide +kernel
theorem oD24_28 : decode jdk_123_method_3_code 28 = .ok (.goto (-21), 3) := by decide +kernel
theorem oD25_0 : decode jdk_123_method_2_code 0 = .ok (.aload_n 0, 1) := by decide +kernel
theorem oD25_1 : decode jdk_123_method_2_code 1 = .ok (.iload_n 1, 1) := by decide +kernel
theorem oD25_2 : decode jdk_123_method_2_code 2 = .ok (.iload_n 2, 1) := by decide +kernel
theorem oD25_3 : decode jdk_123_method_2_code 3 = .ok (.invokestatic 7, 3) := by decide +kernel
theorem o_pd__28_5bBII_29I : parseMethodDescriptor "([BII)I" = some ⟨[(.array .byte), .int, .int], some .int⟩ := by decide +kernel
theorem oD25_6 : decode jdk_123_method_2_code 6 = .ok (.iload_n 2, 1) := by decide +kernel
theorem oD25_7 : decode jdk_123_method_2_code 7 = .ok (.if_icmp .eq 7, 3) := by decide +kernel
theorem oD25_14 : decode jdk_123_method_2_code 14 = .ok (.iconst 0, 1) := by decide +kernel
theorem oD25_15 : decode jdk_123_method_2_code 15 = .ok (.ireturn, 1) := by decide +kernel
theorem o_ef13 (m : MethodId) (x1 : Addr) : entryFrame m #[(.int 0), (.ref x1), (.int 1)] 9 = mkF m 0 #[.val (.int 0), .val (.ref x1), .val (.int 1), .unset, .unset, .unset, .unset, .unset, .unset] [] := by first | (simp [entryFrame, mkF, argsToLocals, Value.category]; done) | rfl
theorem oD26_0 : decode jdk_42_method_46_code 0 = .ok (.iload_n 0, 1) := by decide +kernel
theorem oD26_1 : decode jdk_42_method_46_code 1 = .ok (.iconst 1, 1) := by decide +kernel
theorem oD26_2 : decode jdk_42_method_46_code 2 = .ok (.if_icmp .ne 9, 3) := by decide +kernel
theorem oD26_11 : decode jdk_42_method_46_code 11 = .ok (.aload_n 1, 1) := by decide +kernel
theorem oD26_12 : decode jdk_42_method_46_code 12 = .ok (.iconst 0, 1) := by decide +kernel
theorem oD26_13 : decode jdk_42_method_46_code 13 = .ok (.aload_n 1, 1) := by decide +kernel
theorem oD26_14 : decode jdk_42_method_46_code 14 = .ok (.arraylength, 1) := by decide +kernel
theorem oD26_15 : decode jdk_42_method_46_code 15 = .ok (.invokestatic 128, 3) := by decide +kernel
theorem o_pd__28_5bBII_29Z : parseMethodDescriptor "([BII)Z" = some ⟨[(.array .byte), .int, .int], some .boolean⟩ := by decide +kernel
theorem oD26_18 : decode jdk_42_method_46_code 18 = .ok (.ifCond .ne 11, 3) := by decide +kernel
theorem oD26_21 : decode jdk_42_method_46_code 21 = .ok (.aload_n 1, 1) := by decide +kernel
theorem oD26_22 : decode jdk_42_method_46_code 22 = .ok (.invokevirtual 279, 3) := by decide +kernel
theorem oD26_25 : decode jdk_42_method_46_code 25 = .ok (.checkcast 280, 3) := by decide +kernel
theorem oD26_28 : decode jdk_42_method_46_code 28 = .ok (.areturn, 1) := by decide +kernel
theorem o_ef14 (m : MethodId) (x0 : Addr) (x2 : Addr) : entryFrame m #[(.ref x0), (.int 0), (.ref x2)] 3 = mkF m 0 #[.val (.ref x0), .val (.int 0), .val (.ref x2)] [] := by first | (simp [entryFrame, mkF, argsToLocals, Value.category]; done) | rfl
theorem oD27_0 : decode jdk_42_method_18_code 0 = .ok (.aload_n 0, 1) := by decide +kernel
theorem oD27_1 : decode jdk_42_method_18_code 1 = .ok (.getstatic 86, 3) := by decide +kernel
theorem oD27_4 : decode jdk_42_method_18_code 4 = .ok (.if_acmp .ne 10, 3) := by decide +kernel
theorem oD27_7 : decode jdk_42_method_18_code 7 = .ok (.iload_n 1, 1) := by decide +kernel
theorem oD27_8 : decode jdk_42_method_18_code 8 = .ok (.aload_n 2, 1) := by decide +kernel
theorem oD27_9 : decode jdk_42_method_18_code 9 = .ok (.iconst 1, 1) := by decide +kernel
theorem oD27_10 : decode jdk_42_method_18_code 10 = .ok (.invokestatic 252, 3) := by decide +kernel
theorem o_pd__28B_5bBZ_29_5bB : parseMethodDescriptor "(B[BZ)[B" = some ⟨[.byte, (.array .byte), .boolean], some (.array .byte)⟩ := by decide +kernel
theorem oD27_13 : decode jdk_42_method_18_code 13 = .ok (.areturn, 1) := by decide +kernel
theorem oD28_0 : decode jdk_42_method_64_code 0 = .ok (.aload_n 1, 1) := by decide +kernel
theorem oD28_1 : decode jdk_42_method_64_code 1 = .ok (.ifnonnull 11, 3) := by decide +kernel
theorem oD28_12 : decode jdk_42_method_64_code 12 = .ok (.aload_n 1, 1) := by decide +kernel
theorem oD28_13 : decode jdk_42_method_64_code 13 = .ok (.aload_n 0, 1) := by decide +kernel
theorem oD28_14 : decode jdk_42_method_64_code 14 = .ok (.invokevirtual 335, 3) := by decide +kernel
theorem oD28_17 : decode jdk_42_method_64_code 17 = .ok (.aload_n 0, 1) := by decide +kernel
theorem oD28_18 : decode jdk_42_method_64_code 18 = .ok (.getfield 9, 3) := by decide +kernel
theorem oD28_21 : decode jdk_42_method_64_code 21 = .ok (.invokestatic 535, 3) := by decide +kernel
theorem o_pd__28Ljava_2fnio_2fcharset_2fCharset_3bB_5bB_29_5bB : parseMethodDescriptor "(Ljava/nio/charset/Charset;B[B)[B" = some ⟨[(.object "java/nio/charset/Charset"), .byte, (.array .byte)], some (.array .byte)⟩ := by decide +kernel
theorem oD28_24 : decode jdk_42_method_64_code 24 = .ok (.areturn, 1) := by decide +kernel
theorem o_ef15 (m : MethodId) (x0 : Addr) (x1 : Addr) : entryFrame m #[(.ref x0), (.ref x1), (.int 0), (.int 0), .null] 6 = mkF m 0 #[.val (.ref x0), .val (.ref x1), .val (.int 0), .val (.int 0), .val .null, .unset] [] := by first | (simp [entryFrame, mkF, argsToLocals, Value.category]; done) | rfl
theorem oD29_0 : decode jdk_42_method_149_code 0 = .ok (.aload_n 0, 1) := by decide +kernel
theorem oD29_1 : decode jdk_42_method_149_code 1 = .ok (.invokespecial 1, 3) := by decide +kernel
theorem oD29_4 : decode jdk_42_method_149_code 4 = .ok (.iload_n 3, 1) := by decide +kernel
theorem oD29_5 : decode jdk_42_method_149_code 5 = .ok (.ifCond .ne 22, 3) := by decide +kernel
theorem oD29_8 : decode jdk_42_method_149_code 8 = .ok (.aload_n 0, 1) := by decide +kernel
theorem oD29_9 : decode jdk_42_method_149_code 9 = .ok (.ldc 7, 2) := by decide +kernel
theorem oD29_11 : decode jdk_42_method_149_code 11 = .ok (.getfield 9, 3) := by decide +kernel
theorem oD29_14 : decode jdk_42_method_149_code 14 = .ok (.putfield 9, 3) := by decide +kernel
theorem oD29_17 : decode jdk_42_method_149_code 17 = .ok (.aload_n 0, 1) := by decide +kernel
theorem oD29_18 : decode jdk_42_method_149_code 18 = .ok (.ldc 7, 2) := by decide +kernel
theorem oD29_20 : decode jdk_42_method_149_code 20 = .ok (.getfield 15, 3) := by decide +kernel
theorem oD29_23 : decode jdk_42_method_149_code 23 = .ok (.putfield 15, 3) := by decide +kernel
theorem oD29_26 : decode jdk_42_method_149_code 26 = .ok (.return_, 1) := by decide +kernel
theorem oD30_0 : decode jdk_42_method_3_code 0 = .ok (.aload_n 0, 1) := by decide +kernel
theorem oD30_1 : decode jdk_42_method_3_code 1 = .ok (.aload_n 1, 1) := by decide +kernel
theorem oD30_2 : decode jdk_42_method_3_code 2 = .ok (.iconst 0, 1) := by decide +kernel
theorem oD30_3 : decode jdk_42_method_3_code 3 = .ok (.aload_n 1, 1) := by decide +kernel
theorem oD30_4 : decode jdk_42_method_3_code 4 = .ok (.arraylength, 1) := by decide +kernel
theorem oD30_5 : decode jdk_42_method_3_code 5 = .ok (.aconst_null, 1) := by decide +kernel
theorem oD30_6 : decode jdk_42_method_3_code 6 = .ok (.invokespecial 27, 3) := by decide +kernel
theorem o_pd__28_5bCIILjava_2flang_2fVoid_3b_29V : parseMethodDescriptor "([CIILjava/lang/Void;)V" = some ⟨[(.array .char), .int, .int, (.object "java/lang/Void")], none⟩ := by decide +kernel
theorem oD30_9 : decode jdk_42_method_3_code 9 = .ok (.return_, 1) := by decide +kernel
theorem o_ef16 (m : MethodId) (x0 : Addr) (x1 : Addr) : entryFrame m #[(.ref x0), (.ref x1)] 5 = mkF m 0 #[.val (.ref x0), .val (.ref x1), .unset, .unset, .unset] [] := by first | (simp [entryFrame, mkF, argsToLocals, Value.category]; done) | rfl
theorem oD31_0 : decode jdk_68_method_3_code 0 = .ok (.aload_n 0, 1) := by decide +kernel
theorem oD31_1 : decode jdk_68_method_3_code 1 = .ok (.invokespecial 3, 3) := by decide +kernel
theorem oD31_4 : decode jdk_68_method_3_code 4 = .ok (.aload_n 1, 1) := by decide +kernel
theorem oD31_5 : decode jdk_68_method_3_code 5 = .ok (.invokevirtual 32, 3) := by decide +kernel
theorem oD31_8 : decode jdk_68_method_3_code 8 = .ok (.istore_n 2, 1) := by decide +kernel
theorem oD31_9 : decode jdk_68_method_3_code 9 = .ok (.iload_n 2, 1) := by decide +kernel
theorem oD31_10 : decode jdk_68_method_3_code 10 = .ok (.ldc 38, 2) := by decide +kernel
theorem oD31_12 : decode jdk_68_method_3_code 12 = .ok (.if_icmp .ge 10, 3) := by decide +kernel
theorem oD31_15 : decode jdk_68_method_3_code 15 = .ok (.iload_n 2, 1) := by decide +kernel
theorem oD31_16 : decode jdk_68_method_3_code 16 = .ok (.bipush 16, 2) := by decide +kernel
theorem oD31_18 : decode jdk_68_method_3_code 18 = .ok (.iadd, 1) := by decide +kernel
theorem oD31_19 : decode jdk_68_method_3_code 19 = .ok (.goto 5, 3) := by decide +kernel
theorem oD31_24 : decode jdk_68_method_3_code 24 = .ok (.istore_n 3, 1) := by decide +kernel
theorem oD31_25 : decode jdk_68_method_3_code 25 = .ok (.aload_n 1, 1) := by decide +kernel
theorem oD31_26 : decode jdk_68_method_3_code 26 = .ok (.invokevirtual 40, 3) := by decide +kernel
theorem oD31_29 : decode jdk_68_method_3_code 29 = .ok (.istore 4, 2) := by decide +kernel
theorem oD31_31 : decode jdk_68_method_3_code 31 = .ok (.aload_n 0, 1) := by decide +kernel
theorem oD31_32 : decode jdk_68_method_3_code 32 = .ok (.iload 4, 2) := by decide +kernel
theorem oD31_34 : decode jdk_68_method_3_code 34 = .ok (.putfield 22, 3) := by decide +kernel
theorem oD31_37 : decode jdk_68_method_3_code 37 = .ok (.aload_n 0, 1) := by decide +kernel
theorem oD31_38 : decode jdk_68_method_3_code 38 = .ok (.iload 4, 2) := by decide +kernel
theorem oD31_40 : decode jdk_68_method_3_code 40 = .ok (.ifCond .ne 9, 3) := by decide +kernel
theorem oD31_43 : decode jdk_68_method_3_code 43 = .ok (.iload_n 3, 1) := by decide +kernel
theorem oD31_44 : decode jdk_68_method_3_code 44 = .ok (.newarray .byte, 2) := by decide +kernel
theorem oD31_46 : decode jdk_68_method_3_code 46 = .ok (.goto 7, 3) := by decide +kernel
theorem oD31_53 : decode jdk_68_method_3_code 53 = .ok (.putfield 15, 3) := by decide +kernel
theorem oD31_56 : decode jdk_68_method_3_code 56 = .ok (.aload_n 0, 1) := by decide +kernel
theorem oD31_57 : decode jdk_68_method_3_code 57 = .ok (.aload_n 1, 1) := by decide +kernel
theorem oD31_58 : decode jdk_68_method_3_code 58 = .ok (.invokevirtual 43, 3) := by decide +kernel
theorem oD31_61 : decode jdk_68_method_3_code 61 = .ok (.pop, 1) := by decide +kernel
theorem oD31_62 : decode jdk_68_method_3_code 62 = .ok (.return_, 1) := by decide +kernel
theorem oD32_0 : decode jdk_67_method_3_code 0 = .ok (.aload_n 0, 1) := by decide +kernel
theorem oD32_1 : decode jdk_67_method_3_code 1 = .ok (.aload_n 1, 1) := by decide +kernel
theorem oD32_2 : decode jdk_67_method_3_code 2 = .ok (.invokespecial 7, 3) := by decide +kernel
theorem oD32_5 : decode jdk_67_method_3_code 5 = .ok (.return_, 1) := by decide +kernel
theorem o_pn_6 : plainName "com/example/scholion/scholion/http/Html" = true := by first | (simp [plainName, overriddenIn]; done) | decide +kernel
theorem oD33_0 : decode prog_12_method_1_code 0 = .ok (.aload_n 0, 1) := by decide +kernel
theorem oD33_1 : decode prog_12_method_1_code 1 = .ok (.invokespecial 1, 3) := by decide +kernel
theorem oD33_4 : decode prog_12_method_1_code 4 = .ok (.aload_n 0, 1) := by decide +kernel
theorem oD33_5 : decode prog_12_method_1_code 5 = .ok (.new 7, 3) := by decide +kernel
theorem oD33_8 : decode prog_12_method_1_code 8 = .ok (.dup, 1) := by decide +kernel
theorem oD33_9 : decode prog_12_method_1_code 9 = .ok (.ldc 9, 2) := by decide +kernel
theorem oD33_11 : decode prog_12_method_1_code 11 = .ok (.invokespecial 11, 3) := by decide +kernel
theorem oD33_14 : decode prog_12_method_1_code 14 = .ok (.putfield 14, 3) := by decide +kernel
theorem oD33_17 : decode prog_12_method_1_code 17 = .ok (.return_, 1) := by decide +kernel
theorem oD34_0 : decode prog_12_method_3_code 0 = .ok (.aload_n 0, 1) := by decide +kernel
theorem oD34_1 : decode prog_12_method_3_code 1 = .ok (.getfield 14, 3) := by decide +kernel
theorem oD34_4 : decode prog_12_method_3_code 4 = .ok (.ldc 32, 2) := by decide +kernel
theorem oD34_6 : decode prog_12_method_3_code 6 = .ok (.invokevirtual 24, 3) := by decide +kernel
theorem oD34_9 : decode prog_12_method_3_code 9 = .ok (.aload_n 1, 1) := by decide +kernel
theorem oD34_10 : decode prog_12_method_3_code 10 = .ok (.invokevirtual 24, 3) := by decide +kernel
theorem oD34_13 : decode prog_12_method_3_code 13 = .ok (.bipush 62, 2) := by decide +kernel
theorem oD34_15 : decode prog_12_method_3_code 15 = .ok (.invokevirtual 20, 3) := by decide +kernel
theorem o_pd__28C_29Ljava_2flang_2fStringBuilder_3b : parseMethodDescriptor "(C)Ljava/lang/StringBuilder;" = some ⟨[.char], some (.object "java/lang/StringBuilder")⟩ := by decide +kernel
theorem oD34_18 : decode prog_12_method_3_code 18 = .ok (.pop, 1) := by decide +kernel
theorem oD34_19 : decode prog_12_method_3_code 19 = .ok (.aload_n 0, 1) := by decide +kernel
theorem oD34_20 : decode prog_12_method_3_code 20 = .ok (.areturn, 1) := by decide +kernel
theorem oD35_0 : decode prog_12_method_7_code 0 = .ok (.aload_n 0, 1) := by decide +kernel
theorem oD35_1 : decode prog_12_method_7_code 1 = .ok (.getfield 14, 3) := by decide +kernel
theorem oD35_4 : decode prog_12_method_7_code 4 = .ok (.invokevirtual 93, 3) := by decide +kernel
theorem o_pd__28_29Ljava_2flang_2fString_3b : parseMethodDescriptor "()Ljava/lang/String;" = some ⟨[], some (.object "java/lang/String")⟩ := by decide +kernel
theorem oD35_7 : decode prog_12_method_7_code 7 = .ok (.getstatic 97, 3) := by decide +kernel
theorem oD35_10 : decode prog_12_method_7_code 10 = .ok (.invokevirtual 103, 3) := by decide +kernel
theorem o_pd__28Ljava_2fnio_2fcharset_2fCharset_3b_29_5bB : parseMethodDescriptor "(Ljava/nio/charset/Charset;)[B" = some ⟨[(.object "java/nio/charset/Charset")], some (.array .byte)⟩ := by decide +kernel
theorem oD35_13 : decode prog_12_method_7_code 13 = .ok (.areturn, 1) := by decide +kernel
theorem o_ef17 (m : MethodId) (x0 : Addr) : entryFrame m #[(.ref x0)] 2 = mkF m 0 #[.val (.ref x0), .unset] [] := by first | (simp [entryFrame, mkF, argsToLocals, Value.category]; done) | rfl
theorem o_pn_7 : plainName "com/example/scholion/scholion/http/HtmlClosePinLaw" = true := by first | (simp [plainName, overriddenIn]; done) | decide +kernel
theorem oD36_0 : decode method_3_code 0 = .ok (.ldc 29, 2) := by decide +kernel
theorem oD36_2 : decode method_3_code 2 = .ok (.astore_n 1, 1) := by decide +kernel
theorem oD36_3 : decode method_3_code 3 = .ok (.aload_n 0, 1) := by decide +kernel
theorem oD36_4 : decode method_3_code 4 = .ok (.iconst 0, 1) := by decide +kernel
theorem oD36_5 : decode method_3_code 5 = .ok (.baload, 1) := by decide +kernel
theorem oD36_6 : decode method_3_code 6 = .ok (.aload_n 1, 1) := by decide +kernel
theorem oD36_7 : decode method_3_code 7 = .ok (.iconst 0, 1) := by decide +kernel
theorem oD36_8 : decode method_3_code 8 = .ok (.invokevirtual 31, 3) := by decide +kernel
theorem o_pd__28I_29C : parseMethodDescriptor "(I)C" = some ⟨[.int], some .char⟩ := by decide +kernel
theorem oD36_11 : decode method_3_code 11 = .ok (.if_icmp .ne 179, 3) := by decide +kernel
theorem oD36_14 : decode method_3_code 14 = .ok (.aload_n 0, 1) := by decide +kernel
theorem oD36_15 : decode method_3_code 15 = .ok (.iconst 1, 1) := by decide +kernel
theorem oD36_16 : decode method_3_code 16 = .ok (.baload, 1) := by decide +kernel
theorem oD36_17 : decode method_3_code 17 = .ok (.aload_n 1, 1) := by decide +kernel
theorem oD36_18 : decode method_3_code 18 = .ok (.iconst 1, 1) := by decide +kernel
theorem oD36_19 : decode method_3_code 19 = .ok (.invokevirtual 31, 3) := by decide +kernel
theorem oD36_22 : decode method_3_code 22 = .ok (.if_icmp .ne 168, 3) := by decide +kernel
theorem oD36_25 : decode method_3_code 25 = .ok (.aload_n 0, 1) := by decide +kernel
theorem oD36_26 : decode method_3_code 26 = .ok (.iconst 2, 1) := by decide +kernel
theorem oD36_27 : decode method_3_code 27 = .ok (.baload, 1) := by decide +kernel
theorem oD36_28 : decode method_3_code 28 = .ok (.aload_n 1, 1) := by decide +kernel
theorem oD36_29 : decode method_3_code 29 = .ok (.iconst 2, 1) := by decide +kernel
theorem oD36_30 : decode method_3_code 30 = .ok (.invokevirtual 31, 3) := by decide +kernel
theorem oD36_33 : decode method_3_code 33 = .ok (.if_icmp .ne 157, 3) := by decide +kernel
theorem oD36_36 : decode method_3_code 36 = .ok (.aload_n 0, 1) := by decide +kernel
theorem oD36_37 : decode method_3_code 37 = .ok (.iconst 3, 1) := by decide +kernel
theorem oD36_38 : decode method_3_code 38 = .ok (.baload, 1) := by decide +kernel
theorem oD36_39 : decode method_3_code 39 = .ok (.aload_n 1, 1) := by decide +kernel
theorem oD36_40 : decode method_3_code 40 = .ok (.iconst 3, 1) := by decide +kernel
theorem oD36_41 : decode method_3_code 41 = .ok (.invokevirtual 31, 3) := by decide +kernel
theorem oD36_44 : decode method_3_code 44 = .ok (.if_icmp .ne 146, 3) := by decide +kernel
theorem oD36_47 : decode method_3_code 47 = .ok (.aload_n 0, 1) := by decide +kernel
theorem oD36_48 : decode method_3_code 48 = .ok (.iconst 4, 1) := by decide +kernel
theorem oD36_49 : decode method_3_code 49 = .ok (.baload, 1) := by decide +kernel
theorem oD36_50 : decode method_3_code 50 = .ok (.aload_n 1, 1) := by decide +kernel
theorem oD36_51 : decode method_3_code 51 = .ok (.iconst 4, 1) := by decide +kernel
theorem oD36_52 : decode method_3_code 52 = .ok (.invokevirtual 31, 3) := by decide +kernel
theorem oD36_55 : decode method_3_code 55 = .ok (.if_icmp .ne 135, 3) := by decide +kernel
theorem oD36_58 : decode method_3_code 58 = .ok (.aload_n 0, 1) := by decide +kernel
theorem oD36_59 : decode method_3_code 59 = .ok (.iconst 5, 1) := by decide +kernel
theorem oD36_60 : decode method_3_code 60 = .ok (.baload, 1) := by decide +kernel
theorem oD36_61 : decode method_3_code 61 = .ok (.aload_n 1, 1) := by decide +kernel
theorem oD36_62 : decode method_3_code 62 = .ok (.iconst 5, 1) := by decide +kernel
theorem oD36_63 : decode method_3_code 63 = .ok (.invokevirtual 31, 3) := by decide +kernel
theorem oD36_66 : decode method_3_code 66 = .ok (.if_icmp .ne 124, 3) := by decide +kernel
theorem oD36_69 : decode method_3_code 69 = .ok (.aload_n 0, 1) := by decide +kernel
theorem oD36_70 : decode method_3_code 70 = .ok (.bipush 6, 2) := by decide +kernel
theorem oD36_72 : decode method_3_code 72 = .ok (.baload, 1) := by decide +kernel
theorem oD36_73 : decode method_3_code 73 = .ok (.aload_n 1, 1) := by decide +kernel
theorem oD36_74 : decode method_3_code 74 = .ok (.bipush 6, 2) := by decide +kernel
theorem oD36_76 : decode method_3_code 76 = .ok (.invokevirtual 31, 3) := by decide +kernel
theorem oD36_79 : decode method_3_code 79 = .ok (.if_icmp .ne 111, 3) := by decide +kernel
theorem oD36_82 : decode method_3_code 82 = .ok (.aload_n 0, 1) := by decide +kernel
theorem oD36_83 : decode method_3_code 83 = .ok (.bipush 7, 2) := by decide +kernel
theorem oD36_85 : decode method_3_code 85 = .ok (.baload, 1) := by decide +kernel
theorem oD36_86 : decode method_3_code 86 = .ok (.aload_n 1, 1) := by decide +kernel
theorem oD36_87 : decode method_3_code 87 = .ok (.bipush 7, 2) := by decide +kernel
theorem oD36_89 : decode method_3_code 89 = .ok (.invokevirtual 31, 3) := by decide +kernel
theorem oD36_92 : decode method_3_code 92 = .ok (.if_icmp .ne 98, 3) := by decide +kernel
theorem oD36_95 : decode method_3_code 95 = .ok (.aload_n 0, 1) := by decide +kernel
theorem oD36_96 : decode method_3_code 96 = .ok (.bipush 8, 2) := by decide +kernel
theorem oD36_98 : decode method_3_code 98 = .ok (.baload, 1) := by decide +kernel
theorem oD36_99 : decode method_3_code 99 = .ok (.aload_n 1, 1) := by decide +kernel
theorem oD36_100 : decode method_3_code 100 = .ok (.bipush 8, 2) := by decide +kernel
theorem oD36_102 : decode method_3_code 102 = .ok (.invokevirtual 31, 3) := by decide +kernel
theorem oD36_105 : decode method_3_code 105 = .ok (.if_icmp .ne 85, 3) := by decide +kernel
theorem oD36_108 : decode method_3_code 108 = .ok (.aload_n 0, 1) := by decide +kernel
theorem oD36_109 : decode method_3_code 109 = .ok (.bipush 9, 2) := by decide +kernel
theorem oD36_111 : decode method_3_code 111 = .ok (.baload, 1) := by decide +kernel
theorem oD36_112 : decode method_3_code 112 = .ok (.aload_n 1, 1) := by decide +kernel
theorem oD36_113 : decode method_3_code 113 = .ok (.bipush 9, 2) := by decide +kernel
theorem oD36_115 : decode method_3_code 115 = .ok (.invokevirtual 31, 3) := by decide +kernel
theorem oD36_118 : decode method_3_code 118 = .ok (.if_icmp .ne 72, 3) := by decide +kernel
theorem oD36_121 : decode method_3_code 121 = .ok (.aload_n 0, 1) := by decide +kernel
theorem oD36_122 : decode method_3_code 122 = .ok (.bipush 10, 2) := by decide +kernel
theorem oD36_124 : decode method_3_code 124 = .ok (.baload, 1) := by decide +kernel
theorem oD36_125 : decode method_3_code 125 = .ok (.aload_n 1, 1) := by decide +kernel
theorem oD36_126 : decode method_3_code 126 = .ok (.bipush 10, 2) := by decide +kernel
theorem oD36_128 : decode method_3_code 128 = .ok (.invokevirtual 31, 3) := by decide +kernel
theorem oD36_131 : decode method_3_code 131 = .ok (.if_icmp .ne 59, 3) := by decide +kernel
theorem oD36_134 : decode method_3_code 134 = .ok (.aload_n 0, 1) := by decide +kernel
theorem oD36_135 : decode method_3_code 135 = .ok (.bipush 11, 2) := by decide +kernel
theorem oD36_137 : decode method_3_code 137 = .ok (.baload, 1) := by decide +kernel
theorem oD36_138 : decode method_3_code 138 = .ok (.aload_n 1, 1) := by decide +kernel
theorem oD36_139 : decode method_3_code 139 = .ok (.bipush 11, 2) := by decide +kernel
theorem oD36_141 : decode method_3_code 141 = .ok (.invokevirtual 31, 3) := by decide +kernel
theorem oD36_144 : decode method_3_code 144 = .ok (.if_icmp .ne 46, 3) := by decide +kernel
theorem oD36_147 : decode method_3_code 147 = .ok (.aload_n 0, 1) := by decide +kernel
theorem oD36_148 : decode method_3_code 148 = .ok (.bipush 12, 2) := by decide +kernel
theorem oD36_150 : decode method_3_code 150 = .ok (.baload, 1) := by decide +kernel
theorem oD36_151 : decode method_3_code 151 = .ok (.aload_n 1, 1) := by decide +kernel
theorem oD36_152 : decode method_3_code 152 = .ok (.bipush 12, 2) := by decide +kernel
theorem oD36_154 : decode method_3_code 154 = .ok (.invokevirtual 31, 3) := by decide +kernel
theorem oD36_157 : decode method_3_code 157 = .ok (.if_icmp .ne 33, 3) := by decide +kernel
theorem oD36_160 : decode method_3_code 160 = .ok (.aload_n 0, 1) := by decide +kernel
theorem oD36_161 : decode method_3_code 161 = .ok (.bipush 13, 2) := by decide +kernel
theorem oD36_163 : decode method_3_code 163 = .ok (.baload, 1) := by decide +kernel
theorem oD36_164 : decode method_3_code 164 = .ok (.aload_n 1, 1) := by decide +kernel
theorem oD36_165 : decode method_3_code 165 = .ok (.bipush 13, 2) := by decide +kernel
theorem oD36_167 : decode method_3_code 167 = .ok (.invokevirtual 31, 3) := by decide +kernel
theorem oD36_170 : decode method_3_code 170 = .ok (.if_icmp .ne 20, 3) := by decide +kernel
theorem oD36_173 : decode method_3_code 173 = .ok (.aload_n 0, 1) := by decide +kernel
theorem oD36_174 : decode method_3_code 174 = .ok (.bipush 14, 2) := by decide +kernel
theorem oD36_176 : decode method_3_code 176 = .ok (.baload, 1) := by decide +kernel
theorem oD36_177 : decode method_3_code 177 = .ok (.aload_n 1, 1) := by decide +kernel
theorem oD36_178 : decode method_3_code 178 = .ok (.bipush 14, 2) := by decide +kernel
theorem oD36_180 : decode method_3_code 180 = .ok (.invokevirtual 31, 3) := by decide +kernel
theorem oD36_183 : decode method_3_code 183 = .ok (.if_icmp .ne 7, 3) := by decide +kernel
theorem oD36_186 : decode method_3_code 186 = .ok (.iconst 1, 1) := by decide +kernel
theorem oD36_187 : decode method_3_code 187 = .ok (.goto 4, 3) := by decide +kernel
theorem oD36_191 : decode method_3_code 191 = .ok (.ireturn, 1) := by decide +kernel
theorem o_ef18 (m : MethodId) (x0 : Int32) (x1 : Int32) (x2 : Int32) (x3 : Int32) : entryFrame m #[(.int x0), (.int x1), (.int x2), (.int x3)] maxLocals = mkF m 0 #[.val (.int x0), .val (.int x1), .val (.int x2), .val (.int x3), .unset, .unset, .unset, .unset, .unset, .unset, .unset, .unset, .unset] [] := by first | (simp [entryFrame, mkF, argsToLocals, Value.category, maxLocals]; done) | rfl
theorem o_pd__28_5bC_29V : parseMethodDescriptor "([C)V" = some ⟨[(.array .char)], none⟩ := by decide +kernel
theorem o_pd__28_29V : parseMethodDescriptor "()V" = some ⟨[], none⟩ := by decide +kernel
theorem o_pd__28Ljava_2flang_2fString_3b_29Lcom_2fexample_2fscholion_2fscholion_2fhttp_2fHtml_3b : parseMethodDescriptor "(Ljava/lang/String;)Lcom/example/scholion/scholion/http/Html;" = some ⟨[(.object "java/lang/String")], some (.object "com/example/scholion/scholion/http/Html")⟩ := by decide +kernel
theorem o_pd__28_5bB_29Z : parseMethodDescriptor "([B)Z" = some ⟨[(.array .byte)], some .boolean⟩ := by decide +kernel
abbrev Qcod (Z : State) (x : Addr) (zC_ : Int32) (h0 : Heap) (n0 : Nat) (v : Option Value) (h : Heap) (L : List Loc) : Prop := v = some (.int 0) ∧ Fr n0 L ∧ h = h0
set_option maxRecDepth 65536 in
set_option maxHeartbeats 40000000 in
theorem rmcod (l : Launch) (Z : State) (a0 : Array Value) (hw : ∀ d ∈ tables_1, d.before a0 Z = true) (ws : List Jvm.Cond) (x : Addr) (zC_ : Int32) (h0 : Heap) (n0 : Nat) (O0 : Old Z n0 h0) (C_x : Fld Z h0 x "java/lang/String" "coder" "B" (.int 0)) (SC_ : o_SC Z zC_) (hC_ : ¬ zC_ = 0) :
    o_Met l Z o_m0 jdk_42_method_152_code 1 (some .byte) ws o_R0 #[(.ref x)] h0 (Qcod Z x zC_ h0 n0) := by
  refine o_enter o_pn_0 (fun m => o_ef0 m x) (fun p e s m below meth c s₁ hx hby hml hZ hown hnm hlk hrt X0 e0 => ?_)
  have N0 := Fr.nil n0
  have y_ := @hb _ _ hby
  have k_ := @o_k _ _ hw
  refine o_getS X0 hx hZ hown (host := "") (Or.inl (k_ 53 rfl)) Via.refl e0 (Sta.ext O0.2 SC_) (y_ oD0_0) (fun T1 X1 e1 => ?_)
  refine o_iF (t := 13) X1 hx (y_ oD0_3) (fun hq => ?_) (fun hq => ?_)
  · have hc3 := o_h_eq.1 hq
    exact absurd hc3 hC_
  have hc3 := o_h_eq.2 hq
  refine o_aloadN X1 hx (y_ oD0_6) rfl rfl ?_
  refine o_getF X1 hx hZ hown (host := "") (Or.inl (k_ 21 rfl)) Via.refl e1 C_x (y_ oD0_7) (fun T2 X2 e2 => ?_)
  refine o_gO (t := 14) X2 hx (y_ oD0_10) ?_
  exact o_retN X2 hx (t := .byte) hrt hlk (by simp) (y_ oD0_14) rfl (by decide) (by decide) (o_hQ e2 ⟨rfl, N0, rfl⟩)
abbrev Qisl (Z : State) (x : Addr) (zC_ : Int32) (h0 : Heap) (n0 : Nat) (v : Option Value) (h : Heap) (L : List Loc) : Prop := v = some (.int 1) ∧ Fr n0 L ∧ h = h0
set_option maxRecDepth 65536 in
set_option maxHeartbeats 40000000 in
theorem rmisl (l : Launch) (Z : State) (a0 : Array Value) (hw : ∀ d ∈ tables_1, d.before a0 Z = true) (ws : List Jvm.Cond) (x : Addr) (zC_ : Int32) (h0 : Heap) (n0 : Nat) (O0 : Old Z n0 h0) (C_x : Fld Z h0 x "java/lang/String" "coder" "B" (.int 0)) (SC_ : o_SC Z zC_) (hC_ : ¬ zC_ = 0) :
    o_Met l Z o_m1 jdk_42_method_154_code 1 (some .boolean) ws o_R0 #[(.ref x)] h0 (Qisl Z x zC_ h0 n0) := by
  refine o_enter o_pn_0 (fun m => o_ef0 m x) (fun p e s m below meth c s₁ hx hby hml hZ hown hnm hlk hrt X0 e0 => ?_)
  have N0 := Fr.nil n0
  have y_ := @hb _ _ hby
  have k_ := @o_k _ _ hw
  refine o_getS X0 hx hZ hown (host := "") (Or.inl (k_ 53 rfl)) Via.refl e0 (Sta.ext O0.2 SC_) (y_ oD1_0) (fun T1 X1 e1 => ?_)
  refine o_iF (t := 17) X1 hx (y_ oD1_3) (fun hq => ?_) (fun hq => ?_)
  · have hc3 := o_h_eq.1 hq
    exact absurd hc3 hC_
  have hc3 := o_h_eq.2 hq
  refine o_aloadN X1 hx (y_ oD1_6) rfl rfl ?_
  refine o_getF X1 hx hZ hown (host := "") (Or.inl (k_ 21 rfl)) Via.refl e1 C_x (y_ oD1_7) (fun T2 X2 e2 => ?_)
  refine o_iFF X2 hx (y_ oD1_10) ?_
  refine o_iconst X2 hx (y_ oD1_13) (x := 1) rfl ?_
  refine o_gO (t := 18) X2 hx (y_ oD1_14) ?_
  exact o_retN X2 hx (t := .boolean) hrt hlk (by simp) (y_ oD1_18) rfl (by decide) (by decide) (o_hQ e2 ⟨rfl, N0, rfl⟩)
abbrev Qlen (Z : State) (x : Addr) (u : Addr) (ds : List Int32) (zC_ : Int32) (h0 : Heap) (n0 : Nat) (v : Option Value) (h : Heap) (L : List Loc) : Prop := v = some (.int (Int32.ofNat ds.length)) ∧ Fr n0 L ∧ h = h0
set_option maxRecDepth 65536 in
set_option maxHeartbeats 40000000 in
theorem rmlen (l : Launch) (Z : State) (a0 : Array Value) (hw : ∀ d ∈ tables_1, d.before a0 Z = true) (ws : List Jvm.Cond) (x : Addr) (u : Addr) (ds : List Int32) (zC_ : Int32) (h0 : Heap) (n0 : Nat) (O0 : Old Z n0 h0) (S_x : o_Str Z h0 x u ds) (SC_ : o_SC Z zC_) (hC_ : ¬ zC_ = 0) :
    o_Met l Z o_m2 jdk_42_method_54_code 1 (some .int) ws o_R1 #[(.ref x)] h0 (Qlen Z x u ds zC_ h0 n0) := by
  refine o_enter o_pn_0 (fun m => o_ef0 m x) (fun p e s m below meth c s₁ hx hby hml hZ hown hnm hlk hrt X0 e0 => ?_)
  have N0 := Fr.nil n0
  have y_ := @hb _ _ hby
  have k_ := @o_k _ _ hw
  obtain ⟨ks1, Sa1⟩ := S_x.2.2.2.1
  refine o_aloadN X0 hx (y_ oD2_0) rfl rfl ?_
  refine o_getF X0 hx hZ hown (host := "") (Or.inl (k_ 20 rfl)) Via.refl e0 S_x.2.2.1 (y_ oD2_1) (fun T2 X2 e2 => ?_)
  refine o_alen (n := (Int32.ofNat ds.length)) X2 hx hZ e2 Sa1 (y_ oD2_4) ?_
  refine o_aloadN X2 hx (y_ oD2_5) rfl rfl ?_
  refine o_vir (y := o_m0) (b := x) (argsL := []) (S := [(.int (Int32.ofNat ds.length))]) (W := 1) X2 hx hZ hown (k_ 48 rfl) (k_ 49 rfl) (k_ 51 rfl) (k_ 50 rfl) (backOf (W := 1) (rmcod l Z a0 hw [] x zC_ h0 n0 O0 S_x.2.1 SC_ hC_) hZ (k_ 52 rfl) (k_ 2 rfl) (by decide) (by decide)) e2 S_x.1 hml (lenOf o_pd__28_29B rfl) (y_ oD2_6) (fun T3 L3 v3 X3 hQ3 => ?_)
  obtain ⟨rfl, N3q, hh3⟩ := hQ3
  have N3 := Fr.app N0 N3q
  show o_G p e below _ T3 (mkF m 9 #[vR x] [(.int 0), (.int (Int32.ofNat ds.length))])
  refine o_ishr X3 hx (y_ oD2_9) ?_
  refine o_valE (z := (Int32.ofNat ds.length)) o_shr0 ?_
  exact o_retI X3 hx hrt hlk (y_ oD2_10) (by decide) (by decide) (o_hQ hh3 ⟨rfl, N3, rfl⟩)
abbrev Qeci (Z : State) (b : Addr) (mn : Int32) (t : Addr) (z : Int32) (cs : List Int32) (h0 : Heap) (n0 : Nat) (v : Option Value) (h : Heap) (L : List Loc) : Prop := v = none ∧ Fr n0 L ∧ h = h0
set_option maxRecDepth 65536 in
set_option maxHeartbeats 40000000 in
theorem rmeci (l : Launch) (Z : State) (a0 : Array Value) (hw : ∀ d ∈ tables_1, d.before a0 Z = true) (ws : List Jvm.Cond) (b : Addr) (mn : Int32) (t : Addr) (z : Int32) (cs : List Int32) (h0 : Heap) (n0 : Nat) (O0 : Old Z n0 h0) (B_b : o_Bl Z h0 b t z cs) (hcap : ¬ (0 : Int32) < mn - z) :
    o_Met l Z o_m3 jdk_68_method_9_code 3 none ws o_R0 #[(.ref b), (.int mn)] h0 (Qeci Z b mn t z cs h0 n0) := by
  refine o_enter o_pn_1 (fun m => o_ef1 m b mn) (fun p e s m below meth c s₁ hx hby hml hZ hown hnm hlk hrt X0 e0 => ?_)
  have N0 := Fr.nil n0
  have y_ := @hb _ _ hby
  have k_ := @o_k _ _ hw
  obtain ⟨Be1, Bc1, Bv1, Bn1, ⟨kb1, Ba1⟩, Bh1, Bs1⟩ := id B_b
  refine o_aloadN X0 hx (y_ oD3_0) rfl rfl ?_
  refine o_getF X0 hx hZ hown (host := "") (Or.inl (k_ 58 rfl)) Via.refl e0 Bv1 (y_ oD3_1) (fun T2 X2 e2 => ?_)
  refine o_alen (n := z) X2 hx hZ e2 Ba1 (y_ oD3_4) ?_
  refine o_aloadN X2 hx (y_ oD3_5) rfl rfl ?_
  refine o_getF X2 hx hZ hown (host := "") (Or.inl (k_ 56 rfl)) Via.refl e2 Bc1 (y_ oD3_6) (fun T3 X3 e3 => ?_)
  refine o_ishr X3 hx (y_ oD3_9) ?_
  refine o_valE (z := z) o_shr0 ?_
  refine o_istoreN X3 hx (y_ oD3_10) (A' := #[vR b, vI mn, vI z]) rfl ?_
  refine o_iloadN X3 hx (y_ oD3_11) rfl ?_
  refine o_iloadN X3 hx (y_ oD3_12) rfl ?_
  refine o_isub X3 hx (y_ oD3_13) ?_
  refine o_iF (t := 38) X3 hx (y_ oD3_14) (fun hq => ?_) (fun hq => ?_)
  · have hc14 := o_h_le.1 hq
    exact o_retV X3 hx hrt hlk (y_ oD3_38) (by decide) (by decide) (o_hQ e3 ⟨rfl, N0, rfl⟩)
  have hc14 := o_h_le.2 hq
  exact absurd hc14 hcap
abbrev Qinf (Z : State) (b : Addr) (x : Addr) (t : Addr) (z : Int32) (cs : List Int32) (u : Addr) (ds : List Int32) (zC_ : Int32) (h0 : Heap) (n0 : Nat) (v : Option Value) (h : Heap) (L : List Loc) : Prop := v = none ∧ Fr n0 L ∧ h = h0
set_option maxRecDepth 65536 in
set_option maxHeartbeats 40000000 in
theorem rminf (l : Launch) (Z : State) (a0 : Array Value) (hw : ∀ d ∈ tables_1, d.before a0 Z = true) (ws : List Jvm.Cond) (b : Addr) (x : Addr) (t : Addr) (z : Int32) (cs : List Int32) (u : Addr) (ds : List Int32) (zC_ : Int32) (h0 : Heap) (n0 : Nat) (O0 : Old Z n0 h0) (B_b : o_Bl Z h0 b t z cs) (S_x : o_Str Z h0 x u ds) (SC_ : o_SC Z zC_) (hC_ : ¬ zC_ = 0) :
    o_Met l Z o_m4 jdk_68_method_71_code 2 none ws o_R1 #[(.ref b), (.ref x)] h0 (Qinf Z b x t z cs u ds zC_ h0 n0) := by
  refine o_enter o_pn_1 (fun m => o_ef2 m b x) (fun p e s m below meth c s₁ hx hby hml hZ hown hnm hlk hrt X0 e0 => ?_)
  have N0 := Fr.nil n0
  have y_ := @hb _ _ hby
  have k_ := @o_k _ _ hw
  obtain ⟨Be1, Bc1, Bv1, Bn1, ⟨kb1, Ba1⟩, Bh1, Bs1⟩ := id B_b
  refine o_getS X0 hx hZ hown (host := "") (Or.inl (k_ 91 rfl)) Via.refl e0 (Sta.ext O0.2 SC_) (y_ oD4_0) (fun T2 X2 e2 => ?_)
  refine o_iF (t := 21) X2 hx (y_ oD4_3) (fun hq => ?_) (fun hq => ?_)
  · have hc3 := o_h_eq.1 hq
    exact absurd hc3 hC_
  have hc3 := o_h_eq.2 hq
  refine o_aloadN X2 hx (y_ oD4_6) rfl rfl ?_
  refine o_getF X2 hx hZ hown (host := "") (Or.inl (k_ 56 rfl)) Via.refl e2 Bc1 (y_ oD4_7) (fun T3 X3 e3 => ?_)
  refine o_aloadN X3 hx (y_ oD4_10) rfl rfl ?_
  refine o_vir (y := o_m0) (b := x) (argsL := []) (S := [(.int 0)]) (W := 1) X3 hx hZ hown (k_ 55 rfl) (k_ 49 rfl) (k_ 51 rfl) (k_ 50 rfl) (backOf (W := 1) (rmcod l Z a0 hw [] x zC_ h0 n0 O0 S_x.2.1 SC_ hC_) hZ (k_ 52 rfl) (k_ 2 rfl) (by decide) (by decide)) e3 S_x.1 hml (lenOf o_pd__28_29B rfl) (y_ oD4_11) (fun T4 L4 v4 X4 hQ4 => ?_)
  obtain ⟨rfl, N4q, hh4⟩ := hQ4
  have N4 := Fr.app N0 N4q
  show o_G p e below _ T4 (mkF m 14 #[vR b, vR x] [(.int 0), (.int 0)])
  refine o_iCT (t := 21) X4 hx (y_ oD4_14) ?_
  exact o_retV X4 hx hrt hlk (y_ oD4_21) (by decide) (by decide) (o_hQ hh4 ⟨rfl, N4, rfl⟩)
abbrev Qgbb (Z : State) (x : Addr) (d : Addr) (i : Int32) (u : Addr) (ds : List Int32) (kd : ClassId) (z : Int32) (vd : List Value) (zC_ : Int32) (h0 : Heap) (n0 : Nat) (v : Option Value) (h : Heap) (L : List Loc) : Prop := v = none ∧ Fr n0 L ∧ Keep h0 h [d] ∧ Arv Z h d kd .byte z (vd ++ (o_V8 ds)) (.int 0)
set_option maxRecDepth 65536 in
set_option maxHeartbeats 40000000 in
theorem rmgbb (l : Launch) (Z : State) (a0 : Array Value) (hw : ∀ d ∈ tables_1, d.before a0 Z = true) (ws : List Jvm.Cond) (x : Addr) (d : Addr) (i : Int32) (u : Addr) (ds : List Int32) (kd : ClassId) (z : Int32) (vd : List Value) (zC_ : Int32) (h0 : Heap) (n0 : Nat) (O0 : Old Z n0 h0) (S_x : o_Str Z h0 x u ds) (V_d : Arv Z h0 d kd .byte z vd (.int 0)) (g_d : n0 ≤ d) (hi : ¬ i < 0) (hl : i.toNatClampNeg = vd.length) (hs : vd.length + ds.length ≤ z.toNatClampNeg) (SC_ : o_SC Z zC_) (hC_ : ¬ zC_ = 0) :
    o_Met l Z o_m5 jdk_42_method_147_code 4 none ws o_R2 #[(.ref x), (.ref d), (.int i), (.int 0)] h0 (Qgbb Z x d i u ds kd z vd zC_ h0 n0) := by
  refine o_enter o_pn_0 (fun m => o_ef3 m x d i) (fun p e s m below meth c s₁ hx hby hml hZ hown hnm hlk hrt X0 e0 => ?_)
  have N0 := Fr.nil n0
  have y_ := @hb _ _ hby
  have k_ := @o_k _ _ hw
  obtain ⟨ks1, Sa1⟩ := S_x.2.2.2.1
  refine o_aloadN X0 hx (y_ oD5_0) rfl rfl ?_
  refine o_vir (y := o_m0) (b := x) (argsL := []) (S := []) (W := 0) X0 hx hZ hown (k_ 48 rfl) (k_ 49 rfl) (k_ 51 rfl) (k_ 50 rfl) (backOf (W := 0) (rmcod l Z a0 hw [] x zC_ h0 n0 O0 S_x.2.1 SC_ hC_) hZ (k_ 52 rfl) (k_ 2 rfl) (by decide) (by decide)) e0 S_x.1 hml (lenOf o_pd__28_29B rfl) (y_ oD5_1) (fun T2 L2 v2 X2 hQ2 => ?_)
  obtain ⟨rfl, N2q, hh2⟩ := hQ2
  have N2 := Fr.app N0 N2q
  show o_G p e below _ T2 (mkF m 4 #[vR x, vR d, vI i, vI 0] [(.int 0)])
  refine o_iloadN X2 hx (y_ oD5_4) rfl ?_
  refine o_iCF X2 hx (y_ oD5_5) ?_
  refine o_aloadN X2 hx (y_ oD5_8) rfl rfl ?_
  refine o_getF X2 hx hZ hown (host := "") (Or.inl (k_ 20 rfl)) Via.refl hh2 S_x.2.2.1 (y_ oD5_9) (fun T3 X3 e3 => ?_)
  refine o_iconst X3 hx (y_ oD5_12) (x := 0) rfl ?_
  refine o_aloadN X3 hx (y_ oD5_13) rfl rfl ?_
  refine o_iloadN X3 hx (y_ oD5_14) rfl ?_
  refine o_iloadN X3 hx (y_ oD5_15) rfl ?_
  refine o_ishl X3 hx (y_ oD5_16) ?_
  refine o_valE (z := i) o_shl0 ?_
  refine o_aloadN X3 hx (y_ oD5_17) rfl rfl ?_
  refine o_getF X3 hx hZ hown (host := "") (Or.inl (k_ 20 rfl)) Via.refl e3 S_x.2.2.1 (y_ oD5_18) (fun T4 X4 e4 => ?_)
  refine o_alen (n := (Int32.ofNat ds.length)) X4 hx hZ e4 Sa1 (y_ oD5_21) ?_
  refine o_cpB (W := 0) (us := (o_V8 ds)) X4 hx hZ hown (k_ 97 rfl) (k_ 100 rfl) (k_ 98 rfl) (k_ 99 rfl) e4 Sa1 V_d (by decide) hi (o_on S_x.l31) (by rw [o_oc S_x.l31]; exact Nat.le_of_eq (Nat.zero_add _)) (by rw [o_oc S_x.l31, hl]; exact hs) (by rw [o_oc S_x.l31]; exact o_V8range ds) hl N2 g_d (by rw [hml]; rfl) (y_ oD5_22) (by decide) (Nat.le_of_eq rfl) (by rw [nativeFrameWords_plain 5 (by decide)]; decide) (fun T5 h5 L5 X5 e5 N5 Kp5 V5 => ?_)
  have O6 := Old.keep O0 Kp5 (allS g_d all0)
  refine o_gO (t := 43) X5 hx (y_ oD5_25) ?_
  have kp7 := Keep.trans (Keep.refl h0 [d]) Kp5 (allS (Or.inl (List.mem_of_getElem? (i := 0) rfl)) all0)
  exact o_retV X5 hx hrt hlk (y_ oD5_43) (by decide) (by decide) (o_hQ e5 ⟨rfl, N5, kp7, V5⟩)
abbrev Qpsa (Z : State) (b : Addr) (i : Int32) (x : Addr) (t : Addr) (z : Int32) (cs : List Int32) (u : Addr) (ds : List Int32) (zC_ : Int32) (h0 : Heap) (n0 : Nat) (v : Option Value) (h : Heap) (L : List Loc) : Prop := v = none ∧ Fr n0 L ∧ Keep h0 h [t] ∧ ∃ k, Arv Z h t k .byte z ((o_V8 cs) ++ (o_V8 ds)) (.int 0)
set_option maxRecDepth 65536 in
set_option maxHeartbeats 40000000 in
theorem rmpsa (l : Launch) (Z : State) (a0 : Array Value) (hw : ∀ d ∈ tables_1, d.before a0 Z = true) (ws : List Jvm.Cond) (b : Addr) (i : Int32) (x : Addr) (t : Addr) (z : Int32) (cs : List Int32) (u : Addr) (ds : List Int32) (zC_ : Int32) (h0 : Heap) (n0 : Nat) (O0 : Old Z n0 h0) (B_b : o_Bl Z h0 b t z cs) (S_x : o_Str Z h0 x u ds) (g_t : n0 ≤ t) (hi : i = (Int32.ofNat cs.length)) (hs : cs.length + ds.length ≤ z.toNatClampNeg) (SC_ : o_SC Z zC_) (hC_ : ¬ zC_ = 0) :
    o_Met l Z o_m6 jdk_68_method_73_code 3 none ws o_R3 #[(.ref b), (.int i), (.ref x)] h0 (Qpsa Z b i x t z cs u ds zC_ h0 n0) := by
  refine o_enter o_pn_1 (fun m => o_ef4 m b i x) (fun p e s m below meth c s₁ hx hby hml hZ hown hnm hlk hrt X0 e0 => ?_)
  have N0 := Fr.nil n0
  have y_ := @hb _ _ hby
  have k_ := @o_k _ _ hw
  obtain ⟨Be1, Bc1, Bv1, Bn1, ⟨kb1, Ba1⟩, Bh1, Bs1⟩ := id B_b
  refine o_aloadN X0 hx (y_ oD6_0) rfl rfl ?_
  refine o_aloadN X0 hx (y_ oD6_1) rfl rfl ?_
  refine o_vir (y := o_m4) (b := b) (argsL := [(.ref x)]) (S := []) (W := 0) X0 hx hZ hown (k_ 86 rfl) (o_decl (k_ 87 rfl) (k_ 90 rfl)) (k_ 89 rfl) (k_ 87 rfl) (backOf (W := 0) (rminf l Z a0 hw [] b x t z cs u ds zC_ h0 n0 O0 B_b S_x SC_ hC_) hZ (k_ 90 rfl) (k_ 40 rfl) (by decide) (by decide)) e0 Be1 hml (lenOf o_pd__28Ljava_2flang_2fString_3b_29V rfl) (y_ oD6_2) (fun T2 L2 v2 X2 hQ2 => ?_)
  obtain ⟨rfl, N2q, hh2⟩ := hQ2
  have N2 := Fr.app N0 N2q
  show o_G p e below _ T2 (mkF m 5 #[vR b, vI i, vR x] [])
  refine o_aloadN X2 hx (y_ oD6_5) rfl rfl ?_
  refine o_aloadN X2 hx (y_ oD6_6) rfl rfl ?_
  refine o_getF X2 hx hZ hown (host := "") (Or.inl (k_ 58 rfl)) Via.refl hh2 Bv1 (y_ oD6_7) (fun T3 X3 e3 => ?_)
  refine o_iloadN X3 hx (y_ oD6_10) rfl ?_
  refine o_aloadN X3 hx (y_ oD6_11) rfl rfl ?_
  refine o_getF X3 hx hZ hown (host := "") (Or.inl (k_ 56 rfl)) Via.refl e3 Bc1 (y_ oD6_12) (fun T4 X4 e4 => ?_)
  refine o_vir (y := o_m5) (b := x) (argsL := [(.ref t), (.int i), (.int 0)]) (S := []) (W := 0) X4 hx hZ hown (k_ 92 rfl) (k_ 93 rfl) (k_ 95 rfl) (k_ 94 rfl) (backOf (W := 0) (rmgbb l Z a0 hw [] x t i u ds kb1 z (o_V8 cs) zC_ h0 n0 O0 S_x Ba1 g_t (by rw [hi]; exact o_on B_b.l31) (by rw [hi, o_oc B_b.l31]; exact (o_V8len cs).symm) (by rw [o_V8len]; exact hs) SC_ hC_) hZ (k_ 96 rfl) (k_ 2 rfl) (by decide) (by decide)) e4 S_x.1 hml (lenOf o_pd__28_5bBIB_29V rfl) (y_ oD6_15) (fun T5 L5 v5 X5 hQ5 => ?_)
  obtain ⟨rfl, N5q, Kp5, Va5⟩ := hQ5
  have N5 := Fr.app N2 N5q
  have O6 := Old.keep O0 Kp5 (allS g_t all0)
  show o_G p e below _ T5 (mkF m 18 #[vR b, vI i, vR x] [])
  have kp7 := Keep.trans (Keep.refl h0 [t]) Kp5 (allS (Or.inl (List.mem_of_getElem? (i := 0) rfl)) all0)
  exact o_retV X5 hx hrt hlk (y_ oD6_18) (by decide) (by decide) ⟨rfl, N5, kp7, _, Va5⟩
abbrev Qaap (Z : State) (b : Addr) (x : Addr) (t : Addr) (z : Int32) (cs : List Int32) (u : Addr) (ds : List Int32) (zC_ : Int32) (h0 : Heap) (n0 : Nat) (v : Option Value) (h : Heap) (L : List Loc) : Prop := v = some (.ref b) ∧ Fr n0 L ∧ Keep h0 h [b, t] ∧ o_Bl Z h b t z (cs ++ ds)
set_option maxRecDepth 65536 in
set_option maxHeartbeats 40000000 in
theorem rmaap (l : Launch) (Z : State) (a0 : Array Value) (hw : ∀ d ∈ tables_1, d.before a0 Z = true) (ws : List Jvm.Cond) (b : Addr) (x : Addr) (t : Addr) (z : Int32) (cs : List Int32) (u : Addr) (ds : List Int32) (zC_ : Int32) (h0 : Heap) (n0 : Nat) (O0 : Old Z n0 h0) (B_b : o_Bl Z h0 b t z cs) (S_x : o_Str Z h0 x u ds) (g_b : n0 ≤ b) (g_t : n0 ≤ t) (hs : cs.length + ds.length ≤ z.toNatClampNeg) (SC_ : o_SC Z zC_) (hC_ : ¬ zC_ = 0) :
    o_Met l Z o_m7 jdk_68_method_22_code 3 (some (.object "java/lang/AbstractStringBuilder")) ws o_R4 #[(.ref b), (.ref x)] h0 (Qaap Z b x t z cs u ds zC_ h0 n0) := by
  refine o_enter o_pn_1 (fun m => o_ef5 m b x) (fun p e s m below meth c s₁ hx hby hml hZ hown hnm hlk hrt X0 e0 => ?_)
  have N0 := Fr.nil n0
  have y_ := @hb _ _ hby
  have k_ := @o_k _ _ hw
  obtain ⟨Be1, Bc1, Bv1, Bn1, ⟨kb1, Ba1⟩, Bh1, Bs1⟩ := id B_b
  refine o_aloadN X0 hx (y_ oD7_0) rfl rfl ?_
  refine o_nonnullY (t := 9) X0 hx (y_ oD7_1) (by decide) (by decide) ?_
  refine o_aloadN X0 hx (y_ oD7_9) rfl rfl ?_
  refine o_vir (y := o_m2) (b := x) (argsL := []) (S := []) (W := 0) X0 hx hZ hown (k_ 43 rfl) (k_ 44 rfl) (k_ 46 rfl) (k_ 45 rfl) (backOf (W := 0) (rmlen l Z a0 hw [] x u ds zC_ h0 n0 O0 S_x SC_ hC_) hZ (k_ 47 rfl) (k_ 2 rfl) (by decide) (by decide)) e0 S_x.1 hml (lenOf o_pd__28_29I rfl) (y_ oD7_10) (fun T2 L2 v2 X2 hQ2 => ?_)
  obtain ⟨rfl, N2q, hh2⟩ := hQ2
  have N2 := Fr.app N0 N2q
  show o_G p e below _ T2 (mkF m 13 #[vR b, vR x, .unset] [(.int (Int32.ofNat ds.length))])
  refine o_istoreN X2 hx (y_ oD7_13) (A' := #[vR b, vR x, vI (Int32.ofNat ds.length)]) rfl ?_
  refine o_aloadN X2 hx (y_ oD7_14) rfl rfl ?_
  refine o_aloadN X2 hx (y_ oD7_15) rfl rfl ?_
  refine o_getF X2 hx hZ hown (host := "") (Or.inl (k_ 74 rfl)) Via.refl hh2 Bn1 (y_ oD7_16) (fun T3 X3 e3 => ?_)
  refine o_iloadN X3 hx (y_ oD7_19) rfl ?_
  refine o_iadd X3 hx (y_ oD7_20) ?_
  refine o_vir (y := o_m3) (b := b) (argsL := [(.int ((Int32.ofNat cs.length) + (Int32.ofNat ds.length)))]) (S := []) (W := 0) X3 hx hZ hown (k_ 76 rfl) (o_decl (k_ 77 rfl) (k_ 80 rfl)) (k_ 79 rfl) (k_ 77 rfl) (backOf (W := 0) (rmeci l Z a0 hw [] b ((Int32.ofNat cs.length) + (Int32.ofNat ds.length)) t z cs h0 n0 O0 B_b (o_cap B_b.nn hs)) hZ (k_ 80 rfl) (k_ 40 rfl) (by decide) (by decide)) e3 Be1 hml (lenOf o_pd__28I_29V rfl) (y_ oD7_21) (fun T4 L4 v4 X4 hQ4 => ?_)
  obtain ⟨rfl, N4q, hh4⟩ := hQ4
  have N4 := Fr.app N2 N4q
  show o_G p e below _ T4 (mkF m 24 #[vR b, vR x, vI (Int32.ofNat ds.length)] [])
  refine o_aloadN X4 hx (y_ oD7_24) rfl rfl ?_
  refine o_aloadN X4 hx (y_ oD7_25) rfl rfl ?_
  refine o_getF X4 hx hZ hown (host := "") (Or.inl (k_ 74 rfl)) Via.refl hh4 Bn1 (y_ oD7_26) (fun T5 X5 e5 => ?_)
  refine o_aloadN X5 hx (y_ oD7_29) rfl rfl ?_
  refine o_vir (y := o_m6) (b := b) (argsL := [(.int (Int32.ofNat cs.length)), (.ref x)]) (S := []) (W := 0) X5 hx hZ hown (k_ 81 rfl) (o_decl (k_ 82 rfl) (k_ 85 rfl)) (k_ 84 rfl) (k_ 82 rfl) (backOf (W := 0) (rmpsa l Z a0 hw [] b (Int32.ofNat cs.length) x t z cs u ds zC_ h0 n0 O0 B_b S_x g_t rfl hs SC_ hC_) hZ (k_ 85 rfl) (k_ 40 rfl) (by decide) (by decide)) e5 Be1 hml (lenOf o_pd__28ILjava_2flang_2fString_3b_29V rfl) (y_ oD7_30) (fun T6 L6 v6 X6 hQ6 => ?_)
  obtain ⟨rfl, N6q, Kp6, ka6, Va6⟩ := hQ6
  have N6 := Fr.app N4 N6q
  have O7 := Old.keep O0 Kp6 (allS g_t all0)
  show o_G p e below _ T6 (mkF m 33 #[vR b, vR x, vI (Int32.ofNat ds.length)] [])
  refine o_aloadN X6 hx (y_ oD7_33) rfl rfl ?_
  refine o_dup X6 hx (y_ oD7_34) rfl ?_
  have c8 := (Fld.keep Bn1 Kp6 (ninS (Exa.neArv Be1 Ba1 (k_ 30 rfl)) nin0))
  refine o_getF X6 hx hZ hown (host := "") (Or.inl (k_ 74 rfl)) Via.refl rfl c8 (y_ oD7_35) (fun T9 X9 e9 => ?_)
  refine o_iloadN X9 hx (y_ oD7_38) rfl ?_
  refine o_iadd X9 hx (y_ oD7_39) ?_
  have c10 := (Exa.keep Be1 Kp6)
  refine o_putF X9 hx hZ hown (host := "") (Or.inl (k_ 74 rfl)) Via.refl e9 c8 c10 (Or.inl (k_ 75 rfl)) (k_ 30 rfl) (ty := .int) (by decide) rfl rfl (y_ oD7_40) (fun T11 h11 X11 e11 W11 => ?_)
  have F11 := Fld.same W11 c8
  have N11 := Fr.snoc X11 N6 g_b
  have O11 := Old.wr O7 W11 g_b
  refine o_aloadN X11 hx (y_ oD7_43) rfl rfl ?_
  have kp12 := Keep.trans (Keep.refl h0 [b, t]) Kp6 (allS (Or.inl (List.mem_of_getElem? (i := 1) rfl)) all0)
  have kp13 := Keep.wr kp12 W11 (Or.inl (List.mem_of_getElem? (i := 0) rfl))
  have c14 := (Exa.wr W11 c10)
  have c15 := (Fld.other W11 (Fld.keep Bc1 Kp6 (ninS (Exa.neArv Be1 Ba1 (k_ 30 rfl)) nin0)) (Or.inr (slot_ne (Or.inl (k_ 57 rfl)) (Or.inl (k_ 75 rfl)) (by decide) (t := .byte) (t' := .int) (by decide) (by decide))))
  have c16 := (Fld.other W11 (Fld.keep Bv1 Kp6 (ninS (Exa.neArv Be1 Ba1 (k_ 30 rfl)) nin0)) (Or.inr (slot_ne (Or.inl (k_ 59 rfl)) (Or.inl (k_ 75 rfl)) (by decide) (t := (.array .byte)) (t' := .int) (by decide) (by decide))))
  have c17 := (Arv.other Va6 W11 (Ne.symm (Exa.neArv c10 Va6 (k_ 30 rfl))))
  exact o_retA X11 hx hrt hlk rfl rfl rfl (y_ oD7_44) (by decide) (by decide) (o_hQ e11 ⟨rfl, N11, kp13, o_blMk c14 c15 c16 F11 c17 Bh1 S_x.2.2.2.2.1 hs⟩)
abbrev Qsap (Z : State) (b : Addr) (x : Addr) (t : Addr) (z : Int32) (cs : List Int32) (u : Addr) (ds : List Int32) (zC_ : Int32) (h0 : Heap) (n0 : Nat) (v : Option Value) (h : Heap) (L : List Loc) : Prop := v = some (.ref b) ∧ Fr n0 L ∧ Keep h0 h [b, t] ∧ o_Bl Z h b t z (cs ++ ds)
set_option maxRecDepth 65536 in
set_option maxHeartbeats 40000000 in
theorem rmsap (l : Launch) (Z : State) (a0 : Array Value) (hw : ∀ d ∈ tables_1, d.before a0 Z = true) (ws : List Jvm.Cond) (b : Addr) (x : Addr) (t : Addr) (z : Int32) (cs : List Int32) (u : Addr) (ds : List Int32) (zC_ : Int32) (h0 : Heap) (n0 : Nat) (O0 : Old Z n0 h0) (B_b : o_Bl Z h0 b t z cs) (S_x : o_Str Z h0 x u ds) (g_b : n0 ≤ b) (g_t : n0 ≤ t) (hs : cs.length + ds.length ≤ z.toNatClampNeg) (SC_ : o_SC Z zC_) (hC_ : ¬ zC_ = 0) :
    o_Met l Z o_m8 jdk_67_method_7_code 2 (some (.object "java/lang/StringBuilder")) ws o_R5 #[(.ref b), (.ref x)] h0 (Qsap Z b x t z cs u ds zC_ h0 n0) := by
  refine o_enter o_pn_2 (fun m => o_ef2 m b x) (fun p e s m below meth c s₁ hx hby hml hZ hown hnm hlk hrt X0 e0 => ?_)
  have N0 := Fr.nil n0
  have y_ := @hb _ _ hby
  have k_ := @o_k _ _ hw
  refine o_aloadN X0 hx (y_ oD8_0) rfl rfl ?_
  refine o_aloadN X0 hx (y_ oD8_1) rfl rfl ?_
  refine o_sup (y := o_m7) (b := b) (argsL := [(.ref x)]) (S := []) (W := 0) X0 hx hZ hown (k_ 71 rfl) (o_same (y2 := o_m3) (k_ 62 rfl) (k_ 79 rfl) rfl (by decide)) (k_ 62 rfl) (k_ 72 rfl) (k_ 73 rfl) (backOf (W := 0) (rmaap l Z a0 hw [] b x t z cs u ds zC_ h0 n0 O0 B_b S_x g_b g_t hs SC_ hC_) hZ (k_ 73 rfl) (k_ 40 rfl) (by decide) (by decide)) e0 B_b.1 hml (lenOf o_pd__28Ljava_2flang_2fString_3b_29Ljava_2flang_2fAbstractStringBuilder_3b rfl) (y_ oD8_2) (fun T1 L1 v1 X1 hQ1 => ?_)
  obtain ⟨rfl, N1q, Kp1, Bl1⟩ := hQ1
  have N1 := Fr.app N0 N1q
  have O2 := Old.keep O0 Kp1 (allS g_b (allS g_t all0))
  show o_G p e below _ T1 (mkF m 5 #[vR b, vR x] [(.ref b)])
  refine o_pop X1 hx (y_ oD8_5) rfl ?_
  refine o_aloadN X1 hx (y_ oD8_6) rfl rfl ?_
  have kp3 := Keep.trans (Keep.refl h0 [b, t]) Kp1 (allS (Or.inl (List.mem_of_getElem? (i := 0) rfl)) (allS (Or.inl (List.mem_of_getElem? (i := 1) rfl)) all0))
  exact o_retA X1 hx hrt hlk rfl rfl rfl (y_ oD8_7) (by decide) (by decide) ⟨rfl, N1, kp3, Bl1⟩
abbrev Qsab (Z : State) (b : Addr) (x : Addr) (t : Addr) (z : Int32) (cs : List Int32) (u : Addr) (ds : List Int32) (zC_ : Int32) (h0 : Heap) (n0 : Nat) (v : Option Value) (h : Heap) (L : List Loc) : Prop := v = some (.ref b) ∧ Fr n0 L ∧ Keep h0 h [b, t] ∧ o_Bl Z h b t z (cs ++ ds)
set_option maxRecDepth 65536 in
set_option maxHeartbeats 40000000 in
theorem rmsab (l : Launch) (Z : State) (a0 : Array Value) (hw : ∀ d ∈ tables_1, d.before a0 Z = true) (ws : List Jvm.Cond) (b : Addr) (x : Addr) (t : Addr) (z : Int32) (cs : List Int32) (u : Addr) (ds : List Int32) (zC_ : Int32) (h0 : Heap) (n0 : Nat) (O0 : Old Z n0 h0) (B_b : o_Bl Z h0 b t z cs) (S_x : o_Str Z h0 x u ds) (g_b : n0 ≤ b) (g_t : n0 ≤ t) (hs : cs.length + ds.length ≤ z.toNatClampNeg) (SC_ : o_SC Z zC_) (hC_ : ¬ zC_ = 0) :
    o_Met l Z o_m9 jdk_67_method_80_code 2 (some (.object "java/lang/AbstractStringBuilder")) ws o_R6 #[(.ref b), (.ref x)] h0 (Qsab Z b x t z cs u ds zC_ h0 n0) := by
  refine o_enter o_pn_2 (fun m => o_ef2 m b x) (fun p e s m below meth c s₁ hx hby hml hZ hown hnm hlk hrt X0 e0 => ?_)
  have N0 := Fr.nil n0
  have y_ := @hb _ _ hby
  have k_ := @o_k _ _ hw
  refine o_aloadN X0 hx (y_ oD9_0) rfl rfl ?_
  refine o_aloadN X0 hx (y_ oD9_1) rfl rfl ?_
  refine o_vir (y := o_m8) (b := b) (argsL := [(.ref x)]) (S := []) (W := 0) X0 hx hZ hown (k_ 66 rfl) (k_ 67 rfl) (k_ 69 rfl) (k_ 68 rfl) (backOf (W := 0) (rmsap l Z a0 hw [] b x t z cs u ds zC_ h0 n0 O0 B_b S_x g_b g_t hs SC_ hC_) hZ (k_ 70 rfl) (k_ 31 rfl) (by decide) (by decide)) e0 B_b.1 hml (lenOf o_pd__28Ljava_2flang_2fString_3b_29Ljava_2flang_2fStringBuilder_3b rfl) (y_ oD9_2) (fun T1 L1 v1 X1 hQ1 => ?_)
  obtain ⟨rfl, N1q, Kp1, Bl1⟩ := hQ1
  have N1 := Fr.app N0 N1q
  have O2 := Old.keep O0 Kp1 (allS g_b (allS g_t all0))
  show o_G p e below _ T1 (mkF m 5 #[vR b, vR x] [(.ref b)])
  have kp3 := Keep.trans (Keep.refl h0 [b, t]) Kp1 (allS (Or.inl (List.mem_of_getElem? (i := 0) rfl)) (allS (Or.inl (List.mem_of_getElem? (i := 1) rfl)) all0))
  exact o_retA X1 hx hrt hlk rfl rfl rfl (y_ oD9_5) (by decide) (by decide) ⟨rfl, N1, kp3, Bl1⟩
abbrev Qcen (Z : State) (ch : Int32) (h0 : Heap) (n0 : Nat) (v : Option Value) (h : Heap) (L : List Loc) : Prop := v = some (.int 1) ∧ Fr n0 L ∧ h = h0
set_option maxRecDepth 65536 in
set_option maxHeartbeats 40000000 in
theorem rmcen (l : Launch) (Z : State) (a0 : Array Value) (hw : ∀ d ∈ tables_1, d.before a0 Z = true) (ws : List Jvm.Cond) (ch : Int32) (h0 : Heap) (n0 : Nat) (O0 : Old Z n0 h0) (hch : ¬ (255 : Int32) < ch) :
    o_Met l Z o_m10 jdk_43_method_3_code 1 (some .boolean) ws o_R0 #[(.int ch)] h0 (Qcen Z ch h0 n0) := by
  refine o_enter o_pn_3 (fun m => o_ef6 m ch) (fun p e s m below meth c s₁ hx hby hml hZ hown hnm hlk hrt X0 e0 => ?_)
  have N0 := Fr.nil n0
  have y_ := @hb _ _ hby
  have k_ := @o_k _ _ hw
  refine o_iloadN X0 hx (y_ oD10_0) rfl ?_
  refine o_sipush X0 hx (y_ oD10_1) (x := 255) rfl ?_
  refine o_iC (t := 11) X0 hx (y_ oD10_4) (fun hq => ?_) (fun hq => ?_)
  · have hc4 := o_c_gt.1 hq
    exact absurd hc4 hch
  have hc4 := o_c_gt.2 hq
  refine o_iconst X0 hx (y_ oD10_7) (x := 1) rfl ?_
  refine o_gO (t := 12) X0 hx (y_ oD10_8) ?_
  exact o_retN X0 hx (t := .boolean) hrt hlk (by simp) (y_ oD10_12) rfl (by decide) (by decide) (o_hQ e0 ⟨rfl, N0, rfl⟩)
abbrev Qail (Z : State) (b : Addr) (t : Addr) (z : Int32) (cs : List Int32) (zC_ : Int32) (h0 : Heap) (n0 : Nat) (v : Option Value) (h : Heap) (L : List Loc) : Prop := v = some (.int 1) ∧ Fr n0 L ∧ h = h0
set_option maxRecDepth 65536 in
set_option maxHeartbeats 40000000 in
theorem rmail (l : Launch) (Z : State) (a0 : Array Value) (hw : ∀ d ∈ tables_1, d.before a0 Z = true) (ws : List Jvm.Cond) (b : Addr) (t : Addr) (z : Int32) (cs : List Int32) (zC_ : Int32) (h0 : Heap) (n0 : Nat) (O0 : Old Z n0 h0) (B_b : o_Bl Z h0 b t z cs) (SC_ : o_SC Z zC_) (hC_ : ¬ zC_ = 0) :
    o_Met l Z o_m11 jdk_68_method_68_code 1 (some .boolean) ws o_R0 #[(.ref b)] h0 (Qail Z b t z cs zC_ h0 n0) := by
  refine o_enter o_pn_1 (fun m => o_ef0 m b) (fun p e s m below meth c s₁ hx hby hml hZ hown hnm hlk hrt X0 e0 => ?_)
  have N0 := Fr.nil n0
  have y_ := @hb _ _ hby
  have k_ := @o_k _ _ hw
  obtain ⟨Be1, Bc1, Bv1, Bn1, ⟨kb1, Ba1⟩, Bh1, Bs1⟩ := id B_b
  refine o_getS X0 hx hZ hown (host := "") (Or.inl (k_ 91 rfl)) Via.refl e0 (Sta.ext O0.2 SC_) (y_ oD11_0) (fun T2 X2 e2 => ?_)
  refine o_iF (t := 17) X2 hx (y_ oD11_3) (fun hq => ?_) (fun hq => ?_)
  · have hc3 := o_h_eq.1 hq
    exact absurd hc3 hC_
  have hc3 := o_h_eq.2 hq
  refine o_aloadN X2 hx (y_ oD11_6) rfl rfl ?_
  refine o_getF X2 hx hZ hown (host := "") (Or.inl (k_ 56 rfl)) Via.refl e2 Bc1 (y_ oD11_7) (fun T3 X3 e3 => ?_)
  refine o_iFF X3 hx (y_ oD11_10) ?_
  refine o_iconst X3 hx (y_ oD11_13) (x := 1) rfl ?_
  refine o_gO (t := 18) X3 hx (y_ oD11_14) ?_
  exact o_retN X3 hx (t := .boolean) hrt hlk (by simp) (y_ oD11_18) rfl (by decide) (by decide) (o_hQ e3 ⟨rfl, N0, rfl⟩)
abbrev Qaac (Z : State) (b : Addr) (ch : Int32) (t : Addr) (z : Int32) (cs : List Int32) (zC_ : Int32) (h0 : Heap) (n0 : Nat) (v : Option Value) (h : Heap) (L : List Loc) : Prop := v = some (.ref b) ∧ Fr n0 L ∧ Keep h0 h [b, t] ∧ o_Bl Z h b t z (cs ++ [ch])
set_option maxRecDepth 65536 in
set_option maxHeartbeats 40000000 in
theorem rmaac (l : Launch) (Z : State) (a0 : Array Value) (hw : ∀ d ∈ tables_1, d.before a0 Z = true) (ws : List Jvm.Cond) (b : Addr) (ch : Int32) (t : Addr) (z : Int32) (cs : List Int32) (zC_ : Int32) (h0 : Heap) (n0 : Nat) (O0 : Old Z n0 h0) (B_b : o_Bl Z h0 b t z cs) (g_b : n0 ≤ b) (g_t : n0 ≤ t) (hch : ¬ ch < 0 ∧ ¬ (255 : Int32) < ch) (hs : cs.length + 1 ≤ z.toNatClampNeg) (SC_ : o_SC Z zC_) (hC_ : ¬ zC_ = 0) :
    o_Met l Z o_m12 jdk_68_method_31_code 2 (some (.object "java/lang/AbstractStringBuilder")) ws o_R7 #[(.ref b), (.int ch)] h0 (Qaac Z b ch t z cs zC_ h0 n0) := by
  refine o_enter o_pn_1 (fun m => o_ef7 m b ch) (fun p e s m below meth c s₁ hx hby hml hZ hown hnm hlk hrt X0 e0 => ?_)
  have N0 := Fr.nil n0
  have y_ := @hb _ _ hby
  have k_ := @o_k _ _ hw
  obtain ⟨Be1, Bc1, Bv1, Bn1, ⟨kb1, Ba1⟩, Bh1, Bs1⟩ := id B_b
  refine o_aloadN X0 hx (y_ oD12_0) rfl rfl ?_
  refine o_aloadN X0 hx (y_ oD12_1) rfl rfl ?_
  refine o_getF X0 hx hZ hown (host := "") (Or.inl (k_ 74 rfl)) Via.refl e0 Bn1 (y_ oD12_2) (fun T2 X2 e2 => ?_)
  refine o_iconst X2 hx (y_ oD12_5) (x := 1) rfl ?_
  refine o_iadd X2 hx (y_ oD12_6) ?_
  refine o_vir (y := o_m3) (b := b) (argsL := [(.int ((Int32.ofNat cs.length) + (1 : Int32)))]) (S := []) (W := 0) X2 hx hZ hown (k_ 76 rfl) (o_decl (k_ 77 rfl) (k_ 80 rfl)) (k_ 79 rfl) (k_ 77 rfl) (backOf (W := 0) (rmeci l Z a0 hw [] b ((Int32.ofNat cs.length) + (1 : Int32)) t z cs h0 n0 O0 B_b (o_cap (b := 1) B_b.nn hs)) hZ (k_ 80 rfl) (k_ 40 rfl) (by decide) (by decide)) e2 Be1 hml (lenOf o_pd__28I_29V rfl) (y_ oD12_7) (fun T3 L3 v3 X3 hQ3 => ?_)
  obtain ⟨rfl, N3q, hh3⟩ := hQ3
  have N3 := Fr.app N0 N3q
  show o_G p e below _ T3 (mkF m 10 #[vR b, vI ch] [])
  refine o_aloadN X3 hx (y_ oD12_10) rfl rfl ?_
  refine o_vir (y := o_m11) (b := b) (argsL := []) (S := []) (W := 0) X3 hx hZ hown (k_ 119 rfl) (k_ 120 rfl) (k_ 122 rfl) (k_ 121 rfl) (backOf (W := 0) (rmail l Z a0 hw [] b t z cs zC_ h0 n0 O0 B_b SC_ hC_) hZ (k_ 123 rfl) (k_ 40 rfl) (by decide) (by decide)) hh3 Be1 hml (lenOf o_pd__28_29Z rfl) (y_ oD12_11) (fun T4 L4 v4 X4 hQ4 => ?_)
  obtain ⟨rfl, N4q, hh4⟩ := hQ4
  have N4 := Fr.app N3 N4q
  show o_G p e below _ T4 (mkF m 14 #[vR b, vI ch] [(.int 1)])
  refine o_iFF X4 hx (y_ oD12_14) ?_
  refine o_iloadN X4 hx (y_ oD12_17) rfl ?_
  refine o_sta (y := o_m10) (argsL := [(.int ch)]) (S := []) (W := 0) X4 hx hZ hown (k_ 124 rfl) (k_ 125 rfl) (k_ 126 rfl) (k_ 127 rfl) (backOf (W := 0) (rmcen l Z a0 hw [] ch h0 n0 O0 hch.2) hZ (k_ 127 rfl) (k_ 126 rfl) (by decide) (by decide)) hh4 hml (lenOf o_pd__28C_29Z rfl) (y_ oD12_18) (fun T5 L5 v5 X5 hQ5 => ?_)
  obtain ⟨rfl, N5q, hh5⟩ := hQ5
  have N5 := Fr.app N4 N5q
  show o_G p e below _ T5 (mkF m 21 #[vR b, vI ch] [(.int 1)])
  refine o_iFF X5 hx (y_ oD12_21) ?_
  refine o_aloadN X5 hx (y_ oD12_24) rfl rfl ?_
  refine o_getF X5 hx hZ hown (host := "") (Or.inl (k_ 58 rfl)) Via.refl hh5 Bv1 (y_ oD12_25) (fun T6 X6 e6 => ?_)
  refine o_aloadN X6 hx (y_ oD12_28) rfl rfl ?_
  refine o_dup X6 hx (y_ oD12_29) rfl ?_
  refine o_getF X6 hx hZ hown (host := "") (Or.inl (k_ 74 rfl)) Via.refl e6 Bn1 (y_ oD12_30) (fun T7 X7 e7 => ?_)
  refine o_dupX1 X7 hx (y_ oD12_33) rfl rfl ?_
  refine o_iconst X7 hx (y_ oD12_34) (x := 1) rfl ?_
  refine o_iadd X7 hx (y_ oD12_35) ?_
  refine o_putF X7 hx hZ hown (host := "") (Or.inl (k_ 74 rfl)) Via.refl e7 Bn1 Be1 (Or.inl (k_ 75 rfl)) (k_ 30 rfl) (ty := .int) (by decide) rfl rfl (y_ oD12_36) (fun T8 h8 X8 e8 W8 => ?_)
  have F8 := Fld.same W8 Bn1
  have N8 := Fr.snoc X8 N5 g_b
  have O8 := Old.wr O0 W8 g_b
  refine o_iloadN X8 hx (y_ oD12_39) rfl ?_
  refine o_i2b X8 hx (y_ oD12_40) ?_
  have c9 := (Arv.other Ba1 W8 (Ne.symm (Exa.neArv Be1 Ba1 (k_ 30 rfl))))
  refine o_stBp (zz := ch.toInt8.toInt32) X8 hx hZ e8 c9 (y_ oD12_41) (o_inb B_b.nn hs) (by rw [o_oc B_b.l31]; exact (o_V8len cs).symm) (o_nb8 ch) (fun T10 h10 X10 e10 W10 V10 => ?_)
  have N10 := Fr.snoc X10 N8 g_t
  have O10 := Old.wr O8 W10 g_t
  refine o_gO (t := 75) X10 hx (y_ oD12_42) ?_
  refine o_aloadN X10 hx (y_ oD12_75) rfl rfl ?_
  have kp11 := Keep.wr (Keep.refl h0 [b, t]) W8 (Or.inl (List.mem_of_getElem? (i := 0) rfl))
  have kp12 := Keep.wr kp11 W10 (Or.inl (List.mem_of_getElem? (i := 1) rfl))
  have c13 := (Exa.wr W10 (Exa.wr W8 Be1))
  have c14 := (Fld.other W10 (Fld.other W8 Bc1 (Or.inr (slot_ne (Or.inl (k_ 57 rfl)) (Or.inl (k_ 75 rfl)) (by decide) (t := .byte) (t' := .int) (by decide) (by decide)))) (Or.inl (Exa.neArv (Exa.wr W8 Be1) c9 (k_ 30 rfl))))
  have c15 := (Fld.other W10 (Fld.other W8 Bv1 (Or.inr (slot_ne (Or.inl (k_ 59 rfl)) (Or.inl (k_ 75 rfl)) (by decide) (t := (.array .byte)) (t' := .int) (by decide) (by decide)))) (Or.inl (Exa.neArv (Exa.wr W8 Be1) c9 (k_ 30 rfl))))
  have c16 := (Fld.other W10 F8 (Or.inl (Exa.neArv (Exa.wr W8 Be1) c9 (k_ 30 rfl))))
  exact o_retA X10 hx hrt hlk rfl rfl rfl (y_ oD12_76) (by decide) (by decide) (o_hQ e10 ⟨rfl, N10, kp12, o_blMk (ds := [ch]) c13 c14 c15 c16 V10 Bh1 (o_csS hch o_cs0) hs⟩)
abbrev Qsac (Z : State) (b : Addr) (ch : Int32) (t : Addr) (z : Int32) (cs : List Int32) (zC_ : Int32) (h0 : Heap) (n0 : Nat) (v : Option Value) (h : Heap) (L : List Loc) : Prop := v = some (.ref b) ∧ Fr n0 L ∧ Keep h0 h [b, t] ∧ o_Bl Z h b t z (cs ++ [ch])
set_option maxRecDepth 65536 in
set_option maxHeartbeats 40000000 in
theorem rmsac (l : Launch) (Z : State) (a0 : Array Value) (hw : ∀ d ∈ tables_1, d.before a0 Z = true) (ws : List Jvm.Cond) (b : Addr) (ch : Int32) (t : Addr) (z : Int32) (cs : List Int32) (zC_ : Int32) (h0 : Heap) (n0 : Nat) (O0 : Old Z n0 h0) (B_b : o_Bl Z h0 b t z cs) (g_b : n0 ≤ b) (g_t : n0 ≤ t) (hch : ¬ ch < 0 ∧ ¬ (255 : Int32) < ch) (hs : cs.length + 1 ≤ z.toNatClampNeg) (SC_ : o_SC Z zC_) (hC_ : ¬ zC_ = 0) :
    o_Met l Z o_m13 jdk_67_method_14_code 2 (some (.object "java/lang/StringBuilder")) ws o_R3 #[(.ref b), (.int ch)] h0 (Qsac Z b ch t z cs zC_ h0 n0) := by
  refine o_enter o_pn_2 (fun m => o_ef7 m b ch) (fun p e s m below meth c s₁ hx hby hml hZ hown hnm hlk hrt X0 e0 => ?_)
  have N0 := Fr.nil n0
  have y_ := @hb _ _ hby
  have k_ := @o_k _ _ hw
  refine o_aloadN X0 hx (y_ oD13_0) rfl rfl ?_
  refine o_iloadN X0 hx (y_ oD13_1) rfl ?_
  refine o_sup (y := o_m12) (b := b) (argsL := [(.int ch)]) (S := []) (W := 0) X0 hx hZ hown (k_ 115 rfl) (o_same (y2 := o_m3) (k_ 116 rfl) (k_ 79 rfl) rfl (by decide)) (k_ 116 rfl) (k_ 72 rfl) (k_ 118 rfl) (backOf (W := 0) (rmaac l Z a0 hw [] b ch t z cs zC_ h0 n0 O0 B_b g_b g_t hch hs SC_ hC_) hZ (k_ 118 rfl) (k_ 40 rfl) (by decide) (by decide)) e0 B_b.1 hml (lenOf o_pd__28C_29Ljava_2flang_2fAbstractStringBuilder_3b rfl) (y_ oD13_2) (fun T1 L1 v1 X1 hQ1 => ?_)
  obtain ⟨rfl, N1q, Kp1, Bl1⟩ := hQ1
  have N1 := Fr.app N0 N1q
  have O2 := Old.keep O0 Kp1 (allS g_b (allS g_t all0))
  show o_G p e below _ T1 (mkF m 5 #[vR b, vI ch] [(.ref b)])
  refine o_pop X1 hx (y_ oD13_5) rfl ?_
  refine o_aloadN X1 hx (y_ oD13_6) rfl rfl ?_
  have kp3 := Keep.trans (Keep.refl h0 [b, t]) Kp1 (allS (Or.inl (List.mem_of_getElem? (i := 0) rfl)) (allS (Or.inl (List.mem_of_getElem? (i := 1) rfl)) all0))
  exact o_retA X1 hx hrt hlk rfl rfl rfl (y_ oD13_7) (by decide) (by decide) ⟨rfl, N1, kp3, Bl1⟩
abbrev Qgva (Z : State) (b : Addr) (t : Addr) (z : Int32) (cs : List Int32) (h0 : Heap) (n0 : Nat) (v : Option Value) (h : Heap) (L : List Loc) : Prop := v = some (.ref t) ∧ Fr n0 L ∧ h = h0
set_option maxRecDepth 65536 in
set_option maxHeartbeats 40000000 in
theorem rmgva (l : Launch) (Z : State) (a0 : Array Value) (hw : ∀ d ∈ tables_1, d.before a0 Z = true) (ws : List Jvm.Cond) (b : Addr) (t : Addr) (z : Int32) (cs : List Int32) (h0 : Heap) (n0 : Nat) (O0 : Old Z n0 h0) (B_b : o_Bl Z h0 b t z cs) :
    o_Met l Z o_m14 jdk_68_method_64_code 1 (some (.array .byte)) ws o_R0 #[(.ref b)] h0 (Qgva Z b t z cs h0 n0) := by
  refine o_enter o_pn_1 (fun m => o_ef0 m b) (fun p e s m below meth c s₁ hx hby hml hZ hown hnm hlk hrt X0 e0 => ?_)
  have N0 := Fr.nil n0
  have y_ := @hb _ _ hby
  have k_ := @o_k _ _ hw
  obtain ⟨Be1, Bc1, Bv1, Bn1, ⟨kb1, Ba1⟩, Bh1, Bs1⟩ := id B_b
  refine o_aloadN X0 hx (y_ oD14_0) rfl rfl ?_
  refine o_getF X0 hx hZ hown (host := "") (Or.inl (k_ 58 rfl)) Via.refl e0 Bv1 (y_ oD14_1) (fun T2 X2 e2 => ?_)
  exact o_retA X2 hx hrt hlk rfl rfl rfl (y_ oD14_4) (by decide) (by decide) (o_hQ e2 ⟨rfl, N0, rfl⟩)
abbrev Qale (Z : State) (b : Addr) (t : Addr) (z : Int32) (cs : List Int32) (h0 : Heap) (n0 : Nat) (v : Option Value) (h : Heap) (L : List Loc) : Prop := v = some (.int (Int32.ofNat cs.length)) ∧ Fr n0 L ∧ h = h0
set_option maxRecDepth 65536 in
set_option maxHeartbeats 40000000 in
theorem rmale (l : Launch) (Z : State) (a0 : Array Value) (hw : ∀ d ∈ tables_1, d.before a0 Z = true) (ws : List Jvm.Cond) (b : Addr) (t : Addr) (z : Int32) (cs : List Int32) (h0 : Heap) (n0 : Nat) (O0 : Old Z n0 h0) (B_b : o_Bl Z h0 b t z cs) :
    o_Met l Z o_m15 jdk_68_method_6_code 1 (some .int) ws o_R0 #[(.ref b)] h0 (Qale Z b t z cs h0 n0) := by
  refine o_enter o_pn_1 (fun m => o_ef0 m b) (fun p e s m below meth c s₁ hx hby hml hZ hown hnm hlk hrt X0 e0 => ?_)
  have N0 := Fr.nil n0
  have y_ := @hb _ _ hby
  have k_ := @o_k _ _ hw
  obtain ⟨Be1, Bc1, Bv1, Bn1, ⟨kb1, Ba1⟩, Bh1, Bs1⟩ := id B_b
  refine o_aloadN X0 hx (y_ oD15_0) rfl rfl ?_
  refine o_getF X0 hx hZ hown (host := "") (Or.inl (k_ 74 rfl)) Via.refl e0 Bn1 (y_ oD15_1) (fun T2 X2 e2 => ?_)
  exact o_retI X2 hx hrt hlk (y_ oD15_4) (by decide) (by decide) (o_hQ e2 ⟨rfl, N0, rfl⟩)
abbrev Qsle (Z : State) (b : Addr) (t : Addr) (z : Int32) (cs : List Int32) (h0 : Heap) (n0 : Nat) (v : Option Value) (h : Heap) (L : List Loc) : Prop := v = some (.int (Int32.ofNat cs.length)) ∧ Fr n0 L ∧ h = h0
set_option maxRecDepth 65536 in
set_option maxHeartbeats 40000000 in
theorem rmsle (l : Launch) (Z : State) (a0 : Array Value) (hw : ∀ d ∈ tables_1, d.before a0 Z = true) (ws : List Jvm.Cond) (b : Addr) (t : Addr) (z : Int32) (cs : List Int32) (h0 : Heap) (n0 : Nat) (O0 : Old Z n0 h0) (B_b : o_Bl Z h0 b t z cs) :
    o_Met l Z o_m16 jdk_67_method_93_code 1 (some .int) ws o_R1 #[(.ref b)] h0 (Qsle Z b t z cs h0 n0) := by
  refine o_enter o_pn_2 (fun m => o_ef0 m b) (fun p e s m below meth c s₁ hx hby hml hZ hown hnm hlk hrt X0 e0 => ?_)
  have N0 := Fr.nil n0
  have y_ := @hb _ _ hby
  have k_ := @o_k _ _ hw
  refine o_aloadN X0 hx (y_ oD16_0) rfl rfl ?_
  refine o_sup (y := o_m15) (b := b) (argsL := []) (S := []) (W := 0) X0 hx hZ hown (k_ 156 rfl) (o_same (y2 := o_m3) (k_ 152 rfl) (k_ 79 rfl) rfl (by decide)) (k_ 152 rfl) (k_ 72 rfl) (k_ 157 rfl) (backOf (W := 0) (rmale l Z a0 hw [] b t z cs h0 n0 O0 B_b) hZ (k_ 157 rfl) (k_ 40 rfl) (by decide) (by decide)) e0 B_b.1 hml (lenOf o_pd__28_29I rfl) (y_ oD16_1) (fun T1 L1 v1 X1 hQ1 => ?_)
  obtain ⟨rfl, N1q, hh1⟩ := hQ1
  have N1 := Fr.app N0 N1q
  show o_G p e below _ T1 (mkF m 4 #[vR b] [(.int (Int32.ofNat cs.length))])
  exact o_retI X1 hx hrt hlk (y_ oD16_4) (by decide) (by decide) (o_hQ hh1 ⟨rfl, N1, rfl⟩)
abbrev Qmin (Z : State) (x1 : Int32) (x2 : Int32) (h0 : Heap) (n0 : Nat) (v : Option Value) (h : Heap) (L : List Loc) : Prop := v = some (.int x2) ∧ Fr n0 L ∧ h = h0
set_option maxRecDepth 65536 in
set_option maxHeartbeats 40000000 in
theorem rmmin (l : Launch) (Z : State) (a0 : Array Value) (hw : ∀ d ∈ tables_1, d.before a0 Z = true) (ws : List Jvm.Cond) (x1 : Int32) (x2 : Int32) (h0 : Heap) (n0 : Nat) (O0 : Old Z n0 h0) (hlt : x2 < x1) :
    o_Met l Z o_m17 jdk_29_method_69_code 2 (some .int) ws o_R0 #[(.int x1), (.int x2)] h0 (Qmin Z x1 x2 h0 n0) := by
  refine o_enterM (Jvm.Free.JP.mathPlain rfl (by decide)) (fun m => o_ef8 m x1 x2) (fun p e s m below meth c s₁ hx hby hml hZ hown hnm hlk hrt X0 e0 => ?_)
  have N0 := Fr.nil n0
  have y_ := @hb _ _ hby
  have k_ := @o_k _ _ hw
  refine o_iloadN X0 hx (y_ oD17_0) rfl ?_
  refine o_iloadN X0 hx (y_ oD17_1) rfl ?_
  refine o_iC (t := 9) X0 hx (y_ oD17_2) (fun hq => ?_) (fun hq => ?_)
  · have hc2 := o_c_gt.1 hq
    refine o_iloadN X0 hx (y_ oD17_9) rfl ?_
    exact o_retI X0 hx hrt hlk (y_ oD17_10) (by decide) (by decide) (o_hQ e0 ⟨rfl, N0, rfl⟩)
  have hc2 := o_c_gt.2 hq
  exact absurd hlt hc2
abbrev Qchk (Z : State) (nn : Int32) (h0 : Heap) (n0 : Nat) (v : Option Value) (h : Heap) (L : List Loc) : Prop := v = none ∧ Fr n0 L ∧ h = h0
set_option maxRecDepth 65536 in
set_option maxHeartbeats 40000000 in
theorem rmchk (l : Launch) (Z : State) (a0 : Array Value) (hw : ∀ d ∈ tables_1, d.before a0 Z = true) (ws : List Jvm.Cond) (nn : Int32) (h0 : Heap) (n0 : Nat) (O0 : Old Z n0 h0) (hn : ¬ nn < 0) :
    o_Met l Z o_m18 jdk_65_method_131_code 2 none ws o_R0 #[(.int 0), (.int nn)] h0 (Qchk Z nn h0 n0) := by
  refine o_enter o_pn_4 (fun m => o_ef9 m nn) (fun p e s m below meth c s₁ hx hby hml hZ hown hnm hlk hrt X0 e0 => ?_)
  have N0 := Fr.nil n0
  have y_ := @hb _ _ hby
  have k_ := @o_k _ _ hw
  refine o_iloadN X0 hx (y_ oD18_0) rfl ?_
  refine o_iloadN X0 hx (y_ oD18_1) rfl ?_
  refine o_iC (t := 37) X0 hx (y_ oD18_2) (fun hq => ?_) (fun hq => ?_)
  · have hc2 := o_c_ge.1 hq
    exact o_retV X0 hx hrt hlk (y_ oD18_37) (by decide) (by decide) (o_hQ e0 ⟨rfl, N0, rfl⟩)
  have hc2 := o_c_ge.2 hq
  exact absurd hc2 hn
abbrev Qcob (Z : State) (d : Addr) (nn : Int32) (kd : ClassId) (z : Int32) (cs : List Int32) (h0 : Heap) (n0 : Nat) (v : Option Value) (h : Heap) (L : List Loc) : Prop := ∃ t2, v = some (.ref t2) ∧ Fr n0 L ∧ Keep h0 h [] ∧ n0 ≤ t2 ∧ h0.size ≤ t2 ∧ Exa Z h t2 "[B" ∧ ∃ k, Arv Z h t2 k .byte nn (o_V8 cs) (.int 0)
set_option maxRecDepth 65536 in
set_option maxHeartbeats 40000000 in
theorem rmcob (l : Launch) (Z : State) (a0 : Array Value) (hw : ∀ d ∈ tables_1, d.before a0 Z = true) (ws : List Jvm.Cond) (d : Addr) (nn : Int32) (kd : ClassId) (z : Int32) (cs : List Int32) (h0 : Heap) (n0 : Nat) (O0 : Old Z n0 h0) (V_d : Arv Z h0 d kd .byte z (o_V8 cs) (.int 0)) (hn : nn = (Int32.ofNat cs.length)) (hlt : cs.length < z.toNatClampNeg) (hcap : cs.length ≤ 30) (hz : ¬ z < 0) :
    o_Met l Z o_m19 jdk_65_method_133_code 5 (some (.array .byte)) ws o_R8 #[(.ref d), (.int 0), (.int nn)] h0 (Qcob Z d nn kd z cs h0 n0) := by
  refine o_enter o_pn_4 (fun m => o_ef10 m d nn) (fun p e s m below meth c s₁ hx hby hml hZ hown hnm hlk hrt X0 e0 => ?_)
  have N0 := Fr.nil n0
  have y_ := @hb _ _ hby
  have k_ := @o_k _ _ hw
  refine o_iloadN X0 hx (y_ oD19_0) rfl ?_
  refine o_iloadN X0 hx (y_ oD19_1) rfl ?_
  refine o_sta (y := o_m18) (argsL := [(.int 0), (.int nn)]) (S := []) (W := 0) X0 hx hZ hown (k_ 166 rfl) (k_ 167 rfl) (k_ 161 rfl) (k_ 168 rfl) (backOf (W := 0) (rmchk l Z a0 hw [] nn h0 n0 O0 (by rw [hn]; exact o_on (Nat.lt_of_le_of_lt hcap (by decide)))) hZ (k_ 168 rfl) (k_ 161 rfl) (by decide) (by decide)) e0 hml (lenOf o_pd__28II_29V rfl) (y_ oD19_2) (fun T1 L1 v1 X1 hQ1 => ?_)
  obtain ⟨rfl, N1q, hh1⟩ := hQ1
  have N1 := Fr.app N0 N1q
  show o_G p e below _ T1 (mkF m 5 #[vR d, vI 0, vI nn, .unset, .unset] [])
  refine o_iloadN X1 hx (y_ oD19_5) rfl ?_
  refine o_iloadN X1 hx (y_ oD19_6) rfl ?_
  refine o_isub X1 hx (y_ oD19_7) ?_
  refine o_valE (z := nn) (Int32.sub_zero _) ?_
  refine o_istoreN X1 hx (y_ oD19_8) (A' := #[vR d, vI 0, vI nn, vI nn, .unset]) rfl ?_
  refine o_iloadN X1 hx (y_ oD19_9) rfl ?_
  refine o_newE (cap := 30) X1 hx hZ (k_ 15 rfl) hh1 (y_ oD19_10) (by rw [hn]; exact o_on (Nat.lt_of_le_of_lt hcap (by decide))) (by rw [hn, o_oc (Nat.lt_of_le_of_lt hcap (by decide))]; exact hcap) (fun T2 h2 k2 b2 X2 e2 gg2 E2 V2 A2 => ?_)
  have g_b2 := o_fresh O0 gg2
  have O2 := Old.ext O0 E2
  refine o_astore X2 hx (y_ oD19_12) rfl (A' := #[vR d, vI 0, vI nn, vI nn, vR b2]) rfl ?_
  refine o_aloadN X2 hx (y_ oD19_14) rfl rfl ?_
  refine o_iloadN X2 hx (y_ oD19_15) rfl ?_
  refine o_aload X2 hx (y_ oD19_16) rfl rfl ?_
  refine o_iconst X2 hx (y_ oD19_18) (x := 0) rfl ?_
  refine o_aloadN X2 hx (y_ oD19_19) rfl rfl ?_
  have c3 := (Arv.ext V_d E2)
  refine o_alen (n := z) X2 hx hZ e2 c3 (y_ oD19_20) ?_
  refine o_iloadN X2 hx (y_ oD19_21) rfl ?_
  refine o_isub X2 hx (y_ oD19_22) ?_
  refine o_valE (z := z) (Int32.sub_zero _) ?_
  refine o_iloadN X2 hx (y_ oD19_23) rfl ?_
  refine o_sta (y := o_m17) (argsL := [(.int z), (.int nn)]) (S := [(.int 0), (.ref b2), (.int 0), (.ref d)]) (W := 4) X2 hx hZ hown (k_ 169 rfl) (k_ 170 rfl) (k_ 171 rfl) (k_ 172 rfl) (backOf (W := 4) (rmmin l Z a0 hw [] z nn h2 n0 O2 (by rw [hn]; exact o_olt hz hlt)) hZ (k_ 172 rfl) (k_ 171 rfl) (by decide) (by decide)) e2 hml (lenOf o_pd__28II_29I rfl) (y_ oD19_24) (fun T4 L4 v4 X4 hQ4 => ?_)
  obtain ⟨rfl, N4q, hh4⟩ := hQ4
  have N4 := Fr.app N1 N4q
  show o_G p e below _ T4 (mkF m 27 #[vR d, vI 0, vI nn, vI nn, vR b2] [(.int nn), (.int 0), (.ref b2), (.int 0), (.ref d)])
  refine o_cpB (W := 0) (us := (o_V8 cs)) X4 hx hZ hown (k_ 173 rfl) (k_ 100 rfl) (k_ 98 rfl) (k_ 99 rfl) hh4 c3 V2 (by decide) (by decide) (by rw [hn]; exact o_on (Nat.lt_of_le_of_lt hcap (by decide))) (by rw [hn, o_oc (Nat.lt_of_le_of_lt hcap (by decide))]; exact Nat.le_of_lt (Nat.lt_of_le_of_lt (Nat.le_of_eq (Nat.zero_add _)) hlt)) (Nat.le_of_eq (Nat.zero_add _)) (by rw [hn, o_oc (Nat.lt_of_le_of_lt hcap (by decide))]; exact o_V8range cs) rfl N4 g_b2 (by rw [hml]; rfl) (y_ oD19_27) (by decide) (Nat.le_of_eq rfl) (by rw [nativeFrameWords_plain 5 (by decide)]; decide) (fun T5 h5 L5 X5 e5 N5 Kp5 V5 => ?_)
  have O6 := Old.keep O2 Kp5 (allS g_b2 all0)
  refine o_aload X5 hx (y_ oD19_30) rfl rfl ?_
  have kp7 := Keep.ext (Keep.refl h0 []) E2
  have kp8 := Keep.trans kp7 Kp5 (allS (Or.inr (Nat.le_trans (Keep.refl h0 []).1 (Nat.le_of_eq gg2.symm))) all0)
  have c9 := (Exa.keep A2 Kp5)
  exact o_retA X5 hx hrt hlk rfl rfl rfl (y_ oD19_32) (by decide) (by decide) (o_hQ e5 ⟨b2, rfl, N5, kp8, g_b2, (Nat.le_trans (Keep.refl h0 []).1 (Nat.le_of_eq gg2.symm)), c9, _, V5⟩)
abbrev Qcor (Z : State) (d : Addr) (nn : Int32) (kd : ClassId) (z : Int32) (cs : List Int32) (h0 : Heap) (n0 : Nat) (v : Option Value) (h : Heap) (L : List Loc) : Prop := ∃ t2, v = some (.ref t2) ∧ Fr n0 L ∧ Keep h0 h [] ∧ n0 ≤ t2 ∧ h0.size ≤ t2 ∧ Exa Z h t2 "[B" ∧ ∃ k, Arv Z h t2 k .byte nn (o_V8 cs) (.int 0)
set_option maxRecDepth 65536 in
set_option maxHeartbeats 40000000 in
theorem rmcor (l : Launch) (Z : State) (a0 : Array Value) (hw : ∀ d ∈ tables_1, d.before a0 Z = true) (ws : List Jvm.Cond) (d : Addr) (nn : Int32) (kd : ClassId) (z : Int32) (cs : List Int32) (h0 : Heap) (n0 : Nat) (O0 : Old Z n0 h0) (V_d : Arv Z h0 d kd .byte z (o_V8 cs) (.int 0)) (hn : nn = (Int32.ofNat cs.length)) (hlt : cs.length < z.toNatClampNeg) (hcap : cs.length ≤ 30) (hz : ¬ z < 0) :
    o_Met l Z o_m20 jdk_65_method_132_code 3 (some (.array .byte)) ws o_R9 #[(.ref d), (.int 0), (.int nn)] h0 (Qcor Z d nn kd z cs h0 n0) := by
  refine o_enter o_pn_4 (fun m => o_ef11 m d nn) (fun p e s m below meth c s₁ hx hby hml hZ hown hnm hlk hrt X0 e0 => ?_)
  have N0 := Fr.nil n0
  have y_ := @hb _ _ hby
  have k_ := @o_k _ _ hw
  refine o_iloadN X0 hx (y_ oD20_0) rfl ?_
  refine o_iFF X0 hx (y_ oD20_1) ?_
  refine o_iloadN X0 hx (y_ oD20_4) rfl ?_
  refine o_aloadN X0 hx (y_ oD20_5) rfl rfl ?_
  refine o_alen (n := z) X0 hx hZ e0 V_d (y_ oD20_6) ?_
  refine o_iC (t := 17) X0 hx (y_ oD20_7) (fun hq => ?_) (fun hq => ?_)
  · have hc7 := o_c_eq.1 hq
    exact absurd hc7 (by rw [hn]; exact o_one hz hlt)
  have hc7 := o_c_eq.2 hq
  refine o_aloadN X0 hx (y_ oD20_10) rfl rfl ?_
  refine o_iloadN X0 hx (y_ oD20_11) rfl ?_
  refine o_iloadN X0 hx (y_ oD20_12) rfl ?_
  refine o_sta (y := o_m19) (argsL := [(.ref d), (.int 0), (.int nn)]) (S := []) (W := 0) X0 hx hZ hown (k_ 163 rfl) (k_ 164 rfl) (k_ 161 rfl) (k_ 165 rfl) (backOf (W := 0) (rmcob l Z a0 hw [] d nn kd z cs h0 n0 O0 V_d hn hlt hcap hz) hZ (k_ 165 rfl) (k_ 161 rfl) (by decide) (by decide)) e0 hml (lenOf o_pd__28_5bBII_29_5bB rfl) (y_ oD20_13) (fun T1 L1 v1 X1 hQ1 => ?_)
  obtain ⟨t1, rfl, N1q, Kp1, g_t1, ht1, Et1, ka1, Va1⟩ := hQ1
  have N1 := Fr.app N0 N1q
  have O2 := Old.keep O0 Kp1 all0
  show o_G p e below _ T1 (mkF m 16 #[vR d, vI 0, vI nn] [(.ref t1)])
  have kp3 := Keep.trans (Keep.refl h0 []) Kp1 all0
  exact o_retA X1 hx hrt hlk rfl rfl rfl (y_ oD20_16) (by decide) (by decide) ⟨t1, rfl, N1, kp3, g_t1, (Nat.le_trans (Keep.refl h0 []).1 ht1), Et1, _, Va1⟩
abbrev Qsia (Z : State) (x : Addr) (b : Addr) (t : Addr) (z : Int32) (cs : List Int32) (zC_ : Int32) (h0 : Heap) (n0 : Nat) (v : Option Value) (h : Heap) (L : List Loc) : Prop := v = none ∧ Fr n0 L ∧ Keep h0 h [x] ∧ ∃ t2, n0 ≤ t2 ∧ h0.size ≤ t2 ∧ ¬ t2 = x ∧ Exa Z h t2 "[B" ∧ o_Str Z h x t2 cs
set_option maxRecDepth 65536 in
set_option maxHeartbeats 40000000 in
theorem rmsia (l : Launch) (Z : State) (a0 : Array Value) (hw : ∀ d ∈ tables_1, d.before a0 Z = true) (ws : List Jvm.Cond) (x : Addr) (b : Addr) (t : Addr) (z : Int32) (cs : List Int32) (zC_ : Int32) (h0 : Heap) (n0 : Nat) (O0 : Old Z n0 h0) (E_x : Exa Z h0 x "java/lang/String") (F_v : Fld Z h0 x "java/lang/String" "value" "[B" .null) (F_c : Fld Z h0 x "java/lang/String" "coder" "B" (.int 0)) (g_x : n0 ≤ x) (B_b : o_Bl Z h0 b t z cs) (hlt : cs.length < z.toNatClampNeg) (hcap : cs.length ≤ 30) (SC_ : o_SC Z zC_) (hC_ : ¬ zC_ = 0) :
    o_Met l Z o_m21 jdk_42_method_150_code 5 none ws o_R10 #[(.ref x), (.ref b), .null] h0 (Qsia Z x b t z cs zC_ h0 n0) := by
  refine o_enter o_pn_0 (fun m => o_ef12 m x b) (fun p e s m below meth c s₁ hx hby hml hZ hown hnm hlk hrt X0 e0 => ?_)
  have N0 := Fr.nil n0
  have y_ := @hb _ _ hby
  have k_ := @o_k _ _ hw
  obtain ⟨Be1, Bc1, Bv1, Bn1, ⟨kb1, Ba1⟩, Bh1, Bs1⟩ := id B_b
  refine o_aloadN X0 hx (y_ oD21_0) rfl rfl ?_
  refine o_initO (W := 0) X0 hx hZ hown (k_ 11 rfl) (k_ 12 rfl) (k_ 13 rfl) e0 (by rw [hml]; rfl) (y_ oD21_1) (by decide) (Nat.le_of_eq rfl) (by decide) (fun T2 X2 e2 => ?_)
  refine o_aloadN X2 hx (y_ oD21_4) rfl rfl ?_
  refine o_vir (y := o_m14) (b := b) (argsL := []) (S := []) (W := 0) X2 hx hZ hown (k_ 145 rfl) (k_ 146 rfl) (k_ 148 rfl) (k_ 147 rfl) (backOf (W := 0) (rmgva l Z a0 hw [] b t z cs h0 n0 O0 B_b) hZ (k_ 149 rfl) (k_ 40 rfl) (by decide) (by decide)) e2 Be1 hml (lenOf o_pd__28_29_5bB rfl) (y_ oD21_5) (fun T3 L3 v3 X3 hQ3 => ?_)
  obtain ⟨rfl, N3q, hh3⟩ := hQ3
  have N3 := Fr.app N0 N3q
  show o_G p e below _ T3 (mkF m 8 #[vR x, vR b, .val .null, .unset, .unset] [(.ref t)])
  refine o_astoreN X3 hx (y_ oD21_8) rfl (A' := #[vR x, vR b, .val .null, vR t, .unset]) rfl ?_
  refine o_aloadN X3 hx (y_ oD21_9) rfl rfl ?_
  refine o_virtual (y := o_m15) (z := o_m16) (b := b) (argsL := []) (S := []) (W := 0) X3 hx hZ hown (k_ 150 rfl) (k_ 151 rfl) (o_nf (y2 := o_m3) hZ (k_ 79 rfl) rfl) (k_ 153 rfl) (k_ 154 rfl) (by decide) (backOf (W := 0) (rmsle l Z a0 hw [] b t z cs h0 n0 O0 B_b) hZ (k_ 155 rfl) (k_ 31 rfl) (by decide) (by decide)) hh3 Be1 (by rw [hml]; rfl) (lenOf o_pd__28_29I rfl) rfl (Nat.le_of_eq rfl) (y_ oD21_10) (by decide) (by decide) (fun T4 L4 v4 X4 hQ4 => ?_)
  obtain ⟨rfl, N4q, hh4⟩ := hQ4
  have N4 := Fr.app N3 N4q
  show o_G p e below _ T4 (mkF m 13 #[vR x, vR b, .val .null, vR t, .unset] [(.int (Int32.ofNat cs.length))])
  refine o_istore X4 hx (y_ oD21_13) (A' := #[vR x, vR b, .val .null, vR t, vI (Int32.ofNat cs.length)]) rfl ?_
  refine o_aloadN X4 hx (y_ oD21_15) rfl rfl ?_
  refine o_vir (y := o_m11) (b := b) (argsL := []) (S := []) (W := 0) X4 hx hZ hown (k_ 158 rfl) (k_ 120 rfl) (k_ 122 rfl) (k_ 121 rfl) (backOf (W := 0) (rmail l Z a0 hw [] b t z cs zC_ h0 n0 O0 B_b SC_ hC_) hZ (k_ 123 rfl) (k_ 40 rfl) (by decide) (by decide)) hh4 Be1 hml (lenOf o_pd__28_29Z rfl) (y_ oD21_16) (fun T5 L5 v5 X5 hQ5 => ?_)
  obtain ⟨rfl, N5q, hh5⟩ := hQ5
  have N5 := Fr.app N4 N5q
  show o_G p e below _ T5 (mkF m 19 #[vR x, vR b, .val .null, vR t, vI (Int32.ofNat cs.length)] [(.int 1)])
  refine o_iFF X5 hx (y_ oD21_19) ?_
  refine o_aloadN X5 hx (y_ oD21_22) rfl rfl ?_
  refine o_iconst X5 hx (y_ oD21_23) (x := 0) rfl ?_
  refine o_putFN (v' := (.int 0)) X5 hx hZ hown (k_ 21 rfl) Via.refl hh5 F_c E_x (Or.inr ⟨(k_ 17 rfl), rfl, hnm⟩) (k_ 1 rfl) (ty := .byte) (by decide) rfl rfl (y_ oD21_24) (fun T6 h6 X6 e6 W6 => ?_)
  have F6 := Fld.same W6 F_c
  have N6 := Fr.snoc X6 N5 g_x
  have O6 := Old.wr O0 W6 g_x
  refine o_aloadN X6 hx (y_ oD21_27) rfl rfl ?_
  refine o_aloadN X6 hx (y_ oD21_28) rfl rfl ?_
  refine o_iconst X6 hx (y_ oD21_29) (x := 0) rfl ?_
  refine o_iload X6 hx (y_ oD21_30) rfl ?_
  have c7 := (Arv.other Ba1 W6 (Ne.symm (Exa.neArv E_x Ba1 (k_ 1 rfl))))
  refine o_sta (y := o_m20) (argsL := [(.ref t), (.int 0), (.int (Int32.ofNat cs.length))]) (S := [(.ref x)]) (W := 1) X6 hx hZ hown (k_ 159 rfl) (k_ 160 rfl) (k_ 161 rfl) (k_ 162 rfl) (backOf (W := 1) (rmcor l Z a0 hw [] t (Int32.ofNat cs.length) kb1 z cs h6 n0 O6 c7 rfl hlt hcap B_b.nn) hZ (k_ 162 rfl) (k_ 161 rfl) (by decide) (by decide)) e6 hml (lenOf o_pd__28_5bBII_29_5bB rfl) (y_ oD21_32) (fun T8 L8 v8 X8 hQ8 => ?_)
  obtain ⟨t8, rfl, N8q, Kp8, g_t8, ht8, Et8, ka8, Va8⟩ := hQ8
  have N8 := Fr.app N6 N8q
  have O9 := Old.keep O6 Kp8 all0
  show o_G p e below _ T8 (mkF m 35 #[vR x, vR b, .val .null, vR t, vI (Int32.ofNat cs.length)] [(.ref t8), (.ref x)])
  have c10 := (Exa.keep (Exa.wr W6 E_x) Kp8)
  have c11 := (Fld.keep (Fld.other W6 F_v (Or.inr (slot_ne (Or.inr (k_ 16 rfl)) (Or.inr (k_ 17 rfl)) (by decide) (t := (.array .byte)) (t' := .byte) (by decide) (by decide)))) Kp8 nin0)
  refine o_putF X8 hx hZ hown (host := "") (Or.inl (k_ 20 rfl)) Via.refl rfl c11 c10 (Or.inr ⟨(k_ 16 rfl), rfl, hnm⟩) (k_ 1 rfl) (ty := (.array .byte)) (by decide) rfl rfl (y_ oD21_35) (fun T12 h12 X12 e12 W12 => ?_)
  have F12 := Fld.same W12 c11
  have N12 := Fr.snoc X12 N8 g_x
  have O12 := Old.wr O9 W12 g_x
  refine o_gO (t := 97) X12 hx (y_ oD21_38) ?_
  have kp13 := Keep.wr (Keep.refl h0 [x]) W6 (Or.inl (List.mem_of_getElem? (i := 0) rfl))
  have kp14 := Keep.trans kp13 Kp8 all0
  have kp15 := Keep.wr kp14 W12 (Or.inl (List.mem_of_getElem? (i := 0) rfl))
  have c16 := (Exa.wr W12 Et8)
  have c17 := (Exa.wr W12 c10)
  have c18 := (Fld.other W12 (Fld.keep F6 Kp8 nin0) (Or.inr (slot_ne (Or.inr (k_ 17 rfl)) (Or.inr (k_ 16 rfl)) (by decide) (t := .byte) (t' := (.array .byte)) (by decide) (by decide))))
  have c19 := (Arv.other Va8 W12 (Ne.symm (Nat.ne_of_lt (Nat.lt_of_lt_of_le F6.lt ht8))))
  exact o_retV X12 hx hrt hlk (y_ oD21_97) (by decide) (by decide) (o_hQ e12 ⟨rfl, N12, kp15, t8, g_t8, (Nat.le_trans kp13.1 ht8), (Ne.symm (Nat.ne_of_lt (Nat.lt_of_lt_of_le F6.lt ht8))), c16, c17, c18, F12, ⟨_, c19⟩, B_b.2.2.2.2.2.1, Nat.le_trans hcap (by decide)⟩)
abbrev Qsib (Z : State) (x : Addr) (b : Addr) (t : Addr) (z : Int32) (cs : List Int32) (zC_ : Int32) (h0 : Heap) (n0 : Nat) (v : Option Value) (h : Heap) (L : List Loc) : Prop := v = none ∧ Fr n0 L ∧ Keep h0 h [x] ∧ ∃ t2, n0 ≤ t2 ∧ h0.size ≤ t2 ∧ ¬ t2 = x ∧ Exa Z h t2 "[B" ∧ o_Str Z h x t2 cs
set_option maxRecDepth 65536 in
set_option maxHeartbeats 40000000 in
theorem rmsib (l : Launch) (Z : State) (a0 : Array Value) (hw : ∀ d ∈ tables_1, d.before a0 Z = true) (ws : List Jvm.Cond) (x : Addr) (b : Addr) (t : Addr) (z : Int32) (cs : List Int32) (zC_ : Int32) (h0 : Heap) (n0 : Nat) (O0 : Old Z n0 h0) (E_x : Exa Z h0 x "java/lang/String") (F_v : Fld Z h0 x "java/lang/String" "value" "[B" .null) (F_c : Fld Z h0 x "java/lang/String" "coder" "B" (.int 0)) (g_x : n0 ≤ x) (B_b : o_Bl Z h0 b t z cs) (hlt : cs.length < z.toNatClampNeg) (hcap : cs.length ≤ 30) (SC_ : o_SC Z zC_) (hC_ : ¬ zC_ = 0) :
    o_Met l Z o_m22 jdk_42_method_53_code 2 none ws o_R11 #[(.ref x), (.ref b)] h0 (Qsib Z x b t z cs zC_ h0 n0) := by
  refine o_enter o_pn_0 (fun m => o_ef2 m x b) (fun p e s m below meth c s₁ hx hby hml hZ hown hnm hlk hrt X0 e0 => ?_)
  have N0 := Fr.nil n0
  have y_ := @hb _ _ hby
  have k_ := @o_k _ _ hw
  refine o_aloadN X0 hx (y_ oD22_0) rfl rfl ?_
  refine o_aloadN X0 hx (y_ oD22_1) rfl rfl ?_
  refine o_anull X0 hx (y_ oD22_2) ?_
  refine o_ini (y := o_m21) (b := x) (argsL := [(.ref b), .null]) (S := []) (W := 0) rfl X0 hx hZ hown (k_ 142 rfl) (k_ 143 rfl) (k_ 144 rfl) (backOf (W := 0) (rmsia l Z a0 hw [] x b t z cs zC_ h0 n0 O0 E_x F_v F_c g_x B_b hlt hcap SC_ hC_) hZ (k_ 144 rfl) (k_ 2 rfl) (by decide) (by decide)) e0 hml (lenOf o_pd__28Ljava_2flang_2fAbstractStringBuilder_3bLjava_2flang_2fVoid_3b_29V rfl) (y_ oD22_3) (fun T1 L1 v1 X1 hQ1 => ?_)
  obtain ⟨rfl, N1q, Kp1, t1, g_t1, ht1, hne1, Et1, Sf1⟩ := hQ1
  have N1 := Fr.app N0 N1q
  have O2 := Old.keep O0 Kp1 (allS g_x all0)
  show o_G p e below _ T1 (mkF m 6 #[vR x, vR b] [])
  have kp3 := Keep.trans (Keep.refl h0 [x]) Kp1 (allS (Or.inl (List.mem_of_getElem? (i := 0) rfl)) all0)
  exact o_retV X1 hx hrt hlk (y_ oD22_6) (by decide) (by decide) ⟨rfl, N1, kp3, t1, g_t1, (Nat.le_trans (Keep.refl h0 [x]).1 ht1), hne1, Et1, Sf1⟩
abbrev Qsts (Z : State) (b : Addr) (t : Addr) (z : Int32) (cs : List Int32) (zC_ : Int32) (h0 : Heap) (n0 : Nat) (v : Option Value) (h : Heap) (L : List Loc) : Prop := ∃ x t2, v = some (.ref x) ∧ Fr n0 L ∧ Keep h0 h [] ∧ n0 ≤ x ∧ h0.size ≤ x ∧ n0 ≤ t2 ∧ h0.size ≤ t2 ∧ ¬ t2 = x ∧ Exa Z h t2 "[B" ∧ o_Str Z h x t2 cs
set_option maxRecDepth 65536 in
set_option maxHeartbeats 40000000 in
theorem rmsts (l : Launch) (Z : State) (a0 : Array Value) (hw : ∀ d ∈ tables_1, d.before a0 Z = true) (ws : List Jvm.Cond) (b : Addr) (t : Addr) (z : Int32) (cs : List Int32) (zC_ : Int32) (h0 : Heap) (n0 : Nat) (O0 : Old Z n0 h0) (B_b : o_Bl Z h0 b t z cs) (hlt : cs.length < z.toNatClampNeg) (hcap : cs.length ≤ 30) (SC_ : o_SC Z zC_) (hC_ : ¬ zC_ = 0) :
    o_Met l Z o_m23 jdk_67_method_42_code 1 (some (.object "java/lang/String")) ws o_R12 #[(.ref b)] h0 (Qsts Z b t z cs zC_ h0 n0) := by
  refine o_enter o_pn_2 (fun m => o_ef0 m b) (fun p e s m below meth c s₁ hx hby hml hZ hown hnm hlk hrt X0 e0 => ?_)
  have N0 := Fr.nil n0
  have y_ := @hb _ _ hby
  have k_ := @o_k _ _ hw
  refine o_new X0 hx hZ hown (k_ 138 rfl) (k_ 1 rfl) (k_ 2 rfl) e0 (y_ oD23_0) (by decide) (by decide) (fun T1 h1 b1 X1 e1 gg1 E1 A1 D1 => ?_)
  have g_b1 := o_fresh O0 gg1
  have O1 := Old.ext O0 E1
  have F1_value : Fld Z h1 b1 "java/lang/String" "value" "[B" .null := D1 (Or.inr (k_ 16 rfl)) (ty := (.array .byte)) (by decide)
  have F1_coder : Fld Z h1 b1 "java/lang/String" "coder" "B" (.int 0) := D1 (Or.inr (k_ 17 rfl)) (ty := .byte) (by decide)
  refine o_dup X1 hx (y_ oD23_3) rfl ?_
  refine o_aloadN X1 hx (y_ oD23_4) rfl rfl ?_
  have c2 := (o_Bl.ext E1 B_b)
  refine o_ini (y := o_m22) (b := b1) (argsL := [(.ref b)]) (S := [(.ref b1)]) (W := 1) rfl X1 hx hZ hown (k_ 139 rfl) (k_ 140 rfl) (k_ 141 rfl) (backOf (W := 1) (rmsib l Z a0 hw [] b1 b t z cs zC_ h1 n0 O1 A1 F1_value F1_coder g_b1 c2 hlt hcap SC_ hC_) hZ (k_ 141 rfl) (k_ 2 rfl) (by decide) (by decide)) e1 hml (lenOf o_pd__28Ljava_2flang_2fStringBuilder_3b_29V rfl) (y_ oD23_5) (fun T3 L3 v3 X3 hQ3 => ?_)
  obtain ⟨rfl, N3q, Kp3, t3, g_t3, ht3, hne3, Et3, Sf3⟩ := hQ3
  have N3 := Fr.app N0 N3q
  have O4 := Old.keep O1 Kp3 (allS g_b1 all0)
  show o_G p e below _ T3 (mkF m 8 #[vR b] [(.ref b1)])
  have kp5 := Keep.ext (Keep.refl h0 []) E1
  have kp6 := Keep.trans kp5 Kp3 (allS (Or.inr (Nat.le_trans (Keep.refl h0 []).1 (Nat.le_of_eq gg1.symm))) all0)
  exact o_retA X3 hx hrt hlk rfl rfl rfl (y_ oD23_8) (by decide) (by decide) ⟨b1, t3, rfl, N3, kp6, g_b1, (Nat.le_trans (Keep.refl h0 []).1 (Nat.le_of_eq gg1.symm)), g_t3, (Nat.le_trans kp5.1 ht3), hne3, Et3, Sf3⟩
abbrev Qcpo (Z : State) (a : Addr) (nn : Int32) (ka : ClassId) (cs : List Int32) (h0 : Heap) (n0 : Nat) (v : Option Value) (h : Heap) (L : List Loc) : Prop := v = some (.int nn) ∧ Fr n0 L ∧ h = h0
set_option maxRecDepth 65536 in
set_option maxHeartbeats 40000000 in
theorem rmcpo (l : Launch) (Z : State) (a0 : Array Value) (hw : ∀ d ∈ tables_1, d.before a0 Z = true) (ws : List Jvm.Cond) (a : Addr) (nn : Int32) (ka : ClassId) (cs : List Int32) (h0 : Heap) (n0 : Nat) (O0 : Old Z n0 h0) (V_a : Arv Z h0 a ka .byte nn (o_V8 cs) (.int 0)) (hn : nn = (Int32.ofNat cs.length)) (hcap : cs.length ≤ 30) (hasc : o_asc cs) :
    o_Met l Z o_m24 jdk_123_method_3_code 5 (some .int) ws o_R0 #[(.ref a), (.int 0), (.int nn)] h0 (Qcpo Z a nn ka cs h0 n0) := by
  refine o_enter o_pn_5 (fun m => o_ef10 m a nn) (fun p e s m below meth c s₁ hx hby hml hZ hown hnm hlk hrt X0 e0 => ?_)
  have N0 := Fr.nil n0
  have y_ := @hb _ _ hby
  have k_ := @o_k _ _ hw
  refine o_iloadN X0 hx (y_ oD24_0) rfl ?_
  refine o_iloadN X0 hx (y_ oD24_1) rfl ?_
  refine o_iadd X0 hx (y_ oD24_2) ?_
  refine o_valE (z := nn) (Int32.zero_add _) ?_
  refine o_istoreN X0 hx (y_ oD24_3) (A' := #[vR a, vI 0, vI nn, vI nn, .unset]) rfl ?_
  refine o_iloadN X0 hx (y_ oD24_4) rfl ?_
  refine o_istore X0 hx (y_ oD24_5) (A' := #[vR a, vI 0, vI nn, vI nn, vI 0]) rfl ?_
  have hloop : ∀ (k i : Nat), i + k = cs.length → o_G p e below (o_E s (Qcpo Z a nn ka cs h0 n0) o_R0.cells o_R0.slots) s₁ (mkF m 7 #[vR a, vI 0, vI nn, vI nn, vI (Int32.ofNat i)] []) := by
    intro k
    induction k with
    | zero =>
      intro i hik
      refine o_iload X0 hx (y_ oD24_7) rfl ?_
      refine o_iloadN X0 hx (y_ oD24_9) rfl ?_
      refine o_iC (t := 31) X0 hx (y_ oD24_10) (fun hq => ?_) (fun hq => ?_)
      · have hc10 := o_c_ge.1 hq
        refine o_iloadN X0 hx (y_ oD24_31) rfl ?_
        exact o_retI X0 hx hrt hlk (y_ oD24_32) (by decide) (by decide) (o_hQ e0 ⟨rfl, N0, rfl⟩)
      have hc10 := o_c_ge.2 hq
      exact absurd (hn ▸ hc10) (o_nltO hik)
    | succ k ih =>
      intro i hik
      have hi : i < cs.length := by omega
      refine o_iload X0 hx (y_ oD24_7) rfl ?_
      refine o_iloadN X0 hx (y_ oD24_9) rfl ?_
      refine o_iC (t := 31) X0 hx (y_ oD24_10) (fun hq => ?_) (fun hq => ?_)
      · have hc10 := o_c_ge.1 hq
        exact absurd (hn ▸ o_ltO hi (Nat.lt_of_le_of_lt hcap (by decide))) hc10
      have hc10 := o_c_ge.2 hq
      refine o_aloadN X0 hx (y_ oD24_13) rfl rfl ?_
      refine o_iload X0 hx (y_ oD24_14) rfl ?_
      refine o_bload (v := (.int ((cs.getD i 0).toInt8.toInt32))) X0 hx hZ e0 V_a (y_ oD24_16) (by rw [hn]; exact ⟨o_on (Nat.lt_trans hi (Nat.lt_of_le_of_lt hcap (by decide))), o_ltO hi (Nat.lt_of_le_of_lt hcap (by decide))⟩) (by rw [o_oc (Nat.lt_trans hi (Nat.lt_of_le_of_lt hcap (by decide)))]; exact o_V8get hi) ?_
      refine o_iF (t := 25) X0 hx (y_ oD24_17) (fun hq => ?_) (fun hq => ?_)
      · have hc17 := o_h_ge.1 hq
        refine o_iinc X0 hx (y_ oD24_25) (y := 1) rfl rfl (A' := #[vR a, vI 0, vI nn, vI nn, vI ((Int32.ofNat i) + (1 : Int32))]) rfl ?_
        refine o_gO (t := 7) X0 hx (y_ oD24_28) ?_
        rw [show (Int32.ofNat i + 1 : Int32) = Int32.ofNat (i + 1) from o_oadd i 1]
        exact ih (i + 1) (by omega)
      have hc17 := o_h_ge.2 hq
      exact absurd hc17 (o_getnn hasc hi)
  exact hloop _ 0 (Nat.zero_add _)
abbrev Qhne (Z : State) (a : Addr) (nn : Int32) (ka : ClassId) (cs : List Int32) (h0 : Heap) (n0 : Nat) (v : Option Value) (h : Heap) (L : List Loc) : Prop := v = some (.int 0) ∧ Fr n0 L ∧ h = h0
set_option maxRecDepth 65536 in
set_option maxHeartbeats 40000000 in
theorem rmhne (l : Launch) (Z : State) (a0 : Array Value) (hw : ∀ d ∈ tables_1, d.before a0 Z = true) (ws : List Jvm.Cond) (a : Addr) (nn : Int32) (ka : ClassId) (cs : List Int32) (h0 : Heap) (n0 : Nat) (O0 : Old Z n0 h0) (V_a : Arv Z h0 a ka .byte nn (o_V8 cs) (.int 0)) (hn : nn = (Int32.ofNat cs.length)) (hcap : cs.length ≤ 30) (hasc : o_asc cs) :
    o_Met l Z o_m25 jdk_123_method_2_code 3 (some .boolean) ws o_R2 #[(.ref a), (.int 0), (.int nn)] h0 (Qhne Z a nn ka cs h0 n0) := by
  refine o_enter o_pn_5 (fun m => o_ef11 m a nn) (fun p e s m below meth c s₁ hx hby hml hZ hown hnm hlk hrt X0 e0 => ?_)
  have N0 := Fr.nil n0
  have y_ := @hb _ _ hby
  have k_ := @o_k _ _ hw
  refine o_aloadN X0 hx (y_ oD25_0) rfl rfl ?_
  refine o_iloadN X0 hx (y_ oD25_1) rfl ?_
  refine o_iloadN X0 hx (y_ oD25_2) rfl ?_
  refine o_sta (y := o_m24) (argsL := [(.ref a), (.int 0), (.int nn)]) (S := []) (W := 0) X0 hx hZ hown (k_ 193 rfl) (k_ 194 rfl) (k_ 191 rfl) (k_ 195 rfl) (backOf (W := 0) (rmcpo l Z a0 hw [] a nn ka cs h0 n0 O0 V_a hn hcap hasc) hZ (k_ 195 rfl) (k_ 191 rfl) (by decide) (by decide)) e0 hml (lenOf o_pd__28_5bBII_29I rfl) (y_ oD25_3) (fun T1 L1 v1 X1 hQ1 => ?_)
  obtain ⟨rfl, N1q, hh1⟩ := hQ1
  have N1 := Fr.app N0 N1q
  show o_G p e below _ T1 (mkF m 6 #[vR a, vI 0, vI nn] [(.int nn)])
  refine o_iloadN X1 hx (y_ oD25_6) rfl ?_
  refine o_iC (t := 14) X1 hx (y_ oD25_7) (fun hq => ?_) (fun hq => ?_)
  · have hc7 := o_c_eq.1 hq
    refine o_iconst X1 hx (y_ oD25_14) (x := 0) rfl ?_
    exact o_retN X1 hx (t := .boolean) hrt hlk (by simp) (y_ oD25_15) rfl (by decide) (by decide) (o_hQ hh1 ⟨rfl, N1, rfl⟩)
  have hc7 := o_c_eq.2 hq
  exact absurd rfl hc7
abbrev Qeu8 (Z : State) (a : Addr) (nn : Int32) (ka : ClassId) (cs : List Int32) (h0 : Heap) (n0 : Nat) (v : Option Value) (h : Heap) (L : List Loc) : Prop := ∃ t2, v = some (.ref t2) ∧ Fr n0 L ∧ Keep h0 h [] ∧ n0 ≤ t2 ∧ h0.size ≤ t2 ∧ Exa Z h t2 "[B" ∧ ∃ k, Arv Z h t2 k .byte nn (o_V8 cs) (.int 0)
set_option maxRecDepth 65536 in
set_option maxHeartbeats 40000000 in
theorem rmeu8 (l : Launch) (Z : State) (a0 : Array Value) (hw : ∀ d ∈ tables_1, d.before a0 Z = true) (ws : List Jvm.Cond) (a : Addr) (nn : Int32) (ka : ClassId) (cs : List Int32) (h0 : Heap) (n0 : Nat) (O0 : Old Z n0 h0) (V_a : Arv Z h0 a ka .byte nn (o_V8 cs) (.int 0)) (hn : nn = (Int32.ofNat cs.length)) (hcap : cs.length ≤ 30) (hasc : o_asc cs) (E_a : Exa Z h0 a "[B") :
    o_Met l Z o_m26 jdk_42_method_46_code 9 (some (.array .byte)) ws o_R13 #[(.int 0), (.ref a), (.int 1)] h0 (Qeu8 Z a nn ka cs h0 n0) := by
  refine o_enter o_pn_0 (fun m => o_ef13 m a) (fun p e s m below meth c s₁ hx hby hml hZ hown hnm hlk hrt X0 e0 => ?_)
  have N0 := Fr.nil n0
  have y_ := @hb _ _ hby
  have k_ := @o_k _ _ hw
  refine o_iloadN X0 hx (y_ oD26_0) rfl ?_
  refine o_iconst X0 hx (y_ oD26_1) (x := 1) rfl ?_
  refine o_iCT (t := 11) X0 hx (y_ oD26_2) ?_
  refine o_aloadN X0 hx (y_ oD26_11) rfl rfl ?_
  refine o_iconst X0 hx (y_ oD26_12) (x := 0) rfl ?_
  refine o_aloadN X0 hx (y_ oD26_13) rfl rfl ?_
  refine o_alen (n := nn) X0 hx hZ e0 V_a (y_ oD26_14) ?_
  refine o_sta (y := o_m25) (argsL := [(.ref a), (.int 0), (.int nn)]) (S := []) (W := 0) X0 hx hZ hown (k_ 189 rfl) (k_ 190 rfl) (k_ 191 rfl) (k_ 192 rfl) (backOf (W := 0) (rmhne l Z a0 hw [] a nn ka cs h0 n0 O0 V_a hn hcap hasc) hZ (k_ 192 rfl) (k_ 191 rfl) (by decide) (by decide)) e0 hml (lenOf o_pd__28_5bBII_29Z rfl) (y_ oD26_15) (fun T1 L1 v1 X1 hQ1 => ?_)
  obtain ⟨rfl, N1q, hh1⟩ := hQ1
  have N1 := Fr.app N0 N1q
  show o_G p e below _ T1 (mkF m 18 #[vI 0, vR a, vI 1, .unset, .unset, .unset, .unset, .unset, .unset] [(.int 0)])
  refine o_iFF X1 hx (y_ oD26_18) ?_
  refine o_aloadN X1 hx (y_ oD26_21) rfl rfl ?_
  refine o_cloneB (W := 0) (cap := 30) X1 hx hZ hown (k_ 196 rfl) (k_ 197 rfl) (k_ 201 rfl) (k_ 199 rfl) (k_ 200 rfl) (k_ 202 rfl) hh1 V_a E_a hml (y_ oD26_22) (by rw [hn, o_oc (Nat.lt_of_le_of_lt hcap (by decide))]; exact hcap) (fun T2 h2 b2 X2 e2 gg2 E2 V2 A2 => ?_)
  have g_b2 := o_fresh O0 gg2
  have O2 := Old.ext O0 E2
  obtain ⟨T3, X3, e3, st3⟩ := castY X2 hx hZ hown (k_ 203 rfl) e2 (Ins.self A2) (g := (mkF m 25 #[vI 0, vR a, vI 1, .unset, .unset, .unset, .unset, .unset, .unset] [(.ref b2)])) rfl rfl (y_ oD26_25)
  refine o_st st3 ?_
  show o_G p e below _ T3 (mkF m 28 #[vI 0, vR a, vI 1, .unset, .unset, .unset, .unset, .unset, .unset] [(.ref b2)])
  have kp4 := Keep.ext (Keep.refl h0 []) E2
  exact o_retA X3 hx hrt hlk rfl rfl rfl (y_ oD26_28) (by decide) (by decide) (o_hQ e3 ⟨b2, rfl, N1, kp4, g_b2, (Nat.le_trans (Keep.refl h0 []).1 (Nat.le_of_eq gg2.symm)), A2, _, V2⟩)
abbrev Qenc (Z : State) (u8 : Addr) (a : Addr) (nn : Int32) (ka : ClassId) (cs : List Int32) (h0 : Heap) (n0 : Nat) (v : Option Value) (h : Heap) (L : List Loc) : Prop := ∃ t2, v = some (.ref t2) ∧ Fr n0 L ∧ Keep h0 h [] ∧ n0 ≤ t2 ∧ h0.size ≤ t2 ∧ Exa Z h t2 "[B" ∧ ∃ k, Arv Z h t2 k .byte nn (o_V8 cs) (.int 0)
set_option maxRecDepth 65536 in
set_option maxHeartbeats 40000000 in
theorem rmenc (l : Launch) (Z : State) (a0 : Array Value) (hw : ∀ d ∈ tables_1, d.before a0 Z = true) (ws : List Jvm.Cond) (u8 : Addr) (a : Addr) (nn : Int32) (ka : ClassId) (cs : List Int32) (h0 : Heap) (n0 : Nat) (O0 : Old Z n0 h0) (V_a : Arv Z h0 a ka .byte nn (o_V8 cs) (.int 0)) (hn : nn = (Int32.ofNat cs.length)) (hcap : cs.length ≤ 30) (hasc : o_asc cs) (E_a : Exa Z h0 a "[B") (S_u : Sta Z Z.heap "sun/nio/cs/UTF_8" "INSTANCE" "Lsun/nio/cs/UTF_8;" (.ref u8)) :
    o_Met l Z o_m27 jdk_42_method_18_code 3 (some (.array .byte)) ws o_R14 #[(.ref u8), (.int 0), (.ref a)] h0 (Qenc Z u8 a nn ka cs h0 n0) := by
  refine o_enter o_pn_0 (fun m => o_ef14 m u8 a) (fun p e s m below meth c s₁ hx hby hml hZ hown hnm hlk hrt X0 e0 => ?_)
  have N0 := Fr.nil n0
  have y_ := @hb _ _ hby
  have k_ := @o_k _ _ hw
  refine o_aloadN X0 hx (y_ oD27_0) rfl rfl ?_
  refine o_getS X0 hx hZ hown (host := "") (Or.inl (k_ 184 rfl)) Via.refl e0 (Sta.ext O0.2 S_u) (y_ oD27_1) (fun T1 X1 e1 => ?_)
  refine o_acmp (t := 14) X1 hx rfl rfl (y_ oD27_4) (by decide) (by decide) (fun hq => ?_) (fun hq => ?_)
  · have ha4 : u8 = u8 := Value.ref.inj hq
    show o_G p e below _ T1 (mkF m 7 #[vR u8, vI 0, vR a] [])
    refine o_iloadN X1 hx (y_ oD27_7) rfl ?_
    refine o_aloadN X1 hx (y_ oD27_8) rfl rfl ?_
    refine o_iconst X1 hx (y_ oD27_9) (x := 1) rfl ?_
    refine o_sta (y := o_m26) (argsL := [(.int 0), (.ref a), (.int 1)]) (S := []) (W := 0) X1 hx hZ hown (k_ 186 rfl) (k_ 187 rfl) (k_ 2 rfl) (k_ 188 rfl) (backOf (W := 0) (rmeu8 l Z a0 hw [] a nn ka cs h0 n0 O0 V_a hn hcap hasc E_a) hZ (k_ 188 rfl) (k_ 2 rfl) (by decide) (by decide)) e1 hml (lenOf o_pd__28B_5bBZ_29_5bB rfl) (y_ oD27_10) (fun T2 L2 v2 X2 hQ2 => ?_)
    obtain ⟨t2, rfl, N2q, Kp2, g_t2, ht2, Et2, ka2, Va2⟩ := hQ2
    have N2 := Fr.app N0 N2q
    have O3 := Old.keep O0 Kp2 all0
    show o_G p e below _ T2 (mkF m 13 #[vR u8, vI 0, vR a] [(.ref t2)])
    have kp4 := Keep.trans (Keep.refl h0 []) Kp2 all0
    exact o_retA X2 hx hrt hlk rfl rfl rfl (y_ oD27_13) (by decide) (by decide) ⟨t2, rfl, N2, kp4, g_t2, (Nat.le_trans (Keep.refl h0 []).1 ht2), Et2, _, Va2⟩
  have ha4 : ¬ u8 = u8 := fun z => hq (congrArg Value.ref z)
  exact absurd rfl ha4
abbrev Qgbu (Z : State) (x : Addr) (u8 : Addr) (u : Addr) (ds : List Int32) (zC_ : Int32) (h0 : Heap) (n0 : Nat) (v : Option Value) (h : Heap) (L : List Loc) : Prop := ∃ t2, v = some (.ref t2) ∧ Fr n0 L ∧ Keep h0 h [] ∧ n0 ≤ t2 ∧ h0.size ≤ t2 ∧ Exa Z h t2 "[B" ∧ ∃ k, Arv Z h t2 k .byte (Int32.ofNat ds.length) (o_V8 ds) (.int 0)
set_option maxRecDepth 65536 in
set_option maxHeartbeats 40000000 in
theorem rmgbu (l : Launch) (Z : State) (a0 : Array Value) (hw : ∀ d ∈ tables_1, d.before a0 Z = true) (ws : List Jvm.Cond) (x : Addr) (u8 : Addr) (u : Addr) (ds : List Int32) (zC_ : Int32) (h0 : Heap) (n0 : Nat) (O0 : Old Z n0 h0) (S_x : o_Str Z h0 x u ds) (hcap : ds.length ≤ 30) (hasc : o_asc ds) (E_u : Exa Z h0 u "[B") (S_u : Sta Z Z.heap "sun/nio/cs/UTF_8" "INSTANCE" "Lsun/nio/cs/UTF_8;" (.ref u8)) (SC_ : o_SC Z zC_) (hC_ : ¬ zC_ = 0) :
    o_Met l Z o_m28 jdk_42_method_64_code 2 (some (.array .byte)) ws o_R15 #[(.ref x), (.ref u8)] h0 (Qgbu Z x u8 u ds zC_ h0 n0) := by
  refine o_enter o_pn_0 (fun m => o_ef2 m x u8) (fun p e s m below meth c s₁ hx hby hml hZ hown hnm hlk hrt X0 e0 => ?_)
  have N0 := Fr.nil n0
  have y_ := @hb _ _ hby
  have k_ := @o_k _ _ hw
  obtain ⟨ks1, Sa1⟩ := S_x.2.2.2.1
  refine o_aloadN X0 hx (y_ oD28_0) rfl rfl ?_
  refine o_nonnullY (t := 12) X0 hx (y_ oD28_1) (by decide) (by decide) ?_
  refine o_aloadN X0 hx (y_ oD28_12) rfl rfl ?_
  refine o_aloadN X0 hx (y_ oD28_13) rfl rfl ?_
  refine o_vir (y := o_m0) (b := x) (argsL := []) (S := [(.ref u8)]) (W := 1) X0 hx hZ hown (k_ 48 rfl) (k_ 49 rfl) (k_ 51 rfl) (k_ 50 rfl) (backOf (W := 1) (rmcod l Z a0 hw [] x zC_ h0 n0 O0 S_x.2.1 SC_ hC_) hZ (k_ 52 rfl) (k_ 2 rfl) (by decide) (by decide)) e0 S_x.1 hml (lenOf o_pd__28_29B rfl) (y_ oD28_14) (fun T2 L2 v2 X2 hQ2 => ?_)
  obtain ⟨rfl, N2q, hh2⟩ := hQ2
  have N2 := Fr.app N0 N2q
  show o_G p e below _ T2 (mkF m 17 #[vR x, vR u8] [(.int 0), (.ref u8)])
  refine o_aloadN X2 hx (y_ oD28_17) rfl rfl ?_
  refine o_getF X2 hx hZ hown (host := "") (Or.inl (k_ 20 rfl)) Via.refl hh2 S_x.2.2.1 (y_ oD28_18) (fun T3 X3 e3 => ?_)
  refine o_sta (y := o_m27) (argsL := [(.ref u8), (.int 0), (.ref u)]) (S := []) (W := 0) X3 hx hZ hown (k_ 181 rfl) (k_ 182 rfl) (k_ 2 rfl) (k_ 183 rfl) (backOf (W := 0) (rmenc l Z a0 hw [] u8 u (Int32.ofNat ds.length) ks1 ds h0 n0 O0 Sa1 rfl hcap hasc E_u S_u) hZ (k_ 183 rfl) (k_ 2 rfl) (by decide) (by decide)) e3 hml (lenOf o_pd__28Ljava_2fnio_2fcharset_2fCharset_3bB_5bB_29_5bB rfl) (y_ oD28_21) (fun T4 L4 v4 X4 hQ4 => ?_)
  obtain ⟨t4, rfl, N4q, Kp4, g_t4, ht4, Et4, ka4, Va4⟩ := hQ4
  have N4 := Fr.app N2 N4q
  have O5 := Old.keep O0 Kp4 all0
  show o_G p e below _ T4 (mkF m 24 #[vR x, vR u8] [(.ref t4)])
  have kp6 := Keep.trans (Keep.refl h0 []) Kp4 all0
  exact o_retA X4 hx hrt hlk rfl rfl rfl (y_ oD28_24) (by decide) (by decide) ⟨t4, rfl, N4, kp6, g_t4, (Nat.le_trans (Keep.refl h0 []).1 ht4), Et4, _, Va4⟩
abbrev Qse4 (Z : State) (x : Addr) (a : Addr) (h0 : Heap) (n0 : Nat) (v : Option Value) (h : Heap) (L : List Loc) : Prop := v = none ∧ Fr n0 L ∧ Keep h0 h [x] ∧ ∃ t, t ≠ x ∧ o_Str Z h x t []
set_option maxRecDepth 65536 in
set_option maxHeartbeats 40000000 in
theorem rmse4 (l : Launch) (Z : State) (a0 : Array Value) (hw : ∀ d ∈ tables_1, d.before a0 Z = true) (ws : List Jvm.Cond) (x : Addr) (a : Addr) (h0 : Heap) (n0 : Nat) (O0 : Old Z n0 h0) (E_x : Exa Z h0 x "java/lang/String") (F_v : Fld Z h0 x "java/lang/String" "value" "[B" .null) (F_c : Fld Z h0 x "java/lang/String" "coder" "B" (.int 0)) (g_x : n0 ≤ x) :
    o_MetH o_EL l Z o_m29 jdk_42_method_149_code 6 none ws o_R16 #[(.ref x), (.ref a), (.int 0), (.int 0), .null] h0 (Qse4 Z x a h0 n0) := by
  refine o_enterH o_pn_0 (fun m => o_ef15 m x a) (fun p e s m below meth c s₁ hx hby hml hZ hown hnm hlk hrt X0 e0 hS0 hk0 C0 => ?_)
  have N0 := Fr.nil n0
  have y_ := @hb _ _ hby
  have k_ := @o_k _ _ hw
  have hEL := o_EWs hw
  refine o_aloadN X0 hx (y_ oD29_0) rfl rfl ?_
  refine o_initO (W := 0) X0 hx hZ hown (k_ 11 rfl) (k_ 12 rfl) (k_ 13 rfl) e0 (by rw [hml]; rfl) (y_ oD29_1) (by decide) (Nat.le_of_eq rfl) (by decide) (fun T1 X1 e1 => ?_)
  refine o_iloadN X1 hx (y_ oD29_4) rfl ?_
  refine o_iFF X1 hx (y_ oD29_5) ?_
  refine o_aloadN X1 hx (y_ oD29_8) rfl rfl ?_
  have sfx : Safe Z o_EL s.vm h0 x := (o_safeN hZ.alike E_x F_v)
  refine o_ldcH (n := 0) (vs := []) (z := 0) X1 hx hZ hown (k_ 14 rfl) (fun d hd => hw d (o_strat d hd)) e1 hS0 hk0 hEL (by decide) C0.1 ⟨by decide, by decide⟩ (by decide) (by decide) (y_ oD29_9) (by decide) (by decide) (by decide) (by decide) (fun a2 b2 kb2 T2 k2 X2 E2 hS2 hk2 hZ2 hown2 Ex2 Co2 Va2 Av2 hC2 Li2 Sa2 => ?_)
  have O2 := Old.ext O0 E2
  have C3 := CHr.trans C0 (hC2)
  have sf4 := (CHr.safe (hC2) E_x.lt sfx)
  show o_G p e below _ T2 (mkF m 11 #[vR x, vR a, vI 0, vI 0, .val .null, .unset] [(.ref a2), (.ref x)])
  refine o_getF X2 hx hZ2 hown2 (host := "") (Or.inl (k_ 20 rfl)) Via.refl rfl Va2 (y_ oD29_11) (fun T5 X5 e5 => ?_)
  have c6 := (Exa.ext E2 E_x)
  have c7 := (Fld.ext E2 F_v)
  refine o_putF X5 hx hZ2 hown2 (host := "") (Or.inl (k_ 20 rfl)) Via.refl e5 c7 c6 (Or.inr ⟨(k_ 16 rfl), rfl, hnm⟩) (k_ 1 rfl) (ty := (.array .byte)) (by decide) rfl rfl (y_ oD29_14) (fun T8 h8 X8 e8 W8 => ?_)
  have F8 := Fld.same W8 c7
  have N8 := Fr.snoc X8 N0 g_x
  have O8 := Old.wr O2 W8 g_x
  have C9 := CHr.trans C3 (CHr.wr W8 sf4 C3.1)
  have sf10 := (Safe.wr W8 sf4 C3.1 sf4)
  refine o_aloadN X8 hx (y_ oD29_17) rfl rfl ?_
  refine o_ldcA X8 hx hZ2 hown2 (k_ 14 rfl) Li2 (y_ oD29_18) ?_
  have c12 := (Fld.other W8 Co2 (Or.inl (Ne.symm (Sa2 _ sf4).1)))
  refine o_getF X8 hx hZ2 hown2 (host := "") (Or.inl (k_ 21 rfl)) Via.refl e8 c12 (y_ oD29_20) (fun T13 X13 e13 => ?_)
  have c14 := (Exa.wr W8 c6)
  have c15 := (Fld.other W8 (Fld.ext E2 F_c) (Or.inr (slot_ne (Or.inr (k_ 17 rfl)) (Or.inr (k_ 16 rfl)) (by decide) (t := .byte) (t' := (.array .byte)) (by decide) (by decide))))
  refine o_putFN (v' := (.int 0)) X13 hx hZ2 hown2 (k_ 21 rfl) Via.refl e13 c15 c14 (Or.inr ⟨(k_ 17 rfl), rfl, hnm⟩) (k_ 1 rfl) (ty := .byte) (by decide) rfl rfl (y_ oD29_23) (fun T16 h16 X16 e16 W16 => ?_)
  have F16 := Fld.same W16 c15
  have N16 := Fr.snoc X16 N8 g_x
  have O16 := Old.wr O8 W16 g_x
  have C17 := CHr.trans C9 (CHr.wr W16 sf10 C9.1)
  have sf18 := (Safe.wr W16 sf10 C9.1 sf10)
  have kp19 := Keep.ext (Keep.refl h0 [x]) E2
  have kp20 := Keep.wr kp19 W8 (Or.inl (List.mem_of_getElem? (i := 0) rfl))
  have kp21 := Keep.wr kp20 W16 (Or.inl (List.mem_of_getElem? (i := 0) rfl))
  have c22 := (Exa.wr W16 c14)
  have c23 := (Fld.other W16 F8 (Or.inr (slot_ne (Or.inr (k_ 16 rfl)) (Or.inr (k_ 17 rfl)) (by decide) (t := (.array .byte)) (t' := .byte) (by decide) (by decide))))
  have c24 := (Arv.other (Arv.other Av2 W8 (Ne.symm (Sa2 _ sf4).2)) W16 (Ne.symm (Sa2 _ sf4).2))
  exact o_retVH X16 hx hS2 (by rw [e16]; exact (Nat.le_trans (Nat.le_trans hk2 (Keep.of_wr W8).1) (Keep.of_wr W16).1)) hZ2 hEL (by rw [e16]; exact C17) hrt hlk (y_ oD29_26) (by decide) (by decide) (o_hQ e16 ⟨rfl, N16, kp21, b2, Ne.symm (Sa2 _ sf4).2, c22, F16, c23, ⟨_, c24⟩, o_cs0, by decide⟩)
abbrev Qse (Z : State) (x : Addr) (a : Addr) (ka : ClassId) (h0 : Heap) (n0 : Nat) (v : Option Value) (h : Heap) (L : List Loc) : Prop := v = none ∧ Fr n0 L ∧ Keep h0 h [x] ∧ ∃ t, t ≠ x ∧ o_Str Z h x t []
set_option maxRecDepth 65536 in
set_option maxHeartbeats 40000000 in
theorem rmse (l : Launch) (Z : State) (a0 : Array Value) (hw : ∀ d ∈ tables_1, d.before a0 Z = true) (ws : List Jvm.Cond) (x : Addr) (a : Addr) (ka : ClassId) (h0 : Heap) (n0 : Nat) (O0 : Old Z n0 h0) (E_x : Exa Z h0 x "java/lang/String") (F_v : Fld Z h0 x "java/lang/String" "value" "[B" .null) (F_c : Fld Z h0 x "java/lang/String" "coder" "B" (.int 0)) (g_x : n0 ≤ x) (V_a : Arv Z h0 a ka .char (0 : Int32) [] (.int 0)) :
    o_MetH o_EL l Z o_m30 jdk_42_method_3_code 2 none ws o_R17 #[(.ref x), (.ref a)] h0 (Qse Z x a ka h0 n0) := by
  refine o_enterH o_pn_0 (fun m => o_ef2 m x a) (fun p e s m below meth c s₁ hx hby hml hZ hown hnm hlk hrt X0 e0 hS0 hk0 C0 => ?_)
  have N0 := Fr.nil n0
  have y_ := @hb _ _ hby
  have k_ := @o_k _ _ hw
  have hEL := o_EWs hw
  refine o_aloadN X0 hx (y_ oD30_0) rfl rfl ?_
  refine o_aloadN X0 hx (y_ oD30_1) rfl rfl ?_
  refine o_iconst X0 hx (y_ oD30_2) (x := 0) rfl ?_
  refine o_aloadN X0 hx (y_ oD30_3) rfl rfl ?_
  refine o_alen (n := 0) X0 hx hZ e0 V_a (y_ oD30_4) ?_
  refine o_anull X0 hx (y_ oD30_5) ?_
  refine o_initH (y := o_m29) (b := x) (argsL := [(.ref a), (.int 0), (.int 0), .null]) (S := []) (W := 0) rfl X0 hx hZ hS0 hown (k_ 7 rfl) (k_ 8 rfl) (k_ 10 rfl) (by decide) (backOfSH (W := 0) (rmse4 l Z a0 hw [] x a h0 n0 O0 E_x F_v F_c g_x) hZ (k_ 10 rfl) (k_ 2 rfl) (by decide) (by decide) hEL C0.1) e0 hk0 (by rw [hml]; rfl) (lenOf o_pd__28_5bCIILjava_2flang_2fVoid_3b_29V rfl) rfl (Nat.le_of_eq rfl) (y_ oD30_6) (by decide) (by decide) (fun T1 L1 v1 k1 X1 hS1 hk1 hZ1 hown1 hQ1 hC1 => ?_)
  obtain ⟨rfl, N1q, Kp1, t1, hne1, Sf1⟩ := hQ1
  have N1 := Fr.app N0 N1q
  have O2 := Old.keep O0 Kp1 (allS g_x all0)
  have C3 := CHr.trans C0 (hC1)
  show o_G p e below _ T1 (mkF m 9 #[vR x, vR a] [])
  have kp4 := Keep.trans (Keep.refl h0 [x]) Kp1 (allS (Or.inl (List.mem_of_getElem? (i := 0) rfl)) all0)
  exact o_retVH X1 hx hS1 hk1 hZ1 hEL (by exact C3) hrt hlk (y_ oD30_9) (by decide) (by decide) ⟨rfl, N1, kp4, t1, hne1, Sf1⟩
abbrev Qasi (Z : State) (b : Addr) (x : Addr) (u : Addr) (zC_ : Int32) (h0 : Heap) (n0 : Nat) (v : Option Value) (h : Heap) (L : List Loc) : Prop := v = none ∧ Fr n0 L ∧ Keep h0 h [b] ∧ ∃ t, n0 ≤ t ∧ h0.size ≤ t ∧ o_Bl Z h b t 31 o_doc
set_option maxRecDepth 65536 in
set_option maxHeartbeats 40000000 in
theorem rmasi (l : Launch) (Z : State) (a0 : Array Value) (hw : ∀ d ∈ tables_1, d.before a0 Z = true) (ws : List Jvm.Cond) (b : Addr) (x : Addr) (u : Addr) (zC_ : Int32) (h0 : Heap) (n0 : Nat) (O0 : Old Z n0 h0) (E_b : Exa Z h0 b "java/lang/StringBuilder") (F_v : Fld Z h0 b "java/lang/AbstractStringBuilder" "value" "[B" .null) (F_c : Fld Z h0 b "java/lang/AbstractStringBuilder" "coder" "B" (.int 0)) (F_n : Fld Z h0 b "java/lang/AbstractStringBuilder" "count" "I" (.int 0)) (g_b : n0 ≤ b) (S_x : o_Str Z h0 x u o_doc) (SC_ : o_SC Z zC_) (hC_ : ¬ zC_ = 0) :
    o_Met l Z o_m31 jdk_68_method_3_code 5 none ws o_R18 #[(.ref b), (.ref x)] h0 (Qasi Z b x u zC_ h0 n0) := by
  refine o_enter o_pn_1 (fun m => o_ef16 m b x) (fun p e s m below meth c s₁ hx hby hml hZ hown hnm hlk hrt X0 e0 => ?_)
  have N0 := Fr.nil n0
  have y_ := @hb _ _ hby
  have k_ := @o_k _ _ hw
  refine o_aloadN X0 hx (y_ oD31_0) rfl rfl ?_
  refine o_initO (W := 0) X0 hx hZ hown (k_ 42 rfl) (k_ 12 rfl) (k_ 13 rfl) e0 (by rw [hml]; rfl) (y_ oD31_1) (by decide) (Nat.le_of_eq rfl) (by decide) (fun T1 X1 e1 => ?_)
  refine o_aloadN X1 hx (y_ oD31_4) rfl rfl ?_
  refine o_vir (y := o_m2) (b := x) (argsL := []) (S := []) (W := 0) X1 hx hZ hown (k_ 43 rfl) (k_ 44 rfl) (k_ 46 rfl) (k_ 45 rfl) (backOf (W := 0) (rmlen l Z a0 hw [] x u o_doc zC_ h0 n0 O0 S_x SC_ hC_) hZ (k_ 47 rfl) (k_ 2 rfl) (by decide) (by decide)) e1 S_x.1 hml (lenOf o_pd__28_29I rfl) (y_ oD31_5) (fun T2 L2 v2 X2 hQ2 => ?_)
  obtain ⟨rfl, N2q, hh2⟩ := hQ2
  have N2 := Fr.app N0 N2q
  show o_G p e below _ T2 (mkF m 8 #[vR b, vR x, .unset, .unset, .unset] [(.int (Int32.ofNat o_doc.length))])
  refine o_valE (z := 15) (by decide) ?_
  refine o_istoreN X2 hx (y_ oD31_8) (A' := #[vR b, vR x, vI 15, .unset, .unset]) rfl ?_
  refine o_iloadN X2 hx (y_ oD31_9) rfl ?_
  refine o_st (g' := (mkF m 12 #[vR b, vR x, vI 15, .unset, .unset] (.int 2147483631 :: [(.int 15)]))) (fun _ z => X2.ldcI hx hown (mvT hZ (k_ 54 rfl)) (g := (mkF m 10 #[vR b, vR x, vI 15, .unset, .unset] [(.int 15)])) rfl (y_ oD31_10) z) ?_
  refine o_iCF X2 hx (y_ oD31_12) ?_
  refine o_iloadN X2 hx (y_ oD31_15) rfl ?_
  refine o_bipush X2 hx (y_ oD31_16) (x := 16) rfl ?_
  refine o_iadd X2 hx (y_ oD31_18) ?_
  refine o_valE (z := 31) (by decide) ?_
  refine o_gO (t := 24) X2 hx (y_ oD31_19) ?_
  refine o_istoreN X2 hx (y_ oD31_24) (A' := #[vR b, vR x, vI 15, vI 31, .unset]) rfl ?_
  refine o_aloadN X2 hx (y_ oD31_25) rfl rfl ?_
  refine o_vir (y := o_m0) (b := x) (argsL := []) (S := []) (W := 0) X2 hx hZ hown (k_ 55 rfl) (k_ 49 rfl) (k_ 51 rfl) (k_ 50 rfl) (backOf (W := 0) (rmcod l Z a0 hw [] x zC_ h0 n0 O0 S_x.2.1 SC_ hC_) hZ (k_ 52 rfl) (k_ 2 rfl) (by decide) (by decide)) hh2 S_x.1 hml (lenOf o_pd__28_29B rfl) (y_ oD31_26) (fun T3 L3 v3 X3 hQ3 => ?_)
  obtain ⟨rfl, N3q, hh3⟩ := hQ3
  have N3 := Fr.app N2 N3q
  show o_G p e below _ T3 (mkF m 29 #[vR b, vR x, vI 15, vI 31, .unset] [(.int 0)])
  refine o_istore X3 hx (y_ oD31_29) (A' := #[vR b, vR x, vI 15, vI 31, vI 0]) rfl ?_
  refine o_aloadN X3 hx (y_ oD31_31) rfl rfl ?_
  refine o_iload X3 hx (y_ oD31_32) rfl ?_
  refine o_putFN (v' := (.int 0)) X3 hx hZ hown (k_ 56 rfl) Via.refl hh3 F_c E_b (Or.inl (k_ 57 rfl)) (k_ 30 rfl) (ty := .byte) (by decide) rfl rfl (y_ oD31_34) (fun T4 h4 X4 e4 W4 => ?_)
  have F4 := Fld.same W4 F_c
  have N4 := Fr.snoc X4 N3 g_b
  have O4 := Old.wr O0 W4 g_b
  refine o_aloadN X4 hx (y_ oD31_37) rfl rfl ?_
  refine o_iload X4 hx (y_ oD31_38) rfl ?_
  refine o_iFF X4 hx (y_ oD31_40) ?_
  refine o_iloadN X4 hx (y_ oD31_43) rfl ?_
  refine o_newE (cap := 31) X4 hx hZ (k_ 15 rfl) e4 (y_ oD31_44) (by decide) (by decide) (fun T5 h5 k5 b5 X5 e5 gg5 E5 V5 A5 => ?_)
  have g_b5 := o_fresh O4 gg5
  have O5 := Old.ext O4 E5
  refine o_gO (t := 53) X5 hx (y_ oD31_46) ?_
  have c6 := (Exa.ext E5 (Exa.wr W4 E_b))
  have c7 := (Fld.ext E5 (Fld.other W4 F_v (Or.inr (slot_ne (Or.inl (k_ 59 rfl)) (Or.inl (k_ 57 rfl)) (by decide) (t := (.array .byte)) (t' := .byte) (by decide) (by decide)))))
  refine o_putF X5 hx hZ hown (host := "") (Or.inl (k_ 58 rfl)) Via.refl e5 c7 c6 (Or.inl (k_ 59 rfl)) (k_ 30 rfl) (ty := (.array .byte)) (by decide) rfl rfl (y_ oD31_53) (fun T8 h8 X8 e8 W8 => ?_)
  have F8 := Fld.same W8 c7
  have N8 := Fr.snoc X8 N4 g_b
  have O8 := Old.wr O5 W8 g_b
  refine o_aloadN X8 hx (y_ oD31_56) rfl rfl ?_
  refine o_aloadN X8 hx (y_ oD31_57) rfl rfl ?_
  have c9 := (Exa.wr W8 c6)
  have c10 := (Fld.other W8 (Fld.ext E5 F4) (Or.inr (slot_ne (Or.inl (k_ 57 rfl)) (Or.inl (k_ 59 rfl)) (by decide) (t := .byte) (t' := (.array .byte)) (by decide) (by decide))))
  have c11 := (Fld.other W8 (Fld.ext E5 (Fld.other W4 F_n (Or.inr (slot_ne (Or.inl (k_ 75 rfl)) (Or.inl (k_ 57 rfl)) (by decide) (t := .int) (t' := .byte) (by decide) (by decide))))) (Or.inr (slot_ne (Or.inl (k_ 75 rfl)) (Or.inl (k_ 59 rfl)) (by decide) (t := .int) (t' := (.array .byte)) (by decide) (by decide))))
  have c12 := (Arv.other V5 W8 (Ne.symm (o_ng F4.lt gg5)))
  have Bl0 : o_Bl Z h8 b b5 31 [] := ⟨c9, c10, F8, c11, ⟨_, c12⟩, o_cs0, Nat.zero_le _⟩
  have c13 := (o_Str.other (o_Str.ext E5 (o_Str.other S_x W4 (Exa.ne S_x.1 E_b (by decide)) (Ne.symm (o_Str.neT S_x E_b (k_ 30 rfl))))) W8 (Exa.ne (o_Str.ext E5 (o_Str.other S_x W4 (Exa.ne S_x.1 E_b (by decide)) (Ne.symm (o_Str.neT S_x E_b (k_ 30 rfl))))).1 c6 (by decide)) (Ne.symm (o_Str.neT (o_Str.ext E5 (o_Str.other S_x W4 (Exa.ne S_x.1 E_b (by decide)) (Ne.symm (o_Str.neT S_x E_b (k_ 30 rfl))))) c6 (k_ 30 rfl))))
  refine o_virtual (y := o_m7) (z := o_m9) (b := b) (argsL := [(.ref x)]) (S := []) (W := 0) X8 hx hZ hown (k_ 60 rfl) (k_ 61 rfl) (o_nf (y2 := o_m3) hZ (k_ 79 rfl) rfl) (k_ 63 rfl) (k_ 64 rfl) (by decide) (backOf (W := 0) (rmsab l Z a0 hw [] b x b5 31 ([] : List Int32) u o_doc zC_ h8 n0 O8 Bl0 c13 g_b g_b5 (by decide) SC_ hC_) hZ (k_ 65 rfl) (k_ 31 rfl) (by decide) (by decide)) e8 c9 (by rw [hml]; rfl) (lenOf o_pd__28Ljava_2flang_2fString_3b_29Ljava_2flang_2fAbstractStringBuilder_3b rfl) rfl (Nat.le_of_eq rfl) (y_ oD31_58) (by decide) (by decide) (fun T14 L14 v14 X14 hQ14 => ?_)
  obtain ⟨rfl, N14q, Kp14, Bl14⟩ := hQ14
  have N14 := Fr.app N8 N14q
  have O15 := Old.keep O8 Kp14 (allS g_b (allS g_b5 all0))
  show o_G p e below _ T14 (mkF m 61 #[vR b, vR x, vI 15, vI 31, vI 0] [(.ref b)])
  refine o_pop X14 hx (y_ oD31_61) rfl ?_
  have kp16 := Keep.wr (Keep.refl h0 [b]) W4 (Or.inl (List.mem_of_getElem? (i := 0) rfl))
  have kp17 := Keep.ext kp16 E5
  have kp18 := Keep.wr kp17 W8 (Or.inl (List.mem_of_getElem? (i := 0) rfl))
  have kp19 := Keep.trans kp18 Kp14 (allS (Or.inl (List.mem_of_getElem? (i := 0) rfl)) (allS (Or.inr (Nat.le_trans kp16.1 (Nat.le_of_eq gg5.symm))) all0))
  exact o_retV X14 hx hrt hlk (y_ oD31_62) (by decide) (by decide) ⟨rfl, N14, kp19, b5, g_b5, (Nat.le_trans kp16.1 (Nat.le_of_eq gg5.symm)), Bl14⟩
abbrev Qsbi (Z : State) (b : Addr) (x : Addr) (u : Addr) (zC_ : Int32) (h0 : Heap) (n0 : Nat) (v : Option Value) (h : Heap) (L : List Loc) : Prop := v = none ∧ Fr n0 L ∧ Keep h0 h [b] ∧ ∃ t, n0 ≤ t ∧ h0.size ≤ t ∧ o_Bl Z h b t 31 o_doc
set_option maxRecDepth 65536 in
set_option maxHeartbeats 40000000 in
theorem rmsbi (l : Launch) (Z : State) (a0 : Array Value) (hw : ∀ d ∈ tables_1, d.before a0 Z = true) (ws : List Jvm.Cond) (b : Addr) (x : Addr) (u : Addr) (zC_ : Int32) (h0 : Heap) (n0 : Nat) (O0 : Old Z n0 h0) (E_b : Exa Z h0 b "java/lang/StringBuilder") (F_v : Fld Z h0 b "java/lang/AbstractStringBuilder" "value" "[B" .null) (F_c : Fld Z h0 b "java/lang/AbstractStringBuilder" "coder" "B" (.int 0)) (F_n : Fld Z h0 b "java/lang/AbstractStringBuilder" "count" "I" (.int 0)) (g_b : n0 ≤ b) (S_x : o_Str Z h0 x u o_doc) (SC_ : o_SC Z zC_) (hC_ : ¬ zC_ = 0) :
    o_Met l Z o_m32 jdk_67_method_3_code 2 none ws o_R19 #[(.ref b), (.ref x)] h0 (Qsbi Z b x u zC_ h0 n0) := by
  refine o_enter o_pn_2 (fun m => o_ef2 m b x) (fun p e s m below meth c s₁ hx hby hml hZ hown hnm hlk hrt X0 e0 => ?_)
  have N0 := Fr.nil n0
  have y_ := @hb _ _ hby
  have k_ := @o_k _ _ hw
  refine o_aloadN X0 hx (y_ oD32_0) rfl rfl ?_
  refine o_aloadN X0 hx (y_ oD32_1) rfl rfl ?_
  refine o_ini (y := o_m31) (b := b) (argsL := [(.ref x)]) (S := []) (W := 0) rfl X0 hx hZ hown (k_ 36 rfl) (k_ 37 rfl) (k_ 41 rfl) (backOf (W := 0) (rmasi l Z a0 hw [] b x u zC_ h0 n0 O0 E_b F_v F_c F_n g_b S_x SC_ hC_) hZ (k_ 41 rfl) (k_ 40 rfl) (by decide) (by decide)) e0 hml (lenOf o_pd__28Ljava_2flang_2fString_3b_29V rfl) (y_ oD32_2) (fun T1 L1 v1 X1 hQ1 => ?_)
  obtain ⟨rfl, N1q, Kp1, t1, g_t1, ht1, Bl1⟩ := hQ1
  have N1 := Fr.app N0 N1q
  have O2 := Old.keep O0 Kp1 (allS g_b all0)
  show o_G p e below _ T1 (mkF m 5 #[vR b, vR x] [])
  have kp3 := Keep.trans (Keep.refl h0 [b]) Kp1 (allS (Or.inl (List.mem_of_getElem? (i := 0) rfl)) all0)
  exact o_retV X1 hx hrt hlk (y_ oD32_5) (by decide) (by decide) ⟨rfl, N1, kp3, t1, g_t1, (Nat.le_trans (Keep.refl h0 [b]).1 ht1), Bl1⟩
abbrev Qhin (Z : State) (b : Addr) (zC_ : Int32) (h0 : Heap) (n0 : Nat) (v : Option Value) (h : Heap) (L : List Loc) : Prop := v = none ∧ Fr n0 L ∧ Keep h0 h [b] ∧ ∃ o t, n0 ≤ o ∧ h0.size ≤ o ∧ n0 ≤ t ∧ h0.size ≤ t ∧ Fld Z h b "com/example/scholion/scholion/http/Html" "out" "Ljava/lang/StringBuilder;" (.ref o) ∧ o_Bl Z h o t 31 o_doc
set_option maxRecDepth 65536 in
set_option maxHeartbeats 40000000 in
theorem rmhin (l : Launch) (Z : State) (a0 : Array Value) (hw : ∀ d ∈ tables_1, d.before a0 Z = true) (ws : List Jvm.Cond) (b : Addr) (zC_ : Int32) (h0 : Heap) (n0 : Nat) (O0 : Old Z n0 h0) (E_b : Exa Z h0 b "com/example/scholion/scholion/http/Html") (F_o : Fld Z h0 b "com/example/scholion/scholion/http/Html" "out" "Ljava/lang/StringBuilder;" .null) (g_b : n0 ≤ b) (SC_ : o_SC Z zC_) (hC_ : ¬ zC_ = 0) :
    o_MetH o_EL l Z o_m33 prog_12_method_1_code 1 none ws o_R20 #[(.ref b)] h0 (Qhin Z b zC_ h0 n0) := by
  refine o_enterH o_pn_6 (fun m => o_ef0 m b) (fun p e s m below meth c s₁ hx hby hml hZ hown hnm hlk hrt X0 e0 hS0 hk0 C0 => ?_)
  have N0 := Fr.nil n0
  have y_ := @hb _ _ hby
  have k_ := @o_k _ _ hw
  have hEL := o_EWs hw
  refine o_aloadN X0 hx (y_ oD33_0) rfl rfl ?_
  refine o_initO (W := 0) X0 hx hZ hown (k_ 28 rfl) (k_ 12 rfl) (k_ 13 rfl) e0 (by rw [hml]; rfl) (y_ oD33_1) (by decide) (Nat.le_of_eq rfl) (by decide) (fun T1 X1 e1 => ?_)
  refine o_aloadN X1 hx (y_ oD33_4) rfl rfl ?_
  refine o_new X1 hx hZ hown (k_ 29 rfl) (k_ 30 rfl) (k_ 31 rfl) e1 (y_ oD33_5) (by decide) (by decide) (fun T2 h2 b2 X2 e2 gg2 E2 A2 D2 => ?_)
  have g_b2 := o_fresh O0 gg2
  have O2 := Old.ext O0 E2
  have C3 := CHr.trans C0 (CHr.ext E2 C0.1)
  have F2_coder : Fld Z h2 b2 "java/lang/AbstractStringBuilder" "coder" "B" (.int 0) := D2 (Or.inl (k_ 57 rfl)) (ty := .byte) (by decide)
  have F2_value : Fld Z h2 b2 "java/lang/AbstractStringBuilder" "value" "[B" .null := D2 (Or.inl (k_ 59 rfl)) (ty := (.array .byte)) (by decide)
  have F2_count : Fld Z h2 b2 "java/lang/AbstractStringBuilder" "count" "I" (.int 0) := D2 (Or.inl (k_ 75 rfl)) (ty := .int) (by decide)
  refine o_dup X2 hx (y_ oD33_8) rfl ?_
  refine o_ldcH (n := 60) (vs := [.int 60, .int 33, .int 68, .int 79, .int 67, .int 84, .int 89, .int 80, .int 69, .int 32, .int 104, .int 116, .int 109, .int 108, .int 62]) (z := 15) X2 hx hZ hown (k_ 32 rfl) (fun d hd => hw d (o_strat d hd)) e2 hS0 (Nat.le_trans hk0 E2.1) hEL (by decide) C3.1 ⟨by decide, by decide⟩ (by decide) (by decide) (y_ oD33_9) (by decide) (by decide) (by decide) (by decide) (fun a4 b4 kb4 T4 k4 X4 E4 hS4 hk4 hZ4 hown4 Ex4 Co4 Va4 Av4 hC4 Li4 Sa4 => ?_)
  have O4 := Old.ext O2 E4
  have C5 := CHr.trans C3 (hC4)
  show o_G p e below _ T4 (mkF m 11 #[vR b] [(.ref a4), (.ref b2), (.ref b2), (.ref b)])
  have Ss4 : o_Str Z T4.heap a4 b4 o_doc := ⟨Ex4, Co4, Va4, ⟨_, Av4⟩, by decide, by decide⟩
  have c6 := (Exa.ext E4 A2)
  have c7 := (Fld.ext E4 F2_value)
  have c8 := (Fld.ext E4 F2_coder)
  have c9 := (Fld.ext E4 F2_count)
  refine o_ini (y := o_m32) (b := b2) (argsL := [(.ref a4)]) (S := [(.ref b2), (.ref b)]) (W := 2) rfl X4 hx hZ4 hown4 (k_ 33 rfl) (k_ 34 rfl) (k_ 35 rfl) (backOf (W := 2) (rmsbi l Z a0 hw [] b2 a4 b4 zC_ T4.heap n0 O4 c6 c7 c8 c9 g_b2 Ss4 SC_ hC_) hZ4 (k_ 35 rfl) (k_ 31 rfl) (by decide) (by decide)) rfl hml (lenOf o_pd__28Ljava_2flang_2fString_3b_29V rfl) (y_ oD33_11) (fun T10 L10 v10 X10 hQ10 => ?_)
  obtain ⟨rfl, N10q, Kp10, t10, g_t10, ht10, Bl10⟩ := hQ10
  have N10 := Fr.app N0 N10q
  have O11 := Old.keep O4 Kp10 (allS g_b2 all0)
  have C12 := CHr.trans C5 (CHr.keep Kp10 (sfS (Safe.exa hZ4.alike c6 (by decide) (by decide)) sf0) C5.1)
  show o_G p e below _ T10 (mkF m 14 #[vR b] [(.ref b2), (.ref b)])
  have c13 := (Exa.keep (Exa.ext E4 (Exa.ext E2 E_b)) Kp10)
  have c14 := (Fld.keep (Fld.ext E4 (Fld.ext E2 F_o)) Kp10 (ninS (o_ng E_b.lt gg2) nin0))
  refine o_putF X10 hx hZ4 hown4 (host := "") (Or.inl (k_ 101 rfl)) Via.refl rfl c14 c13 (Or.inr ⟨(k_ 102 rfl), rfl, hnm⟩) (k_ 23 rfl) (ty := (.object "java/lang/StringBuilder")) (by decide) rfl rfl (y_ oD33_14) (fun T15 h15 X15 e15 W15 => ?_)
  have F15 := Fld.same W15 c14
  have N15 := Fr.snoc X15 N10 g_b
  have O15 := Old.wr O11 W15 g_b
  have C16 := CHr.trans C12 (CHr.wr W15 (Safe.exa hZ4.alike c13 (by decide) (by decide)) C12.1)
  have kp17 := Keep.ext (Keep.refl h0 [b]) E2
  have kp18 := Keep.ext kp17 E4
  have kp19 := Keep.trans kp18 Kp10 (allS (Or.inr (Nat.le_trans (Keep.refl h0 [b]).1 (Nat.le_of_eq gg2.symm))) all0)
  have kp20 := Keep.wr kp19 W15 (Or.inl (List.mem_of_getElem? (i := 0) rfl))
  have c21 := (o_Bl.other Bl10 W15 (Ne.symm (o_ng E_b.lt gg2)) (Ne.symm (Nat.ne_of_lt (Nat.lt_of_lt_of_le (Nat.lt_of_lt_of_le E_b.lt (Nat.le_trans E2.1 E4.1)) ht10))))
  exact o_retVH X15 hx hS4 (by rw [e15]; exact (Nat.le_trans (Nat.le_trans hk4 Kp10.1) (Keep.of_wr W15).1)) hZ4 hEL (by rw [e15]; exact C16) hrt hlk (y_ oD33_17) (by decide) (by decide) (o_hQ e15 ⟨rfl, N15, kp20, b2, t10, g_b2, (Nat.le_trans (Keep.refl h0 [b]).1 (Nat.le_of_eq gg2.symm)), g_t10, (Nat.le_trans kp18.1 ht10), F15, c21⟩)
abbrev Qclo (Z : State) (b : Addr) (x : Addr) (o : Addr) (t : Addr) (u : Addr) (ds : List Int32) (zC_ : Int32) (h0 : Heap) (n0 : Nat) (v : Option Value) (h : Heap) (L : List Loc) : Prop := v = some (.ref b) ∧ Fr n0 L ∧ Keep h0 h [o, t] ∧ o_Bl Z h o t 31 (((o_doc ++ o_lt) ++ ds) ++ [(62 : Int32)])
set_option maxRecDepth 65536 in
set_option maxHeartbeats 40000000 in
theorem rmclo (l : Launch) (Z : State) (a0 : Array Value) (hw : ∀ d ∈ tables_1, d.before a0 Z = true) (ws : List Jvm.Cond) (b : Addr) (x : Addr) (o : Addr) (t : Addr) (u : Addr) (ds : List Int32) (zC_ : Int32) (h0 : Heap) (n0 : Nat) (O0 : Old Z n0 h0) (F_o : Fld Z h0 b "com/example/scholion/scholion/http/Html" "out" "Ljava/lang/StringBuilder;" (.ref o)) (B_o : o_Bl Z h0 o t 31 o_doc) (S_x : o_Str Z h0 x u ds) (g_o : n0 ≤ o) (g_t : n0 ≤ t) (hut : u ≠ t) (h3 : ds.length ≤ 3) (SC_ : o_SC Z zC_) (hC_ : ¬ zC_ = 0) :
    o_MetH o_EL l Z o_m34 prog_12_method_3_code 2 (some (.object "com/example/scholion/scholion/http/Html")) ws o_R21 #[(.ref b), (.ref x)] h0 (Qclo Z b x o t u ds zC_ h0 n0) := by
  refine o_enterH o_pn_6 (fun m => o_ef2 m b x) (fun p e s m below meth c s₁ hx hby hml hZ hown hnm hlk hrt X0 e0 hS0 hk0 C0 => ?_)
  have N0 := Fr.nil n0
  have y_ := @hb _ _ hby
  have k_ := @o_k _ _ hw
  have hEL := o_EWs hw
  refine o_aloadN X0 hx (y_ oD34_0) rfl rfl ?_
  refine o_getF X0 hx hZ hown (host := "") (Or.inl (k_ 101 rfl)) Via.refl e0 F_o (y_ oD34_1) (fun T1 X1 e1 => ?_)
  refine o_ldcH (n := 8) (vs := [.int 60, .int 47]) (z := 2) X1 hx hZ hown (k_ 108 rfl) (fun d hd => hw d (o_strat d hd)) e1 hS0 hk0 hEL (by decide) C0.1 ⟨by decide, by decide⟩ (by decide) (by decide) (y_ oD34_4) (by decide) (by decide) (by decide) (by decide) (fun a2 b2 kb2 T2 k2 X2 E2 hS2 hk2 hZ2 hown2 Ex2 Co2 Va2 Av2 hC2 Li2 Sa2 => ?_)
  have O2 := Old.ext O0 E2
  have C3 := CHr.trans C0 (hC2)
  show o_G p e below _ T2 (mkF m 6 #[vR b, vR x] [(.ref a2), (.ref o)])
  have Ss2 : o_Str Z T2.heap a2 b2 o_lt := ⟨Ex2, Co2, Va2, ⟨_, Av2⟩, by decide, by decide⟩
  have c4 := (o_Bl.ext E2 B_o)
  refine o_vir (y := o_m8) (b := o) (argsL := [(.ref a2)]) (S := []) (W := 0) X2 hx hZ2 hown2 (k_ 109 rfl) (k_ 67 rfl) (k_ 69 rfl) (k_ 68 rfl) (backOf (W := 0) (rmsap l Z a0 hw [] o a2 t 31 o_doc b2 o_lt zC_ T2.heap n0 O2 c4 Ss2 g_o g_t (by decide) SC_ hC_) hZ2 (k_ 70 rfl) (k_ 31 rfl) (by decide) (by decide)) rfl c4.1 hml (lenOf o_pd__28Ljava_2flang_2fString_3b_29Ljava_2flang_2fStringBuilder_3b rfl) (y_ oD34_6) (fun T5 L5 v5 X5 hQ5 => ?_)
  obtain ⟨rfl, N5q, Kp5, Bl5⟩ := hQ5
  have N5 := Fr.app N0 N5q
  have O6 := Old.keep O2 Kp5 (allS g_o (allS g_t all0))
  have C7 := CHr.trans C3 (CHr.keep Kp5 (sfS (Safe.exa hZ2.alike c4.1 (by decide) (by decide)) (sfS (c4.safe hZ2 (o_ENs hw)) sf0)) C3.1)
  show o_G p e below _ T5 (mkF m 9 #[vR b, vR x] [(.ref o)])
  refine o_aloadN X5 hx (y_ oD34_9) rfl rfl ?_
  have c8 := (o_Str.keep (o_Str.ext E2 S_x) Kp5 (ninS (Exa.ne (o_Str.ext E2 S_x).1 c4.1 (by decide)) (ninS (o_Bl.neT c4 (o_Str.ext E2 S_x).1 (k_ 1 rfl)) nin0)) (ninS (Ne.symm (o_Str.neT (o_Str.ext E2 S_x) c4.1 (k_ 30 rfl))) (ninS hut nin0)))
  refine o_vir (y := o_m8) (b := o) (argsL := [(.ref x)]) (S := []) (W := 0) X5 hx hZ2 hown2 (k_ 109 rfl) (k_ 67 rfl) (k_ 69 rfl) (k_ 68 rfl) (backOf (W := 0) (rmsap l Z a0 hw [] o x t 31 (o_doc ++ o_lt) u ds zC_ T5.heap n0 O6 Bl5 c8 g_o g_t (show 17 + ds.length ≤ 31 from Nat.le_trans (Nat.add_le_add_left h3 17) (by decide)) SC_ hC_) hZ2 (k_ 70 rfl) (k_ 31 rfl) (by decide) (by decide)) rfl Bl5.1 hml (lenOf o_pd__28Ljava_2flang_2fString_3b_29Ljava_2flang_2fStringBuilder_3b rfl) (y_ oD34_10) (fun T9 L9 v9 X9 hQ9 => ?_)
  obtain ⟨rfl, N9q, Kp9, Bl9⟩ := hQ9
  have N9 := Fr.app N5 N9q
  have O10 := Old.keep O6 Kp9 (allS g_o (allS g_t all0))
  have C11 := CHr.trans C7 (CHr.keep Kp9 (sfS (Safe.exa hZ2.alike Bl5.1 (by decide) (by decide)) (sfS (Bl5.safe hZ2 (o_ENs hw)) sf0)) C7.1)
  show o_G p e below _ T9 (mkF m 13 #[vR b, vR x] [(.ref o)])
  refine o_bipush X9 hx (y_ oD34_13) (x := 62) rfl ?_
  refine o_vir (y := o_m13) (b := o) (argsL := [(.int 62)]) (S := []) (W := 0) X9 hx hZ2 hown2 (k_ 110 rfl) (k_ 111 rfl) (k_ 113 rfl) (k_ 112 rfl) (backOf (W := 0) (rmsac l Z a0 hw [] o (62 : Int32) t 31 ((o_doc ++ o_lt) ++ ds) zC_ T9.heap n0 O10 Bl9 g_o g_t (by decide) (by rw [List.length_append]; exact Nat.le_trans (Nat.add_le_add_right (Nat.add_le_add_left h3 17) 1) (by decide)) SC_ hC_) hZ2 (k_ 114 rfl) (k_ 31 rfl) (by decide) (by decide)) rfl Bl9.1 hml (lenOf o_pd__28C_29Ljava_2flang_2fStringBuilder_3b rfl) (y_ oD34_15) (fun T12 L12 v12 X12 hQ12 => ?_)
  obtain ⟨rfl, N12q, Kp12, Bl12⟩ := hQ12
  have N12 := Fr.app N9 N12q
  have O13 := Old.keep O10 Kp12 (allS g_o (allS g_t all0))
  have C14 := CHr.trans C11 (CHr.keep Kp12 (sfS (Safe.exa hZ2.alike Bl9.1 (by decide) (by decide)) (sfS (Bl9.safe hZ2 (o_ENs hw)) sf0)) C11.1)
  show o_G p e below _ T12 (mkF m 18 #[vR b, vR x] [(.ref o)])
  refine o_pop X12 hx (y_ oD34_18) rfl ?_
  refine o_aloadN X12 hx (y_ oD34_19) rfl rfl ?_
  have kp15 := Keep.ext (Keep.refl h0 [o, t]) E2
  have kp16 := Keep.trans kp15 Kp5 (allS (Or.inl (List.mem_of_getElem? (i := 0) rfl)) (allS (Or.inl (List.mem_of_getElem? (i := 1) rfl)) all0))
  have kp17 := Keep.trans kp16 Kp9 (allS (Or.inl (List.mem_of_getElem? (i := 0) rfl)) (allS (Or.inl (List.mem_of_getElem? (i := 1) rfl)) all0))
  have kp18 := Keep.trans kp17 Kp12 (allS (Or.inl (List.mem_of_getElem? (i := 0) rfl)) (allS (Or.inl (List.mem_of_getElem? (i := 1) rfl)) all0))
  exact o_retAH X12 hx hS2 (Nat.le_trans (Nat.le_trans (Nat.le_trans hk2 Kp5.1) Kp9.1) Kp12.1) hZ2 hEL (by exact C14) hrt hlk rfl rfl rfl (y_ oD34_20) (by decide) (by decide) ⟨rfl, N12, kp18, Bl12⟩
abbrev Qbyt (Z : State) (b : Addr) (o : Addr) (t : Addr) (z : Int32) (ds : List Int32) (u8 : Addr) (zC_ : Int32) (h0 : Heap) (n0 : Nat) (v : Option Value) (h : Heap) (L : List Loc) : Prop := ∃ t2, v = some (.ref t2) ∧ Fr n0 L ∧ Keep h0 h [] ∧ n0 ≤ t2 ∧ h0.size ≤ t2 ∧ Exa Z h t2 "[B" ∧ ∃ k, Arv Z h t2 k .byte (Int32.ofNat ds.length) (o_V8 ds) (.int 0)
set_option maxRecDepth 65536 in
set_option maxHeartbeats 40000000 in
theorem rmbyt (l : Launch) (Z : State) (a0 : Array Value) (hw : ∀ d ∈ tables_1, d.before a0 Z = true) (ws : List Jvm.Cond) (b : Addr) (o : Addr) (t : Addr) (z : Int32) (ds : List Int32) (u8 : Addr) (zC_ : Int32) (h0 : Heap) (n0 : Nat) (O0 : Old Z n0 h0) (F_o : Fld Z h0 b "com/example/scholion/scholion/http/Html" "out" "Ljava/lang/StringBuilder;" (.ref o)) (B_o : o_Bl Z h0 o t z ds) (hlt : ds.length < z.toNatClampNeg) (hcap : ds.length ≤ 30) (hasc : o_asc ds) (S_u : Sta Z Z.heap "sun/nio/cs/UTF_8" "INSTANCE" "Lsun/nio/cs/UTF_8;" (.ref u8)) (S_v : Sta Z Z.heap "java/nio/charset/StandardCharsets" "UTF_8" "Ljava/nio/charset/Charset;" (.ref u8)) (SC_ : o_SC Z zC_) (hC_ : ¬ zC_ = 0) :
    o_Met l Z o_m35 prog_12_method_7_code 1 (some (.array .byte)) ws o_R22 #[(.ref b)] h0 (Qbyt Z b o t z ds u8 zC_ h0 n0) := by
  refine o_enter o_pn_6 (fun m => o_ef0 m b) (fun p e s m below meth c s₁ hx hby hml hZ hown hnm hlk hrt X0 e0 => ?_)
  have N0 := Fr.nil n0
  have y_ := @hb _ _ hby
  have k_ := @o_k _ _ hw
  refine o_aloadN X0 hx (y_ oD35_0) rfl rfl ?_
  refine o_getF X0 hx hZ hown (host := "") (Or.inl (k_ 101 rfl)) Via.refl e0 F_o (y_ oD35_1) (fun T1 X1 e1 => ?_)
  refine o_vir (y := o_m23) (b := o) (argsL := []) (S := []) (W := 0) X1 hx hZ hown (k_ 133 rfl) (k_ 134 rfl) (k_ 136 rfl) (k_ 135 rfl) (backOf (W := 0) (rmsts l Z a0 hw [] o t z ds zC_ h0 n0 O0 B_o hlt hcap SC_ hC_) hZ (k_ 137 rfl) (k_ 31 rfl) (by decide) (by decide)) e1 B_o.1 hml (lenOf o_pd__28_29Ljava_2flang_2fString_3b rfl) (y_ oD35_4) (fun T2 L2 v2 X2 hQ2 => ?_)
  obtain ⟨x2, t2, rfl, N2q, Kp2, g_x2, hx2, g_t2, ht2, hne2, Et2, Sf2⟩ := hQ2
  have N2 := Fr.app N0 N2q
  have O3 := Old.keep O0 Kp2 all0
  show o_G p e below _ T2 (mkF m 7 #[vR b] [(.ref x2)])
  refine o_getS X2 hx hZ hown (host := "") (Or.inl (k_ 174 rfl)) Via.refl rfl (Sta.ext O3.2 S_v) (y_ oD35_7) (fun T4 X4 e4 => ?_)
  refine o_vir (y := o_m28) (b := x2) (argsL := [(.ref u8)]) (S := []) (W := 0) X4 hx hZ hown (k_ 176 rfl) (k_ 177 rfl) (k_ 179 rfl) (k_ 178 rfl) (backOf (W := 0) (rmgbu l Z a0 hw [] x2 u8 t2 ds zC_ T2.heap n0 O3 Sf2 hcap hasc Et2 S_u SC_ hC_) hZ (k_ 180 rfl) (k_ 2 rfl) (by decide) (by decide)) e4 Sf2.1 hml (lenOf o_pd__28Ljava_2fnio_2fcharset_2fCharset_3b_29_5bB rfl) (y_ oD35_10) (fun T5 L5 v5 X5 hQ5 => ?_)
  obtain ⟨t5, rfl, N5q, Kp5, g_t5, ht5, Et5, ka5, Va5⟩ := hQ5
  have N5 := Fr.app N2 N5q
  have O6 := Old.keep O3 Kp5 all0
  show o_G p e below _ T5 (mkF m 13 #[vR b] [(.ref t5)])
  have kp7 := Keep.trans (Keep.refl h0 []) Kp2 all0
  have kp8 := Keep.trans kp7 Kp5 all0
  exact o_retA X5 hx hrt hlk rfl rfl rfl (y_ oD35_13) (by decide) (by decide) ⟨t5, rfl, N5, kp8, g_t5, (Nat.le_trans kp7.1 ht5), Et5, _, Va5⟩
abbrev Qhea (Z : State) (a : Addr) (ka : ClassId) (nn : Int32) (r : List Value) (zC_ : Int32) (fm : Value) (h0 : Heap) (n0 : Nat) (v : Option Value) (h : Heap) (L : List Loc) : Prop := v = some (.int 1) ∧ Fr n0 L ∧ Keep h0 h []
set_option maxRecDepth 65536 in
set_option maxHeartbeats 40000000 in
theorem rmhea (l : Launch) (Z : State) (a0 : Array Value) (hw : ∀ d ∈ tables_1, d.before a0 Z = true) (ws : List Jvm.Cond) (a : Addr) (ka : ClassId) (nn : Int32) (r : List Value) (zC_ : Int32) (fm : Value) (h0 : Heap) (n0 : Nat) (O0 : Old Z n0 h0) (V_a : Arv Z h0 a ka .byte nn (o_V8 o_doc ++ r) (.int 0)) (h15 : (14 : Int32) < nn) (SC_ : o_SC Z zC_) (hC_ : ¬ zC_ = 0) (S_f : Sta Z Z.heap "jdk/internal/util/Preconditions" "SIOOBE_FORMATTER" "Ljava/util/function/BiFunction;" fm) (hfm : fm.isRef = true) :
    o_MetH o_EL l Z o_m36 method_3_code 2 (some .boolean) ws o_R23 #[(.ref a)] h0 (Qhea Z a ka nn r zC_ fm h0 n0) := by
  refine o_enterH o_pn_7 (fun m => o_ef17 m a) (fun p e s m below meth c s₁ hx hby hml hZ hown hnm hlk hrt X0 e0 hS0 hk0 C0 => ?_)
  have N0 := Fr.nil n0
  have y_ := @hb _ _ hby
  have k_ := @o_k _ _ hw
  have hEL := o_EWs hw
  refine o_ldcH (n := 60) (vs := [.int 60, .int 33, .int 68, .int 79, .int 67, .int 84, .int 89, .int 80, .int 69, .int 32, .int 104, .int 116, .int 109, .int 108, .int 62]) (z := 15) X0 hx hZ hown (k_ 209 rfl) (fun d hd => hw d (o_strat d hd)) e0 hS0 hk0 hEL (by decide) C0.1 ⟨by decide, by decide⟩ (by decide) (by decide) (y_ oD36_0) (by decide) (by decide) (by decide) (by decide) (fun a1 b1 kb1 T1 k1 X1 E1 hS1 hk1 hZ1 hown1 Ex1 Co1 Va1 Av1 hC1 Li1 Sa1 => ?_)
  have O1 := Old.ext O0 E1
  have C2 := CHr.trans C0 (hC1)
  show o_G p e below _ T1 (mkF m 2 #[vR a, .unset] [(.ref a1)])
  have Ss1 : o_Str Z T1.heap a1 b1 o_doc := ⟨Ex1, Co1, Va1, ⟨_, Av1⟩, by decide, by decide⟩
  refine o_astoreN X1 hx (y_ oD36_2) rfl (A' := #[vR a, vR a1]) rfl ?_
  refine o_aloadN X1 hx (y_ oD36_3) rfl rfl ?_
  refine o_iconst X1 hx (y_ oD36_4) (x := 0) rfl ?_
  have c3 := (Arv.ext V_a E1)
  refine o_bload (v := (.int 60)) X1 hx hZ1 rfl c3 (y_ oD36_5) ⟨by decide, o_l15 h15 (by decide)⟩ rfl ?_
  refine o_aloadN X1 hx (y_ oD36_6) rfl rfl ?_
  refine o_iconst X1 hx (y_ oD36_7) (x := 0) rfl ?_
  refine o_vir (y := o_m37) (b := a1) (argsL := [(.int 0)]) (S := [(.int 60)]) (W := 1) X1 hx hZ1 hown1 (k_ 210 rfl) (k_ 211 rfl) (k_ 213 rfl) (k_ 212 rfl) (o_chB (W := 1) (i := 0) hZ1 hw (k_ 1 rfl) O1 Ss1 SC_ hC_ S_f hfm (by decide) rfl (by decide) (by decide)) rfl Ex1 hml (lenOf o_pd__28I_29C rfl) (y_ oD36_8) (fun T4 L4 v4 X4 hQ4 => ?_)
  obtain ⟨rfl, rfl, hh4⟩ := hQ4
  have N4 := Fr.app N0 (Fr.nil n0)
  show o_G p e below _ T4 (mkF m 11 #[vR a, vR a1] [(.int 60), (.int 60)])
  refine o_iCF X4 hx (y_ oD36_11) ?_
  refine o_aloadN X4 hx (y_ oD36_14) rfl rfl ?_
  refine o_iconst X4 hx (y_ oD36_15) (x := 1) rfl ?_
  refine o_bload (v := (.int 33)) X4 hx hZ1 hh4 c3 (y_ oD36_16) ⟨by decide, o_l15 h15 (by decide)⟩ rfl ?_
  refine o_aloadN X4 hx (y_ oD36_17) rfl rfl ?_
  refine o_iconst X4 hx (y_ oD36_18) (x := 1) rfl ?_
  refine o_vir (y := o_m37) (b := a1) (argsL := [(.int 1)]) (S := [(.int 33)]) (W := 1) X4 hx hZ1 hown1 (k_ 210 rfl) (k_ 211 rfl) (k_ 213 rfl) (k_ 212 rfl) (o_chB (W := 1) (i := 1) hZ1 hw (k_ 1 rfl) O1 Ss1 SC_ hC_ S_f hfm (by decide) rfl (by decide) (by decide)) hh4 Ex1 hml (lenOf o_pd__28I_29C rfl) (y_ oD36_19) (fun T5 L5 v5 X5 hQ5 => ?_)
  obtain ⟨rfl, rfl, hh5⟩ := hQ5
  have N5 := Fr.app N4 (Fr.nil n0)
  show o_G p e below _ T5 (mkF m 22 #[vR a, vR a1] [(.int 33), (.int 33)])
  refine o_iCF X5 hx (y_ oD36_22) ?_
  refine o_aloadN X5 hx (y_ oD36_25) rfl rfl ?_
  refine o_iconst X5 hx (y_ oD36_26) (x := 2) rfl ?_
  refine o_bload (v := (.int 68)) X5 hx hZ1 hh5 c3 (y_ oD36_27) ⟨by decide, o_l15 h15 (by decide)⟩ rfl ?_
  refine o_aloadN X5 hx (y_ oD36_28) rfl rfl ?_
  refine o_iconst X5 hx (y_ oD36_29) (x := 2) rfl ?_
  refine o_vir (y := o_m37) (b := a1) (argsL := [(.int 2)]) (S := [(.int 68)]) (W := 1) X5 hx hZ1 hown1 (k_ 210 rfl) (k_ 211 rfl) (k_ 213 rfl) (k_ 212 rfl) (o_chB (W := 1) (i := 2) hZ1 hw (k_ 1 rfl) O1 Ss1 SC_ hC_ S_f hfm (by decide) rfl (by decide) (by decide)) hh5 Ex1 hml (lenOf o_pd__28I_29C rfl) (y_ oD36_30) (fun T6 L6 v6 X6 hQ6 => ?_)
  obtain ⟨rfl, rfl, hh6⟩ := hQ6
  have N6 := Fr.app N5 (Fr.nil n0)
  show o_G p e below _ T6 (mkF m 33 #[vR a, vR a1] [(.int 68), (.int 68)])
  refine o_iCF X6 hx (y_ oD36_33) ?_
  refine o_aloadN X6 hx (y_ oD36_36) rfl rfl ?_
  refine o_iconst X6 hx (y_ oD36_37) (x := 3) rfl ?_
  refine o_bload (v := (.int 79)) X6 hx hZ1 hh6 c3 (y_ oD36_38) ⟨by decide, o_l15 h15 (by decide)⟩ rfl ?_
  refine o_aloadN X6 hx (y_ oD36_39) rfl rfl ?_
  refine o_iconst X6 hx (y_ oD36_40) (x := 3) rfl ?_
  refine o_vir (y := o_m37) (b := a1) (argsL := [(.int 3)]) (S := [(.int 79)]) (W := 1) X6 hx hZ1 hown1 (k_ 210 rfl) (k_ 211 rfl) (k_ 213 rfl) (k_ 212 rfl) (o_chB (W := 1) (i := 3) hZ1 hw (k_ 1 rfl) O1 Ss1 SC_ hC_ S_f hfm (by decide) rfl (by decide) (by decide)) hh6 Ex1 hml (lenOf o_pd__28I_29C rfl) (y_ oD36_41) (fun T7 L7 v7 X7 hQ7 => ?_)
  obtain ⟨rfl, rfl, hh7⟩ := hQ7
  have N7 := Fr.app N6 (Fr.nil n0)
  show o_G p e below _ T7 (mkF m 44 #[vR a, vR a1] [(.int 79), (.int 79)])
  refine o_iCF X7 hx (y_ oD36_44) ?_
  refine o_aloadN X7 hx (y_ oD36_47) rfl rfl ?_
  refine o_iconst X7 hx (y_ oD36_48) (x := 4) rfl ?_
  refine o_bload (v := (.int 67)) X7 hx hZ1 hh7 c3 (y_ oD36_49) ⟨by decide, o_l15 h15 (by decide)⟩ rfl ?_
  refine o_aloadN X7 hx (y_ oD36_50) rfl rfl ?_
  refine o_iconst X7 hx (y_ oD36_51) (x := 4) rfl ?_
  refine o_vir (y := o_m37) (b := a1) (argsL := [(.int 4)]) (S := [(.int 67)]) (W := 1) X7 hx hZ1 hown1 (k_ 210 rfl) (k_ 211 rfl) (k_ 213 rfl) (k_ 212 rfl) (o_chB (W := 1) (i := 4) hZ1 hw (k_ 1 rfl) O1 Ss1 SC_ hC_ S_f hfm (by decide) rfl (by decide) (by decide)) hh7 Ex1 hml (lenOf o_pd__28I_29C rfl) (y_ oD36_52) (fun T8 L8 v8 X8 hQ8 => ?_)
  obtain ⟨rfl, rfl, hh8⟩ := hQ8
  have N8 := Fr.app N7 (Fr.nil n0)
  show o_G p e below _ T8 (mkF m 55 #[vR a, vR a1] [(.int 67), (.int 67)])
  refine o_iCF X8 hx (y_ oD36_55) ?_
  refine o_aloadN X8 hx (y_ oD36_58) rfl rfl ?_
  refine o_iconst X8 hx (y_ oD36_59) (x := 5) rfl ?_
  refine o_bload (v := (.int 84)) X8 hx hZ1 hh8 c3 (y_ oD36_60) ⟨by decide, o_l15 h15 (by decide)⟩ rfl ?_
  refine o_aloadN X8 hx (y_ oD36_61) rfl rfl ?_
  refine o_iconst X8 hx (y_ oD36_62) (x := 5) rfl ?_
  refine o_vir (y := o_m37) (b := a1) (argsL := [(.int 5)]) (S := [(.int 84)]) (W := 1) X8 hx hZ1 hown1 (k_ 210 rfl) (k_ 211 rfl) (k_ 213 rfl) (k_ 212 rfl) (o_chB (W := 1) (i := 5) hZ1 hw (k_ 1 rfl) O1 Ss1 SC_ hC_ S_f hfm (by decide) rfl (by decide) (by decide)) hh8 Ex1 hml (lenOf o_pd__28I_29C rfl) (y_ oD36_63) (fun T9 L9 v9 X9 hQ9 => ?_)
  obtain ⟨rfl, rfl, hh9⟩ := hQ9
  have N9 := Fr.app N8 (Fr.nil n0)
  show o_G p e below _ T9 (mkF m 66 #[vR a, vR a1] [(.int 84), (.int 84)])
  refine o_iCF X9 hx (y_ oD36_66) ?_
  refine o_aloadN X9 hx (y_ oD36_69) rfl rfl ?_
  refine o_bipush X9 hx (y_ oD36_70) (x := 6) rfl ?_
  refine o_bload (v := (.int 89)) X9 hx hZ1 hh9 c3 (y_ oD36_72) ⟨by decide, o_l15 h15 (by decide)⟩ rfl ?_
  refine o_aloadN X9 hx (y_ oD36_73) rfl rfl ?_
  refine o_bipush X9 hx (y_ oD36_74) (x := 6) rfl ?_
  refine o_vir (y := o_m37) (b := a1) (argsL := [(.int 6)]) (S := [(.int 89)]) (W := 1) X9 hx hZ1 hown1 (k_ 210 rfl) (k_ 211 rfl) (k_ 213 rfl) (k_ 212 rfl) (o_chB (W := 1) (i := 6) hZ1 hw (k_ 1 rfl) O1 Ss1 SC_ hC_ S_f hfm (by decide) rfl (by decide) (by decide)) hh9 Ex1 hml (lenOf o_pd__28I_29C rfl) (y_ oD36_76) (fun T10 L10 v10 X10 hQ10 => ?_)
  obtain ⟨rfl, rfl, hh10⟩ := hQ10
  have N10 := Fr.app N9 (Fr.nil n0)
  show o_G p e below _ T10 (mkF m 79 #[vR a, vR a1] [(.int 89), (.int 89)])
  refine o_iCF X10 hx (y_ oD36_79) ?_
  refine o_aloadN X10 hx (y_ oD36_82) rfl rfl ?_
  refine o_bipush X10 hx (y_ oD36_83) (x := 7) rfl ?_
  refine o_bload (v := (.int 80)) X10 hx hZ1 hh10 c3 (y_ oD36_85) ⟨by decide, o_l15 h15 (by decide)⟩ rfl ?_
  refine o_aloadN X10 hx (y_ oD36_86) rfl rfl ?_
  refine o_bipush X10 hx (y_ oD36_87) (x := 7) rfl ?_
  refine o_vir (y := o_m37) (b := a1) (argsL := [(.int 7)]) (S := [(.int 80)]) (W := 1) X10 hx hZ1 hown1 (k_ 210 rfl) (k_ 211 rfl) (k_ 213 rfl) (k_ 212 rfl) (o_chB (W := 1) (i := 7) hZ1 hw (k_ 1 rfl) O1 Ss1 SC_ hC_ S_f hfm (by decide) rfl (by decide) (by decide)) hh10 Ex1 hml (lenOf o_pd__28I_29C rfl) (y_ oD36_89) (fun T11 L11 v11 X11 hQ11 => ?_)
  obtain ⟨rfl, rfl, hh11⟩ := hQ11
  have N11 := Fr.app N10 (Fr.nil n0)
  show o_G p e below _ T11 (mkF m 92 #[vR a, vR a1] [(.int 80), (.int 80)])
  refine o_iCF X11 hx (y_ oD36_92) ?_
  refine o_aloadN X11 hx (y_ oD36_95) rfl rfl ?_
  refine o_bipush X11 hx (y_ oD36_96) (x := 8) rfl ?_
  refine o_bload (v := (.int 69)) X11 hx hZ1 hh11 c3 (y_ oD36_98) ⟨by decide, o_l15 h15 (by decide)⟩ rfl ?_
  refine o_aloadN X11 hx (y_ oD36_99) rfl rfl ?_
  refine o_bipush X11 hx (y_ oD36_100) (x := 8) rfl ?_
  refine o_vir (y := o_m37) (b := a1) (argsL := [(.int 8)]) (S := [(.int 69)]) (W := 1) X11 hx hZ1 hown1 (k_ 210 rfl) (k_ 211 rfl) (k_ 213 rfl) (k_ 212 rfl) (o_chB (W := 1) (i := 8) hZ1 hw (k_ 1 rfl) O1 Ss1 SC_ hC_ S_f hfm (by decide) rfl (by decide) (by decide)) hh11 Ex1 hml (lenOf o_pd__28I_29C rfl) (y_ oD36_102) (fun T12 L12 v12 X12 hQ12 => ?_)
  obtain ⟨rfl, rfl, hh12⟩ := hQ12
  have N12 := Fr.app N11 (Fr.nil n0)
  show o_G p e below _ T12 (mkF m 105 #[vR a, vR a1] [(.int 69), (.int 69)])
  refine o_iCF X12 hx (y_ oD36_105) ?_
  refine o_aloadN X12 hx (y_ oD36_108) rfl rfl ?_
  refine o_bipush X12 hx (y_ oD36_109) (x := 9) rfl ?_
  refine o_bload (v := (.int 32)) X12 hx hZ1 hh12 c3 (y_ oD36_111) ⟨by decide, o_l15 h15 (by decide)⟩ rfl ?_
  refine o_aloadN X12 hx (y_ oD36_112) rfl rfl ?_
  refine o_bipush X12 hx (y_ oD36_113) (x := 9) rfl ?_
  refine o_vir (y := o_m37) (b := a1) (argsL := [(.int 9)]) (S := [(.int 32)]) (W := 1) X12 hx hZ1 hown1 (k_ 210 rfl) (k_ 211 rfl) (k_ 213 rfl) (k_ 212 rfl) (o_chB (W := 1) (i := 9) hZ1 hw (k_ 1 rfl) O1 Ss1 SC_ hC_ S_f hfm (by decide) rfl (by decide) (by decide)) hh12 Ex1 hml (lenOf o_pd__28I_29C rfl) (y_ oD36_115) (fun T13 L13 v13 X13 hQ13 => ?_)
  obtain ⟨rfl, rfl, hh13⟩ := hQ13
  have N13 := Fr.app N12 (Fr.nil n0)
  show o_G p e below _ T13 (mkF m 118 #[vR a, vR a1] [(.int 32), (.int 32)])
  refine o_iCF X13 hx (y_ oD36_118) ?_
  refine o_aloadN X13 hx (y_ oD36_121) rfl rfl ?_
  refine o_bipush X13 hx (y_ oD36_122) (x := 10) rfl ?_
  refine o_bload (v := (.int 104)) X13 hx hZ1 hh13 c3 (y_ oD36_124) ⟨by decide, o_l15 h15 (by decide)⟩ rfl ?_
  refine o_aloadN X13 hx (y_ oD36_125) rfl rfl ?_
  refine o_bipush X13 hx (y_ oD36_126) (x := 10) rfl ?_
  refine o_vir (y := o_m37) (b := a1) (argsL := [(.int 10)]) (S := [(.int 104)]) (W := 1) X13 hx hZ1 hown1 (k_ 210 rfl) (k_ 211 rfl) (k_ 213 rfl) (k_ 212 rfl) (o_chB (W := 1) (i := 10) hZ1 hw (k_ 1 rfl) O1 Ss1 SC_ hC_ S_f hfm (by decide) rfl (by decide) (by decide)) hh13 Ex1 hml (lenOf o_pd__28I_29C rfl) (y_ oD36_128) (fun T14 L14 v14 X14 hQ14 => ?_)
  obtain ⟨rfl, rfl, hh14⟩ := hQ14
  have N14 := Fr.app N13 (Fr.nil n0)
  show o_G p e below _ T14 (mkF m 131 #[vR a, vR a1] [(.int 104), (.int 104)])
  refine o_iCF X14 hx (y_ oD36_131) ?_
  refine o_aloadN X14 hx (y_ oD36_134) rfl rfl ?_
  refine o_bipush X14 hx (y_ oD36_135) (x := 11) rfl ?_
  refine o_bload (v := (.int 116)) X14 hx hZ1 hh14 c3 (y_ oD36_137) ⟨by decide, o_l15 h15 (by decide)⟩ rfl ?_
  refine o_aloadN X14 hx (y_ oD36_138) rfl rfl ?_
  refine o_bipush X14 hx (y_ oD36_139) (x := 11) rfl ?_
  refine o_vir (y := o_m37) (b := a1) (argsL := [(.int 11)]) (S := [(.int 116)]) (W := 1) X14 hx hZ1 hown1 (k_ 210 rfl) (k_ 211 rfl) (k_ 213 rfl) (k_ 212 rfl) (o_chB (W := 1) (i := 11) hZ1 hw (k_ 1 rfl) O1 Ss1 SC_ hC_ S_f hfm (by decide) rfl (by decide) (by decide)) hh14 Ex1 hml (lenOf o_pd__28I_29C rfl) (y_ oD36_141) (fun T15 L15 v15 X15 hQ15 => ?_)
  obtain ⟨rfl, rfl, hh15⟩ := hQ15
  have N15 := Fr.app N14 (Fr.nil n0)
  show o_G p e below _ T15 (mkF m 144 #[vR a, vR a1] [(.int 116), (.int 116)])
  refine o_iCF X15 hx (y_ oD36_144) ?_
  refine o_aloadN X15 hx (y_ oD36_147) rfl rfl ?_
  refine o_bipush X15 hx (y_ oD36_148) (x := 12) rfl ?_
  refine o_bload (v := (.int 109)) X15 hx hZ1 hh15 c3 (y_ oD36_150) ⟨by decide, o_l15 h15 (by decide)⟩ rfl ?_
  refine o_aloadN X15 hx (y_ oD36_151) rfl rfl ?_
  refine o_bipush X15 hx (y_ oD36_152) (x := 12) rfl ?_
  refine o_vir (y := o_m37) (b := a1) (argsL := [(.int 12)]) (S := [(.int 109)]) (W := 1) X15 hx hZ1 hown1 (k_ 210 rfl) (k_ 211 rfl) (k_ 213 rfl) (k_ 212 rfl) (o_chB (W := 1) (i := 12) hZ1 hw (k_ 1 rfl) O1 Ss1 SC_ hC_ S_f hfm (by decide) rfl (by decide) (by decide)) hh15 Ex1 hml (lenOf o_pd__28I_29C rfl) (y_ oD36_154) (fun T16 L16 v16 X16 hQ16 => ?_)
  obtain ⟨rfl, rfl, hh16⟩ := hQ16
  have N16 := Fr.app N15 (Fr.nil n0)
  show o_G p e below _ T16 (mkF m 157 #[vR a, vR a1] [(.int 109), (.int 109)])
  refine o_iCF X16 hx (y_ oD36_157) ?_
  refine o_aloadN X16 hx (y_ oD36_160) rfl rfl ?_
  refine o_bipush X16 hx (y_ oD36_161) (x := 13) rfl ?_
  refine o_bload (v := (.int 108)) X16 hx hZ1 hh16 c3 (y_ oD36_163) ⟨by decide, o_l15 h15 (by decide)⟩ rfl ?_
  refine o_aloadN X16 hx (y_ oD36_164) rfl rfl ?_
  refine o_bipush X16 hx (y_ oD36_165) (x := 13) rfl ?_
  refine o_vir (y := o_m37) (b := a1) (argsL := [(.int 13)]) (S := [(.int 108)]) (W := 1) X16 hx hZ1 hown1 (k_ 210 rfl) (k_ 211 rfl) (k_ 213 rfl) (k_ 212 rfl) (o_chB (W := 1) (i := 13) hZ1 hw (k_ 1 rfl) O1 Ss1 SC_ hC_ S_f hfm (by decide) rfl (by decide) (by decide)) hh16 Ex1 hml (lenOf o_pd__28I_29C rfl) (y_ oD36_167) (fun T17 L17 v17 X17 hQ17 => ?_)
  obtain ⟨rfl, rfl, hh17⟩ := hQ17
  have N17 := Fr.app N16 (Fr.nil n0)
  show o_G p e below _ T17 (mkF m 170 #[vR a, vR a1] [(.int 108), (.int 108)])
  refine o_iCF X17 hx (y_ oD36_170) ?_
  refine o_aloadN X17 hx (y_ oD36_173) rfl rfl ?_
  refine o_bipush X17 hx (y_ oD36_174) (x := 14) rfl ?_
  refine o_bload (v := (.int 62)) X17 hx hZ1 hh17 c3 (y_ oD36_176) ⟨by decide, o_l15 h15 (by decide)⟩ rfl ?_
  refine o_aloadN X17 hx (y_ oD36_177) rfl rfl ?_
  refine o_bipush X17 hx (y_ oD36_178) (x := 14) rfl ?_
  refine o_vir (y := o_m37) (b := a1) (argsL := [(.int 14)]) (S := [(.int 62)]) (W := 1) X17 hx hZ1 hown1 (k_ 210 rfl) (k_ 211 rfl) (k_ 213 rfl) (k_ 212 rfl) (o_chB (W := 1) (i := 14) hZ1 hw (k_ 1 rfl) O1 Ss1 SC_ hC_ S_f hfm (by decide) rfl (by decide) (by decide)) hh17 Ex1 hml (lenOf o_pd__28I_29C rfl) (y_ oD36_180) (fun T18 L18 v18 X18 hQ18 => ?_)
  obtain ⟨rfl, rfl, hh18⟩ := hQ18
  have N18 := Fr.app N17 (Fr.nil n0)
  show o_G p e below _ T18 (mkF m 183 #[vR a, vR a1] [(.int 62), (.int 62)])
  refine o_iCF X18 hx (y_ oD36_183) ?_
  refine o_iconst X18 hx (y_ oD36_186) (x := 1) rfl ?_
  refine o_gO (t := 191) X18 hx (y_ oD36_187) ?_
  have kp19 := Keep.ext (Keep.refl h0 []) E1
  exact o_retNH X18 hx hS1 (by rw [hh18]; exact hk1) hZ1 hEL (by rw [hh18]; exact C2) (t := .boolean) hrt hlk (by simp) (y_ oD36_191) rfl (by decide) (by decide) (o_hQ hh18 ⟨rfl, N18, kp19⟩)
abbrev Q0 (Z : State) (p1 : Int32) (p2 : Int32) (p3 : Int32) (p4 : Int32) (zC_ : Int32) (fm : Value) (u8 : Addr) (h0 : Heap) (n0 : Nat) (v : Option Value) (h : Heap) (L : List Loc) : Prop := v = some (.int 1) ∧ Fr n0 L
set_option maxRecDepth 65536 in
set_option maxHeartbeats 40000000 in
theorem rm0 (l : Launch) (Z : State) (a0 : Array Value) (hw : ∀ d ∈ tables_1, d.before a0 Z = true) (ws : List Jvm.Cond) (p1 : Int32) (p2 : Int32) (p3 : Int32) (p4 : Int32) (zC_ : Int32) (fm : Value) (u8 : Addr) (h0 : Heap) (n0 : Nat) (O0 : Old Z n0 h0) (SC_ : o_SC Z zC_) (hC_ : ¬ zC_ = 0) (S_f : Sta Z Z.heap "jdk/internal/util/Preconditions" "SIOOBE_FORMATTER" "Ljava/util/function/BiFunction;" fm) (hfm : fm.isRef = true) (S_u : Sta Z Z.heap "sun/nio/cs/UTF_8" "INSTANCE" "Lsun/nio/cs/UTF_8;" (.ref u8)) (S_v : Sta Z Z.heap "java/nio/charset/StandardCharsets" "UTF_8" "Ljava/nio/charset/Charset;" (.ref u8)) :
    o_MetL o_EL l Z x code maxLocals ret ws room_1 #[(.int p1), (.int p2), (.int p3), (.int p4)] h0 (Q0 Z p1 p2 p3 p4 zC_ fm u8 h0 n0) := by
  refine o_enterL o_pn_7 (fun m => o_ef18 m p1 p2 p3 p4) (fun p e s m below meth c s₁ hx hby hml hZ hown hnm hlk hrt X0 e0 hS0 hk0 C0 => ?_)
  have N0 := Fr.nil n0
  have y_ := @hb _ _ hby
  have k_ := @o_k _ _ hw
  have hml : c.maxLocals = 13 := hml
  have hEL := o_EWs hw
  refine o_iloadN X0 hx (y_ at_0) rfl ?_
  refine o_iconst X0 hx (y_ at_1) (x := 3) rfl ?_
  refine o_iand X0 hx (y_ at_2) ?_
  have hkl := o_and3 p1
  generalize p1 &&& (3 : Int32) = kl at hkl ⊢
  refine o_istore X0 hx (y_ at_3) (A' := #[vI p1, vI p2, vI p3, vI p4, vI kl, .unset, .unset, .unset, .unset, .unset, .unset, .unset, .unset]) rfl ?_
  refine o_iloadN X0 hx (y_ at_5) rfl ?_
  refine o_bipush X0 hx (y_ at_6) (x := 127) rfl ?_
  refine o_iand X0 hx (y_ at_8) ?_
  refine o_i2c X0 hx (y_ at_9) ?_
  obtain ⟨ca, e_ca, f_ca, n_ca, l_ca, u_ca, v_ca⟩ := o_chr7 p2
  rw [f_ca]
  refine o_istore X0 hx (y_ at_10) (A' := #[vI p1, vI p2, vI p3, vI p4, vI kl, vI ca, .unset, .unset, .unset, .unset, .unset, .unset, .unset]) rfl ?_
  refine o_iloadN X0 hx (y_ at_12) rfl ?_
  refine o_bipush X0 hx (y_ at_13) (x := 127) rfl ?_
  refine o_iand X0 hx (y_ at_15) ?_
  refine o_i2c X0 hx (y_ at_16) ?_
  obtain ⟨cb, e_cb, f_cb, n_cb, l_cb, u_cb, v_cb⟩ := o_chr7 p3
  rw [f_cb]
  refine o_istore X0 hx (y_ at_17) (A' := #[vI p1, vI p2, vI p3, vI p4, vI kl, vI ca, vI cb, .unset, .unset, .unset, .unset, .unset, .unset]) rfl ?_
  refine o_iloadN X0 hx (y_ at_19) rfl ?_
  refine o_bipush X0 hx (y_ at_20) (x := 127) rfl ?_
  refine o_iand X0 hx (y_ at_22) ?_
  refine o_i2c X0 hx (y_ at_23) ?_
  obtain ⟨cc, e_cc, f_cc, n_cc, l_cc, u_cc, v_cc⟩ := o_chr7 p4
  rw [f_cc]
  refine o_istore X0 hx (y_ at_24) (A' := #[vI p1, vI p2, vI p3, vI p4, vI kl, vI ca, vI cb, vI cc, .unset, .unset, .unset, .unset, .unset]) rfl ?_
  refine o_iload X0 hx (y_ at_26) rfl ?_
  refine o_iF (t := 46) X0 hx (y_ at_28) (fun hq => ?_) (fun hq => ?_)
  · have hc28 := o_h_ne.1 hq
    refine o_iload X0 hx (y_ at_46) rfl ?_
    refine o_iconst X0 hx (y_ at_48) (x := 1) rfl ?_
    refine o_iC (t := 72) X0 hx (y_ at_49) (fun hq => ?_) (fun hq => ?_)
    · have hc49 := o_c_ne.1 hq
      refine o_iload X0 hx (y_ at_72) rfl ?_
      refine o_iconst X0 hx (y_ at_74) (x := 2) rfl ?_
      refine o_iC (t := 103) X0 hx (y_ at_75) (fun hq => ?_) (fun hq => ?_)
      · have hc75 := o_c_ne.1 hq
        obtain rfl : kl = 3 := ((hkl.resolve_left hc28).resolve_left hc49).resolve_left hc75
        refine o_new X0 hx hZ hown (k_ 0 rfl) (k_ 1 rfl) (k_ 2 rfl) e0 (y_ at_103) (by decide) (by decide) (fun T1 h1 b1 X1 e1 gg1 E1 A1 D1 => ?_)
        have g_b1 := o_fresh O0 gg1
        have O1 := Old.ext O0 E1
        have C2 := CHr.trans C0 (CHr.ext E1 C0.1)
        have F1_value : Fld Z h1 b1 "java/lang/String" "value" "[B" .null := D1 (Or.inr (k_ 16 rfl)) (ty := (.array .byte)) (by decide)
        have F1_coder : Fld Z h1 b1 "java/lang/String" "coder" "B" (.int 0) := D1 (Or.inr (k_ 17 rfl)) (ty := .byte) (by decide)
        refine o_dup X1 hx (y_ at_106) rfl ?_
        refine o_iconst X1 hx (y_ at_107) (x := 3) rfl ?_
        refine o_newA (cap := 3) X1 hx hZ (k_ 3 rfl) e1 (y_ at_108) (by decide) (by decide) (by decide) (by decide) (by decide) (fun T3 h3 k3 b3 X3 e3 gg3 E3 A3 => ?_)
        have g_b3 := o_fresh O1 gg3
        have O3 := Old.ext O1 E3
        have C4 := CHr.trans C2 (CHr.ext E3 C2.1)
        have V3 : Arv Z h3 b3 k3 .char (3 : Int32) [(.int 0), (.int 0), (.int 0)] (.int 0) := A3.pad (pad_rep [] (.int 0) 3)
        refine o_dup X3 hx (y_ at_110) rfl ?_
        refine o_iconst X3 hx (y_ at_111) (x := 0) rfl ?_
        refine o_iload X3 hx (y_ at_112) rfl ?_
        refine o_stC (i := 0) (z := ca) X3 hx hZ e3 V3 (y_ at_114) ⟨by decide, by decide⟩ rfl (o_b rfl) n_ca (fun T5 h5 X5 e5 W5 V5 => ?_)
        have N5 := Fr.snoc X5 N0 g_b3
        have O5 := Old.wr O3 W5 g_b3
        have C6 := CHr.trans C4 (CHr.wr W5 (Safe.arv hZ.alike V3 (by decide)) C4.1)
        refine o_dup X5 hx (y_ at_115) rfl ?_
        refine o_iconst X5 hx (y_ at_116) (x := 1) rfl ?_
        refine o_iload X5 hx (y_ at_117) rfl ?_
        refine o_stC (i := 1) (z := cb) X5 hx hZ e5 V5 (y_ at_119) ⟨by decide, by decide⟩ rfl (o_b rfl) n_cb (fun T7 h7 X7 e7 W7 V7 => ?_)
        have N7 := Fr.snoc X7 N5 g_b3
        have O7 := Old.wr O5 W7 g_b3
        have C8 := CHr.trans C6 (CHr.wr W7 (Safe.arv hZ.alike V5 (by decide)) C6.1)
        refine o_dup X7 hx (y_ at_120) rfl ?_
        refine o_iconst X7 hx (y_ at_121) (x := 2) rfl ?_
        refine o_iload X7 hx (y_ at_122) rfl ?_
        refine o_stC (i := 2) (z := cc) X7 hx hZ e7 V7 (y_ at_124) ⟨by decide, by decide⟩ rfl (o_b rfl) n_cc (fun T9 h9 X9 e9 W9 V9 => ?_)
        have N9 := Fr.snoc X9 N7 g_b3
        have O9 := Old.wr O7 W9 g_b3
        have C10 := CHr.trans C8 (CHr.wr W9 (Safe.arv hZ.alike V7 (by decide)) C8.1)
        have c11 := (Exa.wr W9 (Exa.wr W7 (Exa.wr W5 (Exa.ext E3 A1))))
        have c12 := (Fld.other W9 (Fld.other W7 (Fld.other W5 (Fld.ext E3 F1_value) (Or.inl (o_ng A1.lt gg3))) (Or.inl (o_ng A1.lt gg3))) (Or.inl (o_ng A1.lt gg3)))
        have c13 := (Fld.other W9 (Fld.other W7 (Fld.other W5 (Fld.ext E3 F1_coder) (Or.inl (o_ng A1.lt gg3))) (Or.inl (o_ng A1.lt gg3))) (Or.inl (o_ng A1.lt gg3)))
        refine o_ini (y := o_m30) (b := b1) (argsL := [(.ref b3)]) (S := [(.ref b1)]) (W := 1) rfl X9 hx hZ hown (k_ 4 rfl) (k_ 5 rfl) (k_ 6 rfl) (o_newB (W := 1) (cs := ([ca, cb, cc] : List Int32)) (n := 3) hZ hw (k_ 1 rfl) O9 g_b1 c11 c12 c13 V9 SC_ hC_ rfl rfl (by decide) (by decide) (o_csS ⟨l_ca, u_ca⟩ (o_csS ⟨l_cb, u_cb⟩ (o_csS ⟨l_cc, u_cc⟩ o_cs0))) (by decide) (by decide)) e9 hml (lenOf o_pd__28_5bC_29V rfl) (y_ at_125) (fun T14 L14 v14 X14 hQ14 => ?_)
        obtain ⟨rfl, Nq14, Kp14, t14, g_t14, ht14, hne14, Sf14⟩ := hQ14
        have N14 := Fr.app N9 Nq14
        have O15 := Old.keep O9 Kp14 (allS g_b1 all0)
        have C16 := CHr.trans C10 (CHr.keep Kp14 (sfS (o_safeN hZ.alike c11 c12) sf0) C10.1)
        show o_G p e below _ T14 (mkF m 128 #[vI p1, vI p2, vI p3, vI p4, vI 3, vI ca, vI cb, vI cc, .unset, .unset, .unset, .unset, .unset] [(.ref b1)])
        refine o_astore X14 hx (y_ at_128) rfl (A' := #[vI p1, vI p2, vI p3, vI p4, vI 3, vI ca, vI cb, vI cc, vR b1, .unset, .unset, .unset, .unset]) rfl ?_
        refine o_new X14 hx hZ hown (k_ 22 rfl) (k_ 23 rfl) (k_ 24 rfl) rfl (y_ at_130) (by decide) (by decide) (fun T17 h17 b17 X17 e17 gg17 E17 A17 D17 => ?_)
        have g_b17 := o_fresh O15 gg17
        have O17 := Old.ext O15 E17
        have C18 := CHr.trans C16 (CHr.ext E17 C16.1)
        have F17_out : Fld Z h17 b17 "com/example/scholion/scholion/http/Html" "out" "Ljava/lang/StringBuilder;" .null := D17 (Or.inr (k_ 102 rfl)) (ty := (.object "java/lang/StringBuilder")) (by decide)
        refine o_dup X17 hx (y_ at_133) rfl ?_
        refine o_initH (y := o_m33) (b := b17) (argsL := []) (S := [(.ref b17)]) (W := 1) rfl X17 hx hZ hS0 hown (k_ 25 rfl) (k_ 26 rfl) (k_ 27 rfl) (by decide) (backOfSH (W := 1) (rmhin l Z a0 hw [] b17 zC_ h17 n0 O17 A17 F17_out g_b17 SC_ hC_) hZ (k_ 27 rfl) (k_ 24 rfl) (by decide) (by decide) hEL C18.1) e17 (Nat.le_trans (Nat.le_trans (Nat.le_trans (Nat.le_trans (Nat.le_trans (Nat.le_trans (Nat.le_trans hk0 E1.1) E3.1) (Keep.of_wr W5).1) (Keep.of_wr W7).1) (Keep.of_wr W9).1) Kp14.1) E17.1) (by rw [hml]; rfl) (lenOf o_pd__28_29V rfl) rfl (Nat.le_of_eq rfl) (y_ at_134) (by decide) (by decide) (fun T19 L19 v19 k19 X19 hS19 hk19 hZ19 hown19 hQ19 hC19 => ?_)
        obtain ⟨rfl, N19q, Kp19, o19, t19, g_o19, ho19, g_t19, ht19, Fo19, Bl19⟩ := hQ19
        have N19 := Fr.app N14 N19q
        have O20 := Old.keep O17 Kp19 (allS g_b17 all0)
        have C21 := CHr.trans C18 (hC19)
        show o_G p e below _ T19 (mkF m 137 #[vI p1, vI p2, vI p3, vI p4, vI 3, vI ca, vI cb, vI cc, vR b1, .unset, .unset, .unset, .unset] [(.ref b17)])
        refine o_astore X19 hx (y_ at_137) rfl (A' := #[vI p1, vI p2, vI p3, vI p4, vI 3, vI ca, vI cb, vI cc, vR b1, vR b17, .unset, .unset, .unset]) rfl ?_
        refine o_aload X19 hx (y_ at_139) rfl rfl ?_
        refine o_aload X19 hx (y_ at_141) rfl rfl ?_
        have c22 := (o_Str.keep (o_Str.ext E17 Sf14) Kp19 (ninS (o_ng Sf14.lt gg17) nin0) (ninS (o_ng Sf14.lt2 gg17) nin0))
        have c24 := (Exa.keep A17 Kp19)
        refine o_virtualH (y := o_m34) (z := o_m34) (b := b17) (argsL := [(.ref b1)]) (S := []) (W := 0) X19 hx hZ19 hS19 hown19 (k_ 103 rfl) (k_ 104 rfl) (notFace_of_selects (args := #[]) (mvT hZ19 (k_ 106 rfl))) (k_ 106 rfl) (k_ 105 rfl) (by decide) (backOfSH (W := 0) (rmclo l Z a0 hw [] b17 b1 o19 t19 t14 ([ca, cb, cc] : List Int32) zC_ T19.heap n0 O20 Fo19 Bl19 c22 g_o19 g_t19 (Nat.ne_of_lt (Nat.lt_of_lt_of_le (Nat.lt_of_lt_of_le Sf14.lt2 E17.1) ht19)) (o_b rfl) SC_ hC_) hZ19 (k_ 107 rfl) (k_ 24 rfl) (by decide) (by decide) hEL C21.1) rfl hk19 c24 (by rw [hml]; rfl) (lenOf o_pd__28Ljava_2flang_2fString_3b_29Lcom_2fexample_2fscholion_2fscholion_2fhttp_2fHtml_3b rfl) rfl (Nat.le_of_eq rfl) (y_ at_143) (by decide) (by decide) (fun T23 L23 v23 k23 X23 hS23 hk23 hZ23 hown23 hQ23 hC23 => ?_)
        obtain ⟨rfl, N23q, Kp23, Bl23⟩ := hQ23
        have N23 := Fr.app N19 N23q
        have O25 := Old.keep O20 Kp23 (allS g_o19 (allS g_t19 all0))
        have C26 := CHr.trans C21 (hC23)
        show o_G p e below _ T23 (mkF m 146 #[vI p1, vI p2, vI p3, vI p4, vI 3, vI ca, vI cb, vI cc, vR b1, vR b17, .unset, .unset, .unset] [(.ref b17)])
        refine o_astore X23 hx (y_ at_146) rfl (A' := #[vI p1, vI p2, vI p3, vI p4, vI 3, vI ca, vI cb, vI cc, vR b1, vR b17, vR b17, .unset, .unset]) rfl ?_
        refine o_aload X23 hx (y_ at_148) rfl rfl ?_
        refine o_aload X23 hx (y_ at_150) rfl rfl ?_
        refine o_acmp (t := 157) X23 hx rfl rfl (y_ at_152) (by decide) (by decide) (fun hq => ?_) (fun hq => ?_)
        · have ha152 : b17 = b17 := Value.ref.inj hq
          show o_G p e below _ T23 (mkF m 157 #[vI p1, vI p2, vI p3, vI p4, vI 3, vI ca, vI cb, vI cc, vR b1, vR b17, vR b17, .unset, .unset] [])
          refine o_aload X23 hx (y_ at_157) rfl rfl ?_
          have c27 := (Fld.keep Fo19 Kp23 (ninS (Nat.ne_of_lt (Nat.lt_of_lt_of_le A17.lt ho19)) (ninS (Nat.ne_of_lt (Nat.lt_of_lt_of_le A17.lt ht19)) nin0)))
          have c29 := (Exa.keep c24 Kp23)
          refine o_vir (y := o_m35) (b := b17) (argsL := []) (S := []) (W := 0) X23 hx hZ23 hown23 (k_ 128 rfl) (k_ 129 rfl) (k_ 131 rfl) (k_ 130 rfl) (backOf (W := 0) (rmbyt l Z a0 hw [] b17 o19 t19 31 (((o_doc ++ o_lt) ++ ([ca, cb, cc] : List Int32)) ++ [(62 : Int32)]) u8 zC_ T23.heap n0 O25 c27 Bl23 (o_b rfl) (o_b rfl) (o_ascA (o_ascA (by decide) (o_ascS ⟨l_ca, v_ca⟩ (o_ascS ⟨l_cb, v_cb⟩ (o_ascS ⟨l_cc, v_cc⟩ o_asc0)))) (by decide)) S_u S_v SC_ hC_) hZ23 (k_ 132 rfl) (k_ 24 rfl) (by decide) (by decide)) rfl c29 hml (lenOf o_pd__28_29_5bB rfl) (y_ at_159) (fun T28 L28 v28 X28 hQ28 => ?_)
          obtain ⟨t28, rfl, N28q, Kp28, g_t28, ht28, Et28, ka28, Va28⟩ := hQ28
          have N28 := Fr.app N23 N28q
          have O30 := Old.keep O25 Kp28 all0
          have C31 := CHr.trans C26 (CHr.keep Kp28 sf0 C26.1)
          have Vb28 : Arv Z T28.heap t28 ka28 .byte (21 : Int32) [.int 60, .int 33, .int 68, .int 79, .int 67, .int 84, .int 89, .int 80, .int 69, .int 32, .int 104, .int 116, .int 109, .int 108, .int 62, .int 60, .int 47, .int ca.toInt8.toInt32, .int cb.toInt8.toInt32, .int cc.toInt8.toInt32, .int 62] (.int 0) := Va28
          show o_G p e below _ T28 (mkF m 162 #[vI p1, vI p2, vI p3, vI p4, vI 3, vI ca, vI cb, vI cc, vR b1, vR b17, vR b17, .unset, .unset] [(.ref t28)])
          refine o_astore X28 hx (y_ at_162) rfl (A' := #[vI p1, vI p2, vI p3, vI p4, vI 3, vI ca, vI cb, vI cc, vR b1, vR b17, vR b17, vR t28, .unset]) rfl ?_
          refine o_aload X28 hx (y_ at_164) rfl rfl ?_
          refine o_alen (n := 21) X28 hx hZ23 rfl Vb28 (y_ at_166) ?_
          refine o_bipush X28 hx (y_ at_167) (x := 18) rfl ?_
          refine o_iload X28 hx (y_ at_169) rfl ?_
          refine o_iadd X28 hx (y_ at_171) ?_
          refine o_valE (z := 21) (by decide) ?_
          refine o_iCT (t := 177) X28 hx (y_ at_172) ?_
          refine o_aload X28 hx (y_ at_177) rfl rfl ?_
          refine o_staticH (y := o_m36) (argsL := [(.ref t28)]) (S := []) (W := 0) X28 hx hZ23 hS23 hown23 (k_ 205 rfl) (k_ 206 rfl) (k_ 207 rfl) (k_ 208 rfl) (by decide) (backOfSH (W := 0) (rmhea l Z a0 hw [] t28 ka28 (21 : Int32) [.int 60, .int 47, .int ca.toInt8.toInt32, .int cb.toInt8.toInt32, .int cc.toInt8.toInt32, .int 62] zC_ fm T28.heap n0 O30 Vb28 (by decide) SC_ hC_ S_f hfm) hZ23 (k_ 208 rfl) (k_ 207 rfl) (by decide) (by decide) hEL C31.1) rfl (Nat.le_trans hk23 Kp28.1) (by rw [hml]; rfl) (lenOf o_pd__28_5bB_29Z rfl) rfl (Nat.le_of_eq rfl) (y_ at_179) (by decide) (by decide) (fun T32 L32 v32 k32 X32 hS32 hk32 hZ32 hown32 hQ32 hC32 => ?_)
          obtain ⟨rfl, N32q, Kp32⟩ := hQ32
          have N32 := Fr.app N28 N32q
          have O33 := Old.keep O30 Kp32 all0
          have C34 := CHr.trans C31 (hC32)
          show o_G p e below _ T32 (mkF m 182 #[vI p1, vI p2, vI p3, vI p4, vI 3, vI ca, vI cb, vI cc, vR b1, vR b17, vR b17, vR t28, .unset] [(.int 1)])
          refine o_istore X32 hx (y_ at_182) (A' := #[vI p1, vI p2, vI p3, vI p4, vI 3, vI ca, vI cb, vI cc, vR b1, vR b17, vR b17, vR t28, vI 1]) rfl ?_
          refine o_iload X32 hx (y_ at_184) rfl ?_
          refine o_iFF X32 hx (y_ at_186) ?_
          refine o_aload X32 hx (y_ at_189) rfl rfl ?_
          refine o_bipush X32 hx (y_ at_191) (x := 15) rfl ?_
          have c35 := (Arv.keep Vb28 Kp32 nin0)
          refine o_bload (v := (.int 60)) X32 hx hZ32 rfl c35 (y_ at_193) ⟨by decide, by decide⟩ rfl ?_
          refine o_bipush X32 hx (y_ at_194) (x := 60) rfl ?_
          refine o_iCF X32 hx (y_ at_196) ?_
          refine o_aload X32 hx (y_ at_199) rfl rfl ?_
          refine o_bipush X32 hx (y_ at_201) (x := 16) rfl ?_
          refine o_bload (v := (.int 47)) X32 hx hZ32 rfl c35 (y_ at_203) ⟨by decide, by decide⟩ rfl ?_
          refine o_bipush X32 hx (y_ at_204) (x := 47) rfl ?_
          refine o_iCF X32 hx (y_ at_206) ?_
          refine o_iconst X32 hx (y_ at_209) (x := 1) rfl ?_
          refine o_gO (t := 214) X32 hx (y_ at_210) ?_
          refine o_istore X32 hx (y_ at_214) (A' := #[vI p1, vI p2, vI p3, vI p4, vI 3, vI ca, vI cb, vI cc, vR b1, vR b17, vR b17, vR t28, vI 1]) rfl ?_
          refine o_iload X32 hx (y_ at_216) rfl ?_
          refine o_iconst X32 hx (y_ at_218) (x := 1) rfl ?_
          refine o_iCF X32 hx (y_ at_219) ?_
          refine o_iload X32 hx (y_ at_222) rfl ?_
          refine o_iFF X32 hx (y_ at_224) ?_
          refine o_aload X32 hx (y_ at_227) rfl rfl ?_
          refine o_bipush X32 hx (y_ at_229) (x := 17) rfl ?_
          refine o_bload (v := (.int ca.toInt8.toInt32)) X32 hx hZ32 rfl c35 (y_ at_231) ⟨by decide, by decide⟩ rfl ?_
          refine o_iload X32 hx (y_ at_232) rfl ?_
          refine o_iC (t := 241) X32 hx (y_ at_234) (fun hq => ?_) (fun hq => ?_)
          · have hc234 := o_c_ne.1 hq
            exact absurd (o_b127 l_ca v_ca) hc234
          have hc234 := o_c_ne.2 hq
          refine o_iconst X32 hx (y_ at_237) (x := 1) rfl ?_
          refine o_gO (t := 242) X32 hx (y_ at_238) ?_
          refine o_istore X32 hx (y_ at_242) (A' := #[vI p1, vI p2, vI p3, vI p4, vI 3, vI ca, vI cb, vI cc, vR b1, vR b17, vR b17, vR t28, vI 1]) rfl ?_
          refine o_iload X32 hx (y_ at_244) rfl ?_
          refine o_iconst X32 hx (y_ at_246) (x := 2) rfl ?_
          refine o_iCF X32 hx (y_ at_247) ?_
          refine o_iload X32 hx (y_ at_250) rfl ?_
          refine o_iFF X32 hx (y_ at_252) ?_
          refine o_aload X32 hx (y_ at_255) rfl rfl ?_
          refine o_bipush X32 hx (y_ at_257) (x := 18) rfl ?_
          refine o_bload (v := (.int cb.toInt8.toInt32)) X32 hx hZ32 rfl c35 (y_ at_259) ⟨by decide, by decide⟩ rfl ?_
          refine o_iload X32 hx (y_ at_260) rfl ?_
          refine o_iC (t := 269) X32 hx (y_ at_262) (fun hq => ?_) (fun hq => ?_)
          · have hc262 := o_c_ne.1 hq
            exact absurd (o_b127 l_cb v_cb) hc262
          have hc262 := o_c_ne.2 hq
          refine o_iconst X32 hx (y_ at_265) (x := 1) rfl ?_
          refine o_gO (t := 270) X32 hx (y_ at_266) ?_
          refine o_istore X32 hx (y_ at_270) (A' := #[vI p1, vI p2, vI p3, vI p4, vI 3, vI ca, vI cb, vI cc, vR b1, vR b17, vR b17, vR t28, vI 1]) rfl ?_
          refine o_iload X32 hx (y_ at_272) rfl ?_
          refine o_iconst X32 hx (y_ at_274) (x := 3) rfl ?_
          refine o_iCF X32 hx (y_ at_275) ?_
          refine o_iload X32 hx (y_ at_278) rfl ?_
          refine o_iFF X32 hx (y_ at_280) ?_
          refine o_aload X32 hx (y_ at_283) rfl rfl ?_
          refine o_bipush X32 hx (y_ at_285) (x := 19) rfl ?_
          refine o_bload (v := (.int cc.toInt8.toInt32)) X32 hx hZ32 rfl c35 (y_ at_287) ⟨by decide, by decide⟩ rfl ?_
          refine o_iload X32 hx (y_ at_288) rfl ?_
          refine o_iC (t := 297) X32 hx (y_ at_290) (fun hq => ?_) (fun hq => ?_)
          · have hc290 := o_c_ne.1 hq
            exact absurd (o_b127 l_cc v_cc) hc290
          have hc290 := o_c_ne.2 hq
          refine o_iconst X32 hx (y_ at_293) (x := 1) rfl ?_
          refine o_gO (t := 298) X32 hx (y_ at_294) ?_
          refine o_istore X32 hx (y_ at_298) (A' := #[vI p1, vI p2, vI p3, vI p4, vI 3, vI ca, vI cb, vI cc, vR b1, vR b17, vR b17, vR t28, vI 1]) rfl ?_
          refine o_iload X32 hx (y_ at_300) rfl ?_
          refine o_iFF X32 hx (y_ at_302) ?_
          refine o_aload X32 hx (y_ at_305) rfl rfl ?_
          refine o_bipush X32 hx (y_ at_307) (x := 17) rfl ?_
          refine o_iload X32 hx (y_ at_309) rfl ?_
          refine o_iadd X32 hx (y_ at_311) ?_
          refine o_valE (z := 20) (by decide) ?_
          refine o_bload (v := (.int 62)) X32 hx hZ32 rfl c35 (y_ at_312) ⟨by decide, by decide⟩ rfl ?_
          refine o_bipush X32 hx (y_ at_313) (x := 62) rfl ?_
          refine o_iCF X32 hx (y_ at_315) ?_
          refine o_iconst X32 hx (y_ at_318) (x := 1) rfl ?_
          refine o_gO (t := 323) X32 hx (y_ at_319) ?_
          refine o_istore X32 hx (y_ at_323) (A' := #[vI p1, vI p2, vI p3, vI p4, vI 3, vI ca, vI cb, vI cc, vR b1, vR b17, vR b17, vR t28, vI 1]) rfl ?_
          refine o_iload X32 hx (y_ at_325) rfl ?_
          exact o_retNW X32 hx hS32 hk32 (t := .boolean) hrt hlk (by simp) (y_ at_327) rfl (by decide) (by decide) ⟨rfl, N32⟩
        have ha152 : ¬ b17 = b17 := fun z => hq (congrArg Value.ref z)
        exact absurd rfl ha152
      have hc75 := o_c_ne.2 hq
      obtain rfl : kl = 2 := hc75
      refine o_new X0 hx hZ hown (k_ 0 rfl) (k_ 1 rfl) (k_ 2 rfl) e0 (y_ at_78) (by decide) (by decide) (fun T36 h36 b36 X36 e36 gg36 E36 A36 D36 => ?_)
      have g_b36 := o_fresh O0 gg36
      have O36 := Old.ext O0 E36
      have C37 := CHr.trans C0 (CHr.ext E36 C0.1)
      have F36_value : Fld Z h36 b36 "java/lang/String" "value" "[B" .null := D36 (Or.inr (k_ 16 rfl)) (ty := (.array .byte)) (by decide)
      have F36_coder : Fld Z h36 b36 "java/lang/String" "coder" "B" (.int 0) := D36 (Or.inr (k_ 17 rfl)) (ty := .byte) (by decide)
      refine o_dup X36 hx (y_ at_81) rfl ?_
      refine o_iconst X36 hx (y_ at_82) (x := 2) rfl ?_
      refine o_newA (cap := 2) X36 hx hZ (k_ 3 rfl) e36 (y_ at_83) (by decide) (by decide) (by decide) (by decide) (by decide) (fun T38 h38 k38 b38 X38 e38 gg38 E38 A38 => ?_)
      have g_b38 := o_fresh O36 gg38
      have O38 := Old.ext O36 E38
      have C39 := CHr.trans C37 (CHr.ext E38 C37.1)
      have V38 : Arv Z h38 b38 k38 .char (2 : Int32) [(.int 0), (.int 0)] (.int 0) := A38.pad (pad_rep [] (.int 0) 2)
      refine o_dup X38 hx (y_ at_85) rfl ?_
      refine o_iconst X38 hx (y_ at_86) (x := 0) rfl ?_
      refine o_iload X38 hx (y_ at_87) rfl ?_
      refine o_stC (i := 0) (z := ca) X38 hx hZ e38 V38 (y_ at_89) ⟨by decide, by decide⟩ rfl (o_b rfl) n_ca (fun T40 h40 X40 e40 W40 V40 => ?_)
      have N40 := Fr.snoc X40 N0 g_b38
      have O40 := Old.wr O38 W40 g_b38
      have C41 := CHr.trans C39 (CHr.wr W40 (Safe.arv hZ.alike V38 (by decide)) C39.1)
      refine o_dup X40 hx (y_ at_90) rfl ?_
      refine o_iconst X40 hx (y_ at_91) (x := 1) rfl ?_
      refine o_iload X40 hx (y_ at_92) rfl ?_
      refine o_stC (i := 1) (z := cb) X40 hx hZ e40 V40 (y_ at_94) ⟨by decide, by decide⟩ rfl (o_b rfl) n_cb (fun T42 h42 X42 e42 W42 V42 => ?_)
      have N42 := Fr.snoc X42 N40 g_b38
      have O42 := Old.wr O40 W42 g_b38
      have C43 := CHr.trans C41 (CHr.wr W42 (Safe.arv hZ.alike V40 (by decide)) C41.1)
      have c44 := (Exa.wr W42 (Exa.wr W40 (Exa.ext E38 A36)))
      have c45 := (Fld.other W42 (Fld.other W40 (Fld.ext E38 F36_value) (Or.inl (o_ng A36.lt gg38))) (Or.inl (o_ng A36.lt gg38)))
      have c46 := (Fld.other W42 (Fld.other W40 (Fld.ext E38 F36_coder) (Or.inl (o_ng A36.lt gg38))) (Or.inl (o_ng A36.lt gg38)))
      refine o_ini (y := o_m30) (b := b36) (argsL := [(.ref b38)]) (S := [(.ref b36)]) (W := 1) rfl X42 hx hZ hown (k_ 4 rfl) (k_ 5 rfl) (k_ 6 rfl) (o_newB (W := 1) (cs := ([ca, cb] : List Int32)) (n := 2) hZ hw (k_ 1 rfl) O42 g_b36 c44 c45 c46 V42 SC_ hC_ rfl rfl (by decide) (by decide) (o_csS ⟨l_ca, u_ca⟩ (o_csS ⟨l_cb, u_cb⟩ o_cs0)) (by decide) (by decide)) e42 hml (lenOf o_pd__28_5bC_29V rfl) (y_ at_95) (fun T47 L47 v47 X47 hQ47 => ?_)
      obtain ⟨rfl, Nq47, Kp47, t47, g_t47, ht47, hne47, Sf47⟩ := hQ47
      have N47 := Fr.app N42 Nq47
      have O48 := Old.keep O42 Kp47 (allS g_b36 all0)
      have C49 := CHr.trans C43 (CHr.keep Kp47 (sfS (o_safeN hZ.alike c44 c45) sf0) C43.1)
      show o_G p e below _ T47 (mkF m 98 #[vI p1, vI p2, vI p3, vI p4, vI 2, vI ca, vI cb, vI cc, .unset, .unset, .unset, .unset, .unset] [(.ref b36)])
      refine o_astore X47 hx (y_ at_98) rfl (A' := #[vI p1, vI p2, vI p3, vI p4, vI 2, vI ca, vI cb, vI cc, vR b36, .unset, .unset, .unset, .unset]) rfl ?_
      refine o_gO (t := 130) X47 hx (y_ at_100) ?_
      refine o_new X47 hx hZ hown (k_ 22 rfl) (k_ 23 rfl) (k_ 24 rfl) rfl (y_ at_130) (by decide) (by decide) (fun T50 h50 b50 X50 e50 gg50 E50 A50 D50 => ?_)
      have g_b50 := o_fresh O48 gg50
      have O50 := Old.ext O48 E50
      have C51 := CHr.trans C49 (CHr.ext E50 C49.1)
      have F50_out : Fld Z h50 b50 "com/example/scholion/scholion/http/Html" "out" "Ljava/lang/StringBuilder;" .null := D50 (Or.inr (k_ 102 rfl)) (ty := (.object "java/lang/StringBuilder")) (by decide)
      refine o_dup X50 hx (y_ at_133) rfl ?_
      refine o_initH (y := o_m33) (b := b50) (argsL := []) (S := [(.ref b50)]) (W := 1) rfl X50 hx hZ hS0 hown (k_ 25 rfl) (k_ 26 rfl) (k_ 27 rfl) (by decide) (backOfSH (W := 1) (rmhin l Z a0 hw [] b50 zC_ h50 n0 O50 A50 F50_out g_b50 SC_ hC_) hZ (k_ 27 rfl) (k_ 24 rfl) (by decide) (by decide) hEL C51.1) e50 (Nat.le_trans (Nat.le_trans (Nat.le_trans (Nat.le_trans (Nat.le_trans (Nat.le_trans hk0 E36.1) E38.1) (Keep.of_wr W40).1) (Keep.of_wr W42).1) Kp47.1) E50.1) (by rw [hml]; rfl) (lenOf o_pd__28_29V rfl) rfl (Nat.le_of_eq rfl) (y_ at_134) (by decide) (by decide) (fun T52 L52 v52 k52 X52 hS52 hk52 hZ52 hown52 hQ52 hC52 => ?_)
      obtain ⟨rfl, N52q, Kp52, o52, t52, g_o52, ho52, g_t52, ht52, Fo52, Bl52⟩ := hQ52
      have N52 := Fr.app N47 N52q
      have O53 := Old.keep O50 Kp52 (allS g_b50 all0)
      have C54 := CHr.trans C51 (hC52)
      show o_G p e below _ T52 (mkF m 137 #[vI p1, vI p2, vI p3, vI p4, vI 2, vI ca, vI cb, vI cc, vR b36, .unset, .unset, .unset, .unset] [(.ref b50)])
      refine o_astore X52 hx (y_ at_137) rfl (A' := #[vI p1, vI p2, vI p3, vI p4, vI 2, vI ca, vI cb, vI cc, vR b36, vR b50, .unset, .unset, .unset]) rfl ?_
      refine o_aload X52 hx (y_ at_139) rfl rfl ?_
      refine o_aload X52 hx (y_ at_141) rfl rfl ?_
      have c55 := (o_Str.keep (o_Str.ext E50 Sf47) Kp52 (ninS (o_ng Sf47.lt gg50) nin0) (ninS (o_ng Sf47.lt2 gg50) nin0))
      have c57 := (Exa.keep A50 Kp52)
      refine o_virtualH (y := o_m34) (z := o_m34) (b := b50) (argsL := [(.ref b36)]) (S := []) (W := 0) X52 hx hZ52 hS52 hown52 (k_ 103 rfl) (k_ 104 rfl) (notFace_of_selects (args := #[]) (mvT hZ52 (k_ 106 rfl))) (k_ 106 rfl) (k_ 105 rfl) (by decide) (backOfSH (W := 0) (rmclo l Z a0 hw [] b50 b36 o52 t52 t47 ([ca, cb] : List Int32) zC_ T52.heap n0 O53 Fo52 Bl52 c55 g_o52 g_t52 (Nat.ne_of_lt (Nat.lt_of_lt_of_le (Nat.lt_of_lt_of_le Sf47.lt2 E50.1) ht52)) (o_b rfl) SC_ hC_) hZ52 (k_ 107 rfl) (k_ 24 rfl) (by decide) (by decide) hEL C54.1) rfl hk52 c57 (by rw [hml]; rfl) (lenOf o_pd__28Ljava_2flang_2fString_3b_29Lcom_2fexample_2fscholion_2fscholion_2fhttp_2fHtml_3b rfl) rfl (Nat.le_of_eq rfl) (y_ at_143) (by decide) (by decide) (fun T56 L56 v56 k56 X56 hS56 hk56 hZ56 hown56 hQ56 hC56 => ?_)
      obtain ⟨rfl, N56q, Kp56, Bl56⟩ := hQ56
      have N56 := Fr.app N52 N56q
      have O58 := Old.keep O53 Kp56 (allS g_o52 (allS g_t52 all0))
      have C59 := CHr.trans C54 (hC56)
      show o_G p e below _ T56 (mkF m 146 #[vI p1, vI p2, vI p3, vI p4, vI 2, vI ca, vI cb, vI cc, vR b36, vR b50, .unset, .unset, .unset] [(.ref b50)])
      refine o_astore X56 hx (y_ at_146) rfl (A' := #[vI p1, vI p2, vI p3, vI p4, vI 2, vI ca, vI cb, vI cc, vR b36, vR b50, vR b50, .unset, .unset]) rfl ?_
      refine o_aload X56 hx (y_ at_148) rfl rfl ?_
      refine o_aload X56 hx (y_ at_150) rfl rfl ?_
      refine o_acmp (t := 157) X56 hx rfl rfl (y_ at_152) (by decide) (by decide) (fun hq => ?_) (fun hq => ?_)
      · have ha152 : b50 = b50 := Value.ref.inj hq
        show o_G p e below _ T56 (mkF m 157 #[vI p1, vI p2, vI p3, vI p4, vI 2, vI ca, vI cb, vI cc, vR b36, vR b50, vR b50, .unset, .unset] [])
        refine o_aload X56 hx (y_ at_157) rfl rfl ?_
        have c60 := (Fld.keep Fo52 Kp56 (ninS (Nat.ne_of_lt (Nat.lt_of_lt_of_le A50.lt ho52)) (ninS (Nat.ne_of_lt (Nat.lt_of_lt_of_le A50.lt ht52)) nin0)))
        have c62 := (Exa.keep c57 Kp56)
        refine o_vir (y := o_m35) (b := b50) (argsL := []) (S := []) (W := 0) X56 hx hZ56 hown56 (k_ 128 rfl) (k_ 129 rfl) (k_ 131 rfl) (k_ 130 rfl) (backOf (W := 0) (rmbyt l Z a0 hw [] b50 o52 t52 31 (((o_doc ++ o_lt) ++ ([ca, cb] : List Int32)) ++ [(62 : Int32)]) u8 zC_ T56.heap n0 O58 c60 Bl56 (o_b rfl) (o_b rfl) (o_ascA (o_ascA (by decide) (o_ascS ⟨l_ca, v_ca⟩ (o_ascS ⟨l_cb, v_cb⟩ o_asc0))) (by decide)) S_u S_v SC_ hC_) hZ56 (k_ 132 rfl) (k_ 24 rfl) (by decide) (by decide)) rfl c62 hml (lenOf o_pd__28_29_5bB rfl) (y_ at_159) (fun T61 L61 v61 X61 hQ61 => ?_)
        obtain ⟨t61, rfl, N61q, Kp61, g_t61, ht61, Et61, ka61, Va61⟩ := hQ61
        have N61 := Fr.app N56 N61q
        have O63 := Old.keep O58 Kp61 all0
        have C64 := CHr.trans C59 (CHr.keep Kp61 sf0 C59.1)
        have Vb61 : Arv Z T61.heap t61 ka61 .byte (20 : Int32) [.int 60, .int 33, .int 68, .int 79, .int 67, .int 84, .int 89, .int 80, .int 69, .int 32, .int 104, .int 116, .int 109, .int 108, .int 62, .int 60, .int 47, .int ca.toInt8.toInt32, .int cb.toInt8.toInt32, .int 62] (.int 0) := Va61
        show o_G p e below _ T61 (mkF m 162 #[vI p1, vI p2, vI p3, vI p4, vI 2, vI ca, vI cb, vI cc, vR b36, vR b50, vR b50, .unset, .unset] [(.ref t61)])
        refine o_astore X61 hx (y_ at_162) rfl (A' := #[vI p1, vI p2, vI p3, vI p4, vI 2, vI ca, vI cb, vI cc, vR b36, vR b50, vR b50, vR t61, .unset]) rfl ?_
        refine o_aload X61 hx (y_ at_164) rfl rfl ?_
        refine o_alen (n := 20) X61 hx hZ56 rfl Vb61 (y_ at_166) ?_
        refine o_bipush X61 hx (y_ at_167) (x := 18) rfl ?_
        refine o_iload X61 hx (y_ at_169) rfl ?_
        refine o_iadd X61 hx (y_ at_171) ?_
        refine o_valE (z := 20) (by decide) ?_
        refine o_iCT (t := 177) X61 hx (y_ at_172) ?_
        refine o_aload X61 hx (y_ at_177) rfl rfl ?_
        refine o_staticH (y := o_m36) (argsL := [(.ref t61)]) (S := []) (W := 0) X61 hx hZ56 hS56 hown56 (k_ 205 rfl) (k_ 206 rfl) (k_ 207 rfl) (k_ 208 rfl) (by decide) (backOfSH (W := 0) (rmhea l Z a0 hw [] t61 ka61 (20 : Int32) [.int 60, .int 47, .int ca.toInt8.toInt32, .int cb.toInt8.toInt32, .int 62] zC_ fm T61.heap n0 O63 Vb61 (by decide) SC_ hC_ S_f hfm) hZ56 (k_ 208 rfl) (k_ 207 rfl) (by decide) (by decide) hEL C64.1) rfl (Nat.le_trans hk56 Kp61.1) (by rw [hml]; rfl) (lenOf o_pd__28_5bB_29Z rfl) rfl (Nat.le_of_eq rfl) (y_ at_179) (by decide) (by decide) (fun T65 L65 v65 k65 X65 hS65 hk65 hZ65 hown65 hQ65 hC65 => ?_)
        obtain ⟨rfl, N65q, Kp65⟩ := hQ65
        have N65 := Fr.app N61 N65q
        have O66 := Old.keep O63 Kp65 all0
        have C67 := CHr.trans C64 (hC65)
        show o_G p e below _ T65 (mkF m 182 #[vI p1, vI p2, vI p3, vI p4, vI 2, vI ca, vI cb, vI cc, vR b36, vR b50, vR b50, vR t61, .unset] [(.int 1)])
        refine o_istore X65 hx (y_ at_182) (A' := #[vI p1, vI p2, vI p3, vI p4, vI 2, vI ca, vI cb, vI cc, vR b36, vR b50, vR b50, vR t61, vI 1]) rfl ?_
        refine o_iload X65 hx (y_ at_184) rfl ?_
        refine o_iFF X65 hx (y_ at_186) ?_
        refine o_aload X65 hx (y_ at_189) rfl rfl ?_
        refine o_bipush X65 hx (y_ at_191) (x := 15) rfl ?_
        have c68 := (Arv.keep Vb61 Kp65 nin0)
        refine o_bload (v := (.int 60)) X65 hx hZ65 rfl c68 (y_ at_193) ⟨by decide, by decide⟩ rfl ?_
        refine o_bipush X65 hx (y_ at_194) (x := 60) rfl ?_
        refine o_iCF X65 hx (y_ at_196) ?_
        refine o_aload X65 hx (y_ at_199) rfl rfl ?_
        refine o_bipush X65 hx (y_ at_201) (x := 16) rfl ?_
        refine o_bload (v := (.int 47)) X65 hx hZ65 rfl c68 (y_ at_203) ⟨by decide, by decide⟩ rfl ?_
        refine o_bipush X65 hx (y_ at_204) (x := 47) rfl ?_
        refine o_iCF X65 hx (y_ at_206) ?_
        refine o_iconst X65 hx (y_ at_209) (x := 1) rfl ?_
        refine o_gO (t := 214) X65 hx (y_ at_210) ?_
        refine o_istore X65 hx (y_ at_214) (A' := #[vI p1, vI p2, vI p3, vI p4, vI 2, vI ca, vI cb, vI cc, vR b36, vR b50, vR b50, vR t61, vI 1]) rfl ?_
        refine o_iload X65 hx (y_ at_216) rfl ?_
        refine o_iconst X65 hx (y_ at_218) (x := 1) rfl ?_
        refine o_iCF X65 hx (y_ at_219) ?_
        refine o_iload X65 hx (y_ at_222) rfl ?_
        refine o_iFF X65 hx (y_ at_224) ?_
        refine o_aload X65 hx (y_ at_227) rfl rfl ?_
        refine o_bipush X65 hx (y_ at_229) (x := 17) rfl ?_
        refine o_bload (v := (.int ca.toInt8.toInt32)) X65 hx hZ65 rfl c68 (y_ at_231) ⟨by decide, by decide⟩ rfl ?_
        refine o_iload X65 hx (y_ at_232) rfl ?_
        refine o_iC (t := 241) X65 hx (y_ at_234) (fun hq => ?_) (fun hq => ?_)
        · have hc234 := o_c_ne.1 hq
          exact absurd (o_b127 l_ca v_ca) hc234
        have hc234 := o_c_ne.2 hq
        refine o_iconst X65 hx (y_ at_237) (x := 1) rfl ?_
        refine o_gO (t := 242) X65 hx (y_ at_238) ?_
        refine o_istore X65 hx (y_ at_242) (A' := #[vI p1, vI p2, vI p3, vI p4, vI 2, vI ca, vI cb, vI cc, vR b36, vR b50, vR b50, vR t61, vI 1]) rfl ?_
        refine o_iload X65 hx (y_ at_244) rfl ?_
        refine o_iconst X65 hx (y_ at_246) (x := 2) rfl ?_
        refine o_iCF X65 hx (y_ at_247) ?_
        refine o_iload X65 hx (y_ at_250) rfl ?_
        refine o_iFF X65 hx (y_ at_252) ?_
        refine o_aload X65 hx (y_ at_255) rfl rfl ?_
        refine o_bipush X65 hx (y_ at_257) (x := 18) rfl ?_
        refine o_bload (v := (.int cb.toInt8.toInt32)) X65 hx hZ65 rfl c68 (y_ at_259) ⟨by decide, by decide⟩ rfl ?_
        refine o_iload X65 hx (y_ at_260) rfl ?_
        refine o_iC (t := 269) X65 hx (y_ at_262) (fun hq => ?_) (fun hq => ?_)
        · have hc262 := o_c_ne.1 hq
          exact absurd (o_b127 l_cb v_cb) hc262
        have hc262 := o_c_ne.2 hq
        refine o_iconst X65 hx (y_ at_265) (x := 1) rfl ?_
        refine o_gO (t := 270) X65 hx (y_ at_266) ?_
        refine o_istore X65 hx (y_ at_270) (A' := #[vI p1, vI p2, vI p3, vI p4, vI 2, vI ca, vI cb, vI cc, vR b36, vR b50, vR b50, vR t61, vI 1]) rfl ?_
        refine o_iload X65 hx (y_ at_272) rfl ?_
        refine o_iconst X65 hx (y_ at_274) (x := 3) rfl ?_
        refine o_iCT (t := 300) X65 hx (y_ at_275) ?_
        refine o_iload X65 hx (y_ at_300) rfl ?_
        refine o_iFF X65 hx (y_ at_302) ?_
        refine o_aload X65 hx (y_ at_305) rfl rfl ?_
        refine o_bipush X65 hx (y_ at_307) (x := 17) rfl ?_
        refine o_iload X65 hx (y_ at_309) rfl ?_
        refine o_iadd X65 hx (y_ at_311) ?_
        refine o_valE (z := 19) (by decide) ?_
        refine o_bload (v := (.int 62)) X65 hx hZ65 rfl c68 (y_ at_312) ⟨by decide, by decide⟩ rfl ?_
        refine o_bipush X65 hx (y_ at_313) (x := 62) rfl ?_
        refine o_iCF X65 hx (y_ at_315) ?_
        refine o_iconst X65 hx (y_ at_318) (x := 1) rfl ?_
        refine o_gO (t := 323) X65 hx (y_ at_319) ?_
        refine o_istore X65 hx (y_ at_323) (A' := #[vI p1, vI p2, vI p3, vI p4, vI 2, vI ca, vI cb, vI cc, vR b36, vR b50, vR b50, vR t61, vI 1]) rfl ?_
        refine o_iload X65 hx (y_ at_325) rfl ?_
        exact o_retNW X65 hx hS65 hk65 (t := .boolean) hrt hlk (by simp) (y_ at_327) rfl (by decide) (by decide) ⟨rfl, N65⟩
      have ha152 : ¬ b50 = b50 := fun z => hq (congrArg Value.ref z)
      exact absurd rfl ha152
    have hc49 := o_c_ne.2 hq
    obtain rfl : kl = 1 := hc49
    refine o_new X0 hx hZ hown (k_ 0 rfl) (k_ 1 rfl) (k_ 2 rfl) e0 (y_ at_52) (by decide) (by decide) (fun T69 h69 b69 X69 e69 gg69 E69 A69 D69 => ?_)
    have g_b69 := o_fresh O0 gg69
    have O69 := Old.ext O0 E69
    have C70 := CHr.trans C0 (CHr.ext E69 C0.1)
    have F69_value : Fld Z h69 b69 "java/lang/String" "value" "[B" .null := D69 (Or.inr (k_ 16 rfl)) (ty := (.array .byte)) (by decide)
    have F69_coder : Fld Z h69 b69 "java/lang/String" "coder" "B" (.int 0) := D69 (Or.inr (k_ 17 rfl)) (ty := .byte) (by decide)
    refine o_dup X69 hx (y_ at_55) rfl ?_
    refine o_iconst X69 hx (y_ at_56) (x := 1) rfl ?_
    refine o_newA (cap := 1) X69 hx hZ (k_ 3 rfl) e69 (y_ at_57) (by decide) (by decide) (by decide) (by decide) (by decide) (fun T71 h71 k71 b71 X71 e71 gg71 E71 A71 => ?_)
    have g_b71 := o_fresh O69 gg71
    have O71 := Old.ext O69 E71
    have C72 := CHr.trans C70 (CHr.ext E71 C70.1)
    have V71 : Arv Z h71 b71 k71 .char (1 : Int32) [(.int 0)] (.int 0) := A71.pad (pad_rep [] (.int 0) 1)
    refine o_dup X71 hx (y_ at_59) rfl ?_
    refine o_iconst X71 hx (y_ at_60) (x := 0) rfl ?_
    refine o_iload X71 hx (y_ at_61) rfl ?_
    refine o_stC (i := 0) (z := ca) X71 hx hZ e71 V71 (y_ at_63) ⟨by decide, by decide⟩ rfl (o_b rfl) n_ca (fun T73 h73 X73 e73 W73 V73 => ?_)
    have N73 := Fr.snoc X73 N0 g_b71
    have O73 := Old.wr O71 W73 g_b71
    have C74 := CHr.trans C72 (CHr.wr W73 (Safe.arv hZ.alike V71 (by decide)) C72.1)
    have c75 := (Exa.wr W73 (Exa.ext E71 A69))
    have c76 := (Fld.other W73 (Fld.ext E71 F69_value) (Or.inl (o_ng A69.lt gg71)))
    have c77 := (Fld.other W73 (Fld.ext E71 F69_coder) (Or.inl (o_ng A69.lt gg71)))
    refine o_ini (y := o_m30) (b := b69) (argsL := [(.ref b71)]) (S := [(.ref b69)]) (W := 1) rfl X73 hx hZ hown (k_ 4 rfl) (k_ 5 rfl) (k_ 6 rfl) (o_newB (W := 1) (cs := ([ca] : List Int32)) (n := 1) hZ hw (k_ 1 rfl) O73 g_b69 c75 c76 c77 V73 SC_ hC_ rfl rfl (by decide) (by decide) (o_csS ⟨l_ca, u_ca⟩ o_cs0) (by decide) (by decide)) e73 hml (lenOf o_pd__28_5bC_29V rfl) (y_ at_64) (fun T78 L78 v78 X78 hQ78 => ?_)
    obtain ⟨rfl, Nq78, Kp78, t78, g_t78, ht78, hne78, Sf78⟩ := hQ78
    have N78 := Fr.app N73 Nq78
    have O79 := Old.keep O73 Kp78 (allS g_b69 all0)
    have C80 := CHr.trans C74 (CHr.keep Kp78 (sfS (o_safeN hZ.alike c75 c76) sf0) C74.1)
    show o_G p e below _ T78 (mkF m 67 #[vI p1, vI p2, vI p3, vI p4, vI 1, vI ca, vI cb, vI cc, .unset, .unset, .unset, .unset, .unset] [(.ref b69)])
    refine o_astore X78 hx (y_ at_67) rfl (A' := #[vI p1, vI p2, vI p3, vI p4, vI 1, vI ca, vI cb, vI cc, vR b69, .unset, .unset, .unset, .unset]) rfl ?_
    refine o_gO (t := 130) X78 hx (y_ at_69) ?_
    refine o_new X78 hx hZ hown (k_ 22 rfl) (k_ 23 rfl) (k_ 24 rfl) rfl (y_ at_130) (by decide) (by decide) (fun T81 h81 b81 X81 e81 gg81 E81 A81 D81 => ?_)
    have g_b81 := o_fresh O79 gg81
    have O81 := Old.ext O79 E81
    have C82 := CHr.trans C80 (CHr.ext E81 C80.1)
    have F81_out : Fld Z h81 b81 "com/example/scholion/scholion/http/Html" "out" "Ljava/lang/StringBuilder;" .null := D81 (Or.inr (k_ 102 rfl)) (ty := (.object "java/lang/StringBuilder")) (by decide)
    refine o_dup X81 hx (y_ at_133) rfl ?_
    refine o_initH (y := o_m33) (b := b81) (argsL := []) (S := [(.ref b81)]) (W := 1) rfl X81 hx hZ hS0 hown (k_ 25 rfl) (k_ 26 rfl) (k_ 27 rfl) (by decide) (backOfSH (W := 1) (rmhin l Z a0 hw [] b81 zC_ h81 n0 O81 A81 F81_out g_b81 SC_ hC_) hZ (k_ 27 rfl) (k_ 24 rfl) (by decide) (by decide) hEL C82.1) e81 (Nat.le_trans (Nat.le_trans (Nat.le_trans (Nat.le_trans (Nat.le_trans hk0 E69.1) E71.1) (Keep.of_wr W73).1) Kp78.1) E81.1) (by rw [hml]; rfl) (lenOf o_pd__28_29V rfl) rfl (Nat.le_of_eq rfl) (y_ at_134) (by decide) (by decide) (fun T83 L83 v83 k83 X83 hS83 hk83 hZ83 hown83 hQ83 hC83 => ?_)
    obtain ⟨rfl, N83q, Kp83, o83, t83, g_o83, ho83, g_t83, ht83, Fo83, Bl83⟩ := hQ83
    have N83 := Fr.app N78 N83q
    have O84 := Old.keep O81 Kp83 (allS g_b81 all0)
    have C85 := CHr.trans C82 (hC83)
    show o_G p e below _ T83 (mkF m 137 #[vI p1, vI p2, vI p3, vI p4, vI 1, vI ca, vI cb, vI cc, vR b69, .unset, .unset, .unset, .unset] [(.ref b81)])
    refine o_astore X83 hx (y_ at_137) rfl (A' := #[vI p1, vI p2, vI p3, vI p4, vI 1, vI ca, vI cb, vI cc, vR b69, vR b81, .unset, .unset, .unset]) rfl ?_
    refine o_aload X83 hx (y_ at_139) rfl rfl ?_
    refine o_aload X83 hx (y_ at_141) rfl rfl ?_
    have c86 := (o_Str.keep (o_Str.ext E81 Sf78) Kp83 (ninS (o_ng Sf78.lt gg81) nin0) (ninS (o_ng Sf78.lt2 gg81) nin0))
    have c88 := (Exa.keep A81 Kp83)
    refine o_virtualH (y := o_m34) (z := o_m34) (b := b81) (argsL := [(.ref b69)]) (S := []) (W := 0) X83 hx hZ83 hS83 hown83 (k_ 103 rfl) (k_ 104 rfl) (notFace_of_selects (args := #[]) (mvT hZ83 (k_ 106 rfl))) (k_ 106 rfl) (k_ 105 rfl) (by decide) (backOfSH (W := 0) (rmclo l Z a0 hw [] b81 b69 o83 t83 t78 ([ca] : List Int32) zC_ T83.heap n0 O84 Fo83 Bl83 c86 g_o83 g_t83 (Nat.ne_of_lt (Nat.lt_of_lt_of_le (Nat.lt_of_lt_of_le Sf78.lt2 E81.1) ht83)) (o_b rfl) SC_ hC_) hZ83 (k_ 107 rfl) (k_ 24 rfl) (by decide) (by decide) hEL C85.1) rfl hk83 c88 (by rw [hml]; rfl) (lenOf o_pd__28Ljava_2flang_2fString_3b_29Lcom_2fexample_2fscholion_2fscholion_2fhttp_2fHtml_3b rfl) rfl (Nat.le_of_eq rfl) (y_ at_143) (by decide) (by decide) (fun T87 L87 v87 k87 X87 hS87 hk87 hZ87 hown87 hQ87 hC87 => ?_)
    obtain ⟨rfl, N87q, Kp87, Bl87⟩ := hQ87
    have N87 := Fr.app N83 N87q
    have O89 := Old.keep O84 Kp87 (allS g_o83 (allS g_t83 all0))
    have C90 := CHr.trans C85 (hC87)
    show o_G p e below _ T87 (mkF m 146 #[vI p1, vI p2, vI p3, vI p4, vI 1, vI ca, vI cb, vI cc, vR b69, vR b81, .unset, .unset, .unset] [(.ref b81)])
    refine o_astore X87 hx (y_ at_146) rfl (A' := #[vI p1, vI p2, vI p3, vI p4, vI 1, vI ca, vI cb, vI cc, vR b69, vR b81, vR b81, .unset, .unset]) rfl ?_
    refine o_aload X87 hx (y_ at_148) rfl rfl ?_
    refine o_aload X87 hx (y_ at_150) rfl rfl ?_
    refine o_acmp (t := 157) X87 hx rfl rfl (y_ at_152) (by decide) (by decide) (fun hq => ?_) (fun hq => ?_)
    · have ha152 : b81 = b81 := Value.ref.inj hq
      show o_G p e below _ T87 (mkF m 157 #[vI p1, vI p2, vI p3, vI p4, vI 1, vI ca, vI cb, vI cc, vR b69, vR b81, vR b81, .unset, .unset] [])
      refine o_aload X87 hx (y_ at_157) rfl rfl ?_
      have c91 := (Fld.keep Fo83 Kp87 (ninS (Nat.ne_of_lt (Nat.lt_of_lt_of_le A81.lt ho83)) (ninS (Nat.ne_of_lt (Nat.lt_of_lt_of_le A81.lt ht83)) nin0)))
      have c93 := (Exa.keep c88 Kp87)
      refine o_vir (y := o_m35) (b := b81) (argsL := []) (S := []) (W := 0) X87 hx hZ87 hown87 (k_ 128 rfl) (k_ 129 rfl) (k_ 131 rfl) (k_ 130 rfl) (backOf (W := 0) (rmbyt l Z a0 hw [] b81 o83 t83 31 (((o_doc ++ o_lt) ++ ([ca] : List Int32)) ++ [(62 : Int32)]) u8 zC_ T87.heap n0 O89 c91 Bl87 (o_b rfl) (o_b rfl) (o_ascA (o_ascA (by decide) (o_ascS ⟨l_ca, v_ca⟩ o_asc0)) (by decide)) S_u S_v SC_ hC_) hZ87 (k_ 132 rfl) (k_ 24 rfl) (by decide) (by decide)) rfl c93 hml (lenOf o_pd__28_29_5bB rfl) (y_ at_159) (fun T92 L92 v92 X92 hQ92 => ?_)
      obtain ⟨t92, rfl, N92q, Kp92, g_t92, ht92, Et92, ka92, Va92⟩ := hQ92
      have N92 := Fr.app N87 N92q
      have O94 := Old.keep O89 Kp92 all0
      have C95 := CHr.trans C90 (CHr.keep Kp92 sf0 C90.1)
      have Vb92 : Arv Z T92.heap t92 ka92 .byte (19 : Int32) [.int 60, .int 33, .int 68, .int 79, .int 67, .int 84, .int 89, .int 80, .int 69, .int 32, .int 104, .int 116, .int 109, .int 108, .int 62, .int 60, .int 47, .int ca.toInt8.toInt32, .int 62] (.int 0) := Va92
      show o_G p e below _ T92 (mkF m 162 #[vI p1, vI p2, vI p3, vI p4, vI 1, vI ca, vI cb, vI cc, vR b69, vR b81, vR b81, .unset, .unset] [(.ref t92)])
      refine o_astore X92 hx (y_ at_162) rfl (A' := #[vI p1, vI p2, vI p3, vI p4, vI 1, vI ca, vI cb, vI cc, vR b69, vR b81, vR b81, vR t92, .unset]) rfl ?_
      refine o_aload X92 hx (y_ at_164) rfl rfl ?_
      refine o_alen (n := 19) X92 hx hZ87 rfl Vb92 (y_ at_166) ?_
      refine o_bipush X92 hx (y_ at_167) (x := 18) rfl ?_
      refine o_iload X92 hx (y_ at_169) rfl ?_
      refine o_iadd X92 hx (y_ at_171) ?_
      refine o_valE (z := 19) (by decide) ?_
      refine o_iCT (t := 177) X92 hx (y_ at_172) ?_
      refine o_aload X92 hx (y_ at_177) rfl rfl ?_
      refine o_staticH (y := o_m36) (argsL := [(.ref t92)]) (S := []) (W := 0) X92 hx hZ87 hS87 hown87 (k_ 205 rfl) (k_ 206 rfl) (k_ 207 rfl) (k_ 208 rfl) (by decide) (backOfSH (W := 0) (rmhea l Z a0 hw [] t92 ka92 (19 : Int32) [.int 60, .int 47, .int ca.toInt8.toInt32, .int 62] zC_ fm T92.heap n0 O94 Vb92 (by decide) SC_ hC_ S_f hfm) hZ87 (k_ 208 rfl) (k_ 207 rfl) (by decide) (by decide) hEL C95.1) rfl (Nat.le_trans hk87 Kp92.1) (by rw [hml]; rfl) (lenOf o_pd__28_5bB_29Z rfl) rfl (Nat.le_of_eq rfl) (y_ at_179) (by decide) (by decide) (fun T96 L96 v96 k96 X96 hS96 hk96 hZ96 hown96 hQ96 hC96 => ?_)
      obtain ⟨rfl, N96q, Kp96⟩ := hQ96
      have N96 := Fr.app N92 N96q
      have O97 := Old.keep O94 Kp96 all0
      have C98 := CHr.trans C95 (hC96)
      show o_G p e below _ T96 (mkF m 182 #[vI p1, vI p2, vI p3, vI p4, vI 1, vI ca, vI cb, vI cc, vR b69, vR b81, vR b81, vR t92, .unset] [(.int 1)])
      refine o_istore X96 hx (y_ at_182) (A' := #[vI p1, vI p2, vI p3, vI p4, vI 1, vI ca, vI cb, vI cc, vR b69, vR b81, vR b81, vR t92, vI 1]) rfl ?_
      refine o_iload X96 hx (y_ at_184) rfl ?_
      refine o_iFF X96 hx (y_ at_186) ?_
      refine o_aload X96 hx (y_ at_189) rfl rfl ?_
      refine o_bipush X96 hx (y_ at_191) (x := 15) rfl ?_
      have c99 := (Arv.keep Vb92 Kp96 nin0)
      refine o_bload (v := (.int 60)) X96 hx hZ96 rfl c99 (y_ at_193) ⟨by decide, by decide⟩ rfl ?_
      refine o_bipush X96 hx (y_ at_194) (x := 60) rfl ?_
      refine o_iCF X96 hx (y_ at_196) ?_
      refine o_aload X96 hx (y_ at_199) rfl rfl ?_
      refine o_bipush X96 hx (y_ at_201) (x := 16) rfl ?_
      refine o_bload (v := (.int 47)) X96 hx hZ96 rfl c99 (y_ at_203) ⟨by decide, by decide⟩ rfl ?_
      refine o_bipush X96 hx (y_ at_204) (x := 47) rfl ?_
      refine o_iCF X96 hx (y_ at_206) ?_
      refine o_iconst X96 hx (y_ at_209) (x := 1) rfl ?_
      refine o_gO (t := 214) X96 hx (y_ at_210) ?_
      refine o_istore X96 hx (y_ at_214) (A' := #[vI p1, vI p2, vI p3, vI p4, vI 1, vI ca, vI cb, vI cc, vR b69, vR b81, vR b81, vR t92, vI 1]) rfl ?_
      refine o_iload X96 hx (y_ at_216) rfl ?_
      refine o_iconst X96 hx (y_ at_218) (x := 1) rfl ?_
      refine o_iCF X96 hx (y_ at_219) ?_
      refine o_iload X96 hx (y_ at_222) rfl ?_
      refine o_iFF X96 hx (y_ at_224) ?_
      refine o_aload X96 hx (y_ at_227) rfl rfl ?_
      refine o_bipush X96 hx (y_ at_229) (x := 17) rfl ?_
      refine o_bload (v := (.int ca.toInt8.toInt32)) X96 hx hZ96 rfl c99 (y_ at_231) ⟨by decide, by decide⟩ rfl ?_
      refine o_iload X96 hx (y_ at_232) rfl ?_
      refine o_iC (t := 241) X96 hx (y_ at_234) (fun hq => ?_) (fun hq => ?_)
      · have hc234 := o_c_ne.1 hq
        exact absurd (o_b127 l_ca v_ca) hc234
      have hc234 := o_c_ne.2 hq
      refine o_iconst X96 hx (y_ at_237) (x := 1) rfl ?_
      refine o_gO (t := 242) X96 hx (y_ at_238) ?_
      refine o_istore X96 hx (y_ at_242) (A' := #[vI p1, vI p2, vI p3, vI p4, vI 1, vI ca, vI cb, vI cc, vR b69, vR b81, vR b81, vR t92, vI 1]) rfl ?_
      refine o_iload X96 hx (y_ at_244) rfl ?_
      refine o_iconst X96 hx (y_ at_246) (x := 2) rfl ?_
      refine o_iCT (t := 272) X96 hx (y_ at_247) ?_
      refine o_iload X96 hx (y_ at_272) rfl ?_
      refine o_iconst X96 hx (y_ at_274) (x := 3) rfl ?_
      refine o_iCT (t := 300) X96 hx (y_ at_275) ?_
      refine o_iload X96 hx (y_ at_300) rfl ?_
      refine o_iFF X96 hx (y_ at_302) ?_
      refine o_aload X96 hx (y_ at_305) rfl rfl ?_
      refine o_bipush X96 hx (y_ at_307) (x := 17) rfl ?_
      refine o_iload X96 hx (y_ at_309) rfl ?_
      refine o_iadd X96 hx (y_ at_311) ?_
      refine o_valE (z := 18) (by decide) ?_
      refine o_bload (v := (.int 62)) X96 hx hZ96 rfl c99 (y_ at_312) ⟨by decide, by decide⟩ rfl ?_
      refine o_bipush X96 hx (y_ at_313) (x := 62) rfl ?_
      refine o_iCF X96 hx (y_ at_315) ?_
      refine o_iconst X96 hx (y_ at_318) (x := 1) rfl ?_
      refine o_gO (t := 323) X96 hx (y_ at_319) ?_
      refine o_istore X96 hx (y_ at_323) (A' := #[vI p1, vI p2, vI p3, vI p4, vI 1, vI ca, vI cb, vI cc, vR b69, vR b81, vR b81, vR t92, vI 1]) rfl ?_
      refine o_iload X96 hx (y_ at_325) rfl ?_
      exact o_retNW X96 hx hS96 hk96 (t := .boolean) hrt hlk (by simp) (y_ at_327) rfl (by decide) (by decide) ⟨rfl, N96⟩
    have ha152 : ¬ b81 = b81 := fun z => hq (congrArg Value.ref z)
    exact absurd rfl ha152
  have hc28 := o_h_ne.2 hq
  obtain rfl : kl = 0 := hc28
  refine o_new X0 hx hZ hown (k_ 0 rfl) (k_ 1 rfl) (k_ 2 rfl) e0 (y_ at_31) (by decide) (by decide) (fun T100 h100 b100 X100 e100 gg100 E100 A100 D100 => ?_)
  have g_b100 := o_fresh O0 gg100
  have O100 := Old.ext O0 E100
  have C101 := CHr.trans C0 (CHr.ext E100 C0.1)
  have F100_value : Fld Z h100 b100 "java/lang/String" "value" "[B" .null := D100 (Or.inr (k_ 16 rfl)) (ty := (.array .byte)) (by decide)
  have F100_coder : Fld Z h100 b100 "java/lang/String" "coder" "B" (.int 0) := D100 (Or.inr (k_ 17 rfl)) (ty := .byte) (by decide)
  refine o_dup X100 hx (y_ at_34) rfl ?_
  refine o_iconst X100 hx (y_ at_35) (x := 0) rfl ?_
  refine o_newA (cap := 0) X100 hx hZ (k_ 3 rfl) e100 (y_ at_36) (by decide) (by decide) (by decide) (by decide) (by decide) (fun T102 h102 k102 b102 X102 e102 gg102 E102 A102 => ?_)
  have g_b102 := o_fresh O100 gg102
  have O102 := Old.ext O100 E102
  have C103 := CHr.trans C101 (CHr.ext E102 C101.1)
  have V102 : Arv Z h102 b102 k102 .char (0 : Int32) [] (.int 0) := A102
  have c104 := (Exa.ext E102 A100)
  have c105 := (Fld.ext E102 F100_value)
  have c106 := (Fld.ext E102 F100_coder)
  refine o_initH (y := o_m30) (b := b100) (argsL := [(.ref b102)]) (S := [(.ref b100)]) (W := 1) rfl X102 hx hZ hS0 hown (k_ 4 rfl) (k_ 5 rfl) (k_ 6 rfl) (by decide) (backOfSH (W := 1) (rmse l Z a0 hw [] b100 b102 k102 h102 n0 O102 c104 c105 c106 g_b100 V102) hZ (k_ 6 rfl) (k_ 2 rfl) (by decide) (by decide) hEL C103.1) e102 (Nat.le_trans (Nat.le_trans hk0 E100.1) E102.1) (by rw [hml]; rfl) (lenOf o_pd__28_5bC_29V rfl) rfl (Nat.le_of_eq rfl) (y_ at_38) (by decide) (by decide) (fun T107 L107 v107 k107 X107 hS107 hk107 hZ107 hown107 hQ107 hC107 => ?_)
  obtain ⟨rfl, N107q, Kp107, t107, hne107, Sf107⟩ := hQ107
  have N107 := Fr.app N0 N107q
  have O108 := Old.keep O102 Kp107 (allS g_b100 all0)
  have C109 := CHr.trans C103 (hC107)
  show o_G p e below _ T107 (mkF m 41 #[vI p1, vI p2, vI p3, vI p4, vI 0, vI ca, vI cb, vI cc, .unset, .unset, .unset, .unset, .unset] [(.ref b100)])
  refine o_astore X107 hx (y_ at_41) rfl (A' := #[vI p1, vI p2, vI p3, vI p4, vI 0, vI ca, vI cb, vI cc, vR b100, .unset, .unset, .unset, .unset]) rfl ?_
  refine o_gO (t := 130) X107 hx (y_ at_43) ?_
  refine o_new X107 hx hZ107 hown107 (k_ 22 rfl) (k_ 23 rfl) (k_ 24 rfl) rfl (y_ at_130) (by decide) (by decide) (fun T110 h110 b110 X110 e110 gg110 E110 A110 D110 => ?_)
  have g_b110 := o_fresh O108 gg110
  have O110 := Old.ext O108 E110
  have C111 := CHr.trans C109 (CHr.ext E110 C109.1)
  have F110_out : Fld Z h110 b110 "com/example/scholion/scholion/http/Html" "out" "Ljava/lang/StringBuilder;" .null := D110 (Or.inr (k_ 102 rfl)) (ty := (.object "java/lang/StringBuilder")) (by decide)
  refine o_dup X110 hx (y_ at_133) rfl ?_
  refine o_initH (y := o_m33) (b := b110) (argsL := []) (S := [(.ref b110)]) (W := 1) rfl X110 hx hZ107 hS107 hown107 (k_ 25 rfl) (k_ 26 rfl) (k_ 27 rfl) (by decide) (backOfSH (W := 1) (rmhin l Z a0 hw [] b110 zC_ h110 n0 O110 A110 F110_out g_b110 SC_ hC_) hZ107 (k_ 27 rfl) (k_ 24 rfl) (by decide) (by decide) hEL C111.1) e110 (Nat.le_trans hk107 E110.1) (by rw [hml]; rfl) (lenOf o_pd__28_29V rfl) rfl (Nat.le_of_eq rfl) (y_ at_134) (by decide) (by decide) (fun T112 L112 v112 k112 X112 hS112 hk112 hZ112 hown112 hQ112 hC112 => ?_)
  obtain ⟨rfl, N112q, Kp112, o112, t112, g_o112, ho112, g_t112, ht112, Fo112, Bl112⟩ := hQ112
  have N112 := Fr.app N107 N112q
  have O113 := Old.keep O110 Kp112 (allS g_b110 all0)
  have C114 := CHr.trans C111 (hC112)
  show o_G p e below _ T112 (mkF m 137 #[vI p1, vI p2, vI p3, vI p4, vI 0, vI ca, vI cb, vI cc, vR b100, .unset, .unset, .unset, .unset] [(.ref b110)])
  refine o_astore X112 hx (y_ at_137) rfl (A' := #[vI p1, vI p2, vI p3, vI p4, vI 0, vI ca, vI cb, vI cc, vR b100, vR b110, .unset, .unset, .unset]) rfl ?_
  refine o_aload X112 hx (y_ at_139) rfl rfl ?_
  refine o_aload X112 hx (y_ at_141) rfl rfl ?_
  have c115 := (o_Str.keep (o_Str.ext E110 Sf107) Kp112 (ninS (o_ng Sf107.lt gg110) nin0) (ninS (o_ng Sf107.lt2 gg110) nin0))
  have c117 := (Exa.keep A110 Kp112)
  refine o_virtualH (y := o_m34) (z := o_m34) (b := b110) (argsL := [(.ref b100)]) (S := []) (W := 0) X112 hx hZ112 hS112 hown112 (k_ 103 rfl) (k_ 104 rfl) (notFace_of_selects (args := #[]) (mvT hZ112 (k_ 106 rfl))) (k_ 106 rfl) (k_ 105 rfl) (by decide) (backOfSH (W := 0) (rmclo l Z a0 hw [] b110 b100 o112 t112 t107 ([] : List Int32) zC_ T112.heap n0 O113 Fo112 Bl112 c115 g_o112 g_t112 (Nat.ne_of_lt (Nat.lt_of_lt_of_le (Nat.lt_of_lt_of_le Sf107.lt2 E110.1) ht112)) (o_b rfl) SC_ hC_) hZ112 (k_ 107 rfl) (k_ 24 rfl) (by decide) (by decide) hEL C114.1) rfl hk112 c117 (by rw [hml]; rfl) (lenOf o_pd__28Ljava_2flang_2fString_3b_29Lcom_2fexample_2fscholion_2fscholion_2fhttp_2fHtml_3b rfl) rfl (Nat.le_of_eq rfl) (y_ at_143) (by decide) (by decide) (fun T116 L116 v116 k116 X116 hS116 hk116 hZ116 hown116 hQ116 hC116 => ?_)
  obtain ⟨rfl, N116q, Kp116, Bl116⟩ := hQ116
  have N116 := Fr.app N112 N116q
  have O118 := Old.keep O113 Kp116 (allS g_o112 (allS g_t112 all0))
  have C119 := CHr.trans C114 (hC116)
  show o_G p e below _ T116 (mkF m 146 #[vI p1, vI p2, vI p3, vI p4, vI 0, vI ca, vI cb, vI cc, vR b100, vR b110, .unset, .unset, .unset] [(.ref b110)])
  refine o_astore X116 hx (y_ at_146) rfl (A' := #[vI p1, vI p2, vI p3, vI p4, vI 0, vI ca, vI cb, vI cc, vR b100, vR b110, vR b110, .unset, .unset]) rfl ?_
  refine o_aload X116 hx (y_ at_148) rfl rfl ?_
  refine o_aload X116 hx (y_ at_150) rfl rfl ?_
  refine o_acmp (t := 157) X116 hx rfl rfl (y_ at_152) (by decide) (by decide) (fun hq => ?_) (fun hq => ?_)
  · have ha152 : b110 = b110 := Value.ref.inj hq
    show o_G p e below _ T116 (mkF m 157 #[vI p1, vI p2, vI p3, vI p4, vI 0, vI ca, vI cb, vI cc, vR b100, vR b110, vR b110, .unset, .unset] [])
    refine o_aload X116 hx (y_ at_157) rfl rfl ?_
    have c120 := (Fld.keep Fo112 Kp116 (ninS (Nat.ne_of_lt (Nat.lt_of_lt_of_le A110.lt ho112)) (ninS (Nat.ne_of_lt (Nat.lt_of_lt_of_le A110.lt ht112)) nin0)))
    have c122 := (Exa.keep c117 Kp116)
    refine o_vir (y := o_m35) (b := b110) (argsL := []) (S := []) (W := 0) X116 hx hZ116 hown116 (k_ 128 rfl) (k_ 129 rfl) (k_ 131 rfl) (k_ 130 rfl) (backOf (W := 0) (rmbyt l Z a0 hw [] b110 o112 t112 31 (((o_doc ++ o_lt) ++ ([] : List Int32)) ++ [(62 : Int32)]) u8 zC_ T116.heap n0 O118 c120 Bl116 (o_b rfl) (o_b rfl) (o_ascA (o_ascA (by decide) o_asc0) (by decide)) S_u S_v SC_ hC_) hZ116 (k_ 132 rfl) (k_ 24 rfl) (by decide) (by decide)) rfl c122 hml (lenOf o_pd__28_29_5bB rfl) (y_ at_159) (fun T121 L121 v121 X121 hQ121 => ?_)
    obtain ⟨t121, rfl, N121q, Kp121, g_t121, ht121, Et121, ka121, Va121⟩ := hQ121
    have N121 := Fr.app N116 N121q
    have O123 := Old.keep O118 Kp121 all0
    have C124 := CHr.trans C119 (CHr.keep Kp121 sf0 C119.1)
    have Vb121 : Arv Z T121.heap t121 ka121 .byte (18 : Int32) [.int 60, .int 33, .int 68, .int 79, .int 67, .int 84, .int 89, .int 80, .int 69, .int 32, .int 104, .int 116, .int 109, .int 108, .int 62, .int 60, .int 47, .int 62] (.int 0) := Va121
    show o_G p e below _ T121 (mkF m 162 #[vI p1, vI p2, vI p3, vI p4, vI 0, vI ca, vI cb, vI cc, vR b100, vR b110, vR b110, .unset, .unset] [(.ref t121)])
    refine o_astore X121 hx (y_ at_162) rfl (A' := #[vI p1, vI p2, vI p3, vI p4, vI 0, vI ca, vI cb, vI cc, vR b100, vR b110, vR b110, vR t121, .unset]) rfl ?_
    refine o_aload X121 hx (y_ at_164) rfl rfl ?_
    refine o_alen (n := 18) X121 hx hZ116 rfl Vb121 (y_ at_166) ?_
    refine o_bipush X121 hx (y_ at_167) (x := 18) rfl ?_
    refine o_iload X121 hx (y_ at_169) rfl ?_
    refine o_iadd X121 hx (y_ at_171) ?_
    refine o_valE (z := 18) (by decide) ?_
    refine o_iCT (t := 177) X121 hx (y_ at_172) ?_
    refine o_aload X121 hx (y_ at_177) rfl rfl ?_
    refine o_staticH (y := o_m36) (argsL := [(.ref t121)]) (S := []) (W := 0) X121 hx hZ116 hS116 hown116 (k_ 205 rfl) (k_ 206 rfl) (k_ 207 rfl) (k_ 208 rfl) (by decide) (backOfSH (W := 0) (rmhea l Z a0 hw [] t121 ka121 (18 : Int32) [.int 60, .int 47, .int 62] zC_ fm T121.heap n0 O123 Vb121 (by decide) SC_ hC_ S_f hfm) hZ116 (k_ 208 rfl) (k_ 207 rfl) (by decide) (by decide) hEL C124.1) rfl (Nat.le_trans hk116 Kp121.1) (by rw [hml]; rfl) (lenOf o_pd__28_5bB_29Z rfl) rfl (Nat.le_of_eq rfl) (y_ at_179) (by decide) (by decide) (fun T125 L125 v125 k125 X125 hS125 hk125 hZ125 hown125 hQ125 hC125 => ?_)
    obtain ⟨rfl, N125q, Kp125⟩ := hQ125
    have N125 := Fr.app N121 N125q
    have O126 := Old.keep O123 Kp125 all0
    have C127 := CHr.trans C124 (hC125)
    show o_G p e below _ T125 (mkF m 182 #[vI p1, vI p2, vI p3, vI p4, vI 0, vI ca, vI cb, vI cc, vR b100, vR b110, vR b110, vR t121, .unset] [(.int 1)])
    refine o_istore X125 hx (y_ at_182) (A' := #[vI p1, vI p2, vI p3, vI p4, vI 0, vI ca, vI cb, vI cc, vR b100, vR b110, vR b110, vR t121, vI 1]) rfl ?_
    refine o_iload X125 hx (y_ at_184) rfl ?_
    refine o_iFF X125 hx (y_ at_186) ?_
    refine o_aload X125 hx (y_ at_189) rfl rfl ?_
    refine o_bipush X125 hx (y_ at_191) (x := 15) rfl ?_
    have c128 := (Arv.keep Vb121 Kp125 nin0)
    refine o_bload (v := (.int 60)) X125 hx hZ125 rfl c128 (y_ at_193) ⟨by decide, by decide⟩ rfl ?_
    refine o_bipush X125 hx (y_ at_194) (x := 60) rfl ?_
    refine o_iCF X125 hx (y_ at_196) ?_
    refine o_aload X125 hx (y_ at_199) rfl rfl ?_
    refine o_bipush X125 hx (y_ at_201) (x := 16) rfl ?_
    refine o_bload (v := (.int 47)) X125 hx hZ125 rfl c128 (y_ at_203) ⟨by decide, by decide⟩ rfl ?_
    refine o_bipush X125 hx (y_ at_204) (x := 47) rfl ?_
    refine o_iCF X125 hx (y_ at_206) ?_
    refine o_iconst X125 hx (y_ at_209) (x := 1) rfl ?_
    refine o_gO (t := 214) X125 hx (y_ at_210) ?_
    refine o_istore X125 hx (y_ at_214) (A' := #[vI p1, vI p2, vI p3, vI p4, vI 0, vI ca, vI cb, vI cc, vR b100, vR b110, vR b110, vR t121, vI 1]) rfl ?_
    refine o_iload X125 hx (y_ at_216) rfl ?_
    refine o_iconst X125 hx (y_ at_218) (x := 1) rfl ?_
    refine o_iCT (t := 244) X125 hx (y_ at_219) ?_
    refine o_iload X125 hx (y_ at_244) rfl ?_
    refine o_iconst X125 hx (y_ at_246) (x := 2) rfl ?_
    refine o_iCT (t := 272) X125 hx (y_ at_247) ?_
    refine o_iload X125 hx (y_ at_272) rfl ?_
    refine o_iconst X125 hx (y_ at_274) (x := 3) rfl ?_
    refine o_iCT (t := 300) X125 hx (y_ at_275) ?_
    refine o_iload X125 hx (y_ at_300) rfl ?_
    refine o_iFF X125 hx (y_ at_302) ?_
    refine o_aload X125 hx (y_ at_305) rfl rfl ?_
    refine o_bipush X125 hx (y_ at_307) (x := 17) rfl ?_
    refine o_iload X125 hx (y_ at_309) rfl ?_
    refine o_iadd X125 hx (y_ at_311) ?_
    refine o_valE (z := 17) (by decide) ?_
    refine o_bload (v := (.int 62)) X125 hx hZ125 rfl c128 (y_ at_312) ⟨by decide, by decide⟩ rfl ?_
    refine o_bipush X125 hx (y_ at_313) (x := 62) rfl ?_
    refine o_iCF X125 hx (y_ at_315) ?_
    refine o_iconst X125 hx (y_ at_318) (x := 1) rfl ?_
    refine o_gO (t := 323) X125 hx (y_ at_319) ?_
    refine o_istore X125 hx (y_ at_323) (A' := #[vI p1, vI p2, vI p3, vI p4, vI 0, vI ca, vI cb, vI cc, vR b100, vR b110, vR b110, vR t121, vI 1]) rfl ?_
    refine o_iload X125 hx (y_ at_325) rfl ?_
    exact o_retNW X125 hx hS125 hk125 (t := .boolean) hrt hlk (by simp) (y_ at_327) rfl (by decide) (by decide) ⟨rfl, N125⟩
  have ha152 : ¬ b110 = b110 := fun z => hq (congrArg Value.ref z)
  exact absurd rfl ha152
set_option maxRecDepth 65536 in
set_option maxHeartbeats 40000000 in
theorem comes_1 {Post : Tables → Env → Array Value → State → Outcome → State → Prop} (hpost : ∀ tb e args s v u, (limb_1_1.after args s (.returned v) u = true ∧ limb_1_2.after args s (.returned v) u = true) → ReturnedEndW s (.returned v) u (Jvm.fieldLocs frame_1_writes args s ++ Jvm.arrayLocs frame_1_arrays args s ++ Jvm.staticLocs frame_1_statics s) 40 4416 → Post tb e args s (.returned v) u) :
    ArmFor flags0 classFile x code maxLocals ret World_1 tables_1 room_1 Calls_1 rest_1 Pre_1 Post := by
  intro l hfl _ _ p e ha hc hk s m args below hf hA hF happ hP
  obtain ⟨hcalls, hrest, hpre⟩ := hP
  obtain ⟨-, -, -, hnamed, -, -, -, hat⟩ := (Spec.applies_iff hf).mp happ
  obtain ⟨hg, hn⟩ := and_e (Cond.before_iff.mp (show (Jvm.Cond.and given_1 narrow_1).before args s = true from hpre))
  obtain ⟨hg0, hgr0⟩ := and_e hg
  obtain ⟨hg1, hgr1⟩ := and_e hgr0
  obtain ⟨hg2, hgr2⟩ := and_e hgr1
  obtain ⟨hg3, hgr3⟩ := and_e hgr2
  have hg4 := hgr3
  obtain ⟨w0, w1, w2, w3, rfl⟩ : ∃ w0 w1 w2 w3 : Value, args = #[w0, w1, w2, w3] := by
    have hs : args.size = 4 := by simpa [Cond.value, given_1] using hg0
    obtain ⟨L⟩ := args
    match L, hs with
    | [w0, w1, w2, w3], _ => exact ⟨w0, w1, w2, w3, rfl⟩
  have hw := fun d (hd : d ∈ tables_1) => atoms_spec (ws := Jvm.Cond.code x code maxLocals ret :: tables_1) hat d (List.mem_cons_of_mem _ hd)
  obtain ⟨hsets, hown0⟩ := atoms_of _ (rest_1_c_eq ▸ (show rest_1_c.before _ s = true from hrest))
  obtain ⟨i0, ei0⟩ := is_v hg1
  obtain rfl : w0 = (.int i0) := Option.some.inj ei0
  obtain ⟨i1, ei1⟩ := is_v hg2
  obtain rfl : w1 = (.int i1) := Option.some.inj ei1
  obtain ⟨i2, ei2⟩ := is_v hg3
  obtain rfl : w2 = (.int i2) := Option.some.inj ei2
  obtain ⟨i3, ei3⟩ := is_v hg4
  obtain rfl : w3 = (.int i3) := Option.some.inj ei3
  have hn0 := hn
  obtain ⟨zC_, eC_⟩ := is_v (Cond.before_iff.mp (hsets _ (List.mem_of_getElem? (i := 1) rfl)))
  have SC_ := Sta.start eC_ (Or.inl (hsets _ (List.mem_of_getElem? (i := 0) rfl)))
  have hC_ : ¬ zC_ = 0 := o_not_zero (Cond.before_iff.mp (hsets _ (List.mem_of_getElem? (i := 2) rfl))) eC_
  have hCH : CHv s o_EL s.vm s.heap := CHv.start (o_EWs hw) (fun p hp => hcalls.1 p (o_ELsub p hp)) (by exact (hsets _ (List.mem_of_getElem? (i := 2) rfl))) (o_k hw 15 rfl) (o_k hw 1 rfl)
  obtain ⟨fm, efm, hfm⟩ := isR_v (Cond.before_iff.mp (hsets _ (List.mem_of_getElem? (i := 8) rfl)))
  have S_f := Sta.start efm (Or.inl (hsets _ (List.mem_of_getElem? (i := 7) rfl)))
  obtain ⟨u8, eu8⟩ := exa_v (Cond.before_iff.mp (hsets _ (List.mem_of_getElem? (i := 14) rfl)))
  have S_v := Sta.start eu8 (Or.inl (hsets _ (List.mem_of_getElem? (i := 10) rfl)))
  obtain ⟨u9, eu9⟩ := exa_v (Cond.before_iff.mp (hsets _ (List.mem_of_getElem? (i := 17) rfl)))
  have S_u := Sta.start eu9 (Or.inl (hsets _ (List.mem_of_getElem? (i := 12) rfl)))
  have heq := Cond.before_iff.mp (hsets _ (List.mem_of_getElem? (i := 13) rfl))
  rw [eq_R eu8 eu9 rfl rfl] at heq
  obtain rfl : u8 = u9 := by simpa using heq
  obtain ⟨n, o, h1, h2, h3, _, L, rfl, ⟨rfl, N⟩, hq⟩ := rm0 l s _ hw tables_1 i0 i1 i2 i3 zC_ fm u8 s.heap s.heap.size (Old.start s) SC_ hC_ S_f hfm S_u S_v p e ha hc hk s m _ below hf ((Spec.applies_iff_loose hf).mp happ).1 ⟨rfl, State.Warmed39.refl s, rfl, hCH⟩ trivial
  refine ⟨n, _, h1, h2, h3, hpost _ _ _ _ _ _ ⟨Cond.after_iff.mpr rfl, Cond.after_iff.mpr (eq_i res_at (Term.int_eval (1)) rfl)⟩ ⟨hq.1, hq.2.1, hq.2.2.1, (hq.2.2.2.sift fun y hy => Or.inr (N y hy)).mono (by decide) (by decide)⟩⟩
theorem main_1_1 : Claimed_1_1 := comes_1 fun _ _ _ _ _ _ h hF => ⟨h.1, hF⟩
theorem main_1_2 : Claimed_1_2 := comes_1 fun _ _ _ _ _ _ h hF => ⟨h.2, hF⟩
end Jvm.Pilot.@@N@@
namespace Jvm.Pilot.@@N@@
open Jvm Jvm.ClassFile Sem Op Lib Jvm.Free Jvm.Stand Jvm.Pilot.@@N@@.Jvm.D
/-! MADE BY PROGRAM (witnessworld.py) out of the Statement's table words and the real class files: 32 classes; the members and pool entries that the words name. The judged class is class 1, her method 1. -/
namespace start1
open Jvm.ClassFile
def u (s : String) : CpInfo := .utf8 (stringToUtf16 s)
/-- a pool by its gaps: so many unusable entries, then the entry; so many at the end -/
def gap : Nat → List CpInfo → List CpInfo
  | 0, r => r
  | n + 1, r => .unusable :: gap n r
def poolList (es : List (Nat × CpInfo)) (last : Nat) : List CpInfo := es.foldr (fun e r => gap e.1 (e.2 :: r)) (gap last [])
def pool (es : List (Nat × CpInfo)) (last : Nat) : Array CpInfo := ⟨poolList es last⟩
def fileOf (pool : Array CpInfo) (this : Nat) (attrs : Array Attribute := #[]) (ms : Array MethodInfo := #[]) (fl : Nat := 33) (sup : Nat := 0) (ifs : Array Nat := #[]) (fds : Array FieldInfo := #[]) : ClassFile where
  minorVersion := 0
  majorVersion := 65
  constantPool := pool
  accessFlags := fl
  thisClass := this
  superClass := sup
  interfaces := ifs
  fields := fds
  methods := ms
  attributes := attrs
def plain (name : String) (sup : Option ClassId) : Class where
  name := name
  kind := .ordinary
  loader := none
  accessFlags := 33
  super := sup
  interfaces := #[]
  cf := none
  fields := #[]
  methods := #[]
  instanceTypes := #[]
  staticTypes := #[]
  resolved := #[]
  callSites := []
  init := .initialized
  statics := none
  mirror := none

def pool0 : Array CpInfo := pool [(5, u "<init>"), (0, u "()V"), (1, .class_ 10), (1, u "java/lang/Object"), (85, u "clone"), (0, u "()Ljava/lang/Object;")] 26

def k0c0 : Code := { maxStack := 0, maxLocals := 1, code := object_method_1_code, exceptionTable := #[], attributes := #[] }
def k0m0 : Method := { name := "<init>", desc := "()V", sig := { parameters := [], returnType := none }, accessFlags := 1, code := some k0c0 }
def k0m1 : Method := { name := "clone", desc := "()Ljava/lang/Object;", sig := { parameters := [], returnType := some (.object "java/lang/Object") }, accessFlags := 260, code := none }
/-- java/lang/Object -/
def k0 : Class := { plain "java/lang/Object" none with
  accessFlags := 33
  interfaces := #[]
  cf := some (fileOf pool0 8 #[] #[{ accessFlags := 1, nameIndex := 5, descriptorIndex := 6, attributes := #[] }, { accessFlags := 260, nameIndex := 96, descriptorIndex := 97, attributes := #[] }] 33 0 #[] #[])
  fields := #[]
  methods := #[k0m0, k0m1]
  instanceTypes := #[]
  staticTypes := #[]
  resolved := Array.replicate 124 none
  statics := none }

def pool1 : Array CpInfo := pool [(2, .class_ 4), (0, .nameAndType 5 6), (0, u "java/lang/Object"), (0, u "<init>"), (0, u "()V"), (0, .class_ 8), (0, u "java/lang/String"), (0, .methodref 7 10), (0, .nameAndType 5 11), (0, u "([C)V"), (0, .class_ 13), (0, u "com/example/scholion/scholion/http/Html"), (0, .methodref 12 3), (0, .methodref 12 16), (0, .nameAndType 17 18), (0, u "close"), (0, u "(Ljava/lang/String;)Lcom/example/scholion/scholion/http/Html;"), (0, .methodref 12 20), (0, .nameAndType 21 22), (0, u "bytes"), (0, u "()[B"), (0, .methodref 24 25), (0, .class_ 26), (0, .nameAndType 27 28), (0, u "com/example/scholion/scholion/http/HtmlClosePinLaw"), (0, u "head"), (0, u "([B)Z"), (0, .string 30), (0, u "<!DOCTYPE html>"), (0, .methodref 7 32), (0, .nameAndType 33 34), (0, u "charAt"), (0, u "(I)C"), (2, u "law"), (0, u "(IIII)Z")] 5

def k1m0 : Method := { name := "<init>", desc := "()V", sig := { parameters := [], returnType := none }, accessFlags := 1, code := none }
def k1c1 : Code := { maxStack := 6, maxLocals := 13, code := code, exceptionTable := #[], attributes := #[] }
def k1m1 : Method := { name := "law", desc := "(IIII)Z", sig := { parameters := [.int, .int, .int, .int], returnType := some .boolean }, accessFlags := 9, code := some k1c1 }
def k1c2 : Code := { maxStack := 3, maxLocals := 2, code := method_3_code, exceptionTable := #[], attributes := #[] }
def k1m2 : Method := { name := "head", desc := "([B)Z", sig := { parameters := [(.array .byte)], returnType := some .boolean }, accessFlags := 10, code := some k1c2 }
/-- com/example/scholion/scholion/http/HtmlClosePinLaw -/
def k1 : Class := { plain "com/example/scholion/scholion/http/HtmlClosePinLaw" (some 0) with
  accessFlags := 49
  interfaces := #[]
  cf := some (fileOf pool1 24 #[] #[{ accessFlags := 1, nameIndex := 5, descriptorIndex := 6, attributes := #[] }, { accessFlags := 9, nameIndex := 37, descriptorIndex := 38, attributes := #[] }, { accessFlags := 10, nameIndex := 27, descriptorIndex := 28, attributes := #[] }] 49 2 #[] #[])
  fields := #[]
  methods := #[k1m0, k1m1, k1m2]
  instanceTypes := #[]
  staticTypes := #[]
  resolved := Array.replicate 44 none
  statics := none }

def pool2 : Array CpInfo := pool [(1, .class_ 2), (0, u "java/io/Serializable"), (0, .class_ 4), (0, u "java/lang/Object")] 2

/-- java/io/Serializable -/
def k2 : Class := { plain "java/io/Serializable" (some 0) with
  accessFlags := 1537
  interfaces := #[]
  cf := some (fileOf pool2 1 #[] #[] 1537 3 #[] #[])
  fields := #[]
  methods := #[]
  instanceTypes := #[]
  staticTypes := #[]
  resolved := Array.replicate 7 none
  statics := none }

def pool3 : Array CpInfo := pool [(1, .class_ 2), (0, u "java/lang/Comparable"), (0, .class_ 4), (0, u "java/lang/Object")] 7

/-- java/lang/Comparable -/
def k3 : Class := { plain "java/lang/Comparable" (some 0) with
  accessFlags := 1537
  interfaces := #[]
  cf := some (fileOf pool3 1 #[] #[] 1537 3 #[] #[])
  fields := #[]
  methods := #[]
  instanceTypes := #[]
  staticTypes := #[]
  resolved := Array.replicate 12 none
  statics := none }

def pool4 : Array CpInfo := pool [(2, .class_ 4), (1, u "java/lang/CharSequence"), (42, .class_ 48), (0, u "java/lang/CharSequence$1CodePointIterator"), (10, .class_ 60), (0, u "java/lang/CharSequence$1CharIterator"), (5, .class_ 67), (0, u "java/lang/Object")] 63

/-- java/lang/CharSequence -/
def k4 : Class := { plain "java/lang/CharSequence" (some 0) with
  accessFlags := 1537
  interfaces := #[]
  cf := some (fileOf pool4 2 #[.nestMembers #[47, 59]] #[] 1537 66 #[] #[])
  fields := #[]
  methods := #[]
  instanceTypes := #[]
  staticTypes := #[]
  resolved := Array.replicate 131 none
  statics := none }

def pool5 : Array CpInfo := pool [(1, .class_ 2), (0, u "java/lang/constant/Constable"), (0, .class_ 4), (0, u "java/lang/Object")] 6

/-- java/lang/constant/Constable -/
def k5 : Class := { plain "java/lang/constant/Constable" (some 0) with
  accessFlags := 1537
  interfaces := #[]
  cf := some (fileOf pool5 1 #[] #[] 1537 3 #[] #[])
  fields := #[]
  methods := #[]
  instanceTypes := #[]
  staticTypes := #[]
  resolved := Array.replicate 11 none
  statics := none }

def pool6 : Array CpInfo := pool [(1, .class_ 2), (0, u "java/lang/constant/ConstantDesc"), (0, .class_ 4), (0, u "java/lang/Object")] 32

/-- java/lang/constant/ConstantDesc -/
def k6 : Class := { plain "java/lang/constant/ConstantDesc" (some 0) with
  accessFlags := 1537
  interfaces := #[]
  cf := some (fileOf pool6 1 #[] #[] 1537 3 #[] #[])
  fields := #[]
  methods := #[]
  instanceTypes := #[]
  staticTypes := #[]
  resolved := Array.replicate 37 none
  statics := none }

def pool7 : Array CpInfo := pool [(1, .methodref 2 3), (0, .class_ 4), (0, .nameAndType 5 6), (0, u "java/lang/Object"), (0, u "<init>"), (0, u "()V"), (0, .string 8), (0, u ""), (0, .fieldref 10 11), (0, .class_ 12), (0, .nameAndType 13 14), (0, u "java/lang/String"), (0, u "value"), (0, u "[B"), (0, .fieldref 10 16), (0, .nameAndType 17 18), (0, u "coder"), (0, u "B"), (2, u "hash"), (0, u "I"), (2, u "hashIsZero"), (0, u "Z"), (0, .methodref 10 28), (0, .nameAndType 5 29), (0, u "([CIILjava/lang/Void;)V"), (8, .fieldref 10 39), (0, .nameAndType 40 26), (0, u "COMPACT_STRINGS"), (1, .class_ 44), (1, u "java/lang/StringUTF16"), (0, u "compress"), (1, .methodref 42 48), (0, .nameAndType 49 50), (0, u "coderFromArrayLen"), (0, u "([BI)B"), (3, .methodref 55 56), (0, .class_ 57), (0, .nameAndType 58 59), (0, u "java/util/Arrays"), (0, u "copyOfRange"), (0, u "([BII)[B"), (26, .fieldref 87 88), (0, .class_ 89), (0, .nameAndType 90 91), (0, u "sun/nio/cs/UTF_8"), (0, u "INSTANCE"), (0, u "Lsun/nio/cs/UTF_8;"), (1, .class_ 95), (1, u "java/lang/StringCoding"), (11, .class_ 109), (1, u "java/lang/StringLatin1"), (18, .methodref 93 129), (0, .nameAndType 130 131), (0, u "hasNegatives"), (0, u "([BII)Z"), (10, u "()Z"), (34, .methodref 42 178), (0, .nameAndType 45 179), (0, u "([CII)[B"), (13, .class_ 195), (1, u "java/lang/System"), (16, .methodref 193 213), (0, .nameAndType 214 215), (0, u "arraycopy"), (0, u "(Ljava/lang/Object;ILjava/lang/Object;II)V"), (36, .methodref 10 253), (0, .nameAndType 254 255), (0, u "encodeUTF8"), (0, u "(B[BZ)[B"), (23, .methodref 280 281), (0, .class_ 14), (0, .nameAndType 282 283), (0, u "clone"), (0, u "()Ljava/lang/Object;"), (33, u "encode"), (16, u "()I"), (0, .methodref 10 336), (0, .nameAndType 17 337), (0, u "()B"), (2, u "()[B"), (22, u "([BI)C"), (27, u "(II)V"), (35, u "(I)C"), (61, .methodref 10 490), (0, .nameAndType 5 491), (0, u "(Ljava/lang/AbstractStringBuilder;Ljava/lang/Void;)V"), (0, .methodref 10 493), (0, .nameAndType 494 142), (0, u "isLatin1"), (0, .methodref 107 496), (0, .nameAndType 497 363), (0, u "charAt"), (3, u "checkIndex"), (4, .nameAndType 507 334), (0, u "length"), (24, u "getBytes"), (2, .methodref 10 536), (0, .nameAndType 317 537), (0, u "(Ljava/nio/charset/Charset;B[B)[B"), (11, .methodref 550 506), (0, .class_ 551), (0, u "java/lang/AbstractStringBuilder"), (0, .methodref 550 553), (0, .nameAndType 554 340), (0, u "getValue"), (20, .class_ 576), (0, u "java/lang/CharSequence"), (22, u "CASE_INSENSITIVE_ORDER"), (0, u "Ljava/util/Comparator;"), (220, u "([BIB)V"), (188, u "([C)V"), (36, .methodref 550 493), (5, .fieldref 1054 1055), (0, .class_ 1056), (0, .nameAndType 1057 1058), (0, u "jdk/internal/util/Preconditions"), (0, u "SIOOBE_FORMATTER"), (0, u "Ljava/util/function/BiFunction;"), (0, .methodref 1054 1060), (0, .nameAndType 501 1061), (0, u "(IILjava/util/function/BiFunction;)I"), (39, u "serialPersistentFields"), (0, u "[Ljava/io/ObjectStreamField;"), (0, .class_ 1104), (0, u "java/lang/String$CaseInsensitiveComparator"), (1, .class_ 1107), (0, u "java/io/Serializable"), (0, .class_ 1109), (0, u "java/lang/Comparable"), (0, .class_ 1111), (0, u "java/lang/constant/Constable"), (0, .class_ 1113), (0, u "java/lang/constant/ConstantDesc"), (2, u "serialVersionUID"), (0, u "J"), (3, u "REPL"), (0, u "C"), (2, u "LATIN1"), (1, u "UTF16"), (105, u "(Ljava/lang/StringBuilder;)V"), (11, u "(Ljava/nio/charset/Charset;)[B")] 205

def k7m0 : Method := { name := "<init>", desc := "()V", sig := { parameters := [], returnType := none }, accessFlags := 1, code := none }
def k7c1 : Code := { maxStack := 5, maxLocals := 2, code := jdk_42_method_3_code, exceptionTable := #[], attributes := #[] }
def k7m1 : Method := { name := "<init>", desc := "([C)V", sig := { parameters := [(.array .char)], returnType := none }, accessFlags := 1, code := some k7c1 }
def k7c2 : Code := { maxStack := 4, maxLocals := 3, code := jdk_42_method_18_code, exceptionTable := #[], attributes := #[] }
def k7m2 : Method := { name := "encode", desc := "(Ljava/nio/charset/Charset;B[B)[B", sig := { parameters := [(.object "java/nio/charset/Charset"), .byte, (.array .byte)], returnType := some (.array .byte) }, accessFlags := 10, code := some k7c2 }
def k7c3 : Code := { maxStack := 5, maxLocals := 9, code := jdk_42_method_46_code, exceptionTable := #[], attributes := #[] }
def k7m3 : Method := { name := "encodeUTF8", desc := "(B[BZ)[B", sig := { parameters := [.byte, (.array .byte), .boolean], returnType := some (.array .byte) }, accessFlags := 10, code := some k7c3 }
def k7c4 : Code := { maxStack := 3, maxLocals := 2, code := jdk_42_method_53_code, exceptionTable := #[], attributes := #[] }
def k7m4 : Method := { name := "<init>", desc := "(Ljava/lang/StringBuilder;)V", sig := { parameters := [(.object "java/lang/StringBuilder")], returnType := none }, accessFlags := 1, code := some k7c4 }
def k7c5 : Code := { maxStack := 2, maxLocals := 1, code := jdk_42_method_54_code, exceptionTable := #[], attributes := #[] }
def k7m5 : Method := { name := "length", desc := "()I", sig := { parameters := [], returnType := some .int }, accessFlags := 1, code := some k7c5 }
def k7c6 : Code := { maxStack := 2, maxLocals := 2, code := jdk_42_method_56_code, exceptionTable := #[], attributes := #[] }
def k7m6 : Method := { name := "charAt", desc := "(I)C", sig := { parameters := [.int], returnType := some .char }, accessFlags := 1, code := some k7c6 }
def k7c7 : Code := { maxStack := 3, maxLocals := 2, code := jdk_42_method_64_code, exceptionTable := #[], attributes := #[] }
def k7m7 : Method := { name := "getBytes", desc := "(Ljava/nio/charset/Charset;)[B", sig := { parameters := [(.object "java/nio/charset/Charset")], returnType := some (.array .byte) }, accessFlags := 1, code := some k7c7 }
def k7c8 : Code := { maxStack := 5, maxLocals := 4, code := jdk_42_method_147_code, exceptionTable := #[], attributes := #[] }
def k7m8 : Method := { name := "getBytes", desc := "([BIB)V", sig := { parameters := [(.array .byte), .int, .byte], returnType := none }, accessFlags := 0, code := some k7c8 }
def k7c9 : Code := { maxStack := 4, maxLocals := 6, code := jdk_42_method_149_code, exceptionTable := #[], attributes := #[] }
def k7m9 : Method := { name := "<init>", desc := "([CIILjava/lang/Void;)V", sig := { parameters := [(.array .char), .int, .int, (.object "java/lang/Void")], returnType := none }, accessFlags := 2, code := some k7c9 }
def k7c10 : Code := { maxStack := 5, maxLocals := 5, code := jdk_42_method_150_code, exceptionTable := #[], attributes := #[] }
def k7m10 : Method := { name := "<init>", desc := "(Ljava/lang/AbstractStringBuilder;Ljava/lang/Void;)V", sig := { parameters := [(.object "java/lang/AbstractStringBuilder"), (.object "java/lang/Void")], returnType := none }, accessFlags := 0, code := some k7c10 }
def k7c11 : Code := { maxStack := 1, maxLocals := 1, code := jdk_42_method_152_code, exceptionTable := #[], attributes := #[] }
def k7m11 : Method := { name := "coder", desc := "()B", sig := { parameters := [], returnType := some .byte }, accessFlags := 0, code := some k7c11 }
def k7c12 : Code := { maxStack := 1, maxLocals := 1, code := jdk_42_method_154_code, exceptionTable := #[], attributes := #[] }
def k7m12 : Method := { name := "isLatin1", desc := "()Z", sig := { parameters := [], returnType := some .boolean }, accessFlags := 0, code := some k7c12 }
def k7c13 : Code := { maxStack := 3, maxLocals := 2, code := jdk_42_method_155_code, exceptionTable := #[], attributes := #[] }
def k7m13 : Method := { name := "checkIndex", desc := "(II)V", sig := { parameters := [.int, .int], returnType := none }, accessFlags := 8, code := some k7c13 }
/-- java/lang/String -/
def k7 : Class := { plain "java/lang/String" (some 0) with
  accessFlags := 49
  interfaces := #[2, 3, 4, 5, 6]
  cf := some (fileOf pool7 10 #[.nestMembers #[1103]] #[{ accessFlags := 1, nameIndex := 5, descriptorIndex := 6, attributes := #[] }, { accessFlags := 1, nameIndex := 5, descriptorIndex := 1010, attributes := #[] }, { accessFlags := 10, nameIndex := 317, descriptorIndex := 537, attributes := #[] }, { accessFlags := 10, nameIndex := 254, descriptorIndex := 255, attributes := #[] }, { accessFlags := 1, nameIndex := 5, descriptorIndex := 1233, attributes := #[] }, { accessFlags := 1, nameIndex := 507, descriptorIndex := 334, attributes := #[] }, { accessFlags := 1, nameIndex := 497, descriptorIndex := 427, attributes := #[] }, { accessFlags := 1, nameIndex := 532, descriptorIndex := 1245, attributes := #[] }, { accessFlags := 0, nameIndex := 532, descriptorIndex := 821, attributes := #[] }, { accessFlags := 2, nameIndex := 5, descriptorIndex := 29, attributes := #[] }, { accessFlags := 0, nameIndex := 5, descriptorIndex := 491, attributes := #[] }, { accessFlags := 0, nameIndex := 17, descriptorIndex := 337, attributes := #[] }, { accessFlags := 0, nameIndex := 494, descriptorIndex := 142, attributes := #[] }, { accessFlags := 8, nameIndex := 501, descriptorIndex := 391, attributes := #[] }] 49 2 #[1106, 1108, 575, 1110, 1112] #[{ accessFlags := 18, nameIndex := 13, descriptorIndex := 14, attributes := #[] }, { accessFlags := 18, nameIndex := 17, descriptorIndex := 18, attributes := #[] }, { accessFlags := 2, nameIndex := 21, descriptorIndex := 22, attributes := #[] }, { accessFlags := 2, nameIndex := 25, descriptorIndex := 26, attributes := #[] }, { accessFlags := 26, nameIndex := 1116, descriptorIndex := 1117, attributes := #[] }, { accessFlags := 24, nameIndex := 40, descriptorIndex := 26, attributes := #[] }, { accessFlags := 26, nameIndex := 1101, descriptorIndex := 1102, attributes := #[] }, { accessFlags := 26, nameIndex := 1121, descriptorIndex := 1122, attributes := #[] }, { accessFlags := 25, nameIndex := 599, descriptorIndex := 600, attributes := #[] }, { accessFlags := 24, nameIndex := 1125, descriptorIndex := 18, attributes := #[] }, { accessFlags := 24, nameIndex := 1127, descriptorIndex := 18, attributes := #[] }])
  fields := #[{ name := "value", type := (.array .byte), accessFlags := 18, slot := 0, constantValue := 0 }, { name := "coder", type := .byte, accessFlags := 18, slot := 1, constantValue := 0 }, { name := "hash", type := .int, accessFlags := 2, slot := 2, constantValue := 0 }, { name := "hashIsZero", type := .boolean, accessFlags := 2, slot := 3, constantValue := 0 }, { name := "serialVersionUID", type := .long, accessFlags := 26, slot := 0, constantValue := 0 }, { name := "COMPACT_STRINGS", type := .boolean, accessFlags := 24, slot := 1, constantValue := 0 }, { name := "serialPersistentFields", type := (.array (.object "java/io/ObjectStreamField")), accessFlags := 26, slot := 2, constantValue := 0 }, { name := "REPL", type := .char, accessFlags := 26, slot := 3, constantValue := 0 }, { name := "CASE_INSENSITIVE_ORDER", type := (.object "java/util/Comparator"), accessFlags := 25, slot := 4, constantValue := 0 }, { name := "LATIN1", type := .byte, accessFlags := 24, slot := 5, constantValue := 0 }, { name := "UTF16", type := .byte, accessFlags := 24, slot := 6, constantValue := 0 }]
  methods := #[k7m0, k7m1, k7m2, k7m3, k7m4, k7m5, k7m6, k7m7, k7m8, k7m9, k7m10, k7m11, k7m12, k7m13]
  instanceTypes := #[(.array .byte), .byte, .int, .boolean]
  staticTypes := #[.long, .boolean, (.array (.object "java/io/ObjectStreamField")), .char, (.object "java/util/Comparator"), .byte, .byte]
  resolved := Array.replicate 1451 none
  statics := some 0 }

def pool8 : Array CpInfo := pool [(1, .methodref 2 3), (0, .class_ 4), (0, .nameAndType 5 6), (0, u "java/lang/Object"), (0, u "<init>"), (0, u "()V"), (0, .class_ 8), (0, u "java/lang/StringBuilder"), (0, .string 10), (0, u "<!DOCTYPE html>"), (0, .methodref 7 12), (0, .nameAndType 5 13), (0, u "(Ljava/lang/String;)V"), (0, .fieldref 15 16), (0, .class_ 17), (0, .nameAndType 18 19), (0, u "com/example/scholion/scholion/http/Html"), (0, u "out"), (0, u "Ljava/lang/StringBuilder;"), (0, .methodref 7 21), (0, .nameAndType 22 23), (0, u "append"), (0, u "(C)Ljava/lang/StringBuilder;"), (0, .methodref 7 25), (0, .nameAndType 22 26), (0, u "(Ljava/lang/String;)Ljava/lang/StringBuilder;"), (5, .string 33), (0, u "</"), (7, u "(Ljava/lang/String;)Lcom/example/scholion/scholion/http/Html;"), (2, u "close"), (1, .class_ 48), (1, u "java/lang/String"), (44, .methodref 7 94), (0, .nameAndType 95 96), (0, u "toString"), (0, u "()Ljava/lang/String;"), (0, .fieldref 98 99), (0, .class_ 100), (0, .nameAndType 101 102), (0, u "java/nio/charset/StandardCharsets"), (0, u "UTF_8"), (0, u "Ljava/nio/charset/Charset;"), (0, .methodref 46 104), (0, .nameAndType 105 106), (0, u "getBytes"), (0, u "(Ljava/nio/charset/Charset;)[B"), (22, u "bytes"), (0, u "()[B")] 2

def k8c0 : Code := { maxStack := 4, maxLocals := 1, code := prog_12_method_1_code, exceptionTable := #[], attributes := #[] }
def k8m0 : Method := { name := "<init>", desc := "()V", sig := { parameters := [], returnType := none }, accessFlags := 0, code := some k8c0 }
def k8c1 : Code := { maxStack := 2, maxLocals := 2, code := prog_12_method_3_code, exceptionTable := #[], attributes := #[] }
def k8m1 : Method := { name := "close", desc := "(Ljava/lang/String;)Lcom/example/scholion/scholion/http/Html;", sig := { parameters := [(.object "java/lang/String")], returnType := some (.object "com/example/scholion/scholion/http/Html") }, accessFlags := 0, code := some k8c1 }
def k8c2 : Code := { maxStack := 2, maxLocals := 1, code := prog_12_method_7_code, exceptionTable := #[], attributes := #[] }
def k8m2 : Method := { name := "bytes", desc := "()[B", sig := { parameters := [], returnType := some (.array .byte) }, accessFlags := 0, code := some k8c2 }
/-- com/example/scholion/scholion/http/Html -/
def k8 : Class := { plain "com/example/scholion/scholion/http/Html" (some 0) with
  accessFlags := 48
  interfaces := #[]
  cf := some (fileOf pool8 15 #[] #[{ accessFlags := 0, nameIndex := 5, descriptorIndex := 6, attributes := #[] }, { accessFlags := 0, nameIndex := 44, descriptorIndex := 41, attributes := #[] }, { accessFlags := 0, nameIndex := 129, descriptorIndex := 130, attributes := #[] }] 48 2 #[] #[{ accessFlags := 18, nameIndex := 18, descriptorIndex := 19, attributes := #[] }])
  fields := #[{ name := "out", type := (.object "java/lang/StringBuilder"), accessFlags := 18, slot := 0, constantValue := 0 }]
  methods := #[k8m0, k8m1, k8m2]
  instanceTypes := #[(.object "java/lang/StringBuilder")]
  staticTypes := #[]
  resolved := Array.replicate 133 none
  statics := none }

def pool9 : Array CpInfo := pool [(1, .class_ 2), (0, u "java/lang/Appendable"), (0, .class_ 4), (0, u "java/lang/Object")] 9

/-- java/lang/Appendable -/
def k9 : Class := { plain "java/lang/Appendable" (some 0) with
  accessFlags := 1537
  interfaces := #[]
  cf := some (fileOf pool9 1 #[] #[] 1537 3 #[] #[])
  fields := #[]
  methods := #[]
  instanceTypes := #[]
  staticTypes := #[]
  resolved := Array.replicate 14 none
  statics := none }

def pool10 : Array CpInfo := pool [(1, .class_ 2), (0, u "java/lang/String"), (0, .methodref 4 5), (0, .class_ 6), (0, .nameAndType 7 8), (0, u "java/lang/Object"), (0, u "<init>"), (0, u "()V"), (1, .class_ 12), (1, u "java/lang/AbstractStringBuilder"), (0, u "EMPTYVALUE"), (0, u "[B"), (0, .fieldref 10 16), (0, .nameAndType 17 14), (0, u "value"), (0, .fieldref 1 19), (0, .nameAndType 20 21), (0, u "COMPACT_STRINGS"), (0, u "Z"), (0, .fieldref 10 23), (0, .nameAndType 24 25), (0, u "coder"), (0, u "B"), (6, .methodref 1 33), (0, .nameAndType 34 35), (0, u "length"), (0, u "()I"), (2, .integer 2147483631), (1, .methodref 1 41), (0, .nameAndType 24 42), (0, u "()B"), (0, .methodref 10 44), (0, .nameAndType 45 46), (0, u "append"), (0, u "(Ljava/lang/String;)Ljava/lang/AbstractStringBuilder;"), (1, .class_ 49), (0, u "java/lang/CharSequence"), (19, u "(Ljava/lang/String;)V"), (5, u "maybeLatin1"), (3, .fieldref 10 80), (0, .nameAndType 81 82), (0, u "count"), (0, u "I"), (0, .methodref 10 84), (0, .nameAndType 85 86), (0, u "isLatin1"), (0, u "()Z"), (1, .class_ 90), (1, u "java/lang/StringLatin1"), (9, .methodref 10 101), (0, .nameAndType 102 103), (0, u "ensureCapacityInternal"), (0, u "(I)V"), (87, .methodref 88 192), (0, .nameAndType 193 194), (0, u "canEncode"), (0, u "(C)Z"), (13, .methodref 10 209), (0, .nameAndType 210 211), (0, u "putStringAt"), (0, u "(ILjava/lang/String;)V"), (5, u "inflateIfNeededFor"), (2, .nameAndType 221 222), (0, u "getBytes"), (0, u "([BIB)V"), (69, u "(C)Ljava/lang/AbstractStringBuilder;"), (104, .methodref 10 398), (0, .nameAndType 217 69), (0, .methodref 1 220), (3, u "()[B"), (40, .class_ 445), (0, u "java/lang/Appendable"), (106, u "getValue")] 56

def k10m0 : Method := { name := "<init>", desc := "()V", sig := { parameters := [], returnType := none }, accessFlags := 0, code := none }
def k10c1 : Code := { maxStack := 2, maxLocals := 5, code := jdk_68_method_3_code, exceptionTable := #[], attributes := #[] }
def k10m1 : Method := { name := "<init>", desc := "(Ljava/lang/String;)V", sig := { parameters := [(.object "java/lang/String")], returnType := none }, accessFlags := 0, code := some k10c1 }
def k10c2 : Code := { maxStack := 1, maxLocals := 1, code := jdk_68_method_6_code, exceptionTable := #[], attributes := #[] }
def k10m2 : Method := { name := "length", desc := "()I", sig := { parameters := [], returnType := some .int }, accessFlags := 1, code := some k10c2 }
def k10c3 : Code := { maxStack := 4, maxLocals := 3, code := jdk_68_method_9_code, exceptionTable := #[], attributes := #[] }
def k10m3 : Method := { name := "ensureCapacityInternal", desc := "(I)V", sig := { parameters := [.int], returnType := none }, accessFlags := 2, code := some k10c3 }
def k10c4 : Code := { maxStack := 3, maxLocals := 3, code := jdk_68_method_22_code, exceptionTable := #[], attributes := #[] }
def k10m4 : Method := { name := "append", desc := "(Ljava/lang/String;)Ljava/lang/AbstractStringBuilder;", sig := { parameters := [(.object "java/lang/String")], returnType := some (.object "java/lang/AbstractStringBuilder") }, accessFlags := 1, code := some k10c4 }
def k10c5 : Code := { maxStack := 5, maxLocals := 2, code := jdk_68_method_31_code, exceptionTable := #[], attributes := #[] }
def k10m5 : Method := { name := "append", desc := "(C)Ljava/lang/AbstractStringBuilder;", sig := { parameters := [.char], returnType := some (.object "java/lang/AbstractStringBuilder") }, accessFlags := 1, code := some k10c5 }
def k10c6 : Code := { maxStack := 1, maxLocals := 1, code := jdk_68_method_64_code, exceptionTable := #[], attributes := #[] }
def k10m6 : Method := { name := "getValue", desc := "()[B", sig := { parameters := [], returnType := some (.array .byte) }, accessFlags := 16, code := some k10c6 }
def k10c7 : Code := { maxStack := 1, maxLocals := 1, code := jdk_68_method_68_code, exceptionTable := #[], attributes := #[] }
def k10m7 : Method := { name := "isLatin1", desc := "()Z", sig := { parameters := [], returnType := some .boolean }, accessFlags := 16, code := some k10c7 }
def k10c8 : Code := { maxStack := 2, maxLocals := 2, code := jdk_68_method_71_code, exceptionTable := #[], attributes := #[] }
def k10m8 : Method := { name := "inflateIfNeededFor", desc := "(Ljava/lang/String;)V", sig := { parameters := [(.object "java/lang/String")], returnType := none }, accessFlags := 2, code := some k10c8 }
def k10c9 : Code := { maxStack := 4, maxLocals := 3, code := jdk_68_method_73_code, exceptionTable := #[], attributes := #[] }
def k10m9 : Method := { name := "putStringAt", desc := "(ILjava/lang/String;)V", sig := { parameters := [.int, (.object "java/lang/String")], returnType := none }, accessFlags := 2, code := some k10c9 }
/-- java/lang/AbstractStringBuilder -/
def k10 : Class := { plain "java/lang/AbstractStringBuilder" (some 0) with
  accessFlags := 1056
  interfaces := #[9, 4]
  cf := some (fileOf pool10 10 #[] #[{ accessFlags := 0, nameIndex := 7, descriptorIndex := 8, attributes := #[] }, { accessFlags := 0, nameIndex := 7, descriptorIndex := 69, attributes := #[] }, { accessFlags := 1, nameIndex := 34, descriptorIndex := 35, attributes := #[] }, { accessFlags := 2, nameIndex := 102, descriptorIndex := 103, attributes := #[] }, { accessFlags := 1, nameIndex := 45, descriptorIndex := 46, attributes := #[] }, { accessFlags := 1, nameIndex := 45, descriptorIndex := 292, attributes := #[] }, { accessFlags := 16, nameIndex := 552, descriptorIndex := 403, attributes := #[] }, { accessFlags := 16, nameIndex := 85, descriptorIndex := 86, attributes := #[] }, { accessFlags := 2, nameIndex := 217, descriptorIndex := 69, attributes := #[] }, { accessFlags := 2, nameIndex := 210, descriptorIndex := 211, attributes := #[] }] 1056 4 #[444, 48] #[{ accessFlags := 0, nameIndex := 17, descriptorIndex := 14, attributes := #[] }, { accessFlags := 0, nameIndex := 24, descriptorIndex := 25, attributes := #[] }, { accessFlags := 0, nameIndex := 75, descriptorIndex := 21, attributes := #[] }, { accessFlags := 0, nameIndex := 81, descriptorIndex := 82, attributes := #[] }, { accessFlags := 26, nameIndex := 13, descriptorIndex := 14, attributes := #[] }])
  fields := #[{ name := "value", type := (.array .byte), accessFlags := 0, slot := 0, constantValue := 0 }, { name := "coder", type := .byte, accessFlags := 0, slot := 1, constantValue := 0 }, { name := "maybeLatin1", type := .boolean, accessFlags := 0, slot := 2, constantValue := 0 }, { name := "count", type := .int, accessFlags := 0, slot := 3, constantValue := 0 }, { name := "EMPTYVALUE", type := (.array .byte), accessFlags := 26, slot := 0, constantValue := 0 }]
  methods := #[k10m0, k10m1, k10m2, k10m3, k10m4, k10m5, k10m6, k10m7, k10m8, k10m9]
  instanceTypes := #[(.array .byte), .byte, .boolean, .int]
  staticTypes := #[(.array .byte)]
  resolved := Array.replicate 609 none
  statics := none }

def pool11 : Array CpInfo := pool [(2, .class_ 4), (1, u "java/lang/AbstractStringBuilder"), (0, u "<init>"), (1, .methodref 2 8), (0, .nameAndType 5 9), (0, u "(Ljava/lang/String;)V"), (8, .class_ 20), (1, u "java/lang/String"), (2, .methodref 24 25), (0, .class_ 26), (0, .nameAndType 27 28), (0, u "java/lang/StringBuilder"), (0, u "append"), (0, u "(Ljava/lang/String;)Ljava/lang/StringBuilder;"), (0, .methodref 2 30), (0, .nameAndType 27 31), (0, u "(Ljava/lang/String;)Ljava/lang/AbstractStringBuilder;"), (18, .methodref 2 51), (0, .nameAndType 27 52), (0, u "(C)Ljava/lang/AbstractStringBuilder;"), (84, .methodref 18 138), (0, .nameAndType 5 139), (0, u "(Ljava/lang/StringBuilder;)V"), (5, u "()V"), (10, u "()I"), (129, u "(C)Ljava/lang/StringBuilder;"), (56, .methodref 2 344), (0, .nameAndType 345 156), (0, u "length"), (3, .class_ 350), (0, u "java/lang/Appendable"), (0, .class_ 352), (0, u "java/io/Serializable"), (0, .class_ 354), (0, u "java/lang/Comparable"), (0, .class_ 356), (0, u "java/lang/CharSequence"), (0, u "serialVersionUID"), (0, u "J"), (40, u "toString"), (0, u "()Ljava/lang/String;")] 21

def k11m0 : Method := { name := "<init>", desc := "()V", sig := { parameters := [], returnType := none }, accessFlags := 1, code := none }
def k11c1 : Code := { maxStack := 2, maxLocals := 2, code := jdk_67_method_3_code, exceptionTable := #[], attributes := #[] }
def k11m1 : Method := { name := "<init>", desc := "(Ljava/lang/String;)V", sig := { parameters := [(.object "java/lang/String")], returnType := none }, accessFlags := 1, code := some k11c1 }
def k11c2 : Code := { maxStack := 2, maxLocals := 2, code := jdk_67_method_7_code, exceptionTable := #[], attributes := #[] }
def k11m2 : Method := { name := "append", desc := "(Ljava/lang/String;)Ljava/lang/StringBuilder;", sig := { parameters := [(.object "java/lang/String")], returnType := some (.object "java/lang/StringBuilder") }, accessFlags := 1, code := some k11c2 }
def k11c3 : Code := { maxStack := 2, maxLocals := 2, code := jdk_67_method_14_code, exceptionTable := #[], attributes := #[] }
def k11m3 : Method := { name := "append", desc := "(C)Ljava/lang/StringBuilder;", sig := { parameters := [.char], returnType := some (.object "java/lang/StringBuilder") }, accessFlags := 1, code := some k11c3 }
def k11c4 : Code := { maxStack := 3, maxLocals := 1, code := jdk_67_method_42_code, exceptionTable := #[], attributes := #[] }
def k11m4 : Method := { name := "toString", desc := "()Ljava/lang/String;", sig := { parameters := [], returnType := some (.object "java/lang/String") }, accessFlags := 1, code := some k11c4 }
def k11c5 : Code := { maxStack := 2, maxLocals := 2, code := jdk_67_method_80_code, exceptionTable := #[], attributes := #[] }
def k11m5 : Method := { name := "append", desc := "(Ljava/lang/String;)Ljava/lang/AbstractStringBuilder;", sig := { parameters := [(.object "java/lang/String")], returnType := some (.object "java/lang/AbstractStringBuilder") }, accessFlags := 4161, code := some k11c5 }
def k11c6 : Code := { maxStack := 1, maxLocals := 1, code := jdk_67_method_93_code, exceptionTable := #[], attributes := #[] }
def k11m6 : Method := { name := "length", desc := "()I", sig := { parameters := [], returnType := some .int }, accessFlags := 4161, code := some k11c6 }
/-- java/lang/StringBuilder -/
def k11 : Class := { plain "java/lang/StringBuilder" (some 10) with
  accessFlags := 49
  interfaces := #[9, 2, 3, 4]
  cf := some (fileOf pool11 24 #[] #[{ accessFlags := 1, nameIndex := 5, descriptorIndex := 145, attributes := #[] }, { accessFlags := 1, nameIndex := 5, descriptorIndex := 9, attributes := #[] }, { accessFlags := 1, nameIndex := 27, descriptorIndex := 28, attributes := #[] }, { accessFlags := 1, nameIndex := 27, descriptorIndex := 286, attributes := #[] }, { accessFlags := 1, nameIndex := 399, descriptorIndex := 400, attributes := #[] }, { accessFlags := 4161, nameIndex := 27, descriptorIndex := 31, attributes := #[] }, { accessFlags := 4161, nameIndex := 345, descriptorIndex := 156, attributes := #[] }] 49 2 #[349, 351, 353, 355] #[{ accessFlags := 24, nameIndex := 357, descriptorIndex := 358, attributes := #[] }])
  fields := #[{ name := "serialVersionUID", type := .long, accessFlags := 24, slot := 0, constantValue := 0 }]
  methods := #[k11m0, k11m1, k11m2, k11m3, k11m4, k11m5, k11m6]
  instanceTypes := #[(.array .byte), .byte, .boolean, .int]
  staticTypes := #[.long]
  resolved := Array.replicate 422 none
  statics := none }

def pool12 : Array CpInfo := pool [(2, .class_ 4), (1, u "java/lang/Object"), (0, u "<init>"), (0, u "()V"), (1, .class_ 10), (1, u "java/lang/System"), (0, u "allowSecurityManager"), (0, u "I"), (16, u "cons"), (0, u "Ljava/io/Console;"), (77, .class_ 110), (1, u "java/lang/System$CallersHolder"), (43, u "initialErrStream"), (0, u "Ljava/io/PrintStream;"), (19, u "security"), (0, u "Ljava/lang/SecurityManager;"), (31, .class_ 209), (0, u "java/lang/System$1"), (7, u "props"), (0, u "Ljava/util/Properties;"), (2, u "lineSeparator"), (0, u "Ljava/lang/String;"), (96, .class_ 321), (1, u "java/lang/System$LoggerFinder"), (5, .class_ 328), (0, u "java/lang/System$Logger"), (67, u "err"), (2, u "out"), (91, u "notSupportedJnuEncoding"), (15, u "in"), (17, u "initialIn"), (0, u "Ljava/io/InputStream;"), (35, u "bootLayer"), (0, u "Ljava/lang/ModuleLayer;"), (99, .class_ 664), (0, u "java/lang/System$2"), (9, u "NEVER"), (2, u "MAYBE"), (49, u "arraycopy"), (0, u "(Ljava/lang/Object;ILjava/lang/Object;II)V"), (72, .class_ 802), (0, u "java/lang/System$Logger$Level")] 31

def k12m0 : Method := { name := "<init>", desc := "()V", sig := { parameters := [], returnType := none }, accessFlags := 2, code := none }
def k12m1 : Method := { name := "arraycopy", desc := "(Ljava/lang/Object;ILjava/lang/Object;II)V", sig := { parameters := [(.object "java/lang/Object"), .int, (.object "java/lang/Object"), .int, .int], returnType := none }, accessFlags := 265, code := none }
/-- java/lang/System -/
def k12 : Class := { plain "java/lang/System" (some 0) with
  accessFlags := 49
  interfaces := #[]
  cf := some (fileOf pool12 8 #[.nestMembers #[319, 327, 801, 108, 663, 208]] #[{ accessFlags := 2, nameIndex := 5, descriptorIndex := 6, attributes := #[] }, { accessFlags := 265, nameIndex := 727, descriptorIndex := 728, attributes := #[] }] 49 2 #[] #[{ accessFlags := 25, nameIndex := 507, descriptorIndex := 526, attributes := #[] }, { accessFlags := 25, nameIndex := 399, descriptorIndex := 155, attributes := #[] }, { accessFlags := 25, nameIndex := 396, descriptorIndex := 155, attributes := #[] }, { accessFlags := 10, nameIndex := 525, descriptorIndex := 526, attributes := #[] }, { accessFlags := 26, nameIndex := 674, descriptorIndex := 12, attributes := #[] }, { accessFlags := 26, nameIndex := 677, descriptorIndex := 12, attributes := #[] }, { accessFlags := 10, nameIndex := 11, descriptorIndex := 12, attributes := #[] }, { accessFlags := 74, nameIndex := 175, descriptorIndex := 176, attributes := #[] }, { accessFlags := 10, nameIndex := 491, descriptorIndex := 222, attributes := #[] }, { accessFlags := 74, nameIndex := 29, descriptorIndex := 30, attributes := #[] }, { accessFlags := 74, nameIndex := 154, descriptorIndex := 155, attributes := #[] }, { accessFlags := 10, nameIndex := 217, descriptorIndex := 218, attributes := #[] }, { accessFlags := 10, nameIndex := 221, descriptorIndex := 222, attributes := #[] }, { accessFlags := 8, nameIndex := 562, descriptorIndex := 563, attributes := #[] }])
  fields := #[{ name := "in", type := (.object "java/io/InputStream"), accessFlags := 25, slot := 0, constantValue := 0 }, { name := "out", type := (.object "java/io/PrintStream"), accessFlags := 25, slot := 1, constantValue := 0 }, { name := "err", type := (.object "java/io/PrintStream"), accessFlags := 25, slot := 2, constantValue := 0 }, { name := "initialIn", type := (.object "java/io/InputStream"), accessFlags := 10, slot := 3, constantValue := 0 }, { name := "NEVER", type := .int, accessFlags := 26, slot := 4, constantValue := 0 }, { name := "MAYBE", type := .int, accessFlags := 26, slot := 5, constantValue := 0 }, { name := "allowSecurityManager", type := .int, accessFlags := 10, slot := 6, constantValue := 0 }, { name := "security", type := (.object "java/lang/SecurityManager"), accessFlags := 74, slot := 7, constantValue := 0 }, { name := "notSupportedJnuEncoding", type := (.object "java/lang/String"), accessFlags := 10, slot := 8, constantValue := 0 }, { name := "cons", type := (.object "java/io/Console"), accessFlags := 74, slot := 9, constantValue := 0 }, { name := "initialErrStream", type := (.object "java/io/PrintStream"), accessFlags := 74, slot := 10, constantValue := 0 }, { name := "props", type := (.object "java/util/Properties"), accessFlags := 10, slot := 11, constantValue := 0 }, { name := "lineSeparator", type := (.object "java/lang/String"), accessFlags := 10, slot := 12, constantValue := 0 }, { name := "bootLayer", type := (.object "java/lang/ModuleLayer"), accessFlags := 8, slot := 13, constantValue := 0 }]
  methods := #[k12m0, k12m1]
  instanceTypes := #[]
  staticTypes := #[(.object "java/io/InputStream"), (.object "java/io/PrintStream"), (.object "java/io/PrintStream"), (.object "java/io/InputStream"), .int, .int, .int, (.object "java/lang/SecurityManager"), (.object "java/lang/String"), (.object "java/io/Console"), (.object "java/io/PrintStream"), (.object "java/util/Properties"), (.object "java/lang/String"), (.object "java/lang/ModuleLayer")]
  resolved := Array.replicate 834 none
  statics := none }

def pool13 : Array CpInfo := pool [(1, .class_ 2), (0, u "java/lang/String"), (1, .class_ 6), (1, u "java/lang/Object"), (0, u "<init>"), (0, u "()V"), (0, .methodref 1 10), (0, .nameAndType 11 12), (0, u "checkIndex"), (0, u "(II)V"), (1, .class_ 16), (1, u "java/lang/StringLatin1"), (36, u "([BI)C"), (36, u "canEncode"), (14, u "(C)Z"), (15, u "$assertionsDisabled"), (0, u "Z"), (98, .class_ 223), (1, u "java/lang/StringLatin1$LinesSpliterator"), (28, u "charAt"), (137, .class_ 391), (0, u "java/lang/StringLatin1$CharsSpliterator")] 3

def k13m0 : Method := { name := "<init>", desc := "()V", sig := { parameters := [], returnType := none }, accessFlags := 0, code := none }
def k13c1 : Code := { maxStack := 2, maxLocals := 2, code := jdk_43_method_2_code, exceptionTable := #[], attributes := #[] }
def k13m1 : Method := { name := "charAt", desc := "([BI)C", sig := { parameters := [(.array .byte), .int], returnType := some .char }, accessFlags := 9, code := some k13c1 }
def k13c2 : Code := { maxStack := 2, maxLocals := 1, code := jdk_43_method_3_code, exceptionTable := #[], attributes := #[] }
def k13m2 : Method := { name := "canEncode", desc := "(C)Z", sig := { parameters := [.char], returnType := some .boolean }, accessFlags := 9, code := some k13c2 }
/-- java/lang/StringLatin1 -/
def k13 : Class := { plain "java/lang/StringLatin1" (some 0) with
  accessFlags := 48
  interfaces := #[]
  cf := some (fileOf pool13 14 #[.nestMembers #[390, 221]] #[{ accessFlags := 0, nameIndex := 7, descriptorIndex := 8, attributes := #[] }, { accessFlags := 9, nameIndex := 252, descriptorIndex := 53, attributes := #[] }, { accessFlags := 9, nameIndex := 90, descriptorIndex := 105, attributes := #[] }] 48 4 #[] #[{ accessFlags := 4120, nameIndex := 121, descriptorIndex := 122, attributes := #[] }])
  fields := #[{ name := "$assertionsDisabled", type := .boolean, accessFlags := 4120, slot := 0, constantValue := 0 }]
  methods := #[k13m0, k13m1, k13m2]
  instanceTypes := #[]
  staticTypes := #[.boolean]
  resolved := Array.replicate 395 none
  statics := none }

def pool14 : Array CpInfo := pool [(2, .class_ 4), (1, u "java/lang/Object"), (0, u "<init>"), (0, u "()V"), (7, .class_ 16), (1, u "java/util/Arrays"), (57, .class_ 76), (1, u "java/util/Arrays$NaturalOrder"), (36, .class_ 115), (1, u "java/util/Arrays$LegacyMergeSort"), (1, u "Z"), (21, u "copyOfRange"), (10, .methodref 151 152), (0, .class_ 153), (0, .nameAndType 154 155), (0, u "java/lang/System"), (0, u "arraycopy"), (0, u "(Ljava/lang/Object;ILjava/lang/Object;II)V"), (148, .methodref 305 306), (0, .class_ 307), (0, .nameAndType 308 309), (0, u "java/lang/Math"), (0, u "min"), (0, u "(II)I"), (29, .methodref 14 340), (0, .nameAndType 341 342), (0, u "copyOfRangeByte"), (0, u "([BII)[B"), (0, .methodref 14 344), (0, .nameAndType 345 346), (0, u "checkLength"), (0, u "(II)V"), (28, .class_ 376), (0, u "java/util/Arrays$ArrayList"), (68, u "$assertionsDisabled"), (269, u "MIN_ARRAY_SORT_GRAN"), (0, u "I"), (2, u "INSERTIONSORT_THRESHOLD"), (255, .class_ 976), (0, u "java/util/Arrays$ArrayItr")] 52

def k14m0 : Method := { name := "<init>", desc := "()V", sig := { parameters := [], returnType := none }, accessFlags := 2, code := none }
def k14c1 : Code := { maxStack := 4, maxLocals := 2, code := jdk_65_method_131_code, exceptionTable := #[], attributes := #[] }
def k14m1 : Method := { name := "checkLength", desc := "(II)V", sig := { parameters := [.int, .int], returnType := none }, accessFlags := 10, code := some k14c1 }
def k14c2 : Code := { maxStack := 3, maxLocals := 3, code := jdk_65_method_132_code, exceptionTable := #[], attributes := #[] }
def k14m2 : Method := { name := "copyOfRange", desc := "([BII)[B", sig := { parameters := [(.array .byte), .int, .int], returnType := some (.array .byte) }, accessFlags := 9, code := some k14c2 }
def k14c3 : Code := { maxStack := 6, maxLocals := 5, code := jdk_65_method_133_code, exceptionTable := #[], attributes := #[] }
def k14m3 : Method := { name := "copyOfRangeByte", desc := "([BII)[B", sig := { parameters := [(.array .byte), .int, .int], returnType := some (.array .byte) }, accessFlags := 10, code := some k14c3 }
/-- java/util/Arrays -/
def k14 : Class := { plain "java/util/Arrays" (some 0) with
  accessFlags := 49
  interfaces := #[]
  cf := some (fileOf pool14 14 #[.nestMembers #[975, 375, 113, 74]] #[{ accessFlags := 2, nameIndex := 5, descriptorIndex := 6, attributes := #[] }, { accessFlags := 10, nameIndex := 345, descriptorIndex := 346, attributes := #[] }, { accessFlags := 9, nameIndex := 139, descriptorIndex := 342, attributes := #[] }, { accessFlags := 10, nameIndex := 341, descriptorIndex := 342, attributes := #[] }] 49 2 #[] #[{ accessFlags := 26, nameIndex := 715, descriptorIndex := 716, attributes := #[] }, { accessFlags := 26, nameIndex := 719, descriptorIndex := 716, attributes := #[] }, { accessFlags := 4120, nameIndex := 445, descriptorIndex := 117, attributes := #[] }])
  fields := #[{ name := "MIN_ARRAY_SORT_GRAN", type := .int, accessFlags := 26, slot := 0, constantValue := 0 }, { name := "INSERTIONSORT_THRESHOLD", type := .int, accessFlags := 26, slot := 1, constantValue := 0 }, { name := "$assertionsDisabled", type := .boolean, accessFlags := 4120, slot := 2, constantValue := 0 }]
  methods := #[k14m0, k14m1, k14m2, k14m3]
  instanceTypes := #[]
  staticTypes := #[.int, .int, .boolean]
  resolved := Array.replicate 1029 none
  statics := none }

def pool15 : Array CpInfo := pool [(1, .class_ 2), (0, u "java/lang/Math"), (1, .class_ 6), (1, u "java/lang/Object"), (0, u "<init>"), (0, u "()V"), (89, .class_ 100), (1, u "java/lang/Math$RandomNumberGeneratorHolder"), (71, u "negativeZeroFloatBits"), (0, u "J"), (2, u "negativeZeroDoubleBits"), (24, u "min"), (43, u "$assertionsDisabled"), (0, u "Z"), (88, u "(II)I"), (2, u "twoToTheDoubleScaleDown"), (0, u "D"), (4, u "twoToTheDoubleScaleUp"), (9, u "E"), (3, u "PI"), (2, u "TAU"), (2, u "DEGREES_TO_RADIANS"), (0, u "RADIANS_TO_DEGREES")] 94

def k15m0 : Method := { name := "<init>", desc := "()V", sig := { parameters := [], returnType := none }, accessFlags := 2, code := none }
def k15c1 : Code := { maxStack := 2, maxLocals := 2, code := jdk_29_method_69_code, exceptionTable := #[], attributes := #[] }
def k15m1 : Method := { name := "min", desc := "(II)I", sig := { parameters := [.int, .int], returnType := some .int }, accessFlags := 9, code := some k15c1 }
/-- java/lang/Math -/
def k15 : Class := { plain "java/lang/Math" (some 0) with
  accessFlags := 49
  interfaces := #[]
  cf := some (fileOf pool15 1 #[.nestMembers #[98]] #[{ accessFlags := 2, nameIndex := 7, descriptorIndex := 8, attributes := #[] }, { accessFlags := 9, nameIndex := 201, descriptorIndex := 335, attributes := #[] }] 49 4 #[] #[{ accessFlags := 25, nameIndex := 354, descriptorIndex := 339, attributes := #[] }, { accessFlags := 25, nameIndex := 358, descriptorIndex := 339, attributes := #[] }, { accessFlags := 25, nameIndex := 361, descriptorIndex := 339, attributes := #[] }, { accessFlags := 26, nameIndex := 364, descriptorIndex := 339, attributes := #[] }, { accessFlags := 26, nameIndex := 365, descriptorIndex := 339, attributes := #[] }, { accessFlags := 26, nameIndex := 172, descriptorIndex := 173, attributes := #[] }, { accessFlags := 26, nameIndex := 176, descriptorIndex := 173, attributes := #[] }, { accessFlags := 8, nameIndex := 344, descriptorIndex := 339, attributes := #[] }, { accessFlags := 8, nameIndex := 338, descriptorIndex := 339, attributes := #[] }, { accessFlags := 4120, nameIndex := 245, descriptorIndex := 246, attributes := #[] }])
  fields := #[{ name := "E", type := .double, accessFlags := 25, slot := 0, constantValue := 0 }, { name := "PI", type := .double, accessFlags := 25, slot := 1, constantValue := 0 }, { name := "TAU", type := .double, accessFlags := 25, slot := 2, constantValue := 0 }, { name := "DEGREES_TO_RADIANS", type := .double, accessFlags := 26, slot := 3, constantValue := 0 }, { name := "RADIANS_TO_DEGREES", type := .double, accessFlags := 26, slot := 4, constantValue := 0 }, { name := "negativeZeroFloatBits", type := .long, accessFlags := 26, slot := 5, constantValue := 0 }, { name := "negativeZeroDoubleBits", type := .long, accessFlags := 26, slot := 6, constantValue := 0 }, { name := "twoToTheDoubleScaleUp", type := .double, accessFlags := 8, slot := 7, constantValue := 0 }, { name := "twoToTheDoubleScaleDown", type := .double, accessFlags := 8, slot := 8, constantValue := 0 }, { name := "$assertionsDisabled", type := .boolean, accessFlags := 4120, slot := 9, constantValue := 0 }]
  methods := #[k15m0, k15m1]
  instanceTypes := #[]
  staticTypes := #[.double, .double, .double, .double, .double, .long, .long, .double, .double, .boolean]
  resolved := Array.replicate 460 none
  statics := none }

def pool16 : Array CpInfo := pool [(2, .class_ 4), (1, u "java/lang/Object"), (0, u "<init>"), (0, u "()V"), (14, .class_ 23), (1, u "java/nio/charset/StandardCharsets"), (0, u "US_ASCII"), (0, u "Ljava/nio/charset/Charset;"), (7, u "ISO_8859_1"), (7, u "UTF_8"), (5, u "UTF_16BE"), (5, u "UTF_16LE"), (5, u "UTF_16")] 8

def k16m0 : Method := { name := "<init>", desc := "()V", sig := { parameters := [], returnType := none }, accessFlags := 2, code := none }
/-- java/nio/charset/StandardCharsets -/
def k16 : Class := { plain "java/nio/charset/StandardCharsets" (some 0) with
  accessFlags := 49
  interfaces := #[]
  cf := some (fileOf pool16 21 #[] #[{ accessFlags := 2, nameIndex := 5, descriptorIndex := 6, attributes := #[] }] 49 2 #[] #[{ accessFlags := 25, nameIndex := 24, descriptorIndex := 25, attributes := #[] }, { accessFlags := 25, nameIndex := 33, descriptorIndex := 25, attributes := #[] }, { accessFlags := 25, nameIndex := 41, descriptorIndex := 25, attributes := #[] }, { accessFlags := 25, nameIndex := 47, descriptorIndex := 25, attributes := #[] }, { accessFlags := 25, nameIndex := 53, descriptorIndex := 25, attributes := #[] }, { accessFlags := 25, nameIndex := 59, descriptorIndex := 25, attributes := #[] }])
  fields := #[{ name := "US_ASCII", type := (.object "java/nio/charset/Charset"), accessFlags := 25, slot := 0, constantValue := 0 }, { name := "ISO_8859_1", type := (.object "java/nio/charset/Charset"), accessFlags := 25, slot := 1, constantValue := 0 }, { name := "UTF_8", type := (.object "java/nio/charset/Charset"), accessFlags := 25, slot := 2, constantValue := 0 }, { name := "UTF_16BE", type := (.object "java/nio/charset/Charset"), accessFlags := 25, slot := 3, constantValue := 0 }, { name := "UTF_16LE", type := (.object "java/nio/charset/Charset"), accessFlags := 25, slot := 4, constantValue := 0 }, { name := "UTF_16", type := (.object "java/nio/charset/Charset"), accessFlags := 25, slot := 5, constantValue := 0 }]
  methods := #[k16m0]
  instanceTypes := #[]
  staticTypes := #[(.object "java/nio/charset/Charset"), (.object "java/nio/charset/Charset"), (.object "java/nio/charset/Charset"), (.object "java/nio/charset/Charset"), (.object "java/nio/charset/Charset"), (.object "java/nio/charset/Charset")]
  resolved := Array.replicate 68 none
  statics := some 1 }

def pool17 : Array CpInfo := pool [(18, .class_ 20), (1, u "java/nio/charset/Charset"), (0, u "cache1"), (0, u "[Ljava/lang/Object;"), (2, u "cache2"), (0, .class_ 27), (0, u "java/lang/Object"), (0, .class_ 29), (0, u "java/nio/charset/Charset$1"), (4, .class_ 36), (1, u "java/nio/charset/Charset$ThreadTrackHolder"), (21, .class_ 59), (0, u "java/nio/charset/Charset$2"), (11, .class_ 73), (1, u "java/nio/charset/Charset$ExtendedProviderHolder"), (22, u "standardProvider"), (0, u "Ljava/nio/charset/spi/CharsetProvider;"), (29, u "name"), (7, .class_ 136), (0, u "java/nio/charset/Charset$3"), (5, u "defaultCharset"), (0, u "Ljava/nio/charset/Charset;"), (14, u "zeroAliases"), (0, u "[Ljava/lang/String;"), (29, u "Ljava/lang/String;"), (2, u "aliases"), (2, u "aliasSet"), (0, u "Ljava/util/Set;"), (82, .class_ 280), (0, u "java/lang/Comparable"), (84, .class_ 366), (0, u "java/nio/charset/Charset$ExtendedProviderHolder$1")] 3

/-- java/nio/charset/Charset -/
def k17 : Class := { plain "java/nio/charset/Charset" (some 0) with
  accessFlags := 1057
  interfaces := #[3]
  cf := some (fileOf pool17 18 #[.nestMembers #[71, 365, 34, 135, 58, 28]] #[] 1057 26 #[279] #[{ accessFlags := 26, nameIndex := 96, descriptorIndex := 97, attributes := #[] }, { accessFlags := 26, nameIndex := 158, descriptorIndex := 159, attributes := #[] }, { accessFlags := 74, nameIndex := 21, descriptorIndex := 22, attributes := #[] }, { accessFlags := 74, nameIndex := 25, descriptorIndex := 22, attributes := #[] }, { accessFlags := 10, nameIndex := 142, descriptorIndex := 143, attributes := #[] }, { accessFlags := 18, nameIndex := 127, descriptorIndex := 189, attributes := #[] }, { accessFlags := 18, nameIndex := 192, descriptorIndex := 159, attributes := #[] }, { accessFlags := 2, nameIndex := 195, descriptorIndex := 196, attributes := #[] }])
  fields := #[{ name := "standardProvider", type := (.object "java/nio/charset/spi/CharsetProvider"), accessFlags := 26, slot := 0, constantValue := 0 }, { name := "zeroAliases", type := (.array (.object "java/lang/String")), accessFlags := 26, slot := 1, constantValue := 0 }, { name := "cache1", type := (.array (.object "java/lang/Object")), accessFlags := 74, slot := 2, constantValue := 0 }, { name := "cache2", type := (.array (.object "java/lang/Object")), accessFlags := 74, slot := 3, constantValue := 0 }, { name := "defaultCharset", type := (.object "java/nio/charset/Charset"), accessFlags := 10, slot := 4, constantValue := 0 }, { name := "name", type := (.object "java/lang/String"), accessFlags := 18, slot := 0, constantValue := 0 }, { name := "aliases", type := (.array (.object "java/lang/String")), accessFlags := 18, slot := 1, constantValue := 0 }, { name := "aliasSet", type := (.object "java/util/Set"), accessFlags := 2, slot := 2, constantValue := 0 }]
  methods := #[]
  instanceTypes := #[(.object "java/lang/String"), (.array (.object "java/lang/String")), (.object "java/util/Set")]
  staticTypes := #[(.object "java/nio/charset/spi/CharsetProvider"), (.array (.object "java/lang/String")), (.array (.object "java/lang/Object")), (.array (.object "java/lang/Object")), (.object "java/nio/charset/Charset")]
  resolved := Array.replicate 370 none
  statics := none }

def pool18 : Array CpInfo := pool [(1, .class_ 2), (0, u "sun/nio/cs/HistoricallyNamedCharset"), (0, .class_ 4), (0, u "java/lang/Object")] 4

/-- sun/nio/cs/HistoricallyNamedCharset -/
def k18 : Class := { plain "sun/nio/cs/HistoricallyNamedCharset" (some 0) with
  accessFlags := 1537
  interfaces := #[]
  cf := some (fileOf pool18 1 #[] #[] 1537 3 #[] #[])
  fields := #[]
  methods := #[]
  instanceTypes := #[]
  staticTypes := #[]
  resolved := Array.replicate 9 none
  statics := none }

def pool19 : Array CpInfo := pool [(2, .class_ 4), (1, u "java/nio/charset/Charset"), (130, .class_ 136), (0, u "sun/nio/cs/Unicode"), (0, .class_ 138), (0, u "sun/nio/cs/HistoricallyNamedCharset")] 15

/-- sun/nio/cs/Unicode -/
def k19 : Class := { plain "sun/nio/cs/Unicode" (some 17) with
  accessFlags := 1056
  interfaces := #[18]
  cf := some (fileOf pool19 135 #[] #[] 1056 2 #[137] #[])
  fields := #[]
  methods := #[]
  instanceTypes := #[(.object "java/lang/String"), (.array (.object "java/lang/String")), (.object "java/util/Set")]
  staticTypes := #[]
  resolved := Array.replicate 154 none
  statics := none }

def pool20 : Array CpInfo := pool [(10, .class_ 12), (1, u "sun/nio/cs/Unicode"), (0, u "<init>"), (3, .class_ 18), (0, u "sun/nio/cs/UTF_8$Decoder"), (3, .class_ 23), (0, u "sun/nio/cs/UTF_8$Encoder"), (15, .class_ 40), (0, u "sun/nio/cs/UTF_8"), (2, u "()V"), (2, u "INSTANCE"), (0, u "Lsun/nio/cs/UTF_8;"), (8, u "JLA"), (0, u "Ljdk/internal/access/JavaLangAccess;")] 26

def k20m0 : Method := { name := "<init>", desc := "()V", sig := { parameters := [], returnType := none }, accessFlags := 1, code := none }
/-- sun/nio/cs/UTF_8 -/
def k20 : Class := { plain "sun/nio/cs/UTF_8" (some 19) with
  accessFlags := 49
  interfaces := #[]
  cf := some (fileOf pool20 39 #[.nestMembers #[22, 17]] #[{ accessFlags := 1, nameIndex := 13, descriptorIndex := 43, attributes := #[] }] 49 10 #[] #[{ accessFlags := 25, nameIndex := 46, descriptorIndex := 47, attributes := #[] }, { accessFlags := 26, nameIndex := 56, descriptorIndex := 57, attributes := #[] }])
  fields := #[{ name := "INSTANCE", type := (.object "sun/nio/cs/UTF_8"), accessFlags := 25, slot := 0, constantValue := 0 }, { name := "JLA", type := (.object "jdk/internal/access/JavaLangAccess"), accessFlags := 26, slot := 1, constantValue := 0 }]
  methods := #[k20m0]
  instanceTypes := #[(.object "java/lang/String"), (.array (.object "java/lang/String")), (.object "java/util/Set")]
  staticTypes := #[(.object "sun/nio/cs/UTF_8"), (.object "jdk/internal/access/JavaLangAccess")]
  resolved := Array.replicate 84 none
  statics := some 2 }

def pool21 : Array CpInfo := pool [(2, .class_ 4), (1, u "java/lang/Object"), (0, u "<init>"), (0, u "()V"), (0, .methodref 8 9), (0, .class_ 10), (0, .nameAndType 11 12), (0, u "java/lang/StringCoding"), (0, u "countPositives"), (0, u "([BII)I"), (11, u "hasNegatives"), (0, u "([BII)Z")] 23

def k21m0 : Method := { name := "<init>", desc := "()V", sig := { parameters := [], returnType := none }, accessFlags := 2, code := none }
def k21c1 : Code := { maxStack := 3, maxLocals := 3, code := jdk_123_method_2_code, exceptionTable := #[], attributes := #[] }
def k21m1 : Method := { name := "hasNegatives", desc := "([BII)Z", sig := { parameters := [(.array .byte), .int, .int], returnType := some .boolean }, accessFlags := 9, code := some k21c1 }
def k21c2 : Code := { maxStack := 2, maxLocals := 5, code := jdk_123_method_3_code, exceptionTable := #[], attributes := #[] }
def k21m2 : Method := { name := "countPositives", desc := "([BII)I", sig := { parameters := [(.array .byte), .int, .int], returnType := some .int }, accessFlags := 9, code := some k21c2 }
/-- java/lang/StringCoding -/
def k21 : Class := { plain "java/lang/StringCoding" (some 0) with
  accessFlags := 32
  interfaces := #[]
  cf := some (fileOf pool21 8 #[] #[{ accessFlags := 2, nameIndex := 5, descriptorIndex := 6, attributes := #[] }, { accessFlags := 9, nameIndex := 24, descriptorIndex := 25, attributes := #[] }, { accessFlags := 9, nameIndex := 11, descriptorIndex := 12, attributes := #[] }] 32 2 #[] #[])
  fields := #[]
  methods := #[k21m0, k21m1, k21m2]
  instanceTypes := #[]
  staticTypes := #[]
  resolved := Array.replicate 49 none
  statics := none }

def pool22 : Array CpInfo := pool [(1, .class_ 2), (0, u "java/lang/Cloneable"), (0, .class_ 4), (0, u "java/lang/Object")] 2

/-- java/lang/Cloneable -/
def k22 : Class := { plain "java/lang/Cloneable" (some 0) with
  accessFlags := 1537
  interfaces := #[]
  cf := some (fileOf pool22 1 #[] #[] 1537 3 #[] #[])
  fields := #[]
  methods := #[]
  instanceTypes := #[]
  staticTypes := #[]
  resolved := Array.replicate 7 none
  statics := none }

def pool23 : Array CpInfo := pool [(2, .class_ 4), (1, u "java/lang/Object"), (0, u "<init>"), (0, u "()V"), (17, .class_ 26), (1, u "jdk/internal/util/Preconditions"), (6, u "checkIndex"), (21, .class_ 56), (0, u "jdk/internal/util/Preconditions$4"), (57, .class_ 115), (0, u "jdk/internal/util/Preconditions$1"), (7, u "SIOOBE_FORMATTER"), (0, u "Ljava/util/function/BiFunction;"), (0, .class_ 126), (0, u "jdk/internal/util/Preconditions$2"), (3, u "AIOOBE_FORMATTER"), (0, .class_ 132), (0, u "jdk/internal/util/Preconditions$3"), (3, u "IOOBE_FORMATTER"), (41, u "(IILjava/util/function/BiFunction;)I")] 15

def k23m0 : Method := { name := "<init>", desc := "()V", sig := { parameters := [], returnType := none }, accessFlags := 1, code := none }
def k23c1 : Code := { maxStack := 3, maxLocals := 3, code := jdk_41_method_11_code, exceptionTable := #[], attributes := #[] }
def k23m1 : Method := { name := "checkIndex", desc := "(IILjava/util/function/BiFunction;)I", sig := { parameters := [.int, .int, (.object "java/util/function/BiFunction")], returnType := some .int }, accessFlags := 9, code := some k23c1 }
/-- jdk/internal/util/Preconditions -/
def k23 : Class := { plain "jdk/internal/util/Preconditions" (some 0) with
  accessFlags := 33
  interfaces := #[]
  cf := some (fileOf pool23 24 #[.nestMembers #[55, 131, 125, 114]] #[{ accessFlags := 1, nameIndex := 5, descriptorIndex := 6, attributes := #[] }, { accessFlags := 9, nameIndex := 33, descriptorIndex := 178, attributes := #[] }] 33 2 #[] #[{ accessFlags := 25, nameIndex := 123, descriptorIndex := 124, attributes := #[] }, { accessFlags := 25, nameIndex := 130, descriptorIndex := 124, attributes := #[] }, { accessFlags := 25, nameIndex := 136, descriptorIndex := 124, attributes := #[] }])
  fields := #[{ name := "SIOOBE_FORMATTER", type := (.object "java/util/function/BiFunction"), accessFlags := 25, slot := 0, constantValue := 0 }, { name := "AIOOBE_FORMATTER", type := (.object "java/util/function/BiFunction"), accessFlags := 25, slot := 1, constantValue := 0 }, { name := "IOOBE_FORMATTER", type := (.object "java/util/function/BiFunction"), accessFlags := 25, slot := 2, constantValue := 0 }]
  methods := #[k23m0, k23m1]
  instanceTypes := #[]
  staticTypes := #[(.object "java/util/function/BiFunction"), (.object "java/util/function/BiFunction"), (.object "java/util/function/BiFunction")]
  resolved := Array.replicate 194 none
  statics := some 3 }

def pool24 : Array CpInfo := pool [(6, .class_ 8), (1, u "java/lang/Object"), (0, u "<init>"), (0, u "()V"), (1, .class_ 14), (1, u "java/lang/StringUTF16"), (31, u "$assertionsDisabled"), (0, u "Z"), (13, u "HI_BYTE_SHIFT"), (0, u "I"), (2, u "LO_BYTE_SHIFT"), (49, .methodref 12 116), (0, .nameAndType 117 118), (0, u "compress"), (0, u "([CI[BII)I"), (3, u "([CII)[B"), (138, u "coderFromArrayLen"), (0, u "([BI)B"), (106, .class_ 371), (1, u "java/lang/StringUTF16$LinesSpliterator"), (58, u "MAX_LENGTH"), (196, .class_ 628), (0, u "java/lang/StringUTF16$CodePointsSpliterator"), (0, .class_ 630), (0, u "java/lang/StringUTF16$CharsSpliterator")] 4

def k24m0 : Method := { name := "<init>", desc := "()V", sig := { parameters := [], returnType := none }, accessFlags := 0, code := none }
def k24c1 : Code := { maxStack := 2, maxLocals := 2, code := jdk_52_method_15_code, exceptionTable := #[], attributes := #[] }
def k24m1 : Method := { name := "coderFromArrayLen", desc := "([BI)B", sig := { parameters := [(.array .byte), .int], returnType := some .byte }, accessFlags := 8, code := some k24c1 }
def k24c2 : Code := { maxStack := 5, maxLocals := 6, code := jdk_52_method_16_code, exceptionTable := #[], attributes := #[] }
def k24m2 : Method := { name := "compress", desc := "([CII)[B", sig := { parameters := [(.array .char), .int, .int], returnType := some (.array .byte) }, accessFlags := 9, code := some k24c2 }
def k24c3 : Code := { maxStack := 3, maxLocals := 7, code := jdk_52_method_21_code, exceptionTable := #[], attributes := #[] }
def k24m3 : Method := { name := "compress", desc := "([CI[BII)I", sig := { parameters := [(.array .char), .int, (.array .byte), .int, .int], returnType := some .int }, accessFlags := 9, code := some k24c3 }
/-- java/lang/StringUTF16 -/
def k24 : Class := { plain "java/lang/StringUTF16" (some 0) with
  accessFlags := 48
  interfaces := #[]
  cf := some (fileOf pool24 12 #[.nestMembers #[627, 629, 369]] #[{ accessFlags := 0, nameIndex := 9, descriptorIndex := 10, attributes := #[] }, { accessFlags := 8, nameIndex := 261, descriptorIndex := 262, attributes := #[] }, { accessFlags := 9, nameIndex := 117, descriptorIndex := 122, attributes := #[] }, { accessFlags := 9, nameIndex := 117, descriptorIndex := 118, attributes := #[] }] 48 6 #[] #[{ accessFlags := 26, nameIndex := 61, descriptorIndex := 62, attributes := #[] }, { accessFlags := 26, nameIndex := 65, descriptorIndex := 62, attributes := #[] }, { accessFlags := 24, nameIndex := 430, descriptorIndex := 62, attributes := #[] }, { accessFlags := 4120, nameIndex := 46, descriptorIndex := 47, attributes := #[] }])
  fields := #[{ name := "HI_BYTE_SHIFT", type := .int, accessFlags := 26, slot := 0, constantValue := 0 }, { name := "LO_BYTE_SHIFT", type := .int, accessFlags := 26, slot := 1, constantValue := 0 }, { name := "MAX_LENGTH", type := .int, accessFlags := 24, slot := 2, constantValue := 0 }, { name := "$assertionsDisabled", type := .boolean, accessFlags := 4120, slot := 3, constantValue := 0 }]
  methods := #[k24m0, k24m1, k24m2, k24m3]
  instanceTypes := #[]
  staticTypes := #[.int, .int, .int, .boolean]
  resolved := Array.replicate 635 none
  statics := none }

def pool25 : Array CpInfo := pool [(9, u "<init>"), (6, .class_ 18), (1, u "java/lang/Object"), (0, u "()V"), (1, .class_ 23), (1, u "jdk/internal/util/ArraysSupport"), (0, u "LOG2_ARRAY_LONG_INDEX_SCALE"), (0, u "I"), (2, u "U"), (0, u "Ljdk/internal/misc/Unsafe;"), (8, u "BIG_ENDIAN"), (0, u "Z"), (8, u "LOG2_BYTE_BIT_SIZE"), (4, u "LOG2_ARRAY_INT_INDEX_SCALE"), (54, u "JLA"), (0, u "Ljdk/internal/access/JavaLangAccess;"), (11, u "LOG2_ARRAY_BOOLEAN_INDEX_SCALE"), (9, u "LOG2_ARRAY_BYTE_INDEX_SCALE"), (5, u "LOG2_ARRAY_CHAR_INDEX_SCALE"), (5, u "LOG2_ARRAY_SHORT_INDEX_SCALE"), (18, u "LOG2_ARRAY_FLOAT_INDEX_SCALE"), (24, u "LOG2_ARRAY_DOUBLE_INDEX_SCALE"), (89, u "T_BOOLEAN"), (2, u "T_CHAR"), (1, u "T_FLOAT"), (1, u "T_DOUBLE"), (1, u "T_BYTE"), (1, u "T_SHORT"), (1, u "T_INT"), (1, u "T_LONG"), (1, u "SOFT_MAX_ARRAY_LENGTH")] 83

def k25m0 : Method := { name := "<init>", desc := "()V", sig := { parameters := [], returnType := none }, accessFlags := 2, code := none }
/-- jdk/internal/util/ArraysSupport -/
def k25 : Class := { plain "jdk/internal/util/ArraysSupport" (some 0) with
  accessFlags := 33
  interfaces := #[]
  cf := some (fileOf pool25 21 #[] #[{ accessFlags := 2, nameIndex := 9, descriptorIndex := 19, attributes := #[] }] 33 16 #[] #[{ accessFlags := 24, nameIndex := 28, descriptorIndex := 29, attributes := #[] }, { accessFlags := 26, nameIndex := 38, descriptorIndex := 39, attributes := #[] }, { accessFlags := 25, nameIndex := 121, descriptorIndex := 25, attributes := #[] }, { accessFlags := 25, nameIndex := 131, descriptorIndex := 25, attributes := #[] }, { accessFlags := 25, nameIndex := 137, descriptorIndex := 25, attributes := #[] }, { accessFlags := 25, nameIndex := 143, descriptorIndex := 25, attributes := #[] }, { accessFlags := 25, nameIndex := 53, descriptorIndex := 25, attributes := #[] }, { accessFlags := 25, nameIndex := 24, descriptorIndex := 25, attributes := #[] }, { accessFlags := 25, nameIndex := 162, descriptorIndex := 25, attributes := #[] }, { accessFlags := 25, nameIndex := 187, descriptorIndex := 25, attributes := #[] }, { accessFlags := 26, nameIndex := 48, descriptorIndex := 25, attributes := #[] }, { accessFlags := 25, nameIndex := 277, descriptorIndex := 25, attributes := #[] }, { accessFlags := 25, nameIndex := 280, descriptorIndex := 25, attributes := #[] }, { accessFlags := 25, nameIndex := 282, descriptorIndex := 25, attributes := #[] }, { accessFlags := 25, nameIndex := 284, descriptorIndex := 25, attributes := #[] }, { accessFlags := 25, nameIndex := 286, descriptorIndex := 25, attributes := #[] }, { accessFlags := 25, nameIndex := 288, descriptorIndex := 25, attributes := #[] }, { accessFlags := 25, nameIndex := 290, descriptorIndex := 25, attributes := #[] }, { accessFlags := 25, nameIndex := 292, descriptorIndex := 25, attributes := #[] }, { accessFlags := 26, nameIndex := 108, descriptorIndex := 109, attributes := #[] }, { accessFlags := 25, nameIndex := 294, descriptorIndex := 25, attributes := #[] }])
  fields := #[{ name := "U", type := (.object "jdk/internal/misc/Unsafe"), accessFlags := 24, slot := 0, constantValue := 0 }, { name := "BIG_ENDIAN", type := .boolean, accessFlags := 26, slot := 1, constantValue := 0 }, { name := "LOG2_ARRAY_BOOLEAN_INDEX_SCALE", type := .int, accessFlags := 25, slot := 2, constantValue := 0 }, { name := "LOG2_ARRAY_BYTE_INDEX_SCALE", type := .int, accessFlags := 25, slot := 3, constantValue := 0 }, { name := "LOG2_ARRAY_CHAR_INDEX_SCALE", type := .int, accessFlags := 25, slot := 4, constantValue := 0 }, { name := "LOG2_ARRAY_SHORT_INDEX_SCALE", type := .int, accessFlags := 25, slot := 5, constantValue := 0 }, { name := "LOG2_ARRAY_INT_INDEX_SCALE", type := .int, accessFlags := 25, slot := 6, constantValue := 0 }, { name := "LOG2_ARRAY_LONG_INDEX_SCALE", type := .int, accessFlags := 25, slot := 7, constantValue := 0 }, { name := "LOG2_ARRAY_FLOAT_INDEX_SCALE", type := .int, accessFlags := 25, slot := 8, constantValue := 0 }, { name := "LOG2_ARRAY_DOUBLE_INDEX_SCALE", type := .int, accessFlags := 25, slot := 9, constantValue := 0 }, { name := "LOG2_BYTE_BIT_SIZE", type := .int, accessFlags := 26, slot := 10, constantValue := 0 }, { name := "T_BOOLEAN", type := .int, accessFlags := 25, slot := 11, constantValue := 0 }, { name := "T_CHAR", type := .int, accessFlags := 25, slot := 12, constantValue := 0 }, { name := "T_FLOAT", type := .int, accessFlags := 25, slot := 13, constantValue := 0 }, { name := "T_DOUBLE", type := .int, accessFlags := 25, slot := 14, constantValue := 0 }, { name := "T_BYTE", type := .int, accessFlags := 25, slot := 15, constantValue := 0 }, { name := "T_SHORT", type := .int, accessFlags := 25, slot := 16, constantValue := 0 }, { name := "T_INT", type := .int, accessFlags := 25, slot := 17, constantValue := 0 }, { name := "T_LONG", type := .int, accessFlags := 25, slot := 18, constantValue := 0 }, { name := "JLA", type := (.object "jdk/internal/access/JavaLangAccess"), accessFlags := 26, slot := 19, constantValue := 0 }, { name := "SOFT_MAX_ARRAY_LENGTH", type := .int, accessFlags := 25, slot := 20, constantValue := 0 }]
  methods := #[k25m0]
  instanceTypes := #[]
  staticTypes := #[(.object "jdk/internal/misc/Unsafe"), .boolean, .int, .int, .int, .int, .int, .int, .int, .int, .int, .int, .int, .int, .int, .int, .int, .int, .int, (.object "jdk/internal/access/JavaLangAccess"), .int]
  resolved := Array.replicate 378 none
  statics := none }

/-- the primitive byte -/
def k26 : Class := { plain "byte" none with kind := .primitive 'B', accessFlags := 0x411 }
/-- [B -/
def k27 : Class := { plain "[B" (some 0) with kind := .array 26 .byte, interfaces := #[22, 2], accessFlags := 1041 }

/-- the primitive char -/
def k28 : Class := { plain "char" none with kind := .primitive 'C', accessFlags := 0x411 }
/-- [C -/
def k29 : Class := { plain "[C" (some 0) with kind := .array 28 .char, interfaces := #[22, 2], accessFlags := 1041 }

/-- the primitive int -/
def k30 : Class := { plain "int" none with kind := .primitive 'I', accessFlags := 0x411 }
/-- [I -/
def k31 : Class := { plain "[I" (some 0) with kind := .array 30 .int, interfaces := #[22, 2], accessFlags := 1041 }

def heap : Heap := #[{ cls := 7, slots := #[.long 0, .int 1, .null, .int 0, .null, .int 0, .int 0], vm := .statics 7 },
  { cls := 16, slots := #[.null, .null, .ref 4, .null, .null, .null], vm := .statics 16 },
  { cls := 20, slots := #[.ref 4, .null], vm := .statics 20 },
  { cls := 23, slots := #[.null, .null, .null], vm := .statics 23 },
  { cls := 20, slots := #[.null, .null, .null], vm := .none }]
def classes : Array Class := #[k0, k1, k2, k3, k4, k5, k6, k7, k8, k9, k10, k11, k12, k13, k14, k15, k16, k17, k18, k19, k20, k21, k22, k23, k24, k25, k26, k27, k28, k29, k30, k31]
def interned : List (Array UInt16 × Addr) := []
def slotsUsed : Nat := 21
def theMethod : MethodId := ⟨1, 1⟩
def args0 : Array Value := #[.int 5, .int 6, .int 7, .int 8]
def aboutOver (below : List Frame) : State where
  vm := { classes := classes, interned := interned.toArray }
  heap := heap
  slotsUsed := slotsUsed
  threads := #[{ frames := .invoking theMethod args0 :: below }]
def below0 : List Frame := [.native { method := ⟨0, 0⟩, args := #[] }]
def about1 : State := aboutOver below0
def p0 : Program := .bare "" "" ""
def e0 : Env := launch0.env 0 0 0
theorem w_frames : about1.frames = Frame.invoking theMethod args0 :: below0 := rfl
set_option maxRecDepth 65536 in
theorem w_args : argsFit about1.vm theMethod args0 = true := by decide +kernel
set_option maxRecDepth 65536 in
theorem w_heap : heapFits about1 = true := by decide +kernel
set_option maxRecDepth 65536 in
theorem w_runnable : about1.curStatus? = some .runnable := by decide +kernel
set_option maxRecDepth 65536 in
theorem w_alone : about1.alone = true := by decide +kernel
set_option maxRecDepth 65536 in
theorem w_named : about1.methodNamed? x = some theMethod := by decide +kernel
set_option maxRecDepth 65536 in
theorem w_hears : about1.hears theMethod below0 = true := by decide +kernel
set_option maxRecDepth 65536 in
theorem w_ripe : about1.ripe theMethod args0 below0 = true := by decide +kernel
theorem w_running : about1.status = .running := rfl
set_option maxRecDepth 65536 in
theorem w_room : about1.hasRoom e0.platform room_1 = true :=
  launch0.hasRoom_least _ room_1 (by decide +kernel) (by decide +kernel) (by decide +kernel) (by decide +kernel) (by decide +kernel) (by decide +kernel)
theorem allAtoms_all (ts : List Jvm.Cond) (a : Array Jvm.Value) (st : Jvm.State) : (allAtoms ts).before a st = ts.all (fun c => c.before a st) := by
  induction ts with
  | nil => rfl
  | cons c t ih =>
    show (Jvm.Cond.and c (allAtoms t)).before a st = _
    rw [Jvm.Cond.before_and, ih, List.all_cons]
def words1 : List Jvm.Cond := Jvm.Cond.code x code maxLocals ret :: tables_1
/-- a 'code' word, met by the world's own term for the bytes: nothing is compared byte by byte -/
theorem code_word {y : MethodName} {bytes : ByteArray} {mx : Nat} {rt : Option FieldType} {a : Array Value} {s : State} {m : MethodId} {meth : Method} {c : Code} (h1 : s.methodNamed? y = some m) (h2 : s.vm.method? m = some meth) (h3 : meth.code = some c) (h4 : c.code = bytes)
    (h5 : (c.maxLocals == mx && c.exceptionTable.isEmpty && decide (c.maxStack ≤ mostOperands) && decide (meth.sig.returnType = rt) && !meth.locks && decide (parseMethodDescriptor y.desc = some meth.sig)) = true) : (Jvm.Cond.code y bytes mx rt).before a s = true := by
  simp only [Bool.and_eq_true, beq_iff_eq, Bool.not_eq_true', decide_eq_true_eq] at h5
  obtain ⟨⟨⟨⟨⟨g1, g2⟩, g3⟩, g4⟩, g5⟩, g6⟩ := h5
  simp [Cond.before, Cond.holds, Cond.value, h1, h2, h3, h4, g1, g2, g3, g4, g5, g6]
def isCode : Jvm.Cond → Bool
  | .code _ _ _ _ => true
  | _ => false
theorem all_split {L : List Jvm.Cond} {P : Jvm.Cond → Bool} (h1 : L.all (fun c => isCode c || P c) = true) (h2 : ∀ c ∈ L.filter isCode, P c = true) : L.all P = true := by
  refine List.all_eq_true.mpr fun c hc => ?_
  have h := List.all_eq_true.mp h1 c hc
  rcases Bool.eq_false_or_eq_true (isCode c) with hi | hi
  · exact h2 c (List.mem_filter.mpr ⟨hc, hi⟩)
  · simpa [hi] using h
set_option maxRecDepth 65536 in
theorem w_c0 : (Jvm.Cond.code x code maxLocals ret).before args0 about1 = true := code_word (m := ⟨1, 1⟩) (meth := k1m1) (c := k1c1) (by decide +kernel) rfl rfl rfl (by decide +kernel)
set_option maxRecDepth 65536 in
theorem w_c1 : (Jvm.Cond.code ({ cls := "java/lang/String", name := "<init>", desc := "([C)V" } : Jvm.MethodName) jdk_42_method_3_code (2 : Nat) (Option.none : Option Jvm.ClassFile.FieldType)).before args0 about1 = true := code_word (m := ⟨7, 1⟩) (meth := k7m1) (c := k7c1) (by decide +kernel) rfl rfl rfl (by decide +kernel)
set_option maxRecDepth 65536 in
theorem w_c2 : (Jvm.Cond.code ({ cls := "java/lang/String", name := "<init>", desc := "([CIILjava/lang/Void;)V" } : Jvm.MethodName) jdk_42_method_149_code (6 : Nat) (Option.none : Option Jvm.ClassFile.FieldType)).before args0 about1 = true := code_word (m := ⟨7, 9⟩) (meth := k7m9) (c := k7c9) (by decide +kernel) rfl rfl rfl (by decide +kernel)
set_option maxRecDepth 65536 in
theorem w_c3 : (Jvm.Cond.code ({ cls := "java/lang/Object", name := "<init>", desc := "()V" } : Jvm.MethodName) object_method_1_code (1 : Nat) (Option.none : Option Jvm.ClassFile.FieldType)).before args0 about1 = true := code_word (m := ⟨0, 0⟩) (meth := k0m0) (c := k0c0) (by decide +kernel) rfl rfl rfl (by decide +kernel)
set_option maxRecDepth 65536 in
theorem w_c4 : (Jvm.Cond.code ({ cls := "com/example/scholion/scholion/http/Html", name := "<init>", desc := "()V" } : Jvm.MethodName) prog_12_method_1_code (1 : Nat) (Option.none : Option Jvm.ClassFile.FieldType)).before args0 about1 = true := code_word (m := ⟨8, 0⟩) (meth := k8m0) (c := k8c0) (by decide +kernel) rfl rfl rfl (by decide +kernel)
set_option maxRecDepth 65536 in
theorem w_c5 : (Jvm.Cond.code ({ cls := "java/lang/StringBuilder", name := "<init>", desc := "(Ljava/lang/String;)V" } : Jvm.MethodName) jdk_67_method_3_code (2 : Nat) (Option.none : Option Jvm.ClassFile.FieldType)).before args0 about1 = true := code_word (m := ⟨11, 1⟩) (meth := k11m1) (c := k11c1) (by decide +kernel) rfl rfl rfl (by decide +kernel)
set_option maxRecDepth 65536 in
theorem w_c6 : (Jvm.Cond.code ({ cls := "java/lang/AbstractStringBuilder", name := "<init>", desc := "(Ljava/lang/String;)V" } : Jvm.MethodName) jdk_68_method_3_code (5 : Nat) (Option.none : Option Jvm.ClassFile.FieldType)).before args0 about1 = true := code_word (m := ⟨10, 1⟩) (meth := k10m1) (c := k10c1) (by decide +kernel) rfl rfl rfl (by decide +kernel)
set_option maxRecDepth 65536 in
theorem w_c7 : (Jvm.Cond.code ({ cls := "java/lang/String", name := "length", desc := "()I" } : Jvm.MethodName) jdk_42_method_54_code (1 : Nat) (Option.some Jvm.ClassFile.FieldType.int)).before args0 about1 = true := code_word (m := ⟨7, 5⟩) (meth := k7m5) (c := k7c5) (by decide +kernel) rfl rfl rfl (by decide +kernel)
set_option maxRecDepth 65536 in
theorem w_c8 : (Jvm.Cond.code ({ cls := "java/lang/String", name := "coder", desc := "()B" } : Jvm.MethodName) jdk_42_method_152_code (1 : Nat) (Option.some Jvm.ClassFile.FieldType.byte)).before args0 about1 = true := code_word (m := ⟨7, 11⟩) (meth := k7m11) (c := k7c11) (by decide +kernel) rfl rfl rfl (by decide +kernel)
set_option maxRecDepth 65536 in
theorem w_c9 : (Jvm.Cond.code ({ cls := "java/lang/StringBuilder", name := "append", desc := "(Ljava/lang/String;)Ljava/lang/AbstractStringBuilder;" } : Jvm.MethodName) jdk_67_method_80_code (2 : Nat) (Option.some (Jvm.ClassFile.FieldType.object "java/lang/AbstractStringBuilder"))).before args0 about1 = true := code_word (m := ⟨11, 5⟩) (meth := k11m5) (c := k11c5) (by decide +kernel) rfl rfl rfl (by decide +kernel)
set_option maxRecDepth 65536 in
theorem w_c10 : (Jvm.Cond.code ({ cls := "java/lang/StringBuilder", name := "append", desc := "(Ljava/lang/String;)Ljava/lang/StringBuilder;" } : Jvm.MethodName) jdk_67_method_7_code (2 : Nat) (Option.some (Jvm.ClassFile.FieldType.object "java/lang/StringBuilder"))).before args0 about1 = true := code_word (m := ⟨11, 2⟩) (meth := k11m2) (c := k11c2) (by decide +kernel) rfl rfl rfl (by decide +kernel)
set_option maxRecDepth 65536 in
theorem w_c11 : (Jvm.Cond.code ({ cls := "java/lang/AbstractStringBuilder", name := "append", desc := "(Ljava/lang/String;)Ljava/lang/AbstractStringBuilder;" } : Jvm.MethodName) jdk_68_method_22_code (3 : Nat) (Option.some (Jvm.ClassFile.FieldType.object "java/lang/AbstractStringBuilder"))).before args0 about1 = true := code_word (m := ⟨10, 4⟩) (meth := k10m4) (c := k10c4) (by decide +kernel) rfl rfl rfl (by decide +kernel)
set_option maxRecDepth 65536 in
theorem w_c12 : (Jvm.Cond.code ({ cls := "java/lang/AbstractStringBuilder", name := "ensureCapacityInternal", desc := "(I)V" } : Jvm.MethodName) jdk_68_method_9_code (3 : Nat) (Option.none : Option Jvm.ClassFile.FieldType)).before args0 about1 = true := code_word (m := ⟨10, 3⟩) (meth := k10m3) (c := k10c3) (by decide +kernel) rfl rfl rfl (by decide +kernel)
set_option maxRecDepth 65536 in
theorem w_c13 : (Jvm.Cond.code ({ cls := "java/lang/AbstractStringBuilder", name := "putStringAt", desc := "(ILjava/lang/String;)V" } : Jvm.MethodName) jdk_68_method_73_code (3 : Nat) (Option.none : Option Jvm.ClassFile.FieldType)).before args0 about1 = true := code_word (m := ⟨10, 9⟩) (meth := k10m9) (c := k10c9) (by decide +kernel) rfl rfl rfl (by decide +kernel)
set_option maxRecDepth 65536 in
theorem w_c14 : (Jvm.Cond.code ({ cls := "java/lang/AbstractStringBuilder", name := "inflateIfNeededFor", desc := "(Ljava/lang/String;)V" } : Jvm.MethodName) jdk_68_method_71_code (2 : Nat) (Option.none : Option Jvm.ClassFile.FieldType)).before args0 about1 = true := code_word (m := ⟨10, 8⟩) (meth := k10m8) (c := k10c8) (by decide +kernel) rfl rfl rfl (by decide +kernel)
set_option maxRecDepth 65536 in
theorem w_c15 : (Jvm.Cond.code ({ cls := "java/lang/String", name := "getBytes", desc := "([BIB)V" } : Jvm.MethodName) jdk_42_method_147_code (4 : Nat) (Option.none : Option Jvm.ClassFile.FieldType)).before args0 about1 = true := code_word (m := ⟨7, 8⟩) (meth := k7m8) (c := k7c8) (by decide +kernel) rfl rfl rfl (by decide +kernel)
set_option maxRecDepth 65536 in
theorem w_c16 : (Jvm.Cond.code ({ cls := "com/example/scholion/scholion/http/Html", name := "close", desc := "(Ljava/lang/String;)Lcom/example/scholion/scholion/http/Html;" } : Jvm.MethodName) prog_12_method_3_code (2 : Nat) (Option.some (Jvm.ClassFile.FieldType.object "com/example/scholion/scholion/http/Html"))).before args0 about1 = true := code_word (m := ⟨8, 1⟩) (meth := k8m1) (c := k8c1) (by decide +kernel) rfl rfl rfl (by decide +kernel)
set_option maxRecDepth 65536 in
theorem w_c17 : (Jvm.Cond.code ({ cls := "java/lang/StringBuilder", name := "append", desc := "(C)Ljava/lang/StringBuilder;" } : Jvm.MethodName) jdk_67_method_14_code (2 : Nat) (Option.some (Jvm.ClassFile.FieldType.object "java/lang/StringBuilder"))).before args0 about1 = true := code_word (m := ⟨11, 3⟩) (meth := k11m3) (c := k11c3) (by decide +kernel) rfl rfl rfl (by decide +kernel)
set_option maxRecDepth 65536 in
theorem w_c18 : (Jvm.Cond.code ({ cls := "java/lang/AbstractStringBuilder", name := "append", desc := "(C)Ljava/lang/AbstractStringBuilder;" } : Jvm.MethodName) jdk_68_method_31_code (2 : Nat) (Option.some (Jvm.ClassFile.FieldType.object "java/lang/AbstractStringBuilder"))).before args0 about1 = true := code_word (m := ⟨10, 5⟩) (meth := k10m5) (c := k10c5) (by decide +kernel) rfl rfl rfl (by decide +kernel)
set_option maxRecDepth 65536 in
theorem w_c19 : (Jvm.Cond.code ({ cls := "java/lang/AbstractStringBuilder", name := "isLatin1", desc := "()Z" } : Jvm.MethodName) jdk_68_method_68_code (1 : Nat) (Option.some Jvm.ClassFile.FieldType.boolean)).before args0 about1 = true := code_word (m := ⟨10, 7⟩) (meth := k10m7) (c := k10c7) (by decide +kernel) rfl rfl rfl (by decide +kernel)
set_option maxRecDepth 65536 in
theorem w_c20 : (Jvm.Cond.code ({ cls := "java/lang/StringLatin1", name := "canEncode", desc := "(C)Z" } : Jvm.MethodName) jdk_43_method_3_code (1 : Nat) (Option.some Jvm.ClassFile.FieldType.boolean)).before args0 about1 = true := code_word (m := ⟨13, 2⟩) (meth := k13m2) (c := k13c2) (by decide +kernel) rfl rfl rfl (by decide +kernel)
set_option maxRecDepth 65536 in
theorem w_c21 : (Jvm.Cond.code ({ cls := "com/example/scholion/scholion/http/Html", name := "bytes", desc := "()[B" } : Jvm.MethodName) prog_12_method_7_code (1 : Nat) (Option.some (Jvm.ClassFile.FieldType.array Jvm.ClassFile.FieldType.byte))).before args0 about1 = true := code_word (m := ⟨8, 2⟩) (meth := k8m2) (c := k8c2) (by decide +kernel) rfl rfl rfl (by decide +kernel)
set_option maxRecDepth 65536 in
theorem w_c22 : (Jvm.Cond.code ({ cls := "java/lang/StringBuilder", name := "toString", desc := "()Ljava/lang/String;" } : Jvm.MethodName) jdk_67_method_42_code (1 : Nat) (Option.some (Jvm.ClassFile.FieldType.object "java/lang/String"))).before args0 about1 = true := code_word (m := ⟨11, 4⟩) (meth := k11m4) (c := k11c4) (by decide +kernel) rfl rfl rfl (by decide +kernel)
set_option maxRecDepth 65536 in
theorem w_c23 : (Jvm.Cond.code ({ cls := "java/lang/String", name := "<init>", desc := "(Ljava/lang/StringBuilder;)V" } : Jvm.MethodName) jdk_42_method_53_code (2 : Nat) (Option.none : Option Jvm.ClassFile.FieldType)).before args0 about1 = true := code_word (m := ⟨7, 4⟩) (meth := k7m4) (c := k7c4) (by decide +kernel) rfl rfl rfl (by decide +kernel)
set_option maxRecDepth 65536 in
theorem w_c24 : (Jvm.Cond.code ({ cls := "java/lang/String", name := "<init>", desc := "(Ljava/lang/AbstractStringBuilder;Ljava/lang/Void;)V" } : Jvm.MethodName) jdk_42_method_150_code (5 : Nat) (Option.none : Option Jvm.ClassFile.FieldType)).before args0 about1 = true := code_word (m := ⟨7, 10⟩) (meth := k7m10) (c := k7c10) (by decide +kernel) rfl rfl rfl (by decide +kernel)
set_option maxRecDepth 65536 in
theorem w_c25 : (Jvm.Cond.code ({ cls := "java/lang/AbstractStringBuilder", name := "getValue", desc := "()[B" } : Jvm.MethodName) jdk_68_method_64_code (1 : Nat) (Option.some (Jvm.ClassFile.FieldType.array Jvm.ClassFile.FieldType.byte))).before args0 about1 = true := code_word (m := ⟨10, 6⟩) (meth := k10m6) (c := k10c6) (by decide +kernel) rfl rfl rfl (by decide +kernel)
set_option maxRecDepth 65536 in
theorem w_c26 : (Jvm.Cond.code ({ cls := "java/lang/StringBuilder", name := "length", desc := "()I" } : Jvm.MethodName) jdk_67_method_93_code (1 : Nat) (Option.some Jvm.ClassFile.FieldType.int)).before args0 about1 = true := code_word (m := ⟨11, 6⟩) (meth := k11m6) (c := k11c6) (by decide +kernel) rfl rfl rfl (by decide +kernel)
set_option maxRecDepth 65536 in
theorem w_c27 : (Jvm.Cond.code ({ cls := "java/lang/AbstractStringBuilder", name := "length", desc := "()I" } : Jvm.MethodName) jdk_68_method_6_code (1 : Nat) (Option.some Jvm.ClassFile.FieldType.int)).before args0 about1 = true := code_word (m := ⟨10, 2⟩) (meth := k10m2) (c := k10c2) (by decide +kernel) rfl rfl rfl (by decide +kernel)
set_option maxRecDepth 65536 in
theorem w_c28 : (Jvm.Cond.code ({ cls := "java/util/Arrays", name := "copyOfRange", desc := "([BII)[B" } : Jvm.MethodName) jdk_65_method_132_code (3 : Nat) (Option.some (Jvm.ClassFile.FieldType.array Jvm.ClassFile.FieldType.byte))).before args0 about1 = true := code_word (m := ⟨14, 2⟩) (meth := k14m2) (c := k14c2) (by decide +kernel) rfl rfl rfl (by decide +kernel)
set_option maxRecDepth 65536 in
theorem w_c29 : (Jvm.Cond.code ({ cls := "java/util/Arrays", name := "copyOfRangeByte", desc := "([BII)[B" } : Jvm.MethodName) jdk_65_method_133_code (5 : Nat) (Option.some (Jvm.ClassFile.FieldType.array Jvm.ClassFile.FieldType.byte))).before args0 about1 = true := code_word (m := ⟨14, 3⟩) (meth := k14m3) (c := k14c3) (by decide +kernel) rfl rfl rfl (by decide +kernel)
set_option maxRecDepth 65536 in
theorem w_c30 : (Jvm.Cond.code ({ cls := "java/util/Arrays", name := "checkLength", desc := "(II)V" } : Jvm.MethodName) jdk_65_method_131_code (2 : Nat) (Option.none : Option Jvm.ClassFile.FieldType)).before args0 about1 = true := code_word (m := ⟨14, 1⟩) (meth := k14m1) (c := k14c1) (by decide +kernel) rfl rfl rfl (by decide +kernel)
set_option maxRecDepth 65536 in
theorem w_c31 : (Jvm.Cond.code ({ cls := "java/lang/Math", name := "min", desc := "(II)I" } : Jvm.MethodName) jdk_29_method_69_code (2 : Nat) (Option.some Jvm.ClassFile.FieldType.int)).before args0 about1 = true := code_word (m := ⟨15, 1⟩) (meth := k15m1) (c := k15c1) (by decide +kernel) rfl rfl rfl (by decide +kernel)
set_option maxRecDepth 65536 in
theorem w_c32 : (Jvm.Cond.code ({ cls := "java/lang/String", name := "getBytes", desc := "(Ljava/nio/charset/Charset;)[B" } : Jvm.MethodName) jdk_42_method_64_code (2 : Nat) (Option.some (Jvm.ClassFile.FieldType.array Jvm.ClassFile.FieldType.byte))).before args0 about1 = true := code_word (m := ⟨7, 7⟩) (meth := k7m7) (c := k7c7) (by decide +kernel) rfl rfl rfl (by decide +kernel)
set_option maxRecDepth 65536 in
theorem w_c33 : (Jvm.Cond.code ({ cls := "java/lang/String", name := "encode", desc := "(Ljava/nio/charset/Charset;B[B)[B" } : Jvm.MethodName) jdk_42_method_18_code (3 : Nat) (Option.some (Jvm.ClassFile.FieldType.array Jvm.ClassFile.FieldType.byte))).before args0 about1 = true := code_word (m := ⟨7, 2⟩) (meth := k7m2) (c := k7c2) (by decide +kernel) rfl rfl rfl (by decide +kernel)
set_option maxRecDepth 65536 in
theorem w_c34 : (Jvm.Cond.code ({ cls := "java/lang/String", name := "encodeUTF8", desc := "(B[BZ)[B" } : Jvm.MethodName) jdk_42_method_46_code (9 : Nat) (Option.some (Jvm.ClassFile.FieldType.array Jvm.ClassFile.FieldType.byte))).before args0 about1 = true := code_word (m := ⟨7, 3⟩) (meth := k7m3) (c := k7c3) (by decide +kernel) rfl rfl rfl (by decide +kernel)
set_option maxRecDepth 65536 in
theorem w_c35 : (Jvm.Cond.code ({ cls := "java/lang/StringCoding", name := "hasNegatives", desc := "([BII)Z" } : Jvm.MethodName) jdk_123_method_2_code (3 : Nat) (Option.some Jvm.ClassFile.FieldType.boolean)).before args0 about1 = true := code_word (m := ⟨21, 1⟩) (meth := k21m1) (c := k21c1) (by decide +kernel) rfl rfl rfl (by decide +kernel)
set_option maxRecDepth 65536 in
theorem w_c36 : (Jvm.Cond.code ({ cls := "java/lang/StringCoding", name := "countPositives", desc := "([BII)I" } : Jvm.MethodName) jdk_123_method_3_code (5 : Nat) (Option.some Jvm.ClassFile.FieldType.int)).before args0 about1 = true := code_word (m := ⟨21, 2⟩) (meth := k21m2) (c := k21c2) (by decide +kernel) rfl rfl rfl (by decide +kernel)
set_option maxRecDepth 65536 in
theorem w_c37 : (Jvm.Cond.code ({ cls := "com/example/scholion/scholion/http/HtmlClosePinLaw", name := "head", desc := "([B)Z" } : Jvm.MethodName) method_3_code (2 : Nat) (Option.some Jvm.ClassFile.FieldType.boolean)).before args0 about1 = true := code_word (m := ⟨1, 2⟩) (meth := k1m2) (c := k1c2) (by decide +kernel) rfl rfl rfl (by decide +kernel)
set_option maxRecDepth 65536 in
theorem w_c38 : (Jvm.Cond.code ({ cls := "java/lang/String", name := "charAt", desc := "(I)C" } : Jvm.MethodName) jdk_42_method_56_code (2 : Nat) (Option.some Jvm.ClassFile.FieldType.char)).before args0 about1 = true := code_word (m := ⟨7, 6⟩) (meth := k7m6) (c := k7c6) (by decide +kernel) rfl rfl rfl (by decide +kernel)
set_option maxRecDepth 65536 in
theorem w_c39 : (Jvm.Cond.code ({ cls := "java/lang/String", name := "isLatin1", desc := "()Z" } : Jvm.MethodName) jdk_42_method_154_code (1 : Nat) (Option.some Jvm.ClassFile.FieldType.boolean)).before args0 about1 = true := code_word (m := ⟨7, 12⟩) (meth := k7m12) (c := k7c12) (by decide +kernel) rfl rfl rfl (by decide +kernel)
set_option maxRecDepth 65536 in
theorem w_c40 : (Jvm.Cond.code ({ cls := "java/lang/StringLatin1", name := "charAt", desc := "([BI)C" } : Jvm.MethodName) jdk_43_method_2_code (2 : Nat) (Option.some Jvm.ClassFile.FieldType.char)).before args0 about1 = true := code_word (m := ⟨13, 1⟩) (meth := k13m1) (c := k13c1) (by decide +kernel) rfl rfl rfl (by decide +kernel)
set_option maxRecDepth 65536 in
theorem w_c41 : (Jvm.Cond.code ({ cls := "java/lang/String", name := "checkIndex", desc := "(II)V" } : Jvm.MethodName) jdk_42_method_155_code (2 : Nat) (Option.none : Option Jvm.ClassFile.FieldType)).before args0 about1 = true := code_word (m := ⟨7, 13⟩) (meth := k7m13) (c := k7c13) (by decide +kernel) rfl rfl rfl (by decide +kernel)
set_option maxRecDepth 65536 in
theorem w_c42 : (Jvm.Cond.code ({ cls := "jdk/internal/util/Preconditions", name := "checkIndex", desc := "(IILjava/util/function/BiFunction;)I" } : Jvm.MethodName) jdk_41_method_11_code (3 : Nat) (Option.some Jvm.ClassFile.FieldType.int)).before args0 about1 = true := code_word (m := ⟨23, 1⟩) (meth := k23m1) (c := k23c1) (by decide +kernel) rfl rfl rfl (by decide +kernel)
set_option maxRecDepth 65536 in
theorem w_c43 : (Jvm.Cond.code ({ cls := "java/lang/StringUTF16", name := "compress", desc := "([CII)[B" } : Jvm.MethodName) jdk_52_method_16_code (6 : Nat) (Option.some (Jvm.ClassFile.FieldType.array Jvm.ClassFile.FieldType.byte))).before args0 about1 = true := code_word (m := ⟨24, 2⟩) (meth := k24m2) (c := k24c2) (by decide +kernel) rfl rfl rfl (by decide +kernel)
set_option maxRecDepth 65536 in
theorem w_c44 : (Jvm.Cond.code ({ cls := "java/lang/StringUTF16", name := "compress", desc := "([CI[BII)I" } : Jvm.MethodName) jdk_52_method_21_code (7 : Nat) (Option.some Jvm.ClassFile.FieldType.int)).before args0 about1 = true := code_word (m := ⟨24, 3⟩) (meth := k24m3) (c := k24c3) (by decide +kernel) rfl rfl rfl (by decide +kernel)
set_option maxRecDepth 65536 in
theorem w_c45 : (Jvm.Cond.code ({ cls := "java/lang/StringUTF16", name := "coderFromArrayLen", desc := "([BI)B" } : Jvm.MethodName) jdk_52_method_15_code (2 : Nat) (Option.some Jvm.ClassFile.FieldType.byte)).before args0 about1 = true := code_word (m := ⟨24, 1⟩) (meth := k24m1) (c := k24c1) (by decide +kernel) rfl rfl rfl (by decide +kernel)
def codes1 : List Jvm.Cond := [Jvm.Cond.code x code maxLocals ret, Jvm.Cond.code ({ cls := "java/lang/String", name := "<init>", desc := "([C)V" } : Jvm.MethodName) jdk_42_method_3_code (2 : Nat) (Option.none : Option Jvm.ClassFile.FieldType), Jvm.Cond.code ({ cls := "java/lang/String", name := "<init>", desc := "([CIILjava/lang/Void;)V" } : Jvm.MethodName) jdk_42_method_149_code (6 : Nat) (Option.none : Option Jvm.ClassFile.FieldType), Jvm.Cond.code ({ cls := "java/lang/Object", name := "<init>", desc := "()V" } : Jvm.MethodName) object_method_1_code (1 : Nat) (Option.none : Option Jvm.ClassFile.FieldType), Jvm.Cond.code ({ cls := "com/example/scholion/scholion/http/Html", name := "<init>", desc := "()V" } : Jvm.MethodName) prog_12_method_1_code (1 : Nat) (Option.none : Option Jvm.ClassFile.FieldType), Jvm.Cond.code ({ cls := "java/lang/StringBuilder", name := "<init>", desc := "(Ljava/lang/String;)V" } : Jvm.MethodName) jdk_67_method_3_code (2 : Nat) (Option.none : Option Jvm.ClassFile.FieldType), Jvm.Cond.code ({ cls := "java/lang/AbstractStringBuilder", name := "<init>", desc := "(Ljava/lang/String;)V" } : Jvm.MethodName) jdk_68_method_3_code (5 : Nat) (Option.none : Option Jvm.ClassFile.FieldType), Jvm.Cond.code ({ cls := "java/lang/String", name := "length", desc := "()I" } : Jvm.MethodName) jdk_42_method_54_code (1 : Nat) (Option.some Jvm.ClassFile.FieldType.int), Jvm.Cond.code ({ cls := "java/lang/String", name := "coder", desc := "()B" } : Jvm.MethodName) jdk_42_method_152_code (1 : Nat) (Option.some Jvm.ClassFile.FieldType.byte), Jvm.Cond.code ({ cls := "java/lang/StringBuilder", name := "append", desc := "(Ljava/lang/String;)Ljava/lang/AbstractStringBuilder;" } : Jvm.MethodName) jdk_67_method_80_code (2 : Nat) (Option.some (Jvm.ClassFile.FieldType.object "java/lang/AbstractStringBuilder")), Jvm.Cond.code ({ cls := "java/lang/StringBuilder", name := "append", desc := "(Ljava/lang/String;)Ljava/lang/StringBuilder;" } : Jvm.MethodName) jdk_67_method_7_code (2 : Nat) (Option.some (Jvm.ClassFile.FieldType.object "java/lang/StringBuilder")), Jvm.Cond.code ({ cls := "java/lang/AbstractStringBuilder", name := "append", desc := "(Ljava/lang/String;)Ljava/lang/AbstractStringBuilder;" } : Jvm.MethodName) jdk_68_method_22_code (3 : Nat) (Option.some (Jvm.ClassFile.FieldType.object "java/lang/AbstractStringBuilder")), Jvm.Cond.code ({ cls := "java/lang/AbstractStringBuilder", name := "ensureCapacityInternal", desc := "(I)V" } : Jvm.MethodName) jdk_68_method_9_code (3 : Nat) (Option.none : Option Jvm.ClassFile.FieldType), Jvm.Cond.code ({ cls := "java/lang/AbstractStringBuilder", name := "putStringAt", desc := "(ILjava/lang/String;)V" } : Jvm.MethodName) jdk_68_method_73_code (3 : Nat) (Option.none : Option Jvm.ClassFile.FieldType), Jvm.Cond.code ({ cls := "java/lang/AbstractStringBuilder", name := "inflateIfNeededFor", desc := "(Ljava/lang/String;)V" } : Jvm.MethodName) jdk_68_method_71_code (2 : Nat) (Option.none : Option Jvm.ClassFile.FieldType), Jvm.Cond.code ({ cls := "java/lang/String", name := "getBytes", desc := "([BIB)V" } : Jvm.MethodName) jdk_42_method_147_code (4 : Nat) (Option.none : Option Jvm.ClassFile.FieldType), Jvm.Cond.code ({ cls := "com/example/scholion/scholion/http/Html", name := "close", desc := "(Ljava/lang/String;)Lcom/example/scholion/scholion/http/Html;" } : Jvm.MethodName) prog_12_method_3_code (2 : Nat) (Option.some (Jvm.ClassFile.FieldType.object "com/example/scholion/scholion/http/Html")), Jvm.Cond.code ({ cls := "java/lang/StringBuilder", name := "append", desc := "(C)Ljava/lang/StringBuilder;" } : Jvm.MethodName) jdk_67_method_14_code (2 : Nat) (Option.some (Jvm.ClassFile.FieldType.object "java/lang/StringBuilder")), Jvm.Cond.code ({ cls := "java/lang/AbstractStringBuilder", name := "append", desc := "(C)Ljava/lang/AbstractStringBuilder;" } : Jvm.MethodName) jdk_68_method_31_code (2 : Nat) (Option.some (Jvm.ClassFile.FieldType.object "java/lang/AbstractStringBuilder")), Jvm.Cond.code ({ cls := "java/lang/AbstractStringBuilder", name := "isLatin1", desc := "()Z" } : Jvm.MethodName) jdk_68_method_68_code (1 : Nat) (Option.some Jvm.ClassFile.FieldType.boolean), Jvm.Cond.code ({ cls := "java/lang/StringLatin1", name := "canEncode", desc := "(C)Z" } : Jvm.MethodName) jdk_43_method_3_code (1 : Nat) (Option.some Jvm.ClassFile.FieldType.boolean), Jvm.Cond.code ({ cls := "com/example/scholion/scholion/http/Html", name := "bytes", desc := "()[B" } : Jvm.MethodName) prog_12_method_7_code (1 : Nat) (Option.some (Jvm.ClassFile.FieldType.array Jvm.ClassFile.FieldType.byte)), Jvm.Cond.code ({ cls := "java/lang/StringBuilder", name := "toString", desc := "()Ljava/lang/String;" } : Jvm.MethodName) jdk_67_method_42_code (1 : Nat) (Option.some (Jvm.ClassFile.FieldType.object "java/lang/String")), Jvm.Cond.code ({ cls := "java/lang/String", name := "<init>", desc := "(Ljava/lang/StringBuilder;)V" } : Jvm.MethodName) jdk_42_method_53_code (2 : Nat) (Option.none : Option Jvm.ClassFile.FieldType), Jvm.Cond.code ({ cls := "java/lang/String", name := "<init>", desc := "(Ljava/lang/AbstractStringBuilder;Ljava/lang/Void;)V" } : Jvm.MethodName) jdk_42_method_150_code (5 : Nat) (Option.none : Option Jvm.ClassFile.FieldType), Jvm.Cond.code ({ cls := "java/lang/AbstractStringBuilder", name := "getValue", desc := "()[B" } : Jvm.MethodName) jdk_68_method_64_code (1 : Nat) (Option.some (Jvm.ClassFile.FieldType.array Jvm.ClassFile.FieldType.byte)), Jvm.Cond.code ({ cls := "java/lang/StringBuilder", name := "length", desc := "()I" } : Jvm.MethodName) jdk_67_method_93_code (1 : Nat) (Option.some Jvm.ClassFile.FieldType.int), Jvm.Cond.code ({ cls := "java/lang/AbstractStringBuilder", name := "length", desc := "()I" } : Jvm.MethodName) jdk_68_method_6_code (1 : Nat) (Option.some Jvm.ClassFile.FieldType.int), Jvm.Cond.code ({ cls := "java/util/Arrays", name := "copyOfRange", desc := "([BII)[B" } : Jvm.MethodName) jdk_65_method_132_code (3 : Nat) (Option.some (Jvm.ClassFile.FieldType.array Jvm.ClassFile.FieldType.byte)), Jvm.Cond.code ({ cls := "java/util/Arrays", name := "copyOfRangeByte", desc := "([BII)[B" } : Jvm.MethodName) jdk_65_method_133_code (5 : Nat) (Option.some (Jvm.ClassFile.FieldType.array Jvm.ClassFile.FieldType.byte)), Jvm.Cond.code ({ cls := "java/util/Arrays", name := "checkLength", desc := "(II)V" } : Jvm.MethodName) jdk_65_method_131_code (2 : Nat) (Option.none : Option Jvm.ClassFile.FieldType), Jvm.Cond.code ({ cls := "java/lang/Math", name := "min", desc := "(II)I" } : Jvm.MethodName) jdk_29_method_69_code (2 : Nat) (Option.some Jvm.ClassFile.FieldType.int), Jvm.Cond.code ({ cls := "java/lang/String", name := "getBytes", desc := "(Ljava/nio/charset/Charset;)[B" } : Jvm.MethodName) jdk_42_method_64_code (2 : Nat) (Option.some (Jvm.ClassFile.FieldType.array Jvm.ClassFile.FieldType.byte)), Jvm.Cond.code ({ cls := "java/lang/String", name := "encode", desc := "(Ljava/nio/charset/Charset;B[B)[B" } : Jvm.MethodName) jdk_42_method_18_code (3 : Nat) (Option.some (Jvm.ClassFile.FieldType.array Jvm.ClassFile.FieldType.byte)), Jvm.Cond.code ({ cls := "java/lang/String", name := "encodeUTF8", desc := "(B[BZ)[B" } : Jvm.MethodName) jdk_42_method_46_code (9 : Nat) (Option.some (Jvm.ClassFile.FieldType.array Jvm.ClassFile.FieldType.byte)), Jvm.Cond.code ({ cls := "java/lang/StringCoding", name := "hasNegatives", desc := "([BII)Z" } : Jvm.MethodName) jdk_123_method_2_code (3 : Nat) (Option.some Jvm.ClassFile.FieldType.boolean), Jvm.Cond.code ({ cls := "java/lang/StringCoding", name := "countPositives", desc := "([BII)I" } : Jvm.MethodName) jdk_123_method_3_code (5 : Nat) (Option.some Jvm.ClassFile.FieldType.int), Jvm.Cond.code ({ cls := "com/example/scholion/scholion/http/HtmlClosePinLaw", name := "head", desc := "([B)Z" } : Jvm.MethodName) method_3_code (2 : Nat) (Option.some Jvm.ClassFile.FieldType.boolean), Jvm.Cond.code ({ cls := "java/lang/String", name := "charAt", desc := "(I)C" } : Jvm.MethodName) jdk_42_method_56_code (2 : Nat) (Option.some Jvm.ClassFile.FieldType.char), Jvm.Cond.code ({ cls := "java/lang/String", name := "isLatin1", desc := "()Z" } : Jvm.MethodName) jdk_42_method_154_code (1 : Nat) (Option.some Jvm.ClassFile.FieldType.boolean), Jvm.Cond.code ({ cls := "java/lang/StringLatin1", name := "charAt", desc := "([BI)C" } : Jvm.MethodName) jdk_43_method_2_code (2 : Nat) (Option.some Jvm.ClassFile.FieldType.char), Jvm.Cond.code ({ cls := "java/lang/String", name := "checkIndex", desc := "(II)V" } : Jvm.MethodName) jdk_42_method_155_code (2 : Nat) (Option.none : Option Jvm.ClassFile.FieldType), Jvm.Cond.code ({ cls := "jdk/internal/util/Preconditions", name := "checkIndex", desc := "(IILjava/util/function/BiFunction;)I" } : Jvm.MethodName) jdk_41_method_11_code (3 : Nat) (Option.some Jvm.ClassFile.FieldType.int), Jvm.Cond.code ({ cls := "java/lang/StringUTF16", name := "compress", desc := "([CII)[B" } : Jvm.MethodName) jdk_52_method_16_code (6 : Nat) (Option.some (Jvm.ClassFile.FieldType.array Jvm.ClassFile.FieldType.byte)), Jvm.Cond.code ({ cls := "java/lang/StringUTF16", name := "compress", desc := "([CI[BII)I" } : Jvm.MethodName) jdk_52_method_21_code (7 : Nat) (Option.some Jvm.ClassFile.FieldType.int), Jvm.Cond.code ({ cls := "java/lang/StringUTF16", name := "coderFromArrayLen", desc := "([BI)B" } : Jvm.MethodName) jdk_52_method_15_code (2 : Nat) (Option.some Jvm.ClassFile.FieldType.byte)]
set_option maxRecDepth 65536 in
theorem codes_eq : words1.filter isCode = codes1 := rfl
theorem w_codes : ∀ c ∈ words1.filter isCode, c.before args0 about1 = true := by
  rw [codes_eq]
  intro c hc
  simp only [codes1, List.mem_cons, List.not_mem_nil, or_false] at hc
  rcases hc with rfl | rfl | rfl | rfl | rfl | rfl | rfl | rfl | rfl | rfl | rfl | rfl | rfl | rfl | rfl | rfl | rfl | rfl | rfl | rfl | rfl | rfl | rfl | rfl | rfl | rfl | rfl | rfl | rfl | rfl | rfl | rfl | rfl | rfl | rfl | rfl | rfl | rfl | rfl | rfl | rfl | rfl | rfl | rfl | rfl | rfl
  · exact w_c0
  · exact w_c1
  · exact w_c2
  · exact w_c3
  · exact w_c4
  · exact w_c5
  · exact w_c6
  · exact w_c7
  · exact w_c8
  · exact w_c9
  · exact w_c10
  · exact w_c11
  · exact w_c12
  · exact w_c13
  · exact w_c14
  · exact w_c15
  · exact w_c16
  · exact w_c17
  · exact w_c18
  · exact w_c19
  · exact w_c20
  · exact w_c21
  · exact w_c22
  · exact w_c23
  · exact w_c24
  · exact w_c25
  · exact w_c26
  · exact w_c27
  · exact w_c28
  · exact w_c29
  · exact w_c30
  · exact w_c31
  · exact w_c32
  · exact w_c33
  · exact w_c34
  · exact w_c35
  · exact w_c36
  · exact w_c37
  · exact w_c38
  · exact w_c39
  · exact w_c40
  · exact w_c41
  · exact w_c42
  · exact w_c43
  · exact w_c44
  · exact w_c45
set_option maxRecDepth 65536 in
theorem w_t1 : (words1.take 24).all (fun c => isCode c || c.before args0 about1) = true := by decide +kernel
set_option maxRecDepth 65536 in
theorem w_t2 : ((words1.drop 24).take 24).all (fun c => isCode c || c.before args0 about1) = true := by decide +kernel
set_option maxRecDepth 65536 in
theorem w_t3 : (((words1.drop 24).drop 24).take 24).all (fun c => isCode c || c.before args0 about1) = true := by decide +kernel
set_option maxRecDepth 65536 in
theorem w_t4 : ((((words1.drop 24).drop 24).drop 24).take 24).all (fun c => isCode c || c.before args0 about1) = true := by decide +kernel
set_option maxRecDepth 65536 in
theorem w_t5 : (((((words1.drop 24).drop 24).drop 24).drop 24).take 24).all (fun c => isCode c || c.before args0 about1) = true := by decide +kernel
set_option maxRecDepth 65536 in
theorem w_t6 : ((((((words1.drop 24).drop 24).drop 24).drop 24).drop 24).take 24).all (fun c => isCode c || c.before args0 about1) = true := by decide +kernel
set_option maxRecDepth 65536 in
theorem w_t7 : (((((((words1.drop 24).drop 24).drop 24).drop 24).drop 24).drop 24).take 24).all (fun c => isCode c || c.before args0 about1) = true := by decide +kernel
set_option maxRecDepth 65536 in
theorem w_t8 : ((((((((words1.drop 24).drop 24).drop 24).drop 24).drop 24).drop 24).drop 24).take 24).all (fun c => isCode c || c.before args0 about1) = true := by decide +kernel
set_option maxRecDepth 65536 in
theorem w_t9 : (((((((((words1.drop 24).drop 24).drop 24).drop 24).drop 24).drop 24).drop 24).drop 24).take 24).all (fun c => isCode c || c.before args0 about1) = true := by decide +kernel
set_option maxRecDepth 65536 in
theorem w_t10 : ((((((((((words1.drop 24).drop 24).drop 24).drop 24).drop 24).drop 24).drop 24).drop 24).drop 24).take 24).all (fun c => isCode c || c.before args0 about1) = true := by decide +kernel
set_option maxRecDepth 65536 in
theorem w_t11 : ((((((((((words1.drop 24).drop 24).drop 24).drop 24).drop 24).drop 24).drop 24).drop 24).drop 24).drop 24).all (fun c => isCode c || c.before args0 about1) = true := by decide +kernel
theorem w_tables : (allAtoms (Jvm.Cond.code x code maxLocals ret :: tables_1)).before args0 about1 = true := by
  rw [allAtoms_all]
  show words1.all (fun c => c.before args0 about1) = true
  refine all_split ?_ w_codes
  rw [← List.take_append_drop 24 words1, List.all_append, w_t1, ← List.take_append_drop 24 (words1.drop 24), List.all_append, w_t2, ← List.take_append_drop 24 ((words1.drop 24).drop 24), List.all_append, w_t3, ← List.take_append_drop 24 (((words1.drop 24).drop 24).drop 24), List.all_append, w_t4, ← List.take_append_drop 24 ((((words1.drop 24).drop 24).drop 24).drop 24), List.all_append, w_t5, ← List.take_append_drop 24 (((((words1.drop 24).drop 24).drop 24).drop 24).drop 24), List.all_append, w_t6, ← List.take_append_drop 24 ((((((words1.drop 24).drop 24).drop 24).drop 24).drop 24).drop 24), List.all_append, w_t7, ← List.take_append_drop 24 (((((((words1.drop 24).drop 24).drop 24).drop 24).drop 24).drop 24).drop 24), List.all_append, w_t8, ← List.take_append_drop 24 ((((((((words1.drop 24).drop 24).drop 24).drop 24).drop 24).drop 24).drop 24).drop 24), List.all_append, w_t9, ← List.take_append_drop 24 (((((((((words1.drop 24).drop 24).drop 24).drop 24).drop 24).drop 24).drop 24).drop 24).drop 24), List.all_append, w_t10, w_t11]
  rfl
set_option maxRecDepth 65536 in
theorem w_rest : rest_1_c.before args0 about1 = true := by decide +kernel
set_option maxRecDepth 65536 in
theorem w_case : (Jvm.Cond.and given_1 narrow_1).before args0 about1 = true := by decide +kernel
set_option maxRecDepth 65536 in
theorem w_consts : constsHeld consts_1 about1 := Jvm.Lit.constsHeldB_iff.mp (by decide +kernel)
theorem w_applies : (headSpec (Jvm.Cond.code x code maxLocals ret :: tables_1) room_1).applies x e0.platform about1 = true :=
  (Spec.applies_iff w_frames).mpr ⟨w_running, w_runnable, w_alone, w_named, w_hears, w_ripe, w_room, w_tables⟩
theorem atStart : AtStart classFile x code maxLocals ret World_1 tables_1 room_1 Calls_1 rest_1 Pre_1 launch0 p0 e0 about1 theMethod args0 below0 :=
  ⟨lists_1, trivial, launch0.admits_env _ _ _, launch0.least_env, fairChoices_fair.cas, fairChoices_fair.clock, w_frames, w_args, w_heap, w_applies, ⟨w_consts, trivial⟩, w_rest, w_case⟩
end start1
theorem witness_1 : WitnessClaimed_1 := ⟨start1.p0, start1.e0, start1.about1, start1.theMethod, start1.args0, start1.below0, start1.atStart⟩
end Jvm.Pilot.@@N@@
