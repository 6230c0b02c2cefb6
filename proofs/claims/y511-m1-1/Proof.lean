import JvmDerived
import JvmDerived.Pilot.@@N@@Statement
import JvmDerived.Pilot.@@N@@Code
set_option linter.unusedVariables false
set_option linter.unusedSimpArgs false
@@BLOCK:NumsL.lean.txt@@
namespace Jvm.RoadKit
open Sem ClassFile Op Lib Jvm.Stand Jvm.Free Jvm.LawKit
section Own
variable {p : Program} {l : Launch} {e : Env} {R : Room} {s : State} {m : MethodId} {args : Array Value} {below : List Frame} {meth : Method} {c : Code} {T T' : State} {locs : List Loc} {cells slots : Nat} {K : State → Outcome → Prop} {g g' : JFrame} {A A' : Array Slot} {S : List Value} {q : Nat} {x y : Int32} {v w : Value} {Z : State} {a0 : Array Value} {h : Heap}
theorem own_mask255 (x : Int32) : (x &&& 255).toInt = x.toInt % 256 := Jvm.Kit.i32_mask x 255 (k := 8) (by decide) (by decide)
/-- from T with the frame g the body comes to an end of which K is true -/
def own_G (p : Program) (e : Env) (below : List Frame) (K : State → Outcome → Prop) (T : State) (g : JFrame) : Prop := ∃ s₂ o, Steps p.tables e below (T.setTop g) s₂ ∧ s₂.status = .running ∧ Ended s₂ below o ∧ K s₂ o
def own_E (s : State) (Q : Option Value → Heap → List Loc → Prop) (C N : Nat) (t : State) (o : Outcome) : Prop := ∃ v L, o = .returned v ∧ Q v t.heap L ∧ FrameEnd s o t L C N
theorem own_st (h : ∀ t, Steps p.tables e below (T'.setTop g') t → Steps p.tables e below (T.setTop g) t) (k : own_G p e below K T' g') : own_G p e below K T g := by
  obtain ⟨a, b, c, d⟩ := k; exact ⟨a, b, h _ c, d⟩
theorem own_tr (h : Steps p.tables e below (T.setTop g) (T'.setTop g')) (k : own_G p e below K T' g') : own_G p e below K T g := by
  obtain ⟨a, b, c, d⟩ := k; exact ⟨a, b, h.trans c, d⟩
theorem own_up {C N : Nat} (X : Stand p l e R s m args below meth c T locs cells slots) (h1 : cells ≤ C) (h2 : slots ≤ N) : Stand p l e R s m args below meth c T locs C N := { X with same := X.same.mono h1 h2 }
theorem own_iload (X : Stand p l e R s m args below meth c T locs cells slots) (hx : p.tables.exec = Jvm.exec) {k : Nat} (hd : decode c.code q = .ok (.iload k, 2)) (hl : A[k]? = some (.val (.int x))) (kk : own_G p e below K T (mkF m (q + 2) A (.int x :: S))) : own_G p e below K T (mkF m q A S) := own_st (fun _ z => XS.iload X.here hx rfl hd hl z) kk
theorem own_iloadN (X : Stand p l e R s m args below meth c T locs cells slots) (hx : p.tables.exec = Jvm.exec) {k : Fin 4} (hd : decode c.code q = .ok (.iload_n k, 1)) (hl : A[k.val]? = some (.val (.int x))) (kk : own_G p e below K T (mkF m (q + 1) A (.int x :: S))) : own_G p e below K T (mkF m q A S) := own_st (fun _ z => XS.iloadN X.here hx rfl hd hl z) kk
theorem own_aload (X : Stand p l e R s m args below meth c T locs cells slots) (hx : p.tables.exec = Jvm.exec) {k : Nat} (hd : decode c.code q = .ok (.aload k, 2)) (hl : A[k]? = some (.val v)) (hv : v.isRef = true) (kk : own_G p e below K T (mkF m (q + 2) A (v :: S))) : own_G p e below K T (mkF m q A S) := own_st (fun _ z => XS.aload X.here hx rfl hd hl hv z) kk
theorem own_aloadN (X : Stand p l e R s m args below meth c T locs cells slots) (hx : p.tables.exec = Jvm.exec) {k : Fin 4} (hd : decode c.code q = .ok (.aload_n k, 1)) (hl : A[k.val]? = some (.val v)) (hv : v.isRef = true) (kk : own_G p e below K T (mkF m (q + 1) A (v :: S))) : own_G p e below K T (mkF m q A S) := own_st (fun _ z => XS.aloadN X.here hx rfl hd hl hv z) kk
theorem own_istore (X : Stand p l e R s m args below meth c T locs cells slots) (hx : p.tables.exec = Jvm.exec) {k : Nat} (hd : decode c.code q = .ok (.istore k, 2)) (hl : storeLocals A k (.int x) = some A') (kk : own_G p e below K T (mkF m (q + 2) A' S)) : own_G p e below K T (mkF m q A (.int x :: S)) := own_st (fun _ z => XS.istore X.here hx rfl hd rfl hl z) kk
theorem own_istoreN (X : Stand p l e R s m args below meth c T locs cells slots) (hx : p.tables.exec = Jvm.exec) {k : Fin 4} (hd : decode c.code q = .ok (.istore_n k, 1)) (hl : storeLocals A k.val (.int x) = some A') (kk : own_G p e below K T (mkF m (q + 1) A' S)) : own_G p e below K T (mkF m q A (.int x :: S)) := own_st (fun _ z => XS.istoreN X.here hx rfl hd rfl hl z) kk
theorem own_astore (X : Stand p l e R s m args below meth c T locs cells slots) (hx : p.tables.exec = Jvm.exec) {k : Nat} (hd : decode c.code q = .ok (.astore k, 2)) (hv : v.isRef = true) (hl : storeLocals A k v = some A') (kk : own_G p e below K T (mkF m (q + 2) A' S)) : own_G p e below K T (mkF m q A (v :: S)) := own_st (fun _ z => XS.astore X.here hx rfl hd rfl hv hl z) kk
theorem own_astoreN (X : Stand p l e R s m args below meth c T locs cells slots) (hx : p.tables.exec = Jvm.exec) {k : Fin 4} (hd : decode c.code q = .ok (.astore_n k, 1)) (hv : v.isRef = true) (hl : storeLocals A k.val v = some A') (kk : own_G p e below K T (mkF m (q + 1) A' S)) : own_G p e below K T (mkF m q A (v :: S)) := own_st (fun _ z => XS.astoreN X.here hx rfl hd rfl hv hl z) kk
theorem own_iconst (X : Stand p l e R s m args below meth c T locs cells slots) (hx : p.tables.exec = Jvm.exec) {i : Int} (hd : decode c.code q = .ok (.iconst i, 1)) (hv : Int32.ofInt i = x) (kk : own_G p e below K T (mkF m (q + 1) A (.int x :: S))) : own_G p e below K T (mkF m q A S) := own_st (fun _ z => XS.iconst X.here hx rfl hd z) (hv ▸ kk)
theorem own_bipush (X : Stand p l e R s m args below meth c T locs cells slots) (hx : p.tables.exec = Jvm.exec) {i : Int} (hd : decode c.code q = .ok (.bipush i, 2)) (hv : (Int8.ofInt i).toInt32 = x) (kk : own_G p e below K T (mkF m (q + 2) A (.int x :: S))) : own_G p e below K T (mkF m q A S) := own_st (fun _ z => XS.bipush X.here hx rfl hd z) (hv ▸ kk)
theorem own_sipush (X : Stand p l e R s m args below meth c T locs cells slots) (hx : p.tables.exec = Jvm.exec) {i : Int} (hd : decode c.code q = .ok (.sipush i, 3)) (hv : (Int16.ofInt i).toInt32 = x) (kk : own_G p e below K T (mkF m (q + 3) A (.int x :: S))) : own_G p e below K T (mkF m q A S) := own_st (fun _ z => XS.sipush X.here hx rfl hd z) (hv ▸ kk)
theorem own_anull (X : Stand p l e R s m args below meth c T locs cells slots) (hx : p.tables.exec = Jvm.exec) (hd : decode c.code q = .ok (.aconst_null, 1)) (kk : own_G p e below K T (mkF m (q + 1) A (.null :: S))) : own_G p e below K T (mkF m q A S) := own_st (fun _ z => XS.aconstNull X.here hx rfl hd z) kk
theorem own_iadd (X : Stand p l e R s m args below meth c T locs cells slots) (hx : p.tables.exec = Jvm.exec) (hd : decode c.code q = .ok (.iadd, 1)) (kk : own_G p e below K T (mkF m (q + 1) A (.int (x + y) :: S))) : own_G p e below K T (mkF m q A (.int y :: .int x :: S)) := own_st (fun _ z => XS.iadd X.here hx rfl hd rfl z) kk
theorem own_isub (X : Stand p l e R s m args below meth c T locs cells slots) (hx : p.tables.exec = Jvm.exec) (hd : decode c.code q = .ok (.isub, 1)) (kk : own_G p e below K T (mkF m (q + 1) A (.int (x - y) :: S))) : own_G p e below K T (mkF m q A (.int y :: .int x :: S)) := own_st (fun _ z => XS.isub X.here hx rfl hd rfl z) kk
theorem own_imul (X : Stand p l e R s m args below meth c T locs cells slots) (hx : p.tables.exec = Jvm.exec) (hd : decode c.code q = .ok (.imul, 1)) (kk : own_G p e below K T (mkF m (q + 1) A (.int (x * y) :: S))) : own_G p e below K T (mkF m q A (.int y :: .int x :: S)) := own_st (fun _ z => XS.imul X.here hx rfl hd rfl z) kk
theorem own_iand (X : Stand p l e R s m args below meth c T locs cells slots) (hx : p.tables.exec = Jvm.exec) (hd : decode c.code q = .ok (.iand, 1)) (kk : own_G p e below K T (mkF m (q + 1) A (.int (x &&& y) :: S))) : own_G p e below K T (mkF m q A (.int y :: .int x :: S)) := own_st (fun _ z => XS.iand X.here hx rfl hd rfl z) kk
theorem own_ior (X : Stand p l e R s m args below meth c T locs cells slots) (hx : p.tables.exec = Jvm.exec) (hd : decode c.code q = .ok (.ior, 1)) (kk : own_G p e below K T (mkF m (q + 1) A (.int (x ||| y) :: S))) : own_G p e below K T (mkF m q A (.int y :: .int x :: S)) := own_st (fun _ z => XT.ior X.here hx rfl hd rfl z) kk
theorem own_ixor (X : Stand p l e R s m args below meth c T locs cells slots) (hx : p.tables.exec = Jvm.exec) (hd : decode c.code q = .ok (.ixor, 1)) (kk : own_G p e below K T (mkF m (q + 1) A (.int (x ^^^ y) :: S))) : own_G p e below K T (mkF m q A (.int y :: .int x :: S)) := own_st (fun _ z => XT.ixor X.here hx rfl hd rfl z) kk
theorem own_irem (X : Stand p l e R s m args below meth c T locs cells slots) (hx : p.tables.exec = Jvm.exec) (hd : decode c.code q = .ok (.irem, 1)) (hy : y ≠ 0) (kk : own_G p e below K T (mkF m (q + 1) A (.int (x % y) :: S))) : own_G p e below K T (mkF m q A (.int y :: .int x :: S)) := own_st (fun _ z => iremM (g := mkF m q A (.int y :: .int x :: S)) X hx rfl hd rfl hy z) kk
theorem own_iushr (X : Stand p l e R s m args below meth c T locs cells slots) (hx : p.tables.exec = Jvm.exec) (hd : decode c.code q = .ok (.iushr, 1)) (kk : own_G p e below K T (mkF m (q + 1) A (.int (XT.ushr x y) :: S))) : own_G p e below K T (mkF m q A (.int y :: .int x :: S)) := own_st (fun _ z => XT.iushr X.here hx rfl hd rfl z) kk
theorem own_ishl (X : Stand p l e R s m args below meth c T locs cells slots) (hx : p.tables.exec = Jvm.exec) (hd : decode c.code q = .ok (.ishl, 1)) (kk : own_G p e below K T (mkF m (q + 1) A (.int (x <<< (y &&& 31)) :: S))) : own_G p e below K T (mkF m q A (.int y :: .int x :: S)) := own_st (fun _ z => XT.ishl X.here hx rfl hd rfl z) kk
theorem own_ishr (X : Stand p l e R s m args below meth c T locs cells slots) (hx : p.tables.exec = Jvm.exec) (hd : decode c.code q = .ok (.ishr, 1)) (kk : own_G p e below K T (mkF m (q + 1) A (.int (x >>> (y &&& 31)) :: S))) : own_G p e below K T (mkF m q A (.int y :: .int x :: S)) := own_st (fun _ z => XT.ishr X.here hx rfl hd rfl z) kk
theorem own_i2b (X : Stand p l e R s m args below meth c T locs cells slots) (hx : p.tables.exec = Jvm.exec) (hd : decode c.code q = .ok (.i2b, 1)) (kk : own_G p e below K T (mkF m (q + 1) A (.int x.toInt8.toInt32 :: S))) : own_G p e below K T (mkF m q A (.int x :: S)) := own_st (fun _ z => XT.i2b X.here hx rfl hd rfl z) kk
theorem own_i2c (X : Stand p l e R s m args below meth c T locs cells slots) (hx : p.tables.exec = Jvm.exec) (hd : decode c.code q = .ok (.i2c, 1)) (kk : own_G p e below K T (mkF m (q + 1) A (.int x.toUInt32.toUInt16.toUInt32.toInt32 :: S))) : own_G p e below K T (mkF m q A (.int x :: S)) := own_st (fun _ z => XT.i2c X.here hx rfl hd rfl z) kk
theorem own_iinc (X : Stand p l e R s m args below meth c T locs cells slots) (hx : p.tables.exec = Jvm.exec) {k : Nat} {cst : Int} (hd : decode c.code q = .ok (.iinc k cst, 3)) (hv : Int32.ofInt cst = y) (hl : A[k]? = some (.val (.int x))) (hs : storeLocals A k (.int (x + y)) = some A') (kk : own_G p e below K T (mkF m (q + 3) A' S)) : own_G p e below K T (mkF m q A S) := own_st (fun _ z => XS.iinc X.here hx rfl hd hl (hv ▸ hs) z) kk
theorem own_dup (X : Stand p l e R s m args below meth c T locs cells slots) (hx : p.tables.exec = Jvm.exec) (hd : decode c.code q = .ok (.dup, 1)) (hc : v.category = 1) (kk : own_G p e below K T (mkF m (q + 1) A (v :: v :: S))) : own_G p e below K T (mkF m q A (v :: S)) := own_st (fun _ z => XS.dup X.here hx rfl hd rfl hc z) kk
theorem own_dupX1 (X : Stand p l e R s m args below meth c T locs cells slots) (hx : p.tables.exec = Jvm.exec) (hd : decode c.code q = .ok (.dup_x1, 1)) (hc : v.category = 1) (hc' : w.category = 1) (kk : own_G p e below K T (mkF m (q + 1) A (v :: w :: v :: S))) : own_G p e below K T (mkF m q A (v :: w :: S)) := own_st (fun _ z => XT.dupX1 X.here hx rfl hd rfl hc hc' z) kk
theorem own_dup2 (X : Stand p l e R s m args below meth c T locs cells slots) (hx : p.tables.exec = Jvm.exec) (hd : decode c.code q = .ok (.dup2, 1)) (hc : v.category = 1) (hc' : w.category = 1) (kk : own_G p e below K T (mkF m (q + 1) A (v :: w :: v :: w :: S))) : own_G p e below K T (mkF m q A (v :: w :: S)) := own_st (fun _ z => XT.dup2 X.here hx rfl hd rfl hc hc' z) kk
theorem own_pop (X : Stand p l e R s m args below meth c T locs cells slots) (hx : p.tables.exec = Jvm.exec) (hd : decode c.code q = .ok (.pop, 1)) (hc : v.category = 1) (kk : own_G p e below K T (mkF m (q + 1) A S)) : own_G p e below K T (mkF m q A (v :: S)) := own_st (fun _ z => XT.pop X.here hx rfl hd rfl hc z) kk
theorem own_goto (X : Stand p l e R s m args below meth c T locs cells slots) (hx : p.tables.exec = Jvm.exec) {o : Int} {t : Nat} (hd : decode c.code q = .ok (.goto o, 3)) (ho : 0 ≤ (q : Int) + o) (ht : ((q : Int) + o).toNat = t) (kk : own_G p e below K T (mkF m t A S)) : own_G p e below K T (mkF m q A S) := own_st (fun _ z => XS.goto X.here hx rfl (pc0 := q) rfl hd ho ht z) kk
theorem own_if (X : Stand p l e R s m args below meth c T locs cells slots) (hx : p.tables.exec = Jvm.exec) {cd : ClassFile.Cond} {o : Int} {t : Nat} (hd : decode c.code q = .ok (.ifCond cd o, 3)) (ho : 0 ≤ (q : Int) + o) (ht : ((q : Int) + o).toNat = t) (kT : ifCond.holds cd x = true → own_G p e below K T (mkF m t A S)) (kF : ifCond.holds cd x = false → own_G p e below K T (mkF m (q + 3) A S)) : own_G p e below K T (mkF m q A (.int x :: S)) := by
  cases hc : ifCond.holds cd x with
  | true => exact own_st (fun _ z => XS.ifYes X.here hx rfl (pc0 := q) rfl hd rfl hc ho ht z) (kT hc)
  | false => exact own_st (fun _ z => XS.ifNo X.here hx rfl hd rfl hc z) (kF hc)
theorem own_icmp (X : Stand p l e R s m args below meth c T locs cells slots) (hx : p.tables.exec = Jvm.exec) {cd : ClassFile.Cond} {o : Int} {t : Nat} (hd : decode c.code q = .ok (.if_icmp cd o, 3)) (ho : 0 ≤ (q : Int) + o) (ht : ((q : Int) + o).toNat = t) (kT : if_icmp.holds cd x y = true → own_G p e below K T (mkF m t A S)) (kF : if_icmp.holds cd x y = false → own_G p e below K T (mkF m (q + 3) A S)) : own_G p e below K T (mkF m q A (.int y :: .int x :: S)) := by
  cases hc : if_icmp.holds cd x y with
  | true => exact own_st (fun _ z => XS.icmpYes X.here hx rfl (pc0 := q) rfl hd rfl hc ho ht z) (kT hc)
  | false => exact own_st (fun _ z => XS.icmpNo X.here hx rfl hd rfl hc z) (kF hc)
theorem own_h_eq : (ifCond.holds .eq x = true → x = 0) ∧ (ifCond.holds .eq x = false → ¬ x = 0) := by simp [ifCond.holds]
theorem own_h_ne : (ifCond.holds .ne x = true → ¬ x = 0) ∧ (ifCond.holds .ne x = false → x = 0) := by simp [ifCond.holds]
theorem own_h_lt : (ifCond.holds .lt x = true → x < 0) ∧ (ifCond.holds .lt x = false → ¬ x < 0) := by simp [ifCond.holds]
theorem own_h_ge : (ifCond.holds .ge x = true → ¬ x < 0) ∧ (ifCond.holds .ge x = false → x < 0) := by simp [ifCond.holds, ← Int32.not_lt]
theorem own_h_gt : (ifCond.holds .gt x = true → 0 < x) ∧ (ifCond.holds .gt x = false → ¬ 0 < x) := by simp [ifCond.holds]
theorem own_h_le : (ifCond.holds .le x = true → ¬ 0 < x) ∧ (ifCond.holds .le x = false → 0 < x) := by simp [ifCond.holds, ← Int32.not_lt]
theorem own_c_eq : (if_icmp.holds .eq x y = true → x = y) ∧ (if_icmp.holds .eq x y = false → ¬ x = y) := by simp [if_icmp.holds]
theorem own_c_ne : (if_icmp.holds .ne x y = true → ¬ x = y) ∧ (if_icmp.holds .ne x y = false → x = y) := by simp [if_icmp.holds]
theorem own_c_lt : (if_icmp.holds .lt x y = true → x < y) ∧ (if_icmp.holds .lt x y = false → ¬ x < y) := by simp [if_icmp.holds]
theorem own_c_ge : (if_icmp.holds .ge x y = true → ¬ x < y) ∧ (if_icmp.holds .ge x y = false → x < y) := by simp [if_icmp.holds, ← Int32.not_lt]
theorem own_c_gt : (if_icmp.holds .gt x y = true → y < x) ∧ (if_icmp.holds .gt x y = false → ¬ y < x) := by simp [if_icmp.holds]
theorem own_c_le : (if_icmp.holds .le x y = true → ¬ y < x) ∧ (if_icmp.holds .le x y = false → y < x) := by simp [if_icmp.holds, ← Int32.not_lt]
theorem own_acmp (X : Stand p l e R s m args below meth c T locs cells slots) (hx : p.tables.exec = Jvm.exec) {cd : ACond} {o : Int} {t : Nat} (h1 : v.isRef = true) (h2 : w.isRef = true) (hd : decode c.code q = .ok (.if_acmp cd o, 3)) (ho : 0 ≤ (q : Int) + o) (ht : ((q : Int) + o).toNat = t) (kY : v = w → own_G p e below K T (mkF m (if acV cd true = true then t else q + 3) A S)) (kN : ¬ v = w → own_G p e below K T (mkF m (if acV cd false = true then t else q + 3) A S)) : own_G p e below K T (mkF m q A (w :: v :: S)) := by
  by_cases hq : v = w
  · exact own_st (fun _ z => acmp (g := mkF m q A (w :: v :: S)) X hx rfl h1 h2 (pc0 := q) rfl hd rfl (decide_eq_true hq) ho (by rw [ht]) z) (kY hq)
  · exact own_st (fun _ z => acmp (g := mkF m q A (w :: v :: S)) X hx rfl h1 h2 (pc0 := q) rfl hd rfl (decide_eq_false hq) ho (by rw [ht]) z) (kN hq)
theorem own_nullY (X : Stand p l e R s m args below meth c T locs cells slots) (hx : p.tables.exec = Jvm.exec) {o : Int} {t : Nat} (hd : decode c.code q = .ok (.ifnull o, 3)) (ho : 0 ≤ (q : Int) + o) (ht : ((q : Int) + o).toNat = t) (kk : own_G p e below K T (mkF m t A S)) : own_G p e below K T (mkF m q A (.null :: S)) := own_st (fun _ z => XS.ifnullYes X.here hx rfl (pc0 := q) rfl hd rfl ho ht z) kk
theorem own_nullN {b : Addr} (X : Stand p l e R s m args below meth c T locs cells slots) (hx : p.tables.exec = Jvm.exec) {o : Int} (hd : decode c.code q = .ok (.ifnull o, 3)) (kk : own_G p e below K T (mkF m (q + 3) A S)) : own_G p e below K T (mkF m q A (.ref b :: S)) := own_st (fun _ z => XS.ifnullNo X.here hx rfl hd rfl z) kk
theorem own_nonnullY {b : Addr} (X : Stand p l e R s m args below meth c T locs cells slots) (hx : p.tables.exec = Jvm.exec) {o : Int} {t : Nat} (hd : decode c.code q = .ok (.ifnonnull o, 3)) (ho : 0 ≤ (q : Int) + o) (ht : ((q : Int) + o).toNat = t) (kk : own_G p e below K T (mkF m t A S)) : own_G p e below K T (mkF m q A (.ref b :: S)) := own_st (fun _ z => XT.ifnonnullYes X.here hx rfl (pc0 := q) rfl hd rfl ho ht z) kk
theorem own_nonnullN (X : Stand p l e R s m args below meth c T locs cells slots) (hx : p.tables.exec = Jvm.exec) {o : Int} (hd : decode c.code q = .ok (.ifnonnull o, 3)) (kk : own_G p e below K T (mkF m (q + 3) A S)) : own_G p e below K T (mkF m q A (.null :: S)) := own_st (fun _ z => XT.ifnonnullNo X.here hx rfl hd rfl z) kk
theorem own_fitR {ty : FieldType} (ht : ty.isReference = true) (hv : v.isRef = true) : fits ty v = true := by
  rcases ref_cases hv with rfl | ⟨a, rfl⟩ <;> cases ty <;> simp_all [fits, FieldType.isReference]
theorem own_chr (x : Int32) : ∃ c : Int32, c = x &&& 255 ∧ (x &&& 255).toUInt32.toUInt16.toUInt32.toInt32 = c ∧ nar .char c = c ∧ ¬ c < 0 ∧ ¬ (255 : Int32) < c := by
  have h1 : (x &&& 255).toInt = x.toInt % 256 := by
    have := Jvm.RoadKit.own_mask255 x
    exact this
  refine ⟨x &&& 255, rfl, i2c_mask x, i2c_mask x, ?_, ?_⟩
  · rw [Int32.lt_iff_toInt_lt, h1]; show ¬ _ < (0 : Int); omega
  · rw [Int32.lt_iff_toInt_lt, h1]; show ¬ (255 : Int) < _; omega
theorem own_join {α : Type} {P : α → Prop} {F : α → JFrame} (X : Stand p l e R s m args below meth c T locs cells slots) (eT : T.heap = h) (kJ : ∀ T', Stand p l e R s m args below meth c T' locs cells slots → T'.heap = h → ∀ a, P a → own_G p e below K T' (F a)) (kB : (∀ T', Stand p l e R s m args below meth c T' locs cells slots → T'.heap = h → ∀ a, P a → own_G p e below K T' (F a)) → own_G p e below K T g) : own_G p e below K T g := kB kJ
theorem own_notInst {C Kn : String} {n : Nat} (w : (Cond.superclass C "java/lang/Object").before a0 Z = true) (w0 : (Cond.noSuperclass "java/lang/Object").before a0 Z = true) (wi : (Cond.instantiable Kn n).before a0 Z = true) (h1 : C ≠ Kn) (h2 : "java/lang/Object" ≠ Kn) : ∃ c t, Z.vm.findClass C = some c ∧ Z.vm.findClass Kn = some t ∧ Z.vm.assignable c t = false := by
  obtain ⟨t, kt, g0, g2, g5, g7, -⟩ := Cond.instantiable_spec wi
  obtain ⟨c, h0⟩ := found_sup w
  obtain ⟨p, k, kp, e1, e2, e3, e4, e5, -, e7⟩ := Cond.superclass_spec h0 w
  obtain ⟨o, ko, o1, o2, o3, -, -⟩ := Cond.noSuperclass_spec w0
  cases o1.symm.trans e1
  have ne := ids_ne h0 g0 h1
  have ne2 := ids_ne o1 g0 h2
  have n3 : ∀ fuel, Z.vm.isSubclassAux fuel c t = false := fun fuel => by
    cases fuel with
    | zero => rfl
    | succ f =>
      cases f with
      | zero => simp [Vm.isSubclassAux, ne, e2, e4]
      | succ f => simp [Vm.isSubclassAux, ne, e2, e4, ne2, o2, o3]
  have g8 : kt.isInterface = false := by
    cases hi : kt.isInterface with
    | false => rfl
    | true => rw [hi] at g7; simp at g7
  refine ⟨c, t, h0, g0, ?_⟩
  show Z.vm.assignableAux (255 + 1) c t = false
  simp [Vm.assignableAux, ne, e2, g2, e5, g5, g8, Vm.isSubclass, n3]
/-! the ends of a body -/
section Ends
variable {Q : Option Value → Heap → List Loc → Prop} {C N : Nat}
theorem own_retN {t : FieldType} (X : Stand p l e R s m args below meth c T locs cells slots) (hx : p.tables.exec = Jvm.exec) (hret : meth.sig.returnType = some t) (hlocks : meth.locks = false) (ht : t = .boolean ∨ t = .byte ∨ t = .char ∨ t = .short) (hd : decode c.code q = .ok (.ireturn, 1)) (hn : nar t x = x) (hc : cells ≤ C) (hs : slots ≤ N) (hQ : Q (some (.int x)) T.heap locs) : own_G p e below (own_E s Q C N) T (mkF m q A (.int x :: S)) := by
  obtain ⟨fs, hr, hrun, hended, hW, hsame⟩ := X.leave (v := some (.int (nar t x))) (fun h => by rw [hret] at h; cases h) hlocks
  refine ⟨_, _, retN X hx hret ht hd hr, hrun, hended, _, _, rfl, ?_, ⟨_, rfl⟩, hW, hsame.mono hc hs⟩
  rw [hn]; exact hQ
theorem own_retI (X : Stand p l e R s m args below meth c T locs cells slots) (hx : p.tables.exec = Jvm.exec) (hret : meth.sig.returnType = some .int) (hlocks : meth.locks = false) (hd : decode c.code q = .ok (.ireturn, 1)) (hc : cells ≤ C) (hs : slots ≤ N) (hQ : Q (some (.int x)) T.heap locs) : own_G p e below (own_E s Q C N) T (mkF m q A (.int x :: S)) := by
  obtain ⟨fs, hr, hrun, hended, hW, hsame⟩ := X.leave (v := some (.int x)) (fun h => by rw [hret] at h; cases h) hlocks
  exact ⟨_, _, retOut X hx hret rfl (Or.inl ⟨rfl, Or.inl rfl, _, rfl⟩) hd hr, hrun, hended, _, _, rfl, hQ, ⟨_, rfl⟩, hW, hsame.mono hc hs⟩
theorem own_retA {t : FieldType} (X : Stand p l e R s m args below meth c T locs cells slots) (hx : p.tables.exec = Jvm.exec) (hret : meth.sig.returnType = some t) (hlocks : meth.locks = false) (ht : t.isReference = true) (hv : v.isRef = true) (hn : narrow t v = v) (hd : decode c.code q = .ok (.areturn, 1)) (hc : cells ≤ C) (hs : slots ≤ N) (hQ : Q (some v) T.heap locs) : own_G p e below (own_E s Q C N) T (mkF m q A (v :: S)) := by
  obtain ⟨fs, hr, hrun, hended, hW, hsame⟩ := X.leave (v := some v) (fun h => by rw [hret] at h; cases h) hlocks
  exact ⟨_, _, retOut X hx hret hn (Or.inr (Or.inr (Or.inr (Or.inr ⟨rfl, ht, hv⟩)))) hd hr, hrun, hended, _, _, rfl, hQ, ⟨_, rfl⟩, hW, hsame.mono hc hs⟩
theorem own_retV (X : Stand p l e R s m args below meth c T locs cells slots) (hx : p.tables.exec = Jvm.exec) (hret : meth.sig.returnType = none) (hlocks : meth.locks = false) (hd : decode c.code q = .ok (.return_, 1)) (hc : cells ≤ C) (hs : slots ≤ N) (hQ : Q none T.heap locs) : own_G p e below (own_E s Q C N) T (mkF m q A []) := by
  obtain ⟨fs, hr, hrun, hended, hW, hsame⟩ := X.leave (v := none) (fun _ => rfl) hlocks
  exact ⟨_, _, X.returnOut hx hret hd hr, hrun, hended, _, _, rfl, hQ, ⟨_, rfl⟩, hW, hsame.mono hc hs⟩
end Ends
/-! calls, by what pays them -/
section Calls
variable {Q : Option Value → Heap → List Loc → Prop} {kc ks W : Nat} {own C : String} {index : Nat} {z y : MethodName} {argsL St : List Value} {b : Addr}
theorem own_static {bytes : ByteArray} {maxL : Nat} {ret : Option FieldType} {y : MethodName} (X : Stand p l e R s m args below meth c T locs cells slots) (hx : p.tables.exec = Jvm.exec) (hZ : Z.Warmed39 s.vm) (hown : s.vm.findClass own = some m.cls) (w1 : (Cond.methodLink own index y).before a0 Z = true) (w2 : (Cond.static y).before a0 Z = true) (w3 : (Cond.initialized y.cls).before a0 Z = true) (w4 : (Cond.code y bytes maxL ret).before a0 Z = true) (hy : y.cls ≠ "java/lang/invoke/MethodHandle" ∧ y.cls ≠ "java/lang/invoke/VarHandle")
    (hK : Back l R p e below s args y 3 W (fun P a => a = argsL.toArray ∧ P.U.heap = h ∧ P.cells + kc ≤ R.cells ∧ P.slots + ks ≤ R.slots) (fun P _ v B => ∃ L, Q v B.U.heap L ∧ B.locs = P.locs ++ L ∧ B.cells = P.cells + kc ∧ B.slots = P.slots + ks))
    (eT : T.heap = h) (hsz : A.size = c.maxLocals) (hlen : ∀ sig, parseMethodDescriptor y.desc = some sig → argsL.length = sig.parameters.length) (hst : St = argsL.reverse ++ S) (hW : (S.map fun v => v.category).sum ≤ W) (hd : decode c.code q = .ok (.invokestatic index, 3)) (hc : cells + kc ≤ R.cells) (hs : slots + ks ≤ R.slots)
    (kk : ∀ T' L v, Stand p l e R s m args below meth c T' (locs ++ L) (cells + kc) (slots + ks) → Q v T'.heap L → own_G p e below K T' (mkF m (q + 3) A (v.toList ++ S))) : own_G p e below K T (mkF m q A St) := by
  subst hst
  obtain ⟨v, _, ⟨T', L', k', n'⟩, -, X', ⟨L, hQ, l1, l2, l3⟩, st⟩ := Jvm.LawKit.callS X hx hown (mvT hZ w1) (mvT hZ w2) (mvT hZ w3) (mvT hZ w4) hy hK (g := mkF m q A (argsL.reverse ++ S)) rfl hsz hlen rfl (by show 2 * 0 + _ ≤ _; omega) hd (fun _ _ => ⟨rfl, eT, hc, hs⟩)
  dsimp only [Pt.U, Pt.locs, Pt.cells, Pt.slots] at X' l1 l2 l3 st hQ
  subst l1 l2 l3
  exact own_st st (kk _ _ _ X' hQ)
theorem own_init {bytes : ByteArray} {maxL : Nat} {y : MethodName} (hy1 : y.name = "<init>") (X : Stand p l e R s m args below meth c T locs cells slots) (hx : p.tables.exec = Jvm.exec) (hZ : Z.Warmed39 s.vm) (hown : s.vm.findClass own = some m.cls) (w1 : (Cond.methodLink own index y).before a0 Z = true) (w2 : (Cond.instanceMethod y).before a0 Z = true) (w4 : (Cond.code y bytes maxL none).before a0 Z = true) (hy : y.cls ≠ "java/lang/invoke/MethodHandle" ∧ y.cls ≠ "java/lang/invoke/VarHandle")
    (hK : Back l R p e below s args y 3 W (fun P a => a = (Value.ref b :: argsL).toArray ∧ P.U.heap = h ∧ P.cells + kc ≤ R.cells ∧ P.slots + ks ≤ R.slots) (fun P _ v B => ∃ L, Q v B.U.heap L ∧ B.locs = P.locs ++ L ∧ B.cells = P.cells + kc ∧ B.slots = P.slots + ks))
    (eT : T.heap = h) (hsz : A.size = c.maxLocals) (hlen : ∀ sig, parseMethodDescriptor y.desc = some sig → argsL.length = sig.parameters.length) (hst : St = argsL.reverse ++ .ref b :: S) (hW : (S.map fun v => v.category).sum ≤ W) (hd : decode c.code q = .ok (.invokespecial index, 3)) (hc : cells + kc ≤ R.cells) (hs : slots + ks ≤ R.slots)
    (kk : ∀ T' L v, Stand p l e R s m args below meth c T' (locs ++ L) (cells + kc) (slots + ks) → Q v T'.heap L → own_G p e below K T' (mkF m (q + 3) A (v.toList ++ S))) : own_G p e below K T (mkF m q A St) := by
  subst hst
  obtain ⟨v, _, ⟨T', L', k', n'⟩, -, X', ⟨L, hQ, l1, l2, l3⟩, st⟩ := X.specialBack hx hy1 hown (mvT hZ w1) (mvT hZ w2) (mvT hZ w4) hy hK (g := mkF m q A (argsL.reverse ++ .ref b :: S)) rfl hsz (Steps.refl _) (a := b) (argsL := argsL) (rest := S) hlen rfl (by show 2 * 0 + _ ≤ _; omega) hd (fun _ _ => ⟨rfl, eT, hc, hs⟩)
  dsimp only [Pt.U, Pt.locs, Pt.cells, Pt.slots] at X' l1 l2 l3 st hQ
  subst l1 l2 l3
  exact own_tr st (kk _ _ _ X' hQ)
theorem own_virtual {y z : MethodName} (X : Stand p l e R s m args below meth c T locs cells slots) (hx : p.tables.exec = Jvm.exec) (hZ : Z.Warmed39 s.vm) (hown : s.vm.findClass own = some m.cls) (w1 : (Cond.methodLink own index y).before a0 Z = true) (w2 : (Cond.declares y).before a0 Z = true) (hnf : NotFace s y) (w3 : (Cond.selects C y z).before a0 Z = true) (w4 : (Cond.instanceMethod z).before a0 Z = true) (hy : y.cls ≠ "java/lang/invoke/MethodHandle" ∧ y.cls ≠ "java/lang/invoke/VarHandle")
    (hK : Back l R p e below s args z 3 W (fun P a => a = (Value.ref b :: argsL).toArray ∧ P.U.heap = h ∧ P.cells + kc ≤ R.cells ∧ P.slots + ks ≤ R.slots) (fun P _ v B => ∃ L, Q v B.U.heap L ∧ B.locs = P.locs ++ L ∧ B.cells = P.cells + kc ∧ B.slots = P.slots + ks))
    (eT : T.heap = h) (E : Exa Z h b C) (hsz : A.size = c.maxLocals) (hlen : ∀ sig, parseMethodDescriptor y.desc = some sig → argsL.length = sig.parameters.length) (hst : St = argsL.reverse ++ .ref b :: S) (hW : (S.map fun v => v.category).sum ≤ W) (hd : decode c.code q = .ok (.invokevirtual index, 3)) (hc : cells + kc ≤ R.cells) (hs : slots + ks ≤ R.slots)
    (kk : ∀ T' L v, Stand p l e R s m args below meth c T' (locs ++ L) (cells + kc) (slots + ks) → Q v T'.heap L → own_G p e below K T' (mkF m (q + 3) A (v.toList ++ S))) : own_G p e below K T (mkF m q A St) := by
  subst hst
  obtain ⟨cq, kq, q1, q2, q3⟩ := isOf hZ eT E
  obtain ⟨v, _, ⟨T', L', k', n'⟩, -, X', ⟨L, hQ, l1, l2, l3⟩, st⟩ := X.virtualBack hx hown (mvT hZ w1) (mvT hZ w2) hnf (mvT hZ w3) (mvT hZ w4) hy hK q1 q3 (g := mkF m q A (argsL.reverse ++ .ref b :: S)) rfl hsz (Steps.refl _) (argsL := argsL) (rest := S) hlen rfl (by show 2 * 0 + _ ≤ _; omega) hd (fun _ _ => ⟨rfl, eT, hc, hs⟩)
  dsimp only [Pt.U, Pt.locs, Pt.cells, Pt.slots] at X' l1 l2 l3 st hQ
  subst l1 l2 l3
  exact own_tr st (kk _ _ _ X' hQ)
end Calls
end Own
end Jvm.RoadKit
namespace Jvm.RoadKit
open Sem ClassFile Op Lib Jvm.Stand Jvm.Free Jvm.LawKit
section OwnW
variable {p : Program} {l : Launch} {e : Env} {R : Room} {s : State} {vm0 : Vm} {m : MethodId} {args : Array Value} {below : List Frame} {meth : Method} {c : Code} {T T' : State} {locs : List Loc} {cells slots : Nat} {K : State → Outcome → Prop} {g g' : JFrame} {A A' : Array Slot} {S : List Value} {q k0 : Nat} {x y : Int32} {v w : Value} {Z : State} {a0 : Array Value} {h : Heap}
def own_EW (s : State) (Q : Option Value → Heap → List Loc → Prop) (C N : Nat) (t : State) (o : Outcome) : Prop := ∃ v L, o = .returned v ∧ Q v t.heap L ∧ ReturnedEndW s o t L C N
section EndsW
variable {Q : Option Value → Heap → List Loc → Prop} {C N : Nat}
theorem own_monoW {o : Outcome} {t : State} {L : List Loc} {k n : Nat} (hh : ReturnedEndW s o t L k n) (hc : k ≤ C) (hs : n ≤ N) : ReturnedEndW s o t L C N := ⟨hh.1, hh.2.1, hh.2.2.1, hh.2.2.2.mono hc hs⟩
theorem own_retNW {t : FieldType} (X : Stand p l e R (s.setVm vm0) m args below meth c T locs cells slots) (hx : p.tables.exec = Jvm.exec) (hS : s.Since vm0 k0) (hk : k0 ≤ T.heap.size) (hret : meth.sig.returnType = some t) (hlocks : meth.locks = false) (ht : t = .boolean ∨ t = .byte ∨ t = .char ∨ t = .short) (hd : decode c.code q = .ok (.ireturn, 1)) (hn : nar t x = x) (hc : cells ≤ C) (hs : slots ≤ N) (hQ : Q (some (.int x)) T.heap locs) : own_G p e below (own_EW s Q C N) T (mkF m q A (.int x :: S)) := by
  obtain ⟨fs, hr, hrun, hended, hW⟩ := X.leaveW hS hk (v := some (.int (nar t x))) (fun h => by rw [hret] at h; cases h) hlocks
  refine ⟨_, _, retN X hx hret ht hd hr, hrun, hended, _, _, rfl, ?_, own_monoW hW hc hs⟩
  rw [hn]; exact hQ
theorem own_retIW (X : Stand p l e R (s.setVm vm0) m args below meth c T locs cells slots) (hx : p.tables.exec = Jvm.exec) (hS : s.Since vm0 k0) (hk : k0 ≤ T.heap.size) (hret : meth.sig.returnType = some .int) (hlocks : meth.locks = false) (hd : decode c.code q = .ok (.ireturn, 1)) (hc : cells ≤ C) (hs : slots ≤ N) (hQ : Q (some (.int x)) T.heap locs) : own_G p e below (own_EW s Q C N) T (mkF m q A (.int x :: S)) := by
  obtain ⟨fs, hr, hrun, hended, hW⟩ := X.leaveW hS hk (v := some (.int x)) (fun h => by rw [hret] at h; cases h) hlocks
  exact ⟨_, _, retOut X hx hret rfl (Or.inl ⟨rfl, Or.inl rfl, _, rfl⟩) hd hr, hrun, hended, _, _, rfl, hQ, own_monoW hW hc hs⟩
theorem own_retAW {t : FieldType} (X : Stand p l e R (s.setVm vm0) m args below meth c T locs cells slots) (hx : p.tables.exec = Jvm.exec) (hS : s.Since vm0 k0) (hk : k0 ≤ T.heap.size) (hret : meth.sig.returnType = some t) (hlocks : meth.locks = false) (ht : t.isReference = true) (hv : v.isRef = true) (hn : narrow t v = v) (hd : decode c.code q = .ok (.areturn, 1)) (hc : cells ≤ C) (hs : slots ≤ N) (hQ : Q (some v) T.heap locs) : own_G p e below (own_EW s Q C N) T (mkF m q A (v :: S)) := by
  obtain ⟨fs, hr, hrun, hended, hW⟩ := X.leaveW hS hk (v := some v) (fun h => by rw [hret] at h; cases h) hlocks
  exact ⟨_, _, retOut X hx hret hn (Or.inr (Or.inr (Or.inr (Or.inr ⟨rfl, ht, hv⟩)))) hd hr, hrun, hended, _, _, rfl, hQ, own_monoW hW hc hs⟩
theorem own_retVW (X : Stand p l e R (s.setVm vm0) m args below meth c T locs cells slots) (hx : p.tables.exec = Jvm.exec) (hS : s.Since vm0 k0) (hk : k0 ≤ T.heap.size) (hret : meth.sig.returnType = none) (hlocks : meth.locks = false) (hd : decode c.code q = .ok (.return_, 1)) (hc : cells ≤ C) (hs : slots ≤ N) (hQ : Q none T.heap locs) : own_G p e below (own_EW s Q C N) T (mkF m q A []) := by
  obtain ⟨fs, hr, hrun, hended, hW⟩ := X.leaveW hS hk (v := none) (fun _ => rfl) hlocks
  exact ⟨_, _, X.returnOut hx hret hd hr, hrun, hended, _, _, rfl, hQ, own_monoW hW hc hs⟩
end EndsW
theorem own_ldcS {own text : String} {index n : Nat} (X : Stand p l e R (s.setVm vm0) m args below meth c T locs cells slots) (hx : p.tables.exec = Jvm.exec) (hZ : Z.Warmed39 vm0) (hown : vm0.findClass own = some m.cls) (w : (Cond.stringLink own index text).before a0 Z = true) (wS : ∀ a ∈ Bundle.stringAtoms, a.before a0 Z = true) (eT : T.heap = h) (hS : s.Since vm0 k0) (hk : k0 ≤ h.size) (hd : decode c.code q = .ok (.ldc index, 2)) (hn : 4 * text.toList.length ≤ n) (hbig : n ≤ 536870912) (hc : cells + 2 ≤ R.cells) (hl : slots + (n + 4) ≤ R.slots)
    (kk : ∀ a T' k1, Stand p l e R (s.setVm T'.vm) m args below meth c T' locs (cells + 2) (slots + (n + 4)) → Ext h T'.heap → s.Since T'.vm k1 → k1 ≤ T'.heap.size → Z.Warmed39 T'.vm → T'.vm.findClass own = some m.cls → own_G p e below K T' (mkF m (q + 2) A (.ref a :: S))) : own_G p e below K T (mkF m q A S) := by
  obtain ⟨a, T', h', k1, X', e', E, hS', hk', hZ', ho', st⟩ := ldcS X hx hZ hown w wS eT hS hk (g := mkF m q A S) rfl hd hn hbig hc hl
  subst e'
  exact own_st st (kk a T' k1 X' E hS' hk' hZ' ho')
section CallsW
variable {Q : Option Value → Heap → List Loc → Prop} {kc ks W : Nat} {own C : String} {index : Nat} {argsL St : List Value} {b : Addr}
theorem own_initS {bytes : ByteArray} {maxL : Nat} {y : MethodName} (hy1 : y.name = "<init>") (X : Stand p l e R (s.setVm vm0) m args below meth c T locs cells slots) (hx : p.tables.exec = Jvm.exec) (hZ : Z.Warmed39 vm0) (hS : s.Since vm0 k0) (hown : vm0.findClass own = some m.cls) (w1 : (Cond.methodLink own index y).before a0 Z = true) (w2 : (Cond.instanceMethod y).before a0 Z = true) (w4 : (Cond.code y bytes maxL none).before a0 Z = true) (hy : y.cls ≠ "java/lang/invoke/MethodHandle" ∧ y.cls ≠ "java/lang/invoke/VarHandle")
    (hK : BackS l R p e below (s.setVm vm0) args y 3 W (fun P a => a = (Value.ref b :: argsL).toArray ∧ P.U.heap = h ∧ P.cells + kc ≤ R.cells ∧ P.slots + ks ≤ R.slots) (fun P _ v B => ∃ L, Q v B.U.heap L ∧ B.locs = P.locs ++ L ∧ B.cells = P.cells + kc ∧ B.slots = P.slots + ks))
    (eT : T.heap = h) (hk : k0 ≤ h.size) (hsz : A.size = c.maxLocals) (hlen : ∀ sig, parseMethodDescriptor y.desc = some sig → argsL.length = sig.parameters.length) (hst : St = argsL.reverse ++ .ref b :: S) (hW : (S.map fun v => v.category).sum ≤ W) (hd : decode c.code q = .ok (.invokespecial index, 3)) (hc : cells + kc ≤ R.cells) (hs : slots + ks ≤ R.slots)
    (kk : ∀ T' L v k1, Stand p l e R (s.setVm T'.vm) m args below meth c T' (locs ++ L) (cells + kc) (slots + ks) → s.Since T'.vm k1 → k1 ≤ T'.heap.size → Z.Warmed39 T'.vm → T'.vm.findClass own = some m.cls → Q v T'.heap L → own_G p e below K T' (mkF m (q + 3) A (v.toList ++ S))) : own_G p e below K T (mkF m q A St) := by
  subst hst eT
  have hZ1 : Z.Warmed39 (s.setVm vm0).vm := hZ
  obtain ⟨v, _, ⟨T', L', k', n'⟩, -, X', hS', hg', ⟨L, hQ, l1, l2, l3⟩, st⟩ := X.specialBackS hx hy1 (show (s.setVm vm0).vm.findClass own = some m.cls from hown) (mvT hZ1 w1) (mvT hZ1 w2) (mvT hZ1 w4) hy hK (g := mkF m q A (argsL.reverse ++ .ref b :: S)) rfl hsz (Steps.refl _) (a := b) (argsL := argsL) (rest := S) hlen rfl (by show 2 * 0 + _ ≤ _; omega) hd (fun _ _ => ⟨rfl, rfl, hc, hs⟩)
  dsimp only [Pt.U, Pt.locs, Pt.cells, Pt.slots] at X' l1 l2 l3 st hQ hS' hg'
  subst l1 l2 l3
  obtain ⟨X2, hS2, hZ2, ho2⟩ := rebS hS hk X' hS' hg' hZ1 (show (s.setVm vm0).vm.findClass own = some m.cls from hown)
  exact own_tr st (kk _ _ _ _ X2 hS2 (Nat.le_refl _) hZ2 ho2 hQ)
theorem own_staticS {bytes : ByteArray} {maxL : Nat} {ret : Option FieldType} {y : MethodName} (X : Stand p l e R (s.setVm vm0) m args below meth c T locs cells slots) (hx : p.tables.exec = Jvm.exec) (hZ : Z.Warmed39 vm0) (hS : s.Since vm0 k0) (hown : vm0.findClass own = some m.cls) (w1 : (Cond.methodLink own index y).before a0 Z = true) (w2 : (Cond.static y).before a0 Z = true) (w3 : (Cond.initialized y.cls).before a0 Z = true) (w4 : (Cond.code y bytes maxL ret).before a0 Z = true) (hy : y.cls ≠ "java/lang/invoke/MethodHandle" ∧ y.cls ≠ "java/lang/invoke/VarHandle")
    (hK : BackS l R p e below (s.setVm vm0) args y 3 W (fun P a => a = argsL.toArray ∧ P.U.heap = h ∧ P.cells + kc ≤ R.cells ∧ P.slots + ks ≤ R.slots) (fun P _ v B => ∃ L, Q v B.U.heap L ∧ B.locs = P.locs ++ L ∧ B.cells = P.cells + kc ∧ B.slots = P.slots + ks))
    (eT : T.heap = h) (hk : k0 ≤ h.size) (hsz : A.size = c.maxLocals) (hlen : ∀ sig, parseMethodDescriptor y.desc = some sig → argsL.length = sig.parameters.length) (hst : St = argsL.reverse ++ S) (hW : (S.map fun v => v.category).sum ≤ W) (hd : decode c.code q = .ok (.invokestatic index, 3)) (hc : cells + kc ≤ R.cells) (hs : slots + ks ≤ R.slots)
    (kk : ∀ T' L v k1, Stand p l e R (s.setVm T'.vm) m args below meth c T' (locs ++ L) (cells + kc) (slots + ks) → s.Since T'.vm k1 → k1 ≤ T'.heap.size → Z.Warmed39 T'.vm → T'.vm.findClass own = some m.cls → Q v T'.heap L → own_G p e below K T' (mkF m (q + 3) A (v.toList ++ S))) : own_G p e below K T (mkF m q A St) := by
  subst hst eT
  have hZ1 : Z.Warmed39 (s.setVm vm0).vm := hZ
  obtain ⟨v, _, ⟨T', L', k', n'⟩, -, X', hS', hg', ⟨L, hQ, l1, l2, l3⟩, st⟩ := callSS X hx (show (s.setVm vm0).vm.findClass own = some m.cls from hown) (mvT hZ1 w1) (mvT hZ1 w2) (mvT hZ1 w3) (mvT hZ1 w4) hy hK (g := mkF m q A (argsL.reverse ++ S)) rfl hsz hlen rfl (by show 2 * 0 + _ ≤ _; omega) hd (fun _ _ => ⟨rfl, rfl, hc, hs⟩)
  dsimp only [Pt.U, Pt.locs, Pt.cells, Pt.slots] at X' l1 l2 l3 st hQ hS' hg'
  subst l1 l2 l3
  obtain ⟨X2, hS2, hZ2, ho2⟩ := rebS hS hk X' hS' hg' hZ1 (show (s.setVm vm0).vm.findClass own = some m.cls from hown)
  exact own_tr st (kk _ _ _ _ X2 hS2 (Nat.le_refl _) hZ2 ho2 hQ)
theorem own_virtualS {y z : MethodName} (X : Stand p l e R (s.setVm vm0) m args below meth c T locs cells slots) (hx : p.tables.exec = Jvm.exec) (hZ : Z.Warmed39 vm0) (hS : s.Since vm0 k0) (hown : vm0.findClass own = some m.cls) (w1 : (Cond.methodLink own index y).before a0 Z = true) (w2 : (Cond.declares y).before a0 Z = true) (hnf : NotFace (s.setVm vm0) y) (w3 : (Cond.selects C y z).before a0 Z = true) (w4 : (Cond.instanceMethod z).before a0 Z = true) (hy : y.cls ≠ "java/lang/invoke/MethodHandle" ∧ y.cls ≠ "java/lang/invoke/VarHandle")
    (hK : BackS l R p e below (s.setVm vm0) args z 3 W (fun P a => a = (Value.ref b :: argsL).toArray ∧ P.U.heap = h ∧ P.cells + kc ≤ R.cells ∧ P.slots + ks ≤ R.slots) (fun P _ v B => ∃ L, Q v B.U.heap L ∧ B.locs = P.locs ++ L ∧ B.cells = P.cells + kc ∧ B.slots = P.slots + ks))
    (eT : T.heap = h) (hk : k0 ≤ h.size) (E : Exa Z h b C) (hsz : A.size = c.maxLocals) (hlen : ∀ sig, parseMethodDescriptor y.desc = some sig → argsL.length = sig.parameters.length) (hst : St = argsL.reverse ++ .ref b :: S) (hW : (S.map fun v => v.category).sum ≤ W) (hd : decode c.code q = .ok (.invokevirtual index, 3)) (hc : cells + kc ≤ R.cells) (hs : slots + ks ≤ R.slots)
    (kk : ∀ T' L v k1, Stand p l e R (s.setVm T'.vm) m args below meth c T' (locs ++ L) (cells + kc) (slots + ks) → s.Since T'.vm k1 → k1 ≤ T'.heap.size → Z.Warmed39 T'.vm → T'.vm.findClass own = some m.cls → Q v T'.heap L → own_G p e below K T' (mkF m (q + 3) A (v.toList ++ S))) : own_G p e below K T (mkF m q A St) := by
  subst hst eT
  have hZ1 : Z.Warmed39 (s.setVm vm0).vm := hZ
  obtain ⟨cq, kq, q1, q2, q3⟩ := isOf (s := s.setVm vm0) hZ1 rfl E
  obtain ⟨v, _, ⟨T', L', k', n'⟩, -, X', hS', hg', ⟨L, hQ, l1, l2, l3⟩, st⟩ := X.virtualBackS hx (show (s.setVm vm0).vm.findClass own = some m.cls from hown) (mvT hZ1 w1) (mvT hZ1 w2) hnf (mvT hZ1 w3) (mvT hZ1 w4) hy hK q1 q3 (g := mkF m q A (argsL.reverse ++ .ref b :: S)) rfl hsz (Steps.refl _) (argsL := argsL) (rest := S) hlen rfl (by show 2 * 0 + _ ≤ _; omega) hd (fun _ _ => ⟨rfl, rfl, hc, hs⟩)
  dsimp only [Pt.U, Pt.locs, Pt.cells, Pt.slots] at X' l1 l2 l3 st hQ hS' hg'
  subst l1 l2 l3
  obtain ⟨X2, hS2, hZ2, ho2⟩ := rebS hS hk X' hS' hg' hZ1 (show (s.setVm vm0).vm.findClass own = some m.cls from hown)
  exact own_tr st (kk _ _ _ _ X2 hS2 (Nat.le_refl _) hZ2 ho2 hQ)
end CallsW
end OwnW
end Jvm.RoadKit

/- laws to paste: Road.backV, Road.empW, Road.eqW, Road.codOf (cut by pick.py; bodies as the Statement names them) -/
namespace Jvm.Pilot.@@N@@
namespace StrChars
open Jvm Sem ClassFile Op Lib Jvm.Stand Jvm.Free.XT Jvm.Free.ALB Jvm.Free.JM Jvm.Free
open Jvm.Lib.Cold (StaticIs)
/-- a char array whose places are chars -/
def Ch (a : Addr) (A : Cell) (U : State) : Prop := Arr .char a A U ∧ Typed .char A
theorem Ch.mv {a : Addr} {A : Cell} {U U' : State} (h : Ch a A U) (hal : U.vm.Alike U'.vm) (hh : U'.heap = U.heap) : Ch a A U' := ⟨h.1.mv hal hh, h.2⟩
theorem Ch.keep {a : Addr} {A : Cell} {U U' : State} (h : Ch a A U) (hal : U.vm.Alike U'.vm) (hk : U'.heap[a]? = some A) : Ch a A U' := ⟨h.1.keep hal hk, h.2⟩
/-- what place i of a char[]'s cell holds -/
def cv (A : Cell) (i : Nat) : Int32 := match A.slots[i]? with | some (.int x) => x | _ => 0
theorem Ch.get {a : Addr} {A : Cell} {U : State} (h : Ch a A U) {i : Nat} (hi : i < A.slots.size) : A.slots[i]? = some (.int (cv A i)) := by
  have e := Array.getElem?_eq_getElem hi
  have f := h.2 i _ e
  unfold cv; rw [e]
  generalize A.slots[i] = v at f
  cases v <;> simp [fits] at f ⊢
/-- the byte that i2b leaves of a char -/
def lo8 (x : Int32) : Int32 := x.toInt8.toInt32
theorem fits_lo8 (y : Int32) : fits .byte (.int (lo8 y)) = true := by
  have h1 := y.toInt8.le_toInt
  have h2 := y.toInt8.toInt_lt
  simp only [lo8, fits, Bool.and_eq_true, decide_eq_true_eq, Int32.le_iff_toInt_le, Int8.toInt_toInt32, show (-128 : Int32).toInt = -128 from by decide, show (127 : Int32).toInt = 127 from by decide]
  omega
/-- A' is A but that each place j of lo .. hi - 1 holds f j -/
def Laid (A A' : Cell) (lo hi : Nat) (f : Nat → Value) : Prop := A'.cls = A.cls ∧ A'.vm = A.vm ∧ A'.slots.size = A.slots.size ∧ ∀ i, A'.slots[i]? = if lo ≤ i ∧ i < hi then some (f i) else A.slots[i]?
theorem Laid.zero (A : Cell) (lo : Nat) (f : Nat → Value) : Laid A A lo (lo + 0) f := ⟨rfl, rfl, rfl, fun i => by rw [if_neg (by omega)]⟩
theorem Laid.step {A Ak : Cell} {lo k : Nat} {f : Nat → Value} {v : Value} (h : Laid A Ak lo k f) (hlo : lo ≤ k) (hk : k < Ak.slots.size) (hv : v = f k) : Laid A (Ak.setSlot k v) lo (k + 1) f := by
  refine ⟨h.1, h.2.1, by simpa [Cell.setSlot] using h.2.2.1, fun i => ?_⟩
  by_cases e : k = i
  · subst e; rw [Cell.slots_setSlot_self v hk, if_pos (by omega), hv]
  · rw [Cell.slots_setSlot_ne v e, h.2.2.2 i]
    by_cases q : lo ≤ i ∧ i < k
    · rw [if_pos q, if_pos (by omega)]
    · rw [if_neg q, if_neg (by omega)]
def U16 : String := "java/lang/StringUTF16"
namespace Cmp5
def yN : MethodName := ⟨"java/lang/StringUTF16", "compress", "([CI[BII)I"⟩
abbrev yB : ByteArray := jdk_52_method_21_code
theorem d0 : decode yB 0 = .ok (.iconst 0, 1) := by decide +kernel
theorem d1 : decode yB 1 = .ok (.istore 5, 2) := by decide +kernel
theorem d3 : decode yB 3 = .ok (.iload 5, 2) := by decide +kernel
theorem d5 : decode yB 5 = .ok (.iload 4, 2) := by decide +kernel
theorem d7 : decode yB 7 = .ok (.if_icmp (.ge) 37, 3) := by decide +kernel
theorem d10 : decode yB 10 = .ok (.aload_n 0, 1) := by decide +kernel
theorem d11 : decode yB 11 = .ok (.iload_n 1, 1) := by decide +kernel
theorem d12 : decode yB 12 = .ok (.caload, 1) := by decide +kernel
theorem d13 : decode yB 13 = .ok (.istore 6, 2) := by decide +kernel
theorem d15 : decode yB 15 = .ok (.iload 6, 2) := by decide +kernel
theorem d17 : decode yB 17 = .ok (.sipush 255, 3) := by decide +kernel
theorem d20 : decode yB 20 = .ok (.if_icmp (.le) 6, 3) := by decide +kernel
theorem d26 : decode yB 26 = .ok (.aload_n 2, 1) := by decide +kernel
theorem d27 : decode yB 27 = .ok (.iload_n 3, 1) := by decide +kernel
theorem d28 : decode yB 28 = .ok (.iload 6, 2) := by decide +kernel
theorem d30 : decode yB 30 = .ok (.i2b, 1) := by decide +kernel
theorem d31 : decode yB 31 = .ok (.bastore, 1) := by decide +kernel
theorem d32 : decode yB 32 = .ok (.iinc 1 1, 3) := by decide +kernel
theorem d35 : decode yB 35 = .ok (.iinc 3 1, 3) := by decide +kernel
theorem d38 : decode yB 38 = .ok (.iinc 5 1, 3) := by decide +kernel
theorem d41 : decode yB 41 = .ok (.goto (-38), 3) := by decide +kernel
theorem d44 : decode yB 44 = .ok (.iload 4, 2) := by decide +kernel
theorem d46 : decode yB 46 = .ok (.ireturn, 1) := by decide +kernel
def site : List Cond := []
def tab : Cond := tabOf yN yB 7 (some .int) site
def P (b : Addr) (A : Cell) (d : Addr) (B : Cell) (o q len : Nat) (args : Array Value) (s : State) : Prop := args = #[.ref b, .int (Int32.ofNat o), .ref d, .int (Int32.ofNat q), .int (Int32.ofNat len)] ∧ Ch b A s ∧ Arr .byte d B s ∧ b ≠ d ∧ o + len ≤ A.slots.size ∧ q + len ≤ B.slots.size ∧ ∀ i, i < len → ¬ 255 < cv A (o + i)
def E (b : Addr) (A : Cell) (d : Addr) (B : Cell) (o q len : Nat) (r : Option Value) (s u : State) : Prop := r = some (.int (Int32.ofNat len)) ∧ ∃ B', Put d B' s u ∧ Laid B B' q (q + len) (fun j => Value.int (lo8 (cv A (o + (j - q)))))
/-- no char of the range above 255: len; the places written hold each char's low byte -/
theorem law (l : Launch) (b : Addr) (A : Cell) (d : Addr) (B : Cell) (o q len : Nat) : Law l yN 5 5 0 0 yB 7 (some .int) site (P b A d B o q len) (E b A d B o q len) (copyLocs d q len) 0 0 := by
  refine Law.of_walk (plainFor_of_name (by decide +kernel)) (by decide +kernel) (by decide +kernel) (by decide) (fun _ _ h => by rw [h.1]; rfl) (fun _ U U' hal hh h => ⟨h.1, h.2.1.mv hal hh, h.2.2.1.mv hal hh, h.2.2.2⟩) (fun r U U' V V' h1 hal h2 h => ⟨h.1, h.2.elim fun B' q => ⟨B', q.1.mv h1 h2, q.2⟩⟩) ?_
  intro p e s m args below meth c s₁ X0 hexec hbytes hml hret hlk hnm hown hh0 W hP
  obtain ⟨rfl, hA, hB, hne, l1, l2, hp⟩ := hP
  have c1 : Steps p.tables e below (s₁.setTop (entryFrame m #[.ref b, .int (Int32.ofNat o), .ref d, .int (Int32.ofNat q), .int (Int32.ofNat len)] 7)) (s₁.setTop (mkF m 0 #[.val (.ref b), .val (.int (Int32.ofNat o)), .val (.ref d), .val (.int (Int32.ofNat q)), .val (.int (Int32.ofNat len)), .unset, .unset] [])) := entry rfl
  have hA0 := hA.1.mv X0.warmed.alike hh0
  have hB0 := hB.mv X0.warmed.alike hh0
  have a31 := hA.1.2.2.2
  have c2 : Steps p.tables e below (s₁.setTop (entryFrame m #[.ref b, .int (Int32.ofNat o), .ref d, .int (Int32.ofNat q), .int (Int32.ofNat len)] 7)) (s₁.setTop (mkF m 3 #[.val (.ref b), .val (.int (Int32.ofNat o)), .val (.ref d), .val (.int (Int32.ofNat q)), .val (.int (Int32.ofNat len)), .val (.int 0), .unset] [])) := c1.trans (by
    refine iconstV X0.here hexec rfl 0 (hb hbytes d0) (by decide) ?_
    refine XS.istore X0.here hexec rfl (hb hbytes d1) rfl rfl ?_
    exact Steps.refl _)
  have loop : ∀ (r i : Nat), i + r = len → ∀ (z : Slot), (z = .unset ∨ ∃ w, z = .val w ∧ w.category = 1) → ∀ (Tl : State) (Bk : Cell), Stand p l e { frames := 0, locals := 0, cells := 0, slots := 0 } s m #[.ref b, .int (Int32.ofNat o), .ref d, .int (Int32.ofNat q), .int (Int32.ofNat len)] below meth c Tl ([] ++ copyLocs d q i) 0 0 → Put d Bk s₁ Tl → Laid B Bk q (q + i) (fun j => Value.int (lo8 (cv A (o + (j - q))))) →
      Steps p.tables e below (s₁.setTop (entryFrame m #[.ref b, .int (Int32.ofNat o), .ref d, .int (Int32.ofNat q), .int (Int32.ofNat len)] 7)) (Tl.setTop (mkF m 3 #[.val (.ref b), .val (.int (Int32.ofNat (o + i))), .val (.ref d), .val (.int (Int32.ofNat (q + i))), .val (.int (Int32.ofNat len)), .val (.int (Int32.ofNat i)), z] [])) → ∃ (T' : State) (B' : Cell) (z' : Slot), Stand p l e { frames := 0, locals := 0, cells := 0, slots := 0 } s m #[.ref b, .int (Int32.ofNat o), .ref d, .int (Int32.ofNat q), .int (Int32.ofNat len)] below meth c T' ([] ++ copyLocs d q len) 0 0 ∧ Put d B' s₁ T' ∧ Laid B B' q (q + len) (fun j => Value.int (lo8 (cv A (o + (j - q))))) ∧
      Steps p.tables e below (s₁.setTop (entryFrame m #[.ref b, .int (Int32.ofNat o), .ref d, .int (Int32.ofNat q), .int (Int32.ofNat len)] 7)) (T'.setTop (mkF m 3 #[.val (.ref b), .val (.int (Int32.ofNat (o + len))), .val (.ref d), .val (.int (Int32.ofNat (q + len))), .val (.int (Int32.ofNat len)), .val (.int (Int32.ofNat len)), z'] [])) := by
    intro r
    induction r with
    | zero =>
      intro i hi z hz Tl Bk Xl pl fl cl
      have hil : i = len := by omega
      rw [hil] at Xl fl cl
      exact ⟨Tl, Bk, z, Xl, pl, fl, cl⟩
    | succ r ih =>
      intro i hi z hz Tl Bk Xl pl fl cl
      have all := X0.warmed.alike.symm.trans Xl.warmed.alike
      have hAl := hA0.keep all (pl.other hne hA0.1)
      have hBk := hB0.like all pl.1 fl.1 fl.2.1 fl.2.2.1
      have hlt : q + i < Bk.slots.size := by rw [fl.2.2.1]; omega
      have c3 : Steps p.tables e below (s₁.setTop (entryFrame m #[.ref b, .int (Int32.ofNat o), .ref d, .int (Int32.ofNat q), .int (Int32.ofNat len)] 7)) (Tl.setTop (mkF m 12 #[.val (.ref b), .val (.int (Int32.ofNat (o + i))), .val (.ref d), .val (.int (Int32.ofNat (q + i))), .val (.int (Int32.ofNat len)), .val (.int (Int32.ofNat i)), z] [.int (Int32.ofNat (o + i)), .ref b])) := cl.trans (by
        refine XS.iload Xl.here hexec rfl (hb hbytes d3) rfl ?_
        refine XS.iload Xl.here hexec rfl (hb hbytes d5) rfl ?_
        refine XS.icmpNo Xl.here hexec rfl (hb hbytes d7) rfl (ii_ge_f (lt32 (by omega) (by omega))) ?_
        refine XS.aloadN Xl.here hexec rfl (hb hbytes d10) rfl rfl ?_
        refine XS.iloadN Xl.here hexec rfl (hb hbytes d11) rfl ?_
        exact Steps.refl _)
      have c4 : Steps p.tables e below (s₁.setTop (entryFrame m #[.ref b, .int (Int32.ofNat o), .ref d, .int (Int32.ofNat q), .int (Int32.ofNat len)] 7)) (Tl.setTop (mkF m 13 #[.val (.ref b), .val (.int (Int32.ofNat (o + i))), .val (.ref d), .val (.int (Int32.ofNat (q + i))), .val (.int (Int32.ofNat len)), .val (.int (Int32.ofNat i)), z] [.int (cv A (o + i))])) := c3.trans (by
        refine Xl.aget hexec hAl rfl (hA.get (i := o + i) (by omega)) rfl rfl (hb hbytes d12) ?_
        exact Steps.refl _)
      have c5 : Steps p.tables e below (s₁.setTop (entryFrame m #[.ref b, .int (Int32.ofNat o), .ref d, .int (Int32.ofNat q), .int (Int32.ofNat len)] 7)) (Tl.setTop (mkF m 15 #[.val (.ref b), .val (.int (Int32.ofNat (o + i))), .val (.ref d), .val (.int (Int32.ofNat (q + i))), .val (.int (Int32.ofNat len)), .val (.int (Int32.ofNat i)), .val (.int (cv A (o + i)))] [])) := c4.trans (by
        refine XS.istoreS Xl.here hexec rfl (hb hbytes d13) rfl rfl hz ?_
        exact Steps.refl _)
      have c6 : Steps p.tables e below (s₁.setTop (entryFrame m #[.ref b, .int (Int32.ofNat o), .ref d, .int (Int32.ofNat q), .int (Int32.ofNat len)] 7)) (Tl.setTop (mkF m 31 #[.val (.ref b), .val (.int (Int32.ofNat (o + i))), .val (.ref d), .val (.int (Int32.ofNat (q + i))), .val (.int (Int32.ofNat len)), .val (.int (Int32.ofNat i)), .val (.int (cv A (o + i)))] [.int (lo8 (cv A (o + i))), .int (Int32.ofNat (q + i)), .ref d])) := c5.trans (by
        refine XS.iload Xl.here hexec rfl (hb hbytes d15) rfl ?_
        refine sipushV Xl.here hexec rfl 255 (hb hbytes d17) (by decide) ?_
        refine XS.icmpYes Xl.here hexec rfl (pc0 := 20) rfl (hb hbytes d20) rfl (ii_le_t (hp i (by omega))) (by decide) rfl ?_
        refine XS.aloadN Xl.here hexec rfl (hb hbytes d26) rfl rfl ?_
        refine XS.iloadN Xl.here hexec rfl (hb hbytes d27) rfl ?_
        refine XS.iload Xl.here hexec rfl (hb hbytes d28) rfl ?_
        refine i2b Xl.here hexec rfl (hb hbytes d30) rfl ?_
        exact Steps.refl _)
      obtain ⟨T7, X7, p7, st7⟩ := Xl.aput hexec hBk rfl hlt rfl (fits_lo8 (cv A (o + i))) (g := (mkF m 31 #[.val (.ref b), .val (.int (Int32.ofNat (o + i))), .val (.ref d), .val (.int (Int32.ofNat (q + i))), .val (.int (Int32.ofNat len)), .val (.int (Int32.ofNat i)), .val (.int (cv A (o + i)))] [.int (lo8 (cv A (o + i))), .int (Int32.ofNat (q + i)), .ref d])) rfl (rest := []) rfl (hb hbytes d31)
      have c8 : Steps p.tables e below (s₁.setTop (entryFrame m #[.ref b, .int (Int32.ofNat o), .ref d, .int (Int32.ofNat q), .int (Int32.ofNat len)] 7)) (T7.setTop (mkF m 32 #[.val (.ref b), .val (.int (Int32.ofNat (o + i))), .val (.ref d), .val (.int (Int32.ofNat (q + i))), .val (.int (Int32.ofNat len)), .val (.int (Int32.ofNat i)), .val (.int (cv A (o + i)))] [])) := c6.trans (st7 _ (Steps.refl _))
      have c9 : Steps p.tables e below (s₁.setTop (entryFrame m #[.ref b, .int (Int32.ofNat o), .ref d, .int (Int32.ofNat q), .int (Int32.ofNat len)] 7)) (T7.setTop (mkF m 3 #[.val (.ref b), .val (.int (Int32.ofNat (o + i) + 1)), .val (.ref d), .val (.int (Int32.ofNat (q + i) + 1)), .val (.int (Int32.ofNat len)), .val (.int (Int32.ofNat i + 1)), .val (.int (cv A (o + i)))] [])) := c8.trans (by
        refine iincV X7.here hexec rfl 1 (hb hbytes d32) (by decide) rfl rfl ?_
        refine iincV X7.here hexec rfl 1 (hb hbytes d35) (by decide) rfl rfl ?_
        refine iincV X7.here hexec rfl 1 (hb hbytes d38) (by decide) rfl rfl ?_
        refine XS.goto X7.here hexec rfl (pc0 := 41) rfl (hb hbytes d41) (by decide) rfl ?_
        exact Steps.refl _)
      have c10 : Steps p.tables e below (s₁.setTop (entryFrame m #[.ref b, .int (Int32.ofNat o), .ref d, .int (Int32.ofNat q), .int (Int32.ofNat len)] 7)) (T7.setTop (mkF m 3 #[.val (.ref b), .val (.int (Int32.ofNat (o + (i + 1)))), .val (.ref d), .val (.int (Int32.ofNat (q + (i + 1)))), .val (.int (Int32.ofNat len)), .val (.int (Int32.ofNat (i + 1))), .val (.int (cv A (o + i)))] [])) := by
        have := c9
        rw [succ32, succ32, succ32] at this
        exact this
      exact ih (i + 1) (by omega) _ (Or.inr ⟨_, rfl, rfl⟩) T7 _ (by rw [copyLocs_step, ← List.append_assoc]; exact X7) (pl.trans p7) (fl.step (by omega) hlt (by simp)) c10
  obtain ⟨T9, B9, z9, X9, p9, f9, g9⟩ := loop len 0 (by omega) .unset (Or.inl rfl) s₁ B (by simpa [copyLocs] using X0) ⟨hB0.1, fun _ _ => rfl, rfl⟩ (Laid.zero _ _ _) c2
  have c11 : Steps p.tables e below (s₁.setTop (entryFrame m #[.ref b, .int (Int32.ofNat o), .ref d, .int (Int32.ofNat q), .int (Int32.ofNat len)] 7)) (T9.setTop (mkF m 46 #[.val (.ref b), .val (.int (Int32.ofNat (o + len))), .val (.ref d), .val (.int (Int32.ofNat (q + len))), .val (.int (Int32.ofNat len)), .val (.int (Int32.ofNat len)), z9] [.int (Int32.ofNat len)])) := g9.trans (by
    refine XS.iload X9.here hexec rfl (hb hbytes d3) rfl ?_
    refine XS.iload X9.here hexec rfl (hb hbytes d5) rfl ?_
    refine XS.icmpYes X9.here hexec rfl (pc0 := 7) rfl (hb hbytes d7) rfl (ii_ge_t (nlt32 (by omega) (Nat.le_refl _))) (by decide) rfl ?_
    refine XS.iload X9.here hexec rfl (hb hbytes d44) rfl ?_
    exact Steps.refl _)
  exact ⟨T9, some (.int (Int32.ofNat len)), _, _, _, X9, by simp, rfl, rfl, (fun h => by cases h), ⟨rfl, B9, p9.from hh0, f9⟩, fun fs hl => c11.trans (X9.ireturnOut hexec hret rfl (Or.inl rfl) (hb hbytes d46) hl)⟩
end Cmp5
namespace Cmp3
def yN : MethodName := ⟨"java/lang/StringUTF16", "compress", "([CII)[B"⟩
abbrev yB : ByteArray := jdk_52_method_16_code
theorem d0 : decode yB 0 = .ok (.iload_n 2, 1) := by decide +kernel
theorem d1 : decode yB 1 = .ok (.newarray .byte, 2) := by decide +kernel
theorem d3 : decode yB 3 = .ok (.astore_n 3, 1) := by decide +kernel
theorem d4 : decode yB 4 = .ok (.aload_n 0, 1) := by decide +kernel
theorem d5 : decode yB 5 = .ok (.iload_n 1, 1) := by decide +kernel
theorem d6 : decode yB 6 = .ok (.aload_n 3, 1) := by decide +kernel
theorem d7 : decode yB 7 = .ok (.iconst 0, 1) := by decide +kernel
theorem d8 : decode yB 8 = .ok (.iload_n 2, 1) := by decide +kernel
theorem d9 : decode yB 9 = .ok (.invokestatic 115, 3) := by decide +kernel
theorem d12 : decode yB 12 = .ok (.istore 4, 2) := by decide +kernel
theorem d14 : decode yB 14 = .ok (.iload 4, 2) := by decide +kernel
theorem d16 : decode yB 16 = .ok (.iload_n 2, 1) := by decide +kernel
theorem d17 : decode yB 17 = .ok (.if_icmp (.eq) 40, 3) := by decide +kernel
theorem d57 : decode yB 57 = .ok (.aload_n 3, 1) := by decide +kernel
theorem d58 : decode yB 58 = .ok (.areturn, 1) := by decide +kernel
def site : List Cond := [.arrayClass .byte, Cmp5.tab] ++ staticW U16 115 Cmp5.yN
def tab : Cond := tabOf yN yB 6 (some (.array .byte)) site
def P (b : Addr) (A : Cell) (o len : Nat) (args : Array Value) (s : State) : Prop := args = #[.ref b, .int (Int32.ofNat o), .int (Int32.ofNat len)] ∧ Ch b A s ∧ o + len ≤ A.slots.size ∧ len ≤ 536870912 ∧ ∀ i, i < len → ¬ 255 < cv A (o + i)
def E (b : Addr) (A : Cell) (o len : Nat) (r : Option Value) (s u : State) : Prop := NewArr .byte "[B" len (fun j => .int (lo8 (cv A (o + j)))) r s u ∧ u.heap.size = s.heap.size + 1
/-- no char of the range above 255: a new byte[] of their low bytes -/
theorem law (l : Launch) (b : Addr) (A : Cell) (o len : Nat) : Law l yN 3 3 1 18 yB 6 (some (.array .byte)) site (P b A o len) (E b A o len) [] 1 len := by
  refine Law.of_walk (plainFor_of_name (by decide +kernel)) (by decide +kernel) (by decide +kernel) (by decide) (fun _ _ h => by rw [h.1]; rfl) (fun _ U U' hal hh h => ⟨h.1, h.2.1.mv hal hh, h.2.2⟩) (fun r U U' V V' h1 hal h2 h => ⟨NewArr.mv r U U' V V' h1 hal h2 h.1, by rw [h1, h2]; exact h.2⟩) ?_
  intro p e s m args below meth c s₁ X0 hexec hbytes hml hret hlk hnm hown hh0 W hP
  obtain ⟨rfl, hA, l1, l2, hp⟩ := hP
  have a31 := hA.1.2.2.2
  have c1 : Steps p.tables e below (s₁.setTop (entryFrame m #[.ref b, .int (Int32.ofNat o), .int (Int32.ofNat len)] 6)) (s₁.setTop (mkF m 0 #[.val (.ref b), .val (.int (Int32.ofNat o)), .val (.int (Int32.ofNat len)), .unset, .unset, .unset] [])) := entry rfl
  have c2 : Steps p.tables e below (s₁.setTop (entryFrame m #[.ref b, .int (Int32.ofNat o), .int (Int32.ofNat len)] 6)) (s₁.setTop (mkF m 1 #[.val (.ref b), .val (.int (Int32.ofNat o)), .val (.int (Int32.ofNat len)), .unset, .unset, .unset] [.int (Int32.ofNat len)])) := c1.trans (by
    refine XS.iloadN X0.here hexec rfl (hb hbytes d0) rfl ?_
    exact Steps.refl _)
  obtain ⟨T3, B3, X3, ba3, bs3, bv3, bh3, bf3, st3⟩ := X0.anew hexec (atype := .byte) (wk W (.arrayClass .byte)) rfl (by show len * 1 ≤ _; omega) (by omega) (g := (mkF m 1 #[.val (.ref b), .val (.int (Int32.ofNat o)), .val (.int (Int32.ofNat len)), .unset, .unset, .unset] [.int (Int32.ofNat len)])) rfl (hb hbytes d1) (rest := []) rfl (Nat.le_refl _) (by show 0 + len ≤ len; omega)
  rw [hh0] at ba3 st3
  have kp3 : XT.Kept s T3 := (XT.Kept.of_eq hh0).push bh3
  have hA3 := hA.keep X3.warmed.alike (kp3 _ _ hA.1.1)
  have hne : b ≠ s.heap.size := hA.1.ne
  have c4 : Steps p.tables e below (s₁.setTop (entryFrame m #[.ref b, .int (Int32.ofNat o), .int (Int32.ofNat len)] 6)) (T3.setTop (mkF m 3 #[.val (.ref b), .val (.int (Int32.ofNat o)), .val (.int (Int32.ofNat len)), .unset, .unset, .unset] [.ref s.heap.size])) := c2.trans (st3 _ (Steps.refl _))
  have c5 : Steps p.tables e below (s₁.setTop (entryFrame m #[.ref b, .int (Int32.ofNat o), .int (Int32.ofNat len)] 6)) (T3.setTop (mkF m 9 #[.val (.ref b), .val (.int (Int32.ofNat o)), .val (.int (Int32.ofNat len)), .val (.ref s.heap.size), .unset, .unset] [.int (Int32.ofNat len), .int 0, .ref s.heap.size, .int (Int32.ofNat o), .ref b])) := c4.trans (by
    refine XS.astoreN X3.here hexec rfl (hb hbytes d3) rfl rfl rfl ?_
    refine XS.aloadN X3.here hexec rfl (hb hbytes d4) rfl rfl ?_
    refine XS.iloadN X3.here hexec rfl (hb hbytes d5) rfl ?_
    refine XS.aloadN X3.here hexec rfl (hb hbytes d6) rfl rfl ?_
    refine iconstV X3.here hexec rfl 0 (hb hbytes d7) (by decide) ?_
    refine XS.iloadN X3.here hexec rfl (hb hbytes d8) rfl ?_
    exact Steps.refl _)
  obtain ⟨v6, T6, X6, E6, g6⟩ := X3.callS hexec (Cmp5.law l b A s.heap.size B3 o 0 len) hown (wks W (staticW U16 115 Cmp5.yN)) (wk W Cmp5.tab) (W := 0) (Nat.le_of_ble_eq_true rfl) (Nat.le_of_ble_eq_true rfl) (Nat.le_refl _) (by show 0 + len + 0 ≤ len; omega) (g := (mkF m 9 #[.val (.ref b), .val (.int (Int32.ofNat o)), .val (.int (Int32.ofNat len)), .val (.ref s.heap.size), .unset, .unset] [.int (Int32.ofNat len), .int (Int32.ofNat 0), .ref s.heap.size, .int (Int32.ofNat o), .ref b])) rfl (by rw [hml]; rfl) c5 (argsL := [.ref b, .int (Int32.ofNat o), .ref s.heap.size, .int (Int32.ofNat 0), .int (Int32.ofNat len)]) (rest := []) rfl rfl (by show 2 * 0 + 0 ≤ _; decide) (hb hbytes d9) (⟨rfl, hA3, ba3, hne, l1, by rw [bs3]; simp, hp⟩)
  obtain ⟨rfl, B6, p6, f6⟩ := E6
  have c7 : Steps p.tables e below (s₁.setTop (entryFrame m #[.ref b, .int (Int32.ofNat o), .int (Int32.ofNat len)] 6)) (T6.setTop (mkF m 12 #[.val (.ref b), .val (.int (Int32.ofNat o)), .val (.int (Int32.ofNat len)), .val (.ref s.heap.size), .unset, .unset] [.int (Int32.ofNat len)])) := g6
  have c8 : Steps p.tables e below (s₁.setTop (entryFrame m #[.ref b, .int (Int32.ofNat o), .int (Int32.ofNat len)] 6)) (T6.setTop (mkF m 58 #[.val (.ref b), .val (.int (Int32.ofNat o)), .val (.int (Int32.ofNat len)), .val (.ref s.heap.size), .val (.int (Int32.ofNat len)), .unset] [.ref s.heap.size])) := c7.trans (by
    refine XS.istore X6.here hexec rfl (hb hbytes d12) rfl rfl ?_
    refine XS.iload X6.here hexec rfl (hb hbytes d14) rfl ?_
    refine XS.iloadN X6.here hexec rfl (hb hbytes d16) rfl ?_
    refine XS.icmpYes X6.here hexec rfl (pc0 := 17) rfl (hb hbytes d17) rfl (ii_eq_t rfl) (by decide) rfl ?_
    refine XS.aloadN X6.here hexec rfl (hb hbytes d57) rfl rfl ?_
    exact Steps.refl _)
  have X8 := X6.wide (L' := []) (cells' := 1) (slots' := len) (fun x hx hlt => by
    simp only [List.nil_append, copyLocs, List.mem_map, List.mem_range] at hx
    obtain ⟨i, -, rfl⟩ := hx
    exact absurd hlt (Nat.lt_irrefl _)) (Nat.le_refl _) (by omega)
  exact ⟨T6, some (.ref s.heap.size), _, _, _, X8, rfl, rfl, rfl, (fun h => by cases h), ⟨⟨rfl, B6, ba3.like (X3.warmed.alike.symm.trans X6.warmed.alike) p6.1 f6.1 f6.2.1 f6.2.2.1, f6.2.1.trans bv3, by rw [X6.warmed.alike.findClass, f6.1]; exact bf3, by rw [f6.2.2.1, bs3]; simp, fun j hj => by rw [f6.2.2.2 j, if_pos (by omega)]; rfl, kp3.put p6 (Nat.le_refl _)⟩, by rw [p6.2.2, bh3, hh0]; simp⟩, fun fs hl => c8.trans (X8.areturnOut hexec rfl hret rfl (hb hbytes d58) hl)⟩
end Cmp3
namespace CodL
def yN : MethodName := ⟨"java/lang/StringUTF16", "coderFromArrayLen", "([BI)B"⟩
abbrev yB : ByteArray := jdk_52_method_15_code
theorem d0 : decode yB 0 = .ok (.iload_n 1, 1) := by decide +kernel
theorem d1 : decode yB 1 = .ok (.aload_n 0, 1) := by decide +kernel
theorem d2 : decode yB 2 = .ok (.arraylength, 1) := by decide +kernel
theorem d3 : decode yB 3 = .ok (.isub, 1) := by decide +kernel
theorem d4 : decode yB 4 = .ok (.bipush 31, 2) := by decide +kernel
theorem d6 : decode yB 6 = .ok (.iushr, 1) := by decide +kernel
theorem d7 : decode yB 7 = .ok (.i2b, 1) := by decide +kernel
theorem d8 : decode yB 8 = .ok (.ireturn, 1) := by decide +kernel
def site : List Cond := []
def tab : Cond := tabOf yN yB 2 (some .byte) site
def P (d : Addr) (B : Cell) (args : Array Value) (s : State) : Prop := args = #[.ref d, .int (Int32.ofNat B.slots.size)] ∧ Arr .byte d B s
def E (r : Option Value) (s u : State) : Prop := XT.PureE (some (.int 0)) r s u
/-- an array as long as the number of chars: LATIN1 -/
theorem law (l : Launch) (d : Addr) (B : Cell) : Law l yN 2 2 0 0 yB 2 (some .byte) site (P d B) E [] 0 0 := by
  refine Law.of_walk (plainFor_of_name (by decide +kernel)) (by decide +kernel) (by decide +kernel) (by decide) (fun _ _ h => by rw [h.1]; rfl) (fun _ U U' hal hh h => ⟨h.1, h.2.mv hal hh⟩) (fun r U U' V V' h1 hal h2 h => XT.PureE.mv r U U' V V' h1 hal h2 h) ?_
  intro p e s m args below meth c s₁ X0 hexec hbytes hml hret hlk hnm hown hh0 W hP
  obtain ⟨rfl, hB⟩ := hP
  have hB0 := hB.mv X0.warmed.alike hh0
  have c1 : Steps p.tables e below (s₁.setTop (entryFrame m #[.ref d, .int (Int32.ofNat B.slots.size)] 2)) (s₁.setTop (mkF m 0 #[.val (.ref d), .val (.int (Int32.ofNat B.slots.size))] [])) := entry rfl
  have c2 : Steps p.tables e below (s₁.setTop (entryFrame m #[.ref d, .int (Int32.ofNat B.slots.size)] 2)) (s₁.setTop (mkF m 2 #[.val (.ref d), .val (.int (Int32.ofNat B.slots.size))] [.ref d, .int (Int32.ofNat B.slots.size)])) := c1.trans (by
    refine XS.iloadN X0.here hexec rfl (hb hbytes d0) rfl ?_
    refine XS.aloadN X0.here hexec rfl (hb hbytes d1) rfl rfl ?_
    exact Steps.refl _)
  have c3 : Steps p.tables e below (s₁.setTop (entryFrame m #[.ref d, .int (Int32.ofNat B.slots.size)] 2)) (s₁.setTop (mkF m 8 #[.val (.ref d), .val (.int (Int32.ofNat B.slots.size))] [.int (lo8 (ushr (Int32.ofNat B.slots.size - Int32.ofNat B.slots.size) 31))])) := c2.trans (by
    refine X0.alen hexec hB0 rfl rfl (hb hbytes d2) ?_
    refine XS.isub X0.here hexec rfl (hb hbytes d3) rfl ?_
    refine bipushV X0.here hexec rfl 31 (hb hbytes d4) (by decide) ?_
    refine iushr X0.here hexec rfl (hb hbytes d6) rfl ?_
    refine i2b X0.here hexec rfl (hb hbytes d7) rfl ?_
    exact Steps.refl _)
  have e0 : lo8 (ushr (Int32.ofNat B.slots.size - Int32.ofNat B.slots.size) 31) = 0 := by rw [Int32.sub_self]; decide
  rw [e0] at c3
  exact ⟨s₁, some (.int 0), _, _, _, X0, rfl, rfl, rfl, (fun h => by cases h), ⟨rfl, hh0⟩, fun fs hl => c3.trans (X0.ireturnOut hexec hret rfl (Or.inr (Or.inr (Or.inl rfl))) (hb hbytes d8) hl)⟩
end CodL
/-- the String at a is Latin-1 over a new byte[] (the heap's one new cell): the low bytes of the len chars of A from o on; every cell but a is kept -/
def Got (a : Addr) (D : Cell) (fV fC : Field) (A : Cell) (o len : Nat) (r : Option Value) (s u : State) : Prop := r = none ∧ ∃ D' V : Cell, Blank "java/lang/String" a D' u ∧ Same D D' [fV.slot, fC.slot] ∧ D'.slots[fV.slot]? = some (.ref s.heap.size) ∧ D'.slots[fC.slot]? = some (.int 0) ∧ Arr .byte s.heap.size V u ∧ V.vm = .none ∧ u.vm.findClass "[B" = some V.cls ∧ V.slots.size = len ∧ (∀ j, j < len → V.slots[j]? = some (.int (lo8 (cv A (o + j))))) ∧ (∀ (y : Addr) (c : Cell), y ≠ a → s.heap[y]? = some c → u.heap[y]? = some c) ∧ u.heap.size = s.heap.size + 1
theorem Got.mv {a : Addr} {D A : Cell} {fV fC : Field} {o len : Nat} : ∀ r (U U' V V' : State), U'.heap = U.heap → V.vm.Alike V'.vm → V'.heap = V.heap → Got a D fV fC A o len r U V → Got a D fV fC A o len r U' V' :=
  fun r U U' V V' h1 hal h2 ⟨e0, D', X, a1, a2, a3, a4, a5, a6, a7, a8, a9, a10, a11⟩ => ⟨e0, D', X, a1.mv hal h2, a2, by rw [h1]; exact a3, a4, by rw [h1]; exact a5.mv hal h2, a6, by rw [hal.findClass]; exact a7, a8, a9, by rw [h1, h2]; exact a10, by rw [h1, h2]; exact a11⟩
namespace New4
def yN : MethodName := ⟨"java/lang/String", "<init>", "([CIILjava/lang/Void;)V"⟩
abbrev yB : ByteArray := jdk_42_method_149_code
theorem d0 : decode yB 0 = .ok (.aload_n 0, 1) := by decide +kernel
theorem d1 : decode yB 1 = .ok (.invokespecial 1, 3) := by decide +kernel
theorem d4 : decode yB 4 = .ok (.iload_n 3, 1) := by decide +kernel
theorem d5 : decode yB 5 = .ok (.ifCond (.ne) 22, 3) := by decide +kernel
theorem d27 : decode yB 27 = .ok (.getstatic 38, 3) := by decide +kernel
theorem d30 : decode yB 30 = .ok (.ifCond (.eq) 28, 3) := by decide +kernel
theorem d33 : decode yB 33 = .ok (.aload_n 1, 1) := by decide +kernel
theorem d34 : decode yB 34 = .ok (.iload_n 2, 1) := by decide +kernel
theorem d35 : decode yB 35 = .ok (.iload_n 3, 1) := by decide +kernel
theorem d36 : decode yB 36 = .ok (.invokestatic 177, 3) := by decide +kernel
theorem d39 : decode yB 39 = .ok (.astore 5, 2) := by decide +kernel
theorem d41 : decode yB 41 = .ok (.aload_n 0, 1) := by decide +kernel
theorem d42 : decode yB 42 = .ok (.aload 5, 2) := by decide +kernel
theorem d44 : decode yB 44 = .ok (.iload_n 3, 1) := by decide +kernel
theorem d45 : decode yB 45 = .ok (.invokestatic 47, 3) := by decide +kernel
theorem d48 : decode yB 48 = .ok (.putfield 15, 3) := by decide +kernel
theorem d51 : decode yB 51 = .ok (.aload_n 0, 1) := by decide +kernel
theorem d52 : decode yB 52 = .ok (.aload 5, 2) := by decide +kernel
theorem d54 : decode yB 54 = .ok (.putfield 9, 3) := by decide +kernel
theorem d57 : decode yB 57 = .ok (.return_, 1) := by decide +kernel
def site : List Cond := [.fieldLink "java/lang/String" 38 "java/lang/String" "COMPACT_STRINGS" "Z", Cmp3.tab, CodL.tab, .laysFinal "java/lang/String" "java/lang/String" "value" "[B", .fieldLink "java/lang/String" 9 "java/lang/String" "value" "[B", .laysFinal "java/lang/String" "java/lang/String" "coder" "B", .fieldLink "java/lang/String" 15 "java/lang/String" "coder" "B"] ++ objW "java/lang/String" 1 ++ staticW "java/lang/String" 177 Cmp3.yN ++ staticW "java/lang/String" 47 CodL.yN
def tab : Cond := tabOf yN yB 6 none site
def P (a : Addr) (D : Cell) (fV fC : Field) (b : Addr) (A : Cell) (z : Int32) (o len : Nat) (args : Array Value) (s : State) : Prop := args = #[.ref a, .ref b, .int (Int32.ofNat o), .int (Int32.ofNat len), .null] ∧ Blank "java/lang/String" a D s ∧ Found "java/lang/String" "value" "[B" fV s ∧ Found "java/lang/String" "coder" "B" fC s ∧ Ch b A s ∧ StaticIs s "java/lang/String" "COMPACT_STRINGS" "Z" (.int z) ∧ ¬ z = 0 ∧ 0 < len ∧ o + len ≤ A.slots.size ∧ len ≤ 536870912 ∧ ∀ i, i < len → ¬ 255 < cv A (o + i)
def E (a : Addr) (D : Cell) (fV fC : Field) (A : Cell) (o len : Nat) (r : Option Value) (s u : State) : Prop := Got a D fV fC A o len r s u
/-- len > 0, no char of the range above 255: a Latin-1 String of their low bytes -/
theorem law (l : Launch) (a : Addr) (D : Cell) (fV fC : Field) (b : Addr) (A : Cell) (z : Int32) (o len : Nat) : Law l yN 5 4 2 35 yB 6 none site (P a D fV fC b A z o len) (E a D fV fC A o len) [⟨a, fC.slot⟩, ⟨a, fV.slot⟩] 1 len := by
  refine Law.of_walk (plainFor_of_name (by decide +kernel)) (by decide +kernel) (by decide +kernel) (by decide) (fun _ _ h => by rw [h.1]; rfl) (fun _ U U' hal hh h => ⟨h.1, h.2.1.mv hal hh, h.2.2.1.al hal, h.2.2.2.1.al hal, h.2.2.2.2.1.mv hal hh, h.2.2.2.2.2.1.there hal hh, h.2.2.2.2.2.2⟩) (fun r U U' V V' h1 hal h2 h => Got.mv r U U' V V' h1 hal h2 h) ?_
  intro p e s m args below meth c s₁ X0 hexec hbytes hml hret hlk hnm hown hh0 W hP
  obtain ⟨rfl, hB, f1, f2, hA, s1, hz, l0, l1, l2, hp⟩ := hP
  have a31 := hA.1.2.2.2
  have c1 : Steps p.tables e below (s₁.setTop (entryFrame m #[.ref a, .ref b, .int (Int32.ofNat o), .int (Int32.ofNat len), .null] 6)) (s₁.setTop (mkF m 0 #[.val (.ref a), .val (.ref b), .val (.int (Int32.ofNat o)), .val (.int (Int32.ofNat len)), .val .null, .unset] [])) := entry rfl
  have c2 : Steps p.tables e below (s₁.setTop (entryFrame m #[.ref a, .ref b, .int (Int32.ofNat o), .int (Int32.ofNat len), .null] 6)) (s₁.setTop (mkF m 1 #[.val (.ref a), .val (.ref b), .val (.int (Int32.ofNat o)), .val (.int (Int32.ofNat len)), .val .null, .unset] [.ref a])) := c1.trans (by
    refine XS.aloadN X0.here hexec rfl (hb hbytes d0) rfl rfl ?_
    exact Steps.refl _)
  obtain ⟨T3, X3, q3, st3⟩ := X0.oinit hexec hown (wks W (objW "java/lang/String" 1)) (g := (mkF m 1 #[.val (.ref a), .val (.ref b), .val (.int (Int32.ofNat o)), .val (.int (Int32.ofNat len)), .val .null, .unset] [.ref a])) rfl (by rw [hml]; rfl) (rest := []) rfl (hb hbytes d1) (W := 0) (by show 2 * 0 + 0 ≤ _; decide) (Nat.le_of_ble_eq_true rfl) (Nat.le_of_ble_eq_true rfl)
  have hh3 := q3.trans hh0
  have c4 : Steps p.tables e below (s₁.setTop (entryFrame m #[.ref a, .ref b, .int (Int32.ofNat o), .int (Int32.ofNat len), .null] 6)) (T3.setTop (mkF m 27 #[.val (.ref a), .val (.ref b), .val (.int (Int32.ofNat o)), .val (.int (Int32.ofNat len)), .val .null, .unset] [])) := (c2.trans (st3 _ (Steps.refl _))).trans (by
    refine XS.iloadN X3.here hexec rfl (hb hbytes d4) rfl ?_
    refine XS.ifYes X3.here hexec rfl (pc0 := 5) rfl (hb hbytes d5) rfl (i0_ne_t (nz32 (by omega) l0)) (by decide) rfl ?_
    exact Steps.refl _)
  obtain ⟨T5, X5, q5, st5⟩ := X3.sget hexec hown (wk W (.fieldLink "java/lang/String" 38 "java/lang/String" "COMPACT_STRINGS" "Z")) s1 (fun _ _ h => by rw [hh3]; exact h) (g := (mkF m 27 #[.val (.ref a), .val (.ref b), .val (.int (Int32.ofNat o)), .val (.int (Int32.ofNat len)), .val .null, .unset] [])) rfl (hb hbytes d27)
  have hh5 := q5.trans hh3
  have c6 : Steps p.tables e below (s₁.setTop (entryFrame m #[.ref a, .ref b, .int (Int32.ofNat o), .int (Int32.ofNat len), .null] 6)) (T5.setTop (mkF m 30 #[.val (.ref a), .val (.ref b), .val (.int (Int32.ofNat o)), .val (.int (Int32.ofNat len)), .val .null, .unset] [.int z])) := c4.trans (st5 _ (Steps.refl _))
  have c7 : Steps p.tables e below (s₁.setTop (entryFrame m #[.ref a, .ref b, .int (Int32.ofNat o), .int (Int32.ofNat len), .null] 6)) (T5.setTop (mkF m 36 #[.val (.ref a), .val (.ref b), .val (.int (Int32.ofNat o)), .val (.int (Int32.ofNat len)), .val .null, .unset] [.int (Int32.ofNat len), .int (Int32.ofNat o), .ref b])) := c6.trans (by
    refine XS.ifNo X5.here hexec rfl (hb hbytes d30) rfl (i0_eq_f hz) ?_
    refine XS.aloadN X5.here hexec rfl (hb hbytes d33) rfl rfl ?_
    refine XS.iloadN X5.here hexec rfl (hb hbytes d34) rfl ?_
    refine XS.iloadN X5.here hexec rfl (hb hbytes d35) rfl ?_
    exact Steps.refl _)
  obtain ⟨v8, T8, X8, E8, g8⟩ := X5.callS hexec (Cmp3.law l b A o len) hown (wks W (staticW "java/lang/String" 177 Cmp3.yN)) (wk W Cmp3.tab) (W := 0) (Nat.le_of_ble_eq_true rfl) (Nat.le_of_ble_eq_true rfl) (Nat.le_refl _) (by show 0 + len ≤ len; omega) (g := (mkF m 36 #[.val (.ref a), .val (.ref b), .val (.int (Int32.ofNat o)), .val (.int (Int32.ofNat len)), .val .null, .unset] [.int (Int32.ofNat len), .int (Int32.ofNat o), .ref b])) rfl (by rw [hml]; rfl) c7 (argsL := [.ref b, .int (Int32.ofNat o), .int (Int32.ofNat len)]) (rest := []) rfl rfl (by show 2 * 0 + 0 ≤ _; decide) (hb hbytes d36) (⟨rfl, hA.mv X5.warmed.alike hh5, l1, l2, hp⟩)
  obtain ⟨e8, z8⟩ := E8
  obtain ⟨rfl, N, n1, n2, n3, n4, n5, n6⟩ := NewArr.mv _ T5 s _ _ hh5.symm (Vm.Alike.refl _) rfl e8
  rw [hh5] at z8
  have hB1 := hB.keep X8.warmed.alike (n6 _ _ hB.1)
  have hne : s.heap.size ≠ a := (Nat.ne_of_lt (Array.getElem?_eq_some_iff.mp hB.1).1).symm
  have c9 : Steps p.tables e below (s₁.setTop (entryFrame m #[.ref a, .ref b, .int (Int32.ofNat o), .int (Int32.ofNat len), .null] 6)) (T8.setTop (mkF m 39 #[.val (.ref a), .val (.ref b), .val (.int (Int32.ofNat o)), .val (.int (Int32.ofNat len)), .val .null, .unset] [.ref s.heap.size])) := g8
  have c10 : Steps p.tables e below (s₁.setTop (entryFrame m #[.ref a, .ref b, .int (Int32.ofNat o), .int (Int32.ofNat len), .null] 6)) (T8.setTop (mkF m 45 #[.val (.ref a), .val (.ref b), .val (.int (Int32.ofNat o)), .val (.int (Int32.ofNat len)), .val .null, .val (.ref s.heap.size)] [.int (Int32.ofNat N.slots.size), .ref s.heap.size, .ref a])) := by
    have hc : Steps p.tables e below (s₁.setTop (entryFrame m #[.ref a, .ref b, .int (Int32.ofNat o), .int (Int32.ofNat len), .null] 6)) (T8.setTop (mkF m 45 #[.val (.ref a), .val (.ref b), .val (.int (Int32.ofNat o)), .val (.int (Int32.ofNat len)), .val .null, .val (.ref s.heap.size)] [.int (Int32.ofNat len), .ref s.heap.size, .ref a])) := c9.trans (by
      refine XS.astore X8.here hexec rfl (hb hbytes d39) rfl rfl rfl ?_
      refine XS.aloadN X8.here hexec rfl (hb hbytes d41) rfl rfl ?_
      refine XS.aload X8.here hexec rfl (hb hbytes d42) rfl rfl ?_
      refine XS.iloadN X8.here hexec rfl (hb hbytes d44) rfl ?_
      exact Steps.refl _)
    rw [n4]; exact hc
  obtain ⟨v11, T11, X11, E11, g11⟩ := X8.callS hexec (CodL.law l s.heap.size N) hown (wks W (staticW "java/lang/String" 47 CodL.yN)) (wk W CodL.tab) (W := 1) (Nat.le_of_ble_eq_true rfl) (Nat.le_of_ble_eq_true rfl) (Nat.le_refl _) (by show 0 + len + 0 ≤ len; omega) (g := (mkF m 45 #[.val (.ref a), .val (.ref b), .val (.int (Int32.ofNat o)), .val (.int (Int32.ofNat len)), .val .null, .val (.ref s.heap.size)] [.int (Int32.ofNat N.slots.size), .ref s.heap.size, .ref a])) rfl (by rw [hml]; rfl) c10 (argsL := [.ref s.heap.size, .int (Int32.ofNat N.slots.size)]) (rest := [.ref a]) rfl rfl (by show 2 * 0 + (1 + 0) ≤ _; decide) (hb hbytes d45) (⟨rfl, n1⟩)
  obtain ⟨rfl, q11⟩ := E11
  have hB11 := hB1.mv (X8.warmed.alike.symm.trans X11.warmed.alike) q11
  have c12 : Steps p.tables e below (s₁.setTop (entryFrame m #[.ref a, .ref b, .int (Int32.ofNat o), .int (Int32.ofNat len), .null] 6)) (T11.setTop (mkF m 48 #[.val (.ref a), .val (.ref b), .val (.int (Int32.ofNat o)), .val (.int (Int32.ofNat len)), .val .null, .val (.ref s.heap.size)] [.int 0, .ref a])) := g11
  obtain ⟨T13, X13, p13, bl13, sl13, st13⟩ := X11.finit hexec hown (wk W (.fieldLink "java/lang/String" 15 "java/lang/String" "coder" "B")) (Or.inr ⟨_, (wk W (.laysFinal "java/lang/String" "java/lang/String" "coder" "B"))⟩) (Or.inl ⟨rfl, hnm⟩) f2 (Or.inl rfl) hB11 (t := .byte) (by decide +kernel) rfl (g := (mkF m 48 #[.val (.ref a), .val (.ref b), .val (.int (Int32.ofNat o)), .val (.int (Int32.ofNat len)), .val .null, .val (.ref s.heap.size)] [.int 0, .ref a])) rfl (rest := []) rfl (hb hbytes d48)
  have c14 : Steps p.tables e below (s₁.setTop (entryFrame m #[.ref a, .ref b, .int (Int32.ofNat o), .int (Int32.ofNat len), .null] 6)) (T13.setTop (mkF m 54 #[.val (.ref a), .val (.ref b), .val (.int (Int32.ofNat o)), .val (.int (Int32.ofNat len)), .val .null, .val (.ref s.heap.size)] [.ref s.heap.size, .ref a])) := (c12.trans (st13 _ (Steps.refl _))).trans (by
    refine XS.aloadN X13.here hexec rfl (hb hbytes d51) rfl rfl ?_
    refine XS.aload X13.here hexec rfl (hb hbytes d52) rfl rfl ?_
    exact Steps.refl _)
  obtain ⟨T15, X15, p15, bl15, sl15, st15⟩ := X13.finit hexec hown (wk W (.fieldLink "java/lang/String" 9 "java/lang/String" "value" "[B")) (Or.inr ⟨_, (wk W (.laysFinal "java/lang/String" "java/lang/String" "value" "[B"))⟩) (Or.inl ⟨rfl, hnm⟩) f1 (Or.inl rfl) bl13 (t := (.array .byte)) (by decide +kernel) rfl (g := (mkF m 54 #[.val (.ref a), .val (.ref b), .val (.int (Int32.ofNat o)), .val (.int (Int32.ofNat len)), .val .null, .val (.ref s.heap.size)] [.ref s.heap.size, .ref a])) rfl (rest := []) rfl (hb hbytes d54)
  have c16 : Steps p.tables e below (s₁.setTop (entryFrame m #[.ref a, .ref b, .int (Int32.ofNat o), .int (Int32.ofNat len), .null] 6)) (T15.setTop (mkF m 57 #[.val (.ref a), .val (.ref b), .val (.int (Int32.ofNat o)), .val (.int (Int32.ofNat len)), .val .null, .val (.ref s.heap.size)] [])) := c14.trans (st15 _ (Steps.refl _))
  have ap := apart (Or.inr ⟨_, (wk W (.laysFinal "java/lang/String" "java/lang/String" "value" "[B"))⟩) (Or.inr ⟨_, (wk W (.laysFinal "java/lang/String" "java/lang/String" "coder" "B"))⟩) f1 f2 (t₁ := .array .byte) (t₂ := .byte) (by decide +kernel) (by decide +kernel) (by decide)
  have al := X8.warmed.alike.symm.trans X15.warmed.alike
  have n7 : T11.heap[s.heap.size]? = some N := by rw [q11]; exact n1.1
  exact ⟨T15, none, _, _, _, X15, by simp, rfl, by omega, (fun _ => rfl), ⟨rfl, _, N, bl15, ((Same.refl D _).set _ (by simp)).set _ (by simp), sl15, (Cell.slots_setSlot_ne _ ap).trans sl13, n1.keep al (p15.other hne (p13.other hne n7)), n2, by rw [al.findClass]; exact n3, n4, n5, fun y c h1 h2 => p15.other h1 (p13.other h1 (by rw [q11]; exact n6 y c h2)), by rw [p15.2.2, p13.2.2, q11]; exact z8⟩, fun fs hl => c16.trans (X15.returnOut hexec hret (hb hbytes d57) hl)⟩
end New4
namespace New1
def yN : MethodName := ⟨"java/lang/String", "<init>", "([C)V"⟩
abbrev yB : ByteArray := jdk_42_method_3_code
theorem d0 : decode yB 0 = .ok (.aload_n 0, 1) := by decide +kernel
theorem d1 : decode yB 1 = .ok (.aload_n 1, 1) := by decide +kernel
theorem d2 : decode yB 2 = .ok (.iconst 0, 1) := by decide +kernel
theorem d3 : decode yB 3 = .ok (.aload_n 1, 1) := by decide +kernel
theorem d4 : decode yB 4 = .ok (.arraylength, 1) := by decide +kernel
theorem d5 : decode yB 5 = .ok (.aconst_null, 1) := by decide +kernel
theorem d6 : decode yB 6 = .ok (.invokespecial 27, 3) := by decide +kernel
theorem d9 : decode yB 9 = .ok (.return_, 1) := by decide +kernel
def site : List Cond := [New4.tab] ++ initW "java/lang/String" 27 New4.yN
def tab : Cond := tabOf yN yB 2 none site
def P (a : Addr) (D : Cell) (fV fC : Field) (b : Addr) (A : Cell) (z : Int32) (args : Array Value) (s : State) : Prop := args = #[.ref a, .ref b] ∧ Blank "java/lang/String" a D s ∧ Found "java/lang/String" "value" "[B" fV s ∧ Found "java/lang/String" "coder" "B" fC s ∧ Ch b A s ∧ StaticIs s "java/lang/String" "COMPACT_STRINGS" "Z" (.int z) ∧ ¬ z = 0 ∧ 0 < A.slots.size ∧ A.slots.size ≤ 536870912 ∧ ∀ i, i < A.slots.size → ¬ 255 < cv A i
def E (a : Addr) (D : Cell) (fV fC : Field) (A : Cell) (r : Option Value) (s u : State) : Prop := Got a D fV fC A 0 A.slots.size r s u
/-- new String(chars), not empty, no char above 255: a Latin-1 String of their low bytes -/
theorem law (l : Launch) (a : Addr) (D : Cell) (fV fC : Field) (b : Addr) (A : Cell) (z : Int32) : Law l yN 2 1 3 52 yB 2 none site (P a D fV fC b A z) (E a D fV fC A) [⟨a, fC.slot⟩, ⟨a, fV.slot⟩] 1 A.slots.size := by
  refine Law.of_walk (plainFor_of_name (by decide +kernel)) (by decide +kernel) (by decide +kernel) (by decide) (fun _ _ h => by rw [h.1]; rfl) (fun _ U U' hal hh h => ⟨h.1, h.2.1.mv hal hh, h.2.2.1.al hal, h.2.2.2.1.al hal, h.2.2.2.2.1.mv hal hh, h.2.2.2.2.2.1.there hal hh, h.2.2.2.2.2.2⟩) (fun r U U' V V' h1 hal h2 h => Got.mv r U U' V V' h1 hal h2 h) ?_
  intro p e s m args below meth c s₁ X0 hexec hbytes hml hret hlk hnm hown hh0 W hP
  obtain ⟨rfl, hB, f1, f2, hA, s1, hz, l0, l2, hp⟩ := hP
  have c1 : Steps p.tables e below (s₁.setTop (entryFrame m #[.ref a, .ref b] 2)) (s₁.setTop (mkF m 0 #[.val (.ref a), .val (.ref b)] [])) := entry rfl
  have c2 : Steps p.tables e below (s₁.setTop (entryFrame m #[.ref a, .ref b] 2)) (s₁.setTop (mkF m 6 #[.val (.ref a), .val (.ref b)] [.null, .int (Int32.ofNat A.slots.size), .int 0, .ref b, .ref a])) := c1.trans (by
    refine XS.aloadN X0.here hexec rfl (hb hbytes d0) rfl rfl ?_
    refine XS.aloadN X0.here hexec rfl (hb hbytes d1) rfl rfl ?_
    refine iconstV X0.here hexec rfl 0 (hb hbytes d2) (by decide) ?_
    refine XS.aloadN X0.here hexec rfl (hb hbytes d3) rfl rfl ?_
    refine X0.alen hexec (hA.1.mv X0.warmed.alike hh0) rfl rfl (hb hbytes d4) ?_
    refine XS.aconstNull X0.here hexec rfl (hb hbytes d5) ?_
    exact Steps.refl _)
  obtain ⟨v3, T3, X3, E3, g3⟩ := X0.callN hexec (New4.law l a D fV fC b A z 0 A.slots.size) rfl hown (wks W (initW "java/lang/String" 27 New4.yN)) (W New4.tab (by simp only [site, List.mem_cons, List.mem_append, true_or, or_true])) (W := 0) (Nat.le_of_ble_eq_true rfl) (Nat.le_of_ble_eq_true rfl) (Nat.le_refl _) (by show 0 + A.slots.size ≤ A.slots.size; omega) (g := (mkF m 6 #[.val (.ref a), .val (.ref b)] [.null, .int (Int32.ofNat A.slots.size), .int (Int32.ofNat 0), .ref b, .ref a])) rfl (by rw [hml]; rfl) c2 (argsL := [.ref b, .int (Int32.ofNat 0), .int (Int32.ofNat A.slots.size), .null]) (rest := []) rfl rfl (by show 2 * 0 + 0 ≤ _; decide) (hb hbytes d6) (⟨rfl, hB.mv X0.warmed.alike hh0, f1.al X0.warmed.alike, f2.al X0.warmed.alike, hA.mv X0.warmed.alike hh0, s1.there X0.warmed.alike hh0, hz, l0, by omega, l2, fun i hi => by rw [Nat.zero_add]; exact hp i hi⟩)
  have e0 := Got.mv _ s₁ s _ _ hh0.symm (Vm.Alike.refl _) rfl E3
  obtain rfl := e0.1
  have c4 : Steps p.tables e below (s₁.setTop (entryFrame m #[.ref a, .ref b] 2)) (T3.setTop (mkF m 9 #[.val (.ref a), .val (.ref b)] [])) := g3
  exact ⟨T3, none, _, _, _, X3, by simp, rfl, by omega, (fun _ => rfl), e0, fun fs hl => c4.trans (X3.returnOut hexec hret (hb hbytes d9) hl)⟩
theorem pays {l : Launch} {R : Room} {p : Program} {e : Env} {below : List Frame} {s : State} {sargs : Array Value} {len W : Nat} (a : Addr) (D : Cell) (fV fC : Field) (b : Addr) (A : Cell) (z : Int32) (htab : tab.before sargs s = true) (hfr : 4 ≤ R.frames) (hlo : W + 65 ≤ R.locals) :
    Back l R p e below s sargs yN len W (fun A₁ a₁ => A₁.cells + 1 ≤ R.cells ∧ A₁.slots + A.slots.size ≤ R.slots ∧ P a D fV fC b A z a₁ A₁.U) (fun A₁ _ v₁ B₁ => E a D fV fC A v₁ A₁.U B₁.U ∧ B₁.locs = A₁.locs ++ [⟨a, fC.slot⟩, ⟨a, fV.slot⟩] ∧ B₁.cells = A₁.cells + 1 ∧ B₁.slots = A₁.slots + A.slots.size) :=
  (law l a D fV fC b A z).pays htab hfr (by omega)
end New1
/-- the byte, read back as charAt reads it, is the char -/
theorem lo8_mask {x : Int32} (h0 : ¬ x < 0) (h1 : ¬ 255 < x) : lo8 x &&& 255 = x := by
  have t : ∀ k : Fin 256, lo8 (Int32.ofNat k.val) &&& 255 = Int32.ofNat k.val := by decide +kernel
  rw [Int32.lt_iff_toInt_lt] at h0 h1
  have e0 : (0 : Int32).toInt = 0 := rfl
  have e1 : (255 : Int32).toInt = 255 := rfl
  obtain ⟨k, hk⟩ : ∃ k : Nat, x.toInt = k := ⟨x.toInt.toNat, by omega⟩
  have hx : x = Int32.ofNat k := Int32.toInt_inj.mp (by rw [hk, Int32.toInt_ofNat_small (by omega)])
  rw [hx]
  exact t ⟨k, by omega⟩
end StrChars
namespace StrChars.Road
open Jvm Sem ClassFile Op Lib Jvm.Stand Jvm.Free Jvm.Free.XT
open Jvm.Lib.Cold (StaticIs)
abbrev ST : String := "java/lang/String"
/-- every table word that New1's law asks, flat -/
abbrev words : List Jvm.Cond := [.code New1.yN New1.yB 2 none, .initialized ST, .methodLink ST 27 New4.yN, .instanceMethod New4.yN,
  .code New4.yN New4.yB 6 none, .fieldLink ST 38 ST "COMPACT_STRINGS" "Z", .laysFinal ST ST "value" "[B", .fieldLink ST 9 ST "value" "[B", .laysFinal ST ST "coder" "B", .fieldLink ST 15 ST "coder" "B",
  .methodLink ST 1 Lib.objectInit, .instanceMethod Lib.objectInit, .code Lib.objectInit ⟨#[0xb1]⟩ 1 none, .methodLink ST 177 Cmp3.yN, .static Cmp3.yN, .methodLink ST 47 CodL.yN, .static CodL.yN,
  .code Cmp3.yN Cmp3.yB 6 (some (.array .byte)), .initialized U16, .arrayClass .byte, .methodLink U16 115 Cmp5.yN, .static Cmp5.yN, .code Cmp5.yN Cmp5.yB 7 (some .int), .code CodL.yN CodL.yB 2 (some .byte)]
theorem tab_of {a : Array Value} {s : State} (h : ∀ w ∈ words, w.before a s = true) : New1.tab.before a s = true := by
  have h5 : Cmp5.tab.before a s = true := unparts (wk h (.code Cmp5.yN Cmp5.yB 7 (some .int))) (wks h (.initialized Cmp5.yN.cls :: Cmp5.site))
  have hc : CodL.tab.before a s = true := unparts (wk h (.code CodL.yN CodL.yB 2 (some .byte))) (wks h (.initialized CodL.yN.cls :: CodL.site))
  have q5 : ∀ w ∈ Cmp5.tab :: words, w.before a s = true := fun w hw => (List.mem_cons.mp hw).elim (fun e => e ▸ h5) (h w)
  have h3 : Cmp3.tab.before a s = true := unparts (wk q5 (.code Cmp3.yN Cmp3.yB 6 (some (.array .byte)))) (wks q5 (.initialized Cmp3.yN.cls :: Cmp3.site))
  have q3 : ∀ w ∈ Cmp3.tab :: CodL.tab :: words, w.before a s = true := fun w hw => (List.mem_cons.mp hw).elim (fun e => e ▸ h3) fun hw => (List.mem_cons.mp hw).elim (fun e => e ▸ hc) (h w)
  have h4 : New4.tab.before a s = true := unparts (wk q3 (.code New4.yN New4.yB 6 none)) (wks q3 (.initialized New4.yN.cls :: New4.site))
  have q4 : ∀ w ∈ New4.tab :: words, w.before a s = true := fun w hw => (List.mem_cons.mp hw).elim (fun e => e ▸ h4) (h w)
  exact unparts (wk q4 (.code New1.yN New1.yB 2 none)) (wks q4 (.initialized New1.yN.cls :: New1.site))
/-- the words ride from the start Z to the walk's own state -/
theorem moved {Z s : State} {a0 args : Array Value} (hZ : Z.Warmed39 s.vm) (hw : ∀ d ∈ words, d.before a0 Z = true) : ∀ d ∈ words, d.before args s = true := fun d hd => by
  have q := hw d hd
  have t : ∀ d ∈ words, d = .arrayClass .byte ∨ (d.onTables && d.keepsFace) = true := by decide +kernel
  rcases t d hd with rfl | t
  · exact RoadKit.mvA hZ q
  · exact RoadKit.mv hZ q t
/-- WHAT COMES BACK, over the tables of the start Z: h the heap at the call, h' behind it -/
def Q (Z : State) (x : Addr) (A : Cell) (h : Heap) (v : Option Value) (h' : Heap) (L : List Loc) : Prop := v = none ∧ (∀ y ∈ L, y.base = x) ∧ RoadKit.Keep h h' [x] ∧ h'.size = h.size + 1 ∧ RoadKit.Exa Z h' x ST ∧ RoadKit.Fld Z h' x ST "value" "[B" (.ref h.size) ∧ RoadKit.Fld Z h' x ST "coder" "B" (.int 0) ∧
  (∃ V : Cell, RoadKit.Arr Z h' h.size V .byte ∧ V.vm = .none ∧ Z.vm.findClass "[B" = some V.cls ∧ V.slots.size = A.slots.size ∧ ∀ j, j < A.slots.size → V.slots[j]? = some (.int (lo8 (cv A j)))) ∧
  ∀ (O n d : String) (w : Value), RoadKit.Fld Z h x O n d w → RoadKit.slotOf Z O n d ≠ RoadKit.slotOf Z ST "value" "[B" → RoadKit.slotOf Z O n d ≠ RoadKit.slotOf Z ST "coder" "B" → RoadKit.Fld Z h' x O n d w
/-- **new String(chars) AT A CALL, IN THE ROAD'S FORM**: for specialBack behind newO: x the fresh String, b the char[] with the cell A -/
theorem back {p : Program} {l : Launch} {e : Env} {R : Room} {s : State} {args : Array Value} {below : List Frame} {len W : Nat} {Z : State} {a0 : Array Value} {h : Heap} (hZ : Z.Warmed39 s.vm) (hw : ∀ d ∈ words, d.before a0 Z = true) {kI : Nat} (wi : (Jvm.Cond.instantiable ST kI).before a0 Z = true)
    {x b : Addr} {A : Cell} {z : Int32} {v0 c0 : Value} (E : RoadKit.Exa Z h x ST) (V : RoadKit.Fld Z h x ST "value" "[B" v0) (C : RoadKit.Fld Z h x ST "coder" "B" c0) (K : RoadKit.Arr Z h b A .char) (hty : Typed .char A) (S : RoadKit.Sta Z h ST "COMPACT_STRINGS" "Z" (.int z)) (hz : ¬ z = 0)
    (l0 : 0 < A.slots.size) (l2 : A.slots.size ≤ 536870912) (hp : ∀ i, i < A.slots.size → ¬ 255 < cv A i) (hfr : 4 ≤ R.frames) (hlo : W + 65 ≤ R.locals) :
    Back l R p e below s args New1.yN len W (fun P a => a = #[.ref x, .ref b] ∧ P.U.heap = h ∧ P.cells + 1 ≤ R.cells ∧ P.slots + A.slots.size ≤ R.slots)
      (fun P _ v B => ∃ L, Q Z x A h v B.U.heap L ∧ B.locs = P.locs ++ L ∧ B.cells = P.cells + 1 ∧ B.slots = P.slots + A.slots.size) := by
  intro m meth c P g ig mk a X hg hsize hdg hW hn hp'
  obtain ⟨rfl, rfl, r1, r2⟩ := hp'
  have al : Z.vm.Alike P.U.vm := hZ.alike.trans X.warmed.alike
  obtain ⟨D, cfV, kV, iV, fV, hD, gV, stV, knV, obV, asV, slV⟩ := id V
  obtain ⟨D', cfC, kC, iC, fC, hD', gC, stC, -, -, asC, slC⟩ := id C
  cases hD.symm.trans hD'
  obtain ⟨D2, kD, e1, e2, e3, e4, e5⟩ := id E
  cases hD.symm.trans e1
  obtain ⟨c2, k2, i1, i2, i3, -⟩ := Cond.instantiable_spec wi
  cases e2.symm.trans i1
  cases e3.symm.trans i2
  obtain ⟨kU, u1, u2⟩ := al.2.2 _ _ e3
  have hB : Blank ST x D P.U := ⟨hD, ⟨knV, fun q hq => by rw [hq] at obV; cases obV⟩, by rw [al.findClass]; exact e2, kU, u1, by rw [u2]; exact i3, by rw [u2]; exact e5 i3⟩
  have F1 : Found ST "value" "[B" fV P.U := ⟨SBG.found_only al ⟨cfV, kV, iV, gV⟩, stV⟩
  have F2 : Found ST "coder" "B" fC P.U := ⟨SBG.found_only al ⟨cfC, kC, iC, gC⟩, stC⟩
  have hA : Ch b A P.U := ⟨⟨K.1, State.isArrayOf_alike al K.2.1, K.2.2, by omega⟩, hty⟩
  have hS : StaticIs P.U ST "COMPACT_STRINGS" "Z" (.int z) := by
    obtain ⟨cfS, iS, kS, fS, st, cS, t1, t2, t3, t4, t5, t6, t7⟩ := S
    exact StaticIs.there (s := { Z with heap := P.U.heap }) ⟨cfS, iS, kS, fS, st, cS, t1, t2, t3, t4, t5, (fun q => by rw [q] at t6; cases t6), t7⟩ al rfl
  obtain ⟨v, B, X', ⟨⟨hv, E', V', q1, q2, q3, q4, q5, q6, q7, q8, q9, q10, q11⟩, hl, hc, hs⟩, st⟩ := New1.pays x D fV fC b A z (tab_of (moved hZ hw)) hfr hlo m meth c P g ig mk _ X hg hsize hdg hW hn ⟨r1, r2, rfl, hB, F1, F2, hA, hS, hz, l0, l2, hp⟩
  have al' : Z.vm.Alike B.U.vm := hZ.alike.trans X'.warmed.alike
  have hsz : E'.slots.size = D.slots.size := by
    obtain ⟨-, -, -, kB, w1, w2, w3⟩ := q1
    obtain ⟨kB', y1, y2⟩ := al'.2.2 _ _ e3
    rw [q2.2.1] at w1
    cases w1.symm.trans y1
    rw [w3, e5 i3, y2]
  refine ⟨v, B, X', ⟨_, ⟨hv, ?_, ⟨by omega, fun y cy hy hn' => q10 y cy (by simpa using hn') hy, fun y cy hy => ?_⟩, q11, ⟨E', _, q1.1, by rw [q2.2.1]; exact e2, by rw [q2.2.1]; exact e3, by rw [q2.1]; exact obV, fun _ => by rw [hsz]; exact e5 i3⟩,
    ⟨E', cfV, kV, iV, fV, q1.1, gV, stV, by rw [q2.1]; exact knV, by rw [q2.1]; exact obV, by rw [q2.2.1]; exact asV, q3⟩, ⟨E', cfC, kC, iC, fC, q1.1, gC, stC, by rw [q2.1]; exact knV, by rw [q2.1]; exact obV, by rw [q2.2.1]; exact asC, q4⟩,
    ⟨V', ⟨q5.1, State.isArrayOf_alike al'.symm q5.2.1, q5.2.2.1⟩, q6, by rw [← al'.findClass]; exact q7, q8, fun j hj => by have := q9 j hj; rwa [Nat.zero_add] at this⟩, fun O n d w F n1 n2 => ?_⟩, hl, hc, hs⟩, st⟩
  · intro y hy
    simp only [List.mem_cons, List.not_mem_nil, or_false] at hy
    rcases hy with rfl | rfl <;> rfl
  · by_cases q : y = x
    · subst q
      cases hD.symm.trans hy
      exact ⟨E', q1.1, q2.2.1, q2.1, hsz⟩
    · exact ⟨cy, q10 y cy q hy, rfl, rfl, rfl⟩
  · obtain ⟨D3, cf, k, i, f, g1, g2, g3, g4, g5, g6, g7⟩ := F
    cases hD.symm.trans g1
    simp only [RoadKit.slotOf, g2, gV, gC, Option.map_some, Option.getD_some] at n1 n2
    exact ⟨E', cf, k, i, f, q1.1, g2, g3, by rw [q2.1]; exact g4, by rw [q2.1]; exact g5, by rw [q2.2.1]; exact g6, by rw [q2.2.2 f.slot (by simp [n1, n2])]; exact g7⟩
end StrChars.Road
namespace StrChars.Road
open Jvm Sem ClassFile Op Lib Jvm.Stand Jvm.Free Jvm.Free.XT
/-- WHAT COMES BACK, the byte[] as a list of values -/
def QA (Z : State) (x : Addr) (zn : Int32) (cs : List Int32) (h : Heap) (v : Option Value) (h' : Heap) (L : List Loc) : Prop := v = none ∧ (∀ y ∈ L, y.base = x) ∧ RoadKit.Keep h h' [x] ∧ h'.size = h.size + 1 ∧ RoadKit.Exa Z h' x ST ∧ RoadKit.Fld Z h' x ST "value" "[B" (.ref h.size) ∧ RoadKit.Fld Z h' x ST "coder" "B" (.int 0) ∧
  (∃ kb, Z.vm.findClass "[B" = some kb ∧ RoadKit.Arv Z h' h.size kb .byte zn (cs.map fun c => .int (lo8 c)) (.int 0)) ∧
  ∀ (O n d : String) (w : Value), RoadKit.Fld Z h x O n d w → RoadKit.slotOf Z O n d ≠ RoadKit.slotOf Z ST "value" "[B" → RoadKit.slotOf Z O n d ≠ RoadKit.slotOf Z ST "coder" "B" → RoadKit.Fld Z h' x O n d w
/-- **new String(chars) AT A CALL, THE ARRAYS AS LISTS**: the char[] at b holds cs, not empty, no char above 255 -/
theorem backArv {p : Program} {l : Launch} {e : Env} {R : Room} {s : State} {args : Array Value} {below : List Frame} {len W : Nat} {Z : State} {a0 : Array Value} {h : Heap} (hZ : Z.Warmed39 s.vm) (hw : ∀ d ∈ words, d.before a0 Z = true) {kI : Nat} (wi : (Jvm.Cond.instantiable ST kI).before a0 Z = true)
    {x b : Addr} {k : ClassId} {zn z : Int32} {cs : List Int32} {dv v0 c0 : Value} (E : RoadKit.Exa Z h x ST) (V : RoadKit.Fld Z h x ST "value" "[B" v0) (C : RoadKit.Fld Z h x ST "coder" "B" c0) (K : RoadKit.Arv Z h b k .char zn (cs.map Value.int) dv) (S : RoadKit.Sta Z h ST "COMPACT_STRINGS" "Z" (.int z)) (hz : ¬ z = 0)
    (hlen : zn.toNatClampNeg = cs.length) (h0 : 0 < cs.length) (hbig : cs.length ≤ 536870912) (hall : ∀ c ∈ cs, ¬ 255 < c) (hfr : 4 ≤ R.frames) (hlo : W + 65 ≤ R.locals) :
    Back l R p e below s args New1.yN len W (fun P a => a = #[.ref x, .ref b] ∧ P.U.heap = h ∧ P.cells + 1 ≤ R.cells ∧ P.slots + cs.length ≤ R.slots)
      (fun P _ v B => ∃ L, QA Z x zn cs h v B.U.heap L ∧ B.locs = P.locs ++ L ∧ B.cells = P.cells + 1 ∧ B.slots = P.slots + cs.length) := by
  obtain ⟨A, K1, K2, K3, K4, K5, K6⟩ := K
  have e : A.slots.size = cs.length := K3.trans hlen
  have hat : ∀ (i : Nat) (hi : i < cs.length), A.slots[i]? = some (.int cs[i]) := fun i hi => by rw [K5 i (by omega)]; simp [List.getD_eq_getElem?_getD, hi]
  have hcv : ∀ (i : Nat) (hi : i < cs.length), cv A i = cs[i] := fun i hi => by unfold cv; rw [hat i hi]
  have hty : Typed .char A := fun i v hv => by
    have hi : i < A.slots.size := (Array.getElem?_eq_some_iff.mp hv).1
    have q := K5 i hi
    rw [hv] at q
    rw [Option.some.inj q]
    exact K6 i hi
  refine Back.mono (back hZ hw wi E V C K1 hty S hz (by omega) (by omega) (fun i hi => by rw [hcv i (by omega)]; exact hall _ (List.getElem_mem _)) hfr hlo) (fun P a hp => ⟨hp.1, hp.2.1, hp.2.2.1, by rw [e]; exact hp.2.2.2⟩) (fun P a v B hp hq => ?_)
  obtain ⟨L, ⟨q1, q2, q3, q4, q5, q6, q7, ⟨V', v1, v2, v3, v4, v5⟩, q9⟩, hl, hc, hs⟩ := hq
  refine ⟨L, ⟨q1, q2, q3, q4, q5, q6, q7, ⟨V'.cls, v3, V', v1, rfl, by rw [v4, e, hlen], K4, fun i hi => ?_, fun i hi => ?_⟩, q9⟩, hl, hc, by rw [hs, e]⟩
  · have hi' : i < cs.length := by omega
    rw [v5 i (by omega), hcv i hi']; simp [List.getD_eq_getElem?_getD, hi']
  · have hi' : i < cs.length := by omega
    simp only [List.getD_eq_getElem?_getD, List.getElem?_map, List.getElem?_eq_getElem hi', Option.map_some, Option.getD_some]
    exact fits_lo8 _
end StrChars.Road
namespace StrChars.Road
open Jvm Sem ClassFile Op Lib Jvm.Stand Jvm.Free Jvm.Free.XT
/-- WHAT COMES BACK, in the writer's own shape -/
def QV (Z : State) (x : Addr) (N : Int32) (bs : List Int32) (h : Heap) (n0 : Nat) (v : Option Value) (h' : Heap) (L : List Loc) : Prop := v = none ∧ RoadKit.Fr n0 L ∧ RoadKit.Keep h h' [x] ∧ RoadKit.Exa Z h' x ST ∧ RoadKit.Fld Z h' x ST "coder" "B" (.int 0) ∧
  ∃ (t : Addr) (kb : ClassId), n0 ≤ t ∧ h.size ≤ t ∧ ¬ t = x ∧ RoadKit.Fld Z h' x ST "value" "[B" (.ref t) ∧ RoadKit.Arv Z h' t kb .byte N (bs.map Value.int) (.int 0)
/-- **new String(chars) AT A CALL, FOR THE WRITER**: a char[] of n known ints, each 0 to 255 -/
theorem backV {p : Program} {l : Launch} {e : Env} {R : Room} {s : State} {args : Array Value} {below : List Frame} {len W : Nat} {Z : State} {a0 : Array Value} {h : Heap} (hZ : Z.Warmed39 s.vm) (hw : ∀ d ∈ words, d.before a0 Z = true) {kI : Nat} (wi : (Jvm.Cond.instantiable ST kI).before a0 Z = true)
    {x b : Addr} {kC : ClassId} {cs bs : List Int32} {d v0 c0 : Value} {z N : Int32} {n n0 : Nat} (hx0 : n0 ≤ x) (hh0 : n0 ≤ h.size) (E : RoadKit.Exa Z h x ST) (V : RoadKit.Fld Z h x ST "value" "[B" v0) (C : RoadKit.Fld Z h x ST "coder" "B" c0) (K : RoadKit.Arv Z h b kC .char N (cs.map Value.int) d) (S : RoadKit.Sta Z h ST "COMPACT_STRINGS" "Z" (.int z)) (hz : ¬ z = 0)
    (hn : cs.length = n) (hN : N = Int32.ofNat n) (l0 : 0 < n) (l2 : n ≤ 4000) (hp : ∀ c ∈ cs, ¬ c < 0 ∧ ¬ (255 : Int32) < c) (hb : bs = cs.map (fun c => c.toInt8.toInt32)) (hfr : 4 ≤ R.frames) (hlo : W + 65 ≤ R.locals) :
    Back l R p e below s args (⟨"java/lang/String", "<init>", "([C)V"⟩ : MethodName) len W (fun P a => a = #[.ref x, .ref b] ∧ P.U.heap = h ∧ P.cells + 1 ≤ R.cells ∧ P.slots + n ≤ R.slots)
      (fun P _ v B => ∃ L, QV Z x N bs h n0 v B.U.heap L ∧ B.locs = P.locs ++ L ∧ B.cells = P.cells + 1 ∧ B.slots = P.slots + n) := by
  subst hn hN hb
  refine Back.mono (backArv hZ hw wi E V C K S hz (n32 (by omega)) l0 (by omega) (fun c hc => (hp c hc).2) hfr hlo) (fun P a hp => hp) (fun P a v B hp hq => ?_)
  obtain ⟨L, ⟨q1, q2, q3, q4, q5, q6, q7, ⟨kb, v1, v2⟩, q9⟩, hl, hc, hs⟩ := hq
  exact ⟨L, ⟨q1, fun y hy => by rw [q2 y hy]; exact hx0, q3, q5, q7, h.size, kb, hh0, Nat.le_refl _, Nat.ne_of_gt E.lt, q6, by rw [List.map_map]; exact v2⟩, hl, hc, hs⟩
end StrChars.Road
namespace StrChars
open Jvm Sem ClassFile Op Lib Jvm.Stand Jvm.Free.XT Jvm.Free.ALB Jvm.Free.JM Jvm.Free
open Jvm.Lib.Cold (StaticIs)
def hi8 (x : Int32) : Int32 := lo8 (x >>> ((8 : Int32) &&& 31))
/-- what StringUTF16.getChar makes of two bytes -/
def pairCh (u v : Int32) : Int32 := (((u &&& 255) <<< ((0 : Int32) &&& 31)) ||| ((v &&& 255) <<< ((8 : Int32) &&& 31))).toUInt32.toUInt16.toUInt32.toInt32
theorem lo8_and (x : Int32) : (lo8 x &&& 255).toBitVec.toNat = x.toBitVec.toNat % 256 := by
  have h : (lo8 x).toBitVec = (x.toBitVec.signExtend 8).signExtend 32 := by rw [lo8, Int8.toBitVec_toInt32, Int32.toBitVec_toInt8]
  rw [Int32.toBitVec_and, BitVec.toNat_and, h]
  have e : ((x.toBitVec.signExtend 8).signExtend 32).toNat % 256 = x.toBitVec.toNat % 256 := by
    rw [BitVec.toNat_signExtend]
    have hlt := x.toBitVec.isLt
    simp only [BitVec.toNat_setWidth, BitVec.toNat_signExtend]
    split <;> split <;> omega
  rw [← e]
  exact Nat.and_two_pow_sub_one_eq_mod _ 8
theorem pair_says {c : Int32} (h0 : ¬ c < 0) (h1 : ¬ 65535 < c) : pairCh (lo8 c) (hi8 c) = c := by
  rw [Int32.lt_iff_toInt_lt] at h0 h1
  have e0 : (0 : Int32).toInt = 0 := rfl
  have e1 : (65535 : Int32).toInt = 65535 := rfl
  have hc : c.toInt = c.toBitVec.toNat := by
    have := c.toBitVec.isLt
    have e : c.toInt = c.toBitVec.toInt := rfl
    rw [e] at h0 h1
    rw [e]
    rw [BitVec.toInt_eq_toNat_cond] at h0 h1 ⊢
    split at h0 <;> split <;> omega
  have hn : c.toBitVec.toNat < 65536 := by omega
  have a1 := lo8_and c
  have a2 : (hi8 c &&& 255).toBitVec.toNat = c.toBitVec.toNat / 256 := by
    rw [hi8, lo8_and]
    have e : ((8 : Int32) &&& 31) = 8 := by decide
    rw [e, Int32.toBitVec_shiftRight]
    have e2 : ((8 : Int32).toBitVec.smod 32) = 8#32 := by decide
    rw [e2, BitVec.sshiftRight_eq', BitVec.toNat_sshiftRight_of_msb_false (by rw [BitVec.msb_eq_false_iff_two_mul_lt]; omega)]
    show c.toBitVec.toNat >>> 8 % 256 = _
    rw [Nat.shiftRight_eq_div_pow]
    omega
  unfold pairCh
  apply Int32.toBitVec_inj.mp
  apply BitVec.eq_of_toNat_eq
  have f0 : ((0 : Int32) &&& 31) = 0 := by decide
  have f8 : ((8 : Int32) &&& 31) = 8 := by decide
  rw [f0, f8]
  have g : (((lo8 c &&& 255) <<< (0 : Int32)) ||| ((hi8 c &&& 255) <<< (8 : Int32))).toBitVec.toNat = c.toBitVec.toNat := by
    rw [Int32.toBitVec_or, Int32.toBitVec_shiftLeft, Int32.toBitVec_shiftLeft]
    have s0 : ((0 : Int32).toBitVec.smod 32) = 0#32 := by decide
    have s8 : ((8 : Int32).toBitVec.smod 32) = 8#32 := by decide
    rw [s0, s8, BitVec.toNat_or]
    simp only [BitVec.shiftLeft_eq', BitVec.toNat_shiftLeft, a1, a2]
    show (c.toBitVec.toNat % 256) <<< 0 % 2 ^ 32 ||| (c.toBitVec.toNat / 256) <<< 8 % 2 ^ 32 = _
    rw [Nat.shiftLeft_zero, Nat.mod_eq_of_lt (show c.toBitVec.toNat % 256 < 2 ^ 32 by omega), Nat.mod_eq_of_lt (show (c.toBitVec.toNat / 256) <<< 8 < 2 ^ 32 by rw [Nat.shiftLeft_eq]; omega), Nat.or_comm, ← Nat.shiftLeft_add_eq_or_of_lt (by omega), Nat.shiftLeft_eq]
    omega
  show BitVec.toNat (((((lo8 c &&& 255) <<< (0 : Int32)) ||| ((hi8 c &&& 255) <<< (8 : Int32))).toBitVec.setWidth 16).setWidth 32) = _
  rw [BitVec.toNat_setWidth, BitVec.toNat_setWidth, g]
  omega
end StrChars
namespace StrChars
open Jvm Sem ClassFile Op Lib Jvm.Stand Jvm.Free.XT Jvm.Free.ALB Jvm.Free.JM Jvm.Free
open Jvm.Lib.Cold (StaticIs)
/-- the array's cell V codes the n chars f 0 .. f (n - 1) by the coder cd, as the JDK does: coder 1 just where some char is above 255 -/
def Cod (cd : Int32) (n : Nat) (f : Nat → Int32) (V : Cell) : Prop := (cd = 0 ∧ V.slots.size = n ∧ ∀ j, j < n → V.slots[j]? = some (.int (lo8 (f j))) ∧ ¬ 255 < f j) ∨ (cd = 1 ∧ V.slots.size = 2 * n ∧ (∀ j, j < n → V.slots[2 * j]? = some (.int (lo8 (f j))) ∧ V.slots[2 * j + 1]? = some (.int (hi8 (f j)))) ∧ ∃ j, j < n ∧ 255 < f j)
/-- **x is a String of the n chars f 0 .. f (n - 1)**, Latin-1 or UTF-16; its array at t has the cell V -/
def Txt (x t : Addr) (V : Cell) (cd : Int32) (n : Nat) (f : Nat → Int32) (U : State) : Prop := Exact "java/lang/String" x U ∧ Has x "java/lang/String" "value" "[B" (.ref t) U ∧ Has x "java/lang/String" "coder" "B" (.int cd) U ∧ XT.Arr .byte t V U ∧ Cod cd n f V ∧ ∀ j, j < n → ¬ f j < 0 ∧ ¬ 65535 < f j
theorem Txt.mv {x t : Addr} {V : Cell} {cd : Int32} {n : Nat} {f : Nat → Int32} {U U' : State} (h : Txt x t V cd n f U) (hal : U.vm.Alike U'.vm) (hh : U'.heap = U.heap) : Txt x t V cd n f U' := ⟨h.1.mv hal hh, h.2.1.mv hal hh, h.2.2.1.mv hal hh, h.2.2.2.1.mv hal hh, h.2.2.2.2⟩
end StrChars
namespace StrChars.Road
open Jvm Sem ClassFile Op Lib Jvm.Stand Jvm.Free Jvm.Free.XT
open Jvm.Lib.Cold (StaticIs)
theorem consq {a : Array Value} {s : State} {c : Jvm.Cond} {L : List Jvm.Cond} (h0 : c.before a s = true) (h : ∀ w ∈ L, w.before a s = true) : ∀ w ∈ c :: L, w.before a s = true := fun w hw => (List.mem_cons.mp hw).elim (fun e => e ▸ h0) (h w)
/-- the bytes of the chars cs, low before high -/
def wideBytes : List Int32 → List Value
  | [] => []
  | c :: cs => .int (lo8 c) :: .int (hi8 c) :: wideBytes cs
theorem wide_lo (d : Value) : ∀ (cs : List Int32) (j : Nat), j < cs.length → (wideBytes cs).getD (2 * j) d = .int (lo8 (cs.getD j 0))
  | [], j, h => absurd h (Nat.not_lt_zero j)
  | c :: cs, 0, _ => rfl
  | c :: cs, j + 1, h => by
    have q := wide_lo d cs j (by simpa using h)
    rw [show 2 * (j + 1) = 2 * j + 1 + 1 from by omega]
    simpa [wideBytes] using q
theorem wide_hi (d : Value) : ∀ (cs : List Int32) (j : Nat), j < cs.length → (wideBytes cs).getD (2 * j + 1) d = .int (hi8 (cs.getD j 0))
  | [], j, h => absurd h (Nat.not_lt_zero j)
  | c :: cs, 0, _ => rfl
  | c :: cs, j + 1, h => by
    have q := wide_hi d cs j (by simpa using h)
    rw [show 2 * (j + 1) + 1 = 2 * j + 1 + 1 + 1 from by omega]
    simpa [wideBytes] using q
theorem low_at (d : Value) (cs : List Int32) (j : Nat) (h : j < cs.length) : (cs.map fun c => Value.int (lo8 c)).getD j d = .int (lo8 (cs.getD j 0)) := by
  simp [List.getD_eq_getElem?_getD, h]
/-- an array of N2 bytes vs codes the chars cs by the coder cd -/
def CodA (cs : List Int32) (cd N2 : Int32) (vs : List Value) : Prop := (cd = 0 ∧ N2 = Int32.ofNat cs.length ∧ vs = (cs.map fun c => Value.int (lo8 c)) ∧ ∀ c ∈ cs, ¬ 255 < c) ∨ (cd = 1 ∧ N2 = Int32.ofNat (2 * cs.length) ∧ vs = wideBytes cs ∧ ∃ c ∈ cs, 255 < c)
theorem CodA.cod {cs : List Int32} {cd N2 : Int32} {vs : List Value} {V : Cell} (h : CodA cs cd N2 vs) (hn : 2 * cs.length < 2 ^ 31) (hs : V.slots.size = N2.toNatClampNeg) (hv : RoadKit.Has V vs (.int 0)) : Cod cd cs.length (fun j => cs.getD j 0) V := by
  rcases h with ⟨rfl, rfl, rfl, h⟩ | ⟨rfl, rfl, rfl, c, hc, hw⟩
  · rw [n32 (by omega)] at hs
    exact Or.inl ⟨rfl, hs, fun j hj => ⟨by rw [hv j (by omega), low_at _ _ _ hj], by
      have e : cs.getD j 0 = cs[j] := by simp [List.getD_eq_getElem?_getD, hj]
      show ¬ 255 < cs.getD j 0
      rw [e]; exact h _ (List.getElem_mem _)⟩⟩
  · rw [n32 (by omega)] at hs
    obtain ⟨j, hj, rfl⟩ := List.getElem_of_mem hc
    exact Or.inr ⟨rfl, hs, fun j hj => ⟨by rw [hv _ (by omega), wide_lo _ _ _ hj], by rw [hv _ (by omega), wide_hi _ _ _ hj]⟩, j, hj, by
      have e : cs.getD j 0 = cs[j] := by simp [List.getD_eq_getElem?_getD, hj]
      show 255 < cs.getD j 0
      rw [e]; exact hw⟩
/-- an object of exactly java/lang/String, its two fields found: as the laws ask it -/
theorem strObj {Z U : State} {a0 : Array Value} {kI : Nat} (wi : (Jvm.Cond.instantiable ST kI).before a0 Z = true) (al : Z.vm.Alike U.vm) {x : Addr} {v0 c0 : Value} (E : RoadKit.Exa Z U.heap x ST) (V : RoadKit.Fld Z U.heap x ST "value" "[B" v0) (C : RoadKit.Fld Z U.heap x ST "coder" "B" c0) :
    ∃ (D : Cell) (fV fC : Field), Blank ST x D U ∧ Found ST "value" "[B" fV U ∧ Found ST "coder" "B" fC U ∧ D.slots[fV.slot]? = some v0 ∧ D.slots[fC.slot]? = some c0 ∧ RoadKit.slotOf Z ST "value" "[B" = fV.slot ∧ RoadKit.slotOf Z ST "coder" "B" = fC.slot := by
  obtain ⟨D, cfV, kV, iV, fV, hD, gV, stV, knV, obV, asV, slV⟩ := V
  obtain ⟨D', cfC, kC, iC, fC, hD', gC, stC, -, -, asC, slC⟩ := C
  cases hD.symm.trans hD'
  obtain ⟨D2, kD, e1, e2, e3, e4, e5⟩ := E
  cases hD.symm.trans e1
  obtain ⟨c2, k2, i1, i2, i3, -⟩ := Cond.instantiable_spec wi
  cases e2.symm.trans i1
  cases e3.symm.trans i2
  obtain ⟨kU, u1, u2⟩ := al.2.2 _ _ e3
  exact ⟨D, fV, fC, ⟨hD, ⟨knV, fun q hq => by rw [hq] at obV; cases obV⟩, by rw [al.findClass]; exact e2, kU, u1, by rw [u2]; exact i3, by rw [u2]; exact e5 i3⟩, ⟨SBG.found_only al ⟨cfV, kV, iV, gV⟩, stV⟩, ⟨SBG.found_only al ⟨cfC, kC, iC, gC⟩, stC⟩, slV, slC, by simp [RoadKit.slotOf, gV], by simp [RoadKit.slotOf, gC]⟩
theorem sta_is {Z U : State} (al : Z.vm.Alike U.vm) {C n d : String} {v : Value} (S : RoadKit.Sta Z U.heap C n d v) : StaticIs U C n d v := by
  obtain ⟨cfS, iS, kS, fS, st, cS, t1, t2, t3, t4, t5, t6, t7⟩ := S
  exact StaticIs.there (s := { Z with heap := U.heap }) ⟨cfS, iS, kS, fS, st, cS, t1, t2, t3, t4, t5, (fun q => by rw [q] at t6; cases t6), t7⟩ al rfl
end StrChars.Road
namespace StrChars
open Jvm Sem ClassFile Op Lib Jvm.Stand Jvm.Free.XT Jvm.Free.ALB Jvm.Free.JM Jvm.Free
open Jvm.Lib.Cold (StaticIs)
namespace Emp
def yN : MethodName := ⟨"java/lang/String", "isEmpty", "()Z"⟩
abbrev yB : ByteArray := jdk_42_method_55_code
theorem d0 : decode yB 0 = .ok (.aload_n 0, 1) := by decide +kernel
theorem d1 : decode yB 1 = .ok (.getfield 9, 3) := by decide +kernel
theorem d4 : decode yB 4 = .ok (.arraylength, 1) := by decide +kernel
theorem d5 : decode yB 5 = .ok (.ifCond (.ne) 7, 3) := by decide +kernel
theorem d8 : decode yB 8 = .ok (.iconst 1, 1) := by decide +kernel
theorem d9 : decode yB 9 = .ok (.goto 4, 3) := by decide +kernel
theorem d12 : decode yB 12 = .ok (.iconst 0, 1) := by decide +kernel
theorem d13 : decode yB 13 = .ok (.ireturn, 1) := by decide +kernel
def site : List Cond := [.fieldLink "java/lang/String" 9 "java/lang/String" "value" "[B"]
def tab : Cond := tabOf yN yB 1 (some .boolean) site
def P (x t : Addr) (V : Cell) (cd : Int32) (n : Nat) (f : Nat → Int32) (args : Array Value) (s : State) : Prop := args = #[.ref x] ∧ Txt x t V cd n f s
def E (n : Nat) (r : Option Value) (s u : State) : Prop := XT.PureE (some (.int (if n = 0 then 1 else 0))) r s u
/-- isEmpty() of a String of n chars -/
theorem law (l : Launch) (x t : Addr) (V : Cell) (cd : Int32) (n : Nat) (f : Nat → Int32) : Law l yN 1 0 0 0 yB 1 (some .boolean) site (P x t V cd n f) (E n) [] 0 0 := by
  refine Law.of_walk (plainFor_of_name (by decide +kernel)) (by decide +kernel) (by decide +kernel) (by decide) (fun _ _ h => by rw [h.1]; rfl) (fun _ U U' hal hh h => ⟨h.1, h.2.mv hal hh⟩) (fun r U U' V V' h1 hal h2 h => XT.PureE.mv r U U' V V' h1 hal h2 h) ?_
  intro p e s m args below meth c s₁ X0 hexec hbytes hml hret hlk hnm hown hh0 W hP
  obtain ⟨rfl, hx⟩ := hP
  have v31 := hx.2.2.2.1.2.2.2
  have c1 : Steps p.tables e below (s₁.setTop (entryFrame m #[.ref x] 1)) (s₁.setTop (mkF m 1 #[.val (.ref x)] [.ref x])) := Steps.trans (entry rfl) (by
    show Steps p.tables e below (s₁.setTop (mkF m 0 #[.val (.ref x)] [])) _
    refine XS.aloadN X0.here hexec rfl (hb hbytes d0) rfl rfl ?_
    exact Steps.refl _)
  obtain ⟨T2, X2, q2, st2⟩ := X0.hget hexec hown (wk W (.fieldLink "java/lang/String" 9 "java/lang/String" "value" "[B")) (hx.mv X0.warmed.alike hh0).2.1 (g := (mkF m 1 #[.val (.ref x)] [.ref x])) rfl (rest := []) rfl (hb hbytes d1)
  have hh2 := q2.trans hh0
  have hx2 := hx.mv X2.warmed.alike hh2
  have c3 : Steps p.tables e below (s₁.setTop (entryFrame m #[.ref x] 1)) (T2.setTop (mkF m 5 #[.val (.ref x)] [.int (Int32.ofNat V.slots.size)])) := (c1.trans (st2 _ (Steps.refl _))).trans (by
    refine X2.alen hexec hx2.2.2.2.1 rfl rfl (hb hbytes d4) ?_
    exact Steps.refl _)
  have hz : V.slots.size = 0 ↔ n = 0 := by
    rcases hx.2.2.2.2.1 with ⟨-, q, -⟩ | ⟨-, q, -⟩ <;> omega
  by_cases h0 : n = 0
  · have c4 : Steps p.tables e below (s₁.setTop (entryFrame m #[.ref x] 1)) (T2.setTop (mkF m 13 #[.val (.ref x)] [.int 1])) := c3.trans (by
      refine XS.ifNo X2.here hexec rfl (hb hbytes d5) rfl (i0_ne_f (by rw [hz.mpr h0]; rfl)) ?_
      refine iconstV X2.here hexec rfl 1 (hb hbytes d8) (by decide) ?_
      refine XS.goto X2.here hexec rfl (pc0 := 9) rfl (hb hbytes d9) (by decide) rfl ?_
      exact Steps.refl _)
    exact ⟨T2, some (.int 1), _, _, _, X2, rfl, rfl, rfl, (fun h => by cases h), ⟨by rw [if_pos h0], hh2⟩, fun fs hl => c4.trans (X2.ireturnOut hexec hret rfl (Or.inr (Or.inl rfl)) (hb hbytes d13) hl)⟩
  · have c4 : Steps p.tables e below (s₁.setTop (entryFrame m #[.ref x] 1)) (T2.setTop (mkF m 13 #[.val (.ref x)] [.int 0])) := c3.trans (by
      refine XS.ifYes X2.here hexec rfl (pc0 := 5) rfl (hb hbytes d5) rfl (i0_ne_t (nz32 v31 (by omega))) (by decide) rfl ?_
      refine iconstV X2.here hexec rfl 0 (hb hbytes d12) (by decide) ?_
      exact Steps.refl _)
    exact ⟨T2, some (.int 0), _, _, _, X2, rfl, rfl, rfl, (fun h => by cases h), ⟨by rw [if_neg h0], hh2⟩, fun fs hl => c4.trans (X2.ireturnOut hexec hret rfl (Or.inr (Or.inl rfl)) (hb hbytes d13) hl)⟩
theorem pays {l : Launch} {R : Room} {p : Program} {e : Env} {below : List Frame} {s : State} {sargs : Array Value} {len W : Nat} (x t : Addr) (V : Cell) (cd : Int32) (n : Nat) (f : Nat → Int32) (htab : tab.before sargs s = true) (hfr : 1 ≤ R.frames) (hlo : W + 12 ≤ R.locals) :
    Back l R p e below s sargs yN len W (fun A₁ a₁ => A₁.cells + 0 ≤ R.cells ∧ A₁.slots + 0 ≤ R.slots ∧ P x t V cd n f a₁ A₁.U) (fun A₁ _ v₁ B₁ => E n v₁ A₁.U B₁.U ∧ B₁.locs = A₁.locs ++ [] ∧ B₁.cells = A₁.cells + 0 ∧ B₁.slots = A₁.slots + 0) :=
  (law l x t V cd n f).pays htab hfr (by omega)
end Emp
/-- what place i of a byte[]'s cell holds -/
def yv (A : Cell) (i : Nat) : Int32 := match A.slots[i]? with | some (.int x) => x | _ => 0
theorem yv_get {a : Addr} {A : Cell} {U : State} (h : XT.Arr .byte a A U) (ht : Typed .byte A) {i : Nat} (hi : i < A.slots.size) : A.slots[i]? = some (.int (yv A i)) := by
  have e := Array.getElem?_eq_getElem hi
  have f := ht i _ e
  unfold yv; rw [e]
  generalize A.slots[i] = v at f
  cases v <;> simp [fits] at f ⊢
/-- the two arrays are equal, place for place -/
def EqC (A B : Cell) : Prop := A.slots.size = B.slots.size ∧ ∀ i, i < A.slots.size → yv A i = yv B i
/-- a boolean that says whether p -/
def Says01 (q : Prop) (r : Option Value) (s u : State) : Prop := ∃ v : Int32, r = some (.int v) ∧ u.heap = s.heap ∧ ((v = 1 ∧ q) ∨ (v = 0 ∧ ¬ q))
theorem Says01.mv {q : Prop} : ∀ r (U U' V V' : State), U'.heap = U.heap → V.vm.Alike V'.vm → V'.heap = V.heap → Says01 q r U V → Says01 q r U' V' :=
  fun r U U' V V' h1 _ h2 ⟨v, a, b, c⟩ => ⟨v, a, by rw [h1, h2]; exact b, c⟩
namespace LEq
def yN : MethodName := ⟨"java/lang/StringLatin1", "equals", "([B[B)Z"⟩
abbrev yB : ByteArray := jdk_43_method_13_code
theorem d0 : decode yB 0 = .ok (.aload_n 0, 1) := by decide +kernel
theorem d1 : decode yB 1 = .ok (.arraylength, 1) := by decide +kernel
theorem d2 : decode yB 2 = .ok (.aload_n 1, 1) := by decide +kernel
theorem d3 : decode yB 3 = .ok (.arraylength, 1) := by decide +kernel
theorem d4 : decode yB 4 = .ok (.if_icmp (.ne) 30, 3) := by decide +kernel
theorem d7 : decode yB 7 = .ok (.iconst 0, 1) := by decide +kernel
theorem d8 : decode yB 8 = .ok (.istore_n 2, 1) := by decide +kernel
theorem d9 : decode yB 9 = .ok (.iload_n 2, 1) := by decide +kernel
theorem d10 : decode yB 10 = .ok (.aload_n 0, 1) := by decide +kernel
theorem d11 : decode yB 11 = .ok (.arraylength, 1) := by decide +kernel
theorem d12 : decode yB 12 = .ok (.if_icmp (.ge) 20, 3) := by decide +kernel
theorem d15 : decode yB 15 = .ok (.aload_n 0, 1) := by decide +kernel
theorem d16 : decode yB 16 = .ok (.iload_n 2, 1) := by decide +kernel
theorem d17 : decode yB 17 = .ok (.baload, 1) := by decide +kernel
theorem d18 : decode yB 18 = .ok (.aload_n 1, 1) := by decide +kernel
theorem d19 : decode yB 19 = .ok (.iload_n 2, 1) := by decide +kernel
theorem d20 : decode yB 20 = .ok (.baload, 1) := by decide +kernel
theorem d21 : decode yB 21 = .ok (.if_icmp (.eq) 5, 3) := by decide +kernel
theorem d24 : decode yB 24 = .ok (.iconst 0, 1) := by decide +kernel
theorem d25 : decode yB 25 = .ok (.ireturn, 1) := by decide +kernel
theorem d26 : decode yB 26 = .ok (.iinc 2 1, 3) := by decide +kernel
theorem d29 : decode yB 29 = .ok (.goto (-20), 3) := by decide +kernel
theorem d32 : decode yB 32 = .ok (.iconst 1, 1) := by decide +kernel
theorem d33 : decode yB 33 = .ok (.ireturn, 1) := by decide +kernel
theorem d34 : decode yB 34 = .ok (.iconst 0, 1) := by decide +kernel
theorem d35 : decode yB 35 = .ok (.ireturn, 1) := by decide +kernel
def site : List Cond := []
def tab : Cond := tabOf yN yB 3 (some .boolean) site
def P (a : Addr) (A : Cell) (b : Addr) (B : Cell) (args : Array Value) (s : State) : Prop := args = #[.ref a, .ref b] ∧ XT.Arr .byte a A s ∧ Typed .byte A ∧ XT.Arr .byte b B s ∧ Typed .byte B
/-- whether two byte[] are equal, place for place -/
theorem law (l : Launch) (a : Addr) (A : Cell) (b : Addr) (B : Cell) : Law l yN 2 2 0 0 yB 3 (some .boolean) site (P a A b B) (Says01 (EqC A B)) [] 0 0 := by
  refine Law.of_walk (plainFor_of_name (by decide +kernel)) (by decide +kernel) (by decide +kernel) (by decide) (fun _ _ h => by rw [h.1]; rfl) (fun _ U U' hal hh h => ⟨h.1, h.2.1.mv hal hh, h.2.2.1, h.2.2.2.1.mv hal hh, h.2.2.2.2⟩) (fun r U U' V V' h1 hal h2 h => Says01.mv r U U' V V' h1 hal h2 h) ?_
  intro p e s m args below meth c s₁ X0 hexec hbytes hml hret hlk hnm hown hh0 W hP
  obtain ⟨rfl, hA, tA, hB, tB⟩ := hP
  have a31 := hA.2.2.2
  have b31 := hB.2.2.2
  have hA0 := hA.mv X0.warmed.alike hh0
  have hB0 := hB.mv X0.warmed.alike hh0
  have c1 : Steps p.tables e below (s₁.setTop (entryFrame m #[.ref a, .ref b] 3)) (s₁.setTop (mkF m 0 #[.val (.ref a), .val (.ref b), .unset] [])) := entry rfl
  have c2 : Steps p.tables e below (s₁.setTop (entryFrame m #[.ref a, .ref b] 3)) (s₁.setTop (mkF m 4 #[.val (.ref a), .val (.ref b), .unset] [.int (Int32.ofNat B.slots.size), .int (Int32.ofNat A.slots.size)])) := c1.trans (by
    refine XS.aloadN X0.here hexec rfl (hb hbytes d0) rfl rfl ?_
    refine X0.alen hexec hA0 rfl rfl (hb hbytes d1) ?_
    refine XS.aloadN X0.here hexec rfl (hb hbytes d2) rfl rfl ?_
    refine X0.alen hexec hB0 rfl rfl (hb hbytes d3) ?_
    exact Steps.refl _)
  by_cases hs : A.slots.size = B.slots.size
  · have c3 : Steps p.tables e below (s₁.setTop (entryFrame m #[.ref a, .ref b] 3)) (s₁.setTop (mkF m 9 #[.val (.ref a), .val (.ref b), .val (.int 0)] [])) := c2.trans (by
      refine XS.icmpNo X0.here hexec rfl (hb hbytes d4) rfl (ii_ne_f (by rw [hs])) ?_
      refine iconstV X0.here hexec rfl 0 (hb hbytes d7) (by decide) ?_
      refine XS.istoreN X0.here hexec rfl (hb hbytes d8) rfl rfl ?_
      exact Steps.refl _)
    have loop : ∀ (r i : Nat), i + r = A.slots.size → (∀ j, j < i → yv A j = yv B j) → Steps p.tables e below (s₁.setTop (entryFrame m #[.ref a, .ref b] 3)) (s₁.setTop (mkF m 9 #[.val (.ref a), .val (.ref b), .val (.int (Int32.ofNat i))] [])) → ∃ (pc : Nat) (Ls : Array Slot) (v : Int32), (pc = 25 ∨ pc = 33) ∧ ((v = 1 ∧ EqC A B) ∨ (v = 0 ∧ ¬ EqC A B)) ∧ Steps p.tables e below (s₁.setTop (entryFrame m #[.ref a, .ref b] 3)) (s₁.setTop (mkF m pc Ls [.int v])) := by
      intro r
      induction r with
      | zero =>
        intro i hi he cl
        exact ⟨33, _, 1, Or.inr rfl, Or.inl ⟨rfl, hs, fun j hj => he j (by omega)⟩, cl.trans (by
          refine XS.iloadN X0.here hexec rfl (hb hbytes d9) rfl ?_
          refine XS.aloadN X0.here hexec rfl (hb hbytes d10) rfl rfl ?_
          refine X0.alen hexec hA0 rfl rfl (hb hbytes d11) ?_
          refine XS.icmpYes X0.here hexec rfl (pc0 := 12) rfl (hb hbytes d12) rfl (ii_ge_t (nlt32 (by omega) (by omega))) (by decide) rfl ?_
          refine iconstV X0.here hexec rfl 1 (hb hbytes d32) (by decide) ?_
          exact Steps.refl _)⟩
      | succ r ih =>
        intro i hi he cl
        have c4 : Steps p.tables e below (s₁.setTop (entryFrame m #[.ref a, .ref b] 3)) (s₁.setTop (mkF m 21 #[.val (.ref a), .val (.ref b), .val (.int (Int32.ofNat i))] [.int (yv B i), .int (yv A i)])) := cl.trans (by
          refine XS.iloadN X0.here hexec rfl (hb hbytes d9) rfl ?_
          refine XS.aloadN X0.here hexec rfl (hb hbytes d10) rfl rfl ?_
          refine X0.alen hexec hA0 rfl rfl (hb hbytes d11) ?_
          refine XS.icmpNo X0.here hexec rfl (hb hbytes d12) rfl (ii_ge_f (lt32 (by omega) (by omega))) ?_
          refine XS.aloadN X0.here hexec rfl (hb hbytes d15) rfl rfl ?_
          refine XS.iloadN X0.here hexec rfl (hb hbytes d16) rfl ?_
          refine X0.aget hexec hA0 rfl (yv_get hA tA (i := i) (by omega)) rfl rfl (hb hbytes d17) ?_
          refine XS.aloadN X0.here hexec rfl (hb hbytes d18) rfl rfl ?_
          refine XS.iloadN X0.here hexec rfl (hb hbytes d19) rfl ?_
          refine X0.aget hexec hB0 rfl (yv_get hB tB (i := i) (by omega)) rfl rfl (hb hbytes d20) ?_
          exact Steps.refl _)
        by_cases hv : yv A i = yv B i
        · have c5 : Steps p.tables e below (s₁.setTop (entryFrame m #[.ref a, .ref b] 3)) (s₁.setTop (mkF m 9 #[.val (.ref a), .val (.ref b), .val (.int (Int32.ofNat i + 1))] [])) := c4.trans (by
            refine XS.icmpYes X0.here hexec rfl (pc0 := 21) rfl (hb hbytes d21) rfl (ii_eq_t hv) (by decide) rfl ?_
            refine iincV X0.here hexec rfl 1 (hb hbytes d26) (by decide) rfl rfl ?_
            refine XS.goto X0.here hexec rfl (pc0 := 29) rfl (hb hbytes d29) (by decide) rfl ?_
            exact Steps.refl _)
          rw [succ32] at c5
          exact ih (i + 1) (by omega) (fun j hj => by
            by_cases e : j = i
            · rw [e]; exact hv
            · exact he j (by omega)) c5
        · exact ⟨25, _, 0, Or.inl rfl, Or.inr ⟨rfl, fun q => hv (q.2 i (by omega))⟩, c4.trans (by
            refine XS.icmpNo X0.here hexec rfl (hb hbytes d21) rfl (ii_eq_f hv) ?_
            refine iconstV X0.here hexec rfl 0 (hb hbytes d24) (by decide) ?_
            exact Steps.refl _)⟩
    obtain ⟨pc, Ls, v, hpc, hv, cz⟩ := loop A.slots.size 0 (by omega) (fun j hj => absurd hj (Nat.not_lt_zero j)) c3
    have nv : narrow .boolean (.int v) = .int v := by rcases hv with ⟨rfl, -⟩ | ⟨rfl, -⟩ <;> rfl
    rcases hpc with rfl | rfl
    · exact ⟨s₁, some (.int v), _, _, _, X0, rfl, rfl, rfl, (fun h => by cases h), ⟨v, rfl, hh0, hv⟩, fun fs hl => cz.trans (X0.ireturnOut hexec hret nv (Or.inr (Or.inl rfl)) (hb hbytes d25) hl)⟩
    · exact ⟨s₁, some (.int v), _, _, _, X0, rfl, rfl, rfl, (fun h => by cases h), ⟨v, rfl, hh0, hv⟩, fun fs hl => cz.trans (X0.ireturnOut hexec hret nv (Or.inr (Or.inl rfl)) (hb hbytes d33) hl)⟩
  · have c3 : Steps p.tables e below (s₁.setTop (entryFrame m #[.ref a, .ref b] 3)) (s₁.setTop (mkF m 35 #[.val (.ref a), .val (.ref b), .unset] [.int 0])) := c2.trans (by
      refine XS.icmpYes X0.here hexec rfl (pc0 := 4) rfl (hb hbytes d4) rfl (ii_ne_t (ne32 a31 b31 hs)) (by decide) rfl ?_
      refine iconstV X0.here hexec rfl 0 (hb hbytes d34) (by decide) ?_
      exact Steps.refl _)
    exact ⟨s₁, some (.int 0), _, _, _, X0, rfl, rfl, rfl, (fun h => by cases h), ⟨0, rfl, hh0, Or.inr ⟨rfl, fun q => hs q.1⟩⟩, fun fs hl => c3.trans (X0.ireturnOut hexec hret rfl (Or.inr (Or.inl rfl)) (hb hbytes d35) hl)⟩
end LEq
theorem Cod.ty {cd : Int32} {n : Nat} {f : Nat → Int32} {V : Cell} (h : Cod cd n f V) : Typed .byte V := fun i v hv => by
  have hi : i < V.slots.size := (Array.getElem?_eq_some_iff.mp hv).1
  rcases h with ⟨-, k1, k2⟩ | ⟨-, k1, k2, -⟩
  · rw [(k2 i (by omega)).1] at hv; cases hv; exact fits_lo8 _
  · rcases Nat.mod_two_eq_zero_or_one i with e | e
    · obtain ⟨j, rfl⟩ : ∃ j, i = 2 * j := ⟨i / 2, by omega⟩
      rw [(k2 j (by omega)).1] at hv; cases hv; exact fits_lo8 _
    · obtain ⟨j, rfl⟩ : ∃ j, i = 2 * j + 1 := ⟨i / 2, by omega⟩
      rw [(k2 j (by omega)).2] at hv; cases hv; exact fits_lo8 _
/-- the same text -/
def SameT (n : Nat) (f : Nat → Int32) (k : Nat) (g : Nat → Int32) : Prop := n = k ∧ ∀ j, j < n → f j = g j
theorem lo8_inj {x y : Int32} (h0 : ¬ x < 0) (h1 : ¬ 255 < x) (k0 : ¬ y < 0) (k1 : ¬ 255 < y) (h : lo8 x = lo8 y) : x = y := by
  rw [← lo8_mask h0 h1, ← lo8_mask k0 k1, h]
/-- arrays coded by one coder are equal just where the texts are -/
theorem Cod.eqv {cd : Int32} {n k : Nat} {f g : Nat → Int32} {V V' : Cell} (h : Cod cd n f V) (h' : Cod cd k g V') (hf : ∀ j, j < n → ¬ f j < 0 ∧ ¬ 65535 < f j) (hg : ∀ j, j < k → ¬ g j < 0 ∧ ¬ 65535 < g j) : EqC V V' ↔ SameT n f k g := by
  have yvv : ∀ {W : Cell} {i : Nat} {x : Int32}, W.slots[i]? = some (.int x) → yv W i = x := fun q => by unfold yv; rw [q]
  rcases h with ⟨rfl, k1, k2⟩ | ⟨rfl, k1, k2, -⟩
  · rcases h' with ⟨-, m1, m2⟩ | ⟨e, -⟩
    · constructor
      · rintro ⟨e1, e2⟩
        refine ⟨by omega, fun j hj => ?_⟩
        have q := e2 j (by omega)
        rw [yvv (k2 j hj).1, yvv (m2 j (by omega)).1] at q
        exact lo8_inj (hf j hj).1 (k2 j hj).2 (hg j (by omega)).1 (m2 j (by omega)).2 q
      · rintro ⟨rfl, e2⟩
        refine ⟨by omega, fun j hj => ?_⟩
        rw [yvv (k2 j (by omega)).1, yvv (m2 j (by omega)).1, e2 j (by omega)]
    · exact absurd e (by decide)
  · rcases h' with ⟨e, -⟩ | ⟨-, m1, m2, -⟩
    · exact absurd e (by decide)
    · constructor
      · rintro ⟨e1, e2⟩
        refine ⟨by omega, fun j hj => ?_⟩
        have q1 := e2 (2 * j) (by omega)
        have q2 := e2 (2 * j + 1) (by omega)
        rw [yvv (k2 j hj).1, yvv (m2 j (by omega)).1] at q1
        rw [yvv (k2 j hj).2, yvv (m2 j (by omega)).2] at q2
        rw [← pair_says (hf j hj).1 (hf j hj).2, ← pair_says (hg j (by omega)).1 (hg j (by omega)).2, q1, q2]
      · rintro ⟨rfl, e2⟩
        refine ⟨by omega, fun i hi => ?_⟩
        rcases Nat.mod_two_eq_zero_or_one i with e | e
        · obtain ⟨j, rfl⟩ : ∃ j, i = 2 * j := ⟨i / 2, by omega⟩
          rw [yvv (k2 j (by omega)).1, yvv (m2 j (by omega)).1, e2 j (by omega)]
        · obtain ⟨j, rfl⟩ : ∃ j, i = 2 * j + 1 := ⟨i / 2, by omega⟩
          rw [yvv (k2 j (by omega)).2, yvv (m2 j (by omega)).2, e2 j (by omega)]
/-- two codings differ: so do the texts -/
theorem Cod.dif {cd cd' : Int32} {n k : Nat} {f g : Nat → Int32} {V V' : Cell} (h : Cod cd n f V) (h' : Cod cd' k g V') (hne : ¬ cd = cd') : ¬ SameT n f k g := by
  rintro ⟨rfl, e⟩
  rcases h with ⟨rfl, -, k2⟩ | ⟨rfl, -, -, j, hj, hw⟩
  · rcases h' with ⟨rfl, -⟩ | ⟨-, -, -, j, hj, hw⟩
    · exact hne rfl
    · exact (k2 j hj).2 (by rw [e j hj]; exact hw)
  · rcases h' with ⟨-, -, m2⟩ | ⟨rfl, -⟩
    · exact (m2 j hj).2 (by rw [← e j hj]; exact hw)
    · exact hne rfl
/-- an object of exactly C is an instance of C -/
theorem cinst {p : Program} {l : Launch} {e : Env} {R : Room} {s : State} {m : MethodId} {args : Array Value} {below : List Frame} {meth : Method} {c : Code} {T : State} {locs : List Loc} {cells slots : Nat} (X : Stand p l e R s m args below meth c T locs cells slots) (hexec : p.tables.exec = Jvm.exec) {own C : String} {index : Nat} (hown : s.vm.findClass own = some m.cls) (hlink : (Cond.classLink own index C).before args s = true) {a : Addr} (hE : Exact C a T)
    {g : JFrame} (hg : g.method = m) {rest : List Value} (hstack : g.stack = .ref a :: rest) (hdg : decode c.code g.pc = .ok (.instanceof index, 3)) :
    ∃ T', Stand p l e R s m args below meth c T' locs cells slots ∧ T'.heap = T.heap ∧ ∀ target, Steps p.tables e below (T'.setTop { g with pc := g.pc + 3, stack := .int 1 :: rest }) target → Steps p.tables e below (T.setTop g) target := by
  obtain ⟨cB, h1, D, h2, h3, h4⟩ := hE
  have h1' : s.vm.findClass C = some cB := by rw [← X.warmed.alike.findClass]; exact h1
  obtain ⟨vm', X', st⟩ := X.instanceofYes hexec hown hlink h2 h4 h1' (by rw [h3]; exact Jvm.Free.SB.assignable_self _ _) hg hstack hdg
  exact ⟨_, X', rfl, st⟩
theorem cself {p : Program} {l : Launch} {e : Env} {R : Room} {s : State} {m : MethodId} {args : Array Value} {below : List Frame} {meth : Method} {c : Code} {T : State} {locs : List Loc} {cells slots : Nat} (X : Stand p l e R s m args below meth c T locs cells slots) (hexec : p.tables.exec = Jvm.exec) {own C : String} {index : Nat} (hown : s.vm.findClass own = some m.cls) (hlink : (Cond.classLink own index C).before args s = true) {a : Addr} (hE : Exact C a T)
    {g : JFrame} (hg : g.method = m) {rest : List Value} (hstack : g.stack = .ref a :: rest) (hdg : decode c.code g.pc = .ok (.checkcast index, 3)) :
    ∃ T', Stand p l e R s m args below meth c T' locs cells slots ∧ T'.heap = T.heap ∧ ∀ target, Steps p.tables e below (T'.setTop { g with pc := g.pc + 3, stack := .ref a :: rest }) target → Steps p.tables e below (T.setTop g) target := by
  obtain ⟨cB, h1, D, h2, h3, h4⟩ := hE
  have h1' : s.vm.findClass C = some cB := by rw [← X.warmed.alike.findClass]; exact h1
  obtain ⟨vm', X', st⟩ := X.checkcastYes hexec hown hlink h2 h4 h1' (by rw [h3]; exact Jvm.Free.SB.assignable_self _ _) hg hstack hdg
  exact ⟨_, X', rfl, fun t h => st t (by rw [← hstack] at h; exact h)⟩
namespace SEq
def yN : MethodName := ⟨"java/lang/String", "equals", "(Ljava/lang/Object;)Z"⟩
abbrev yB : ByteArray := jdk_42_method_66_code
theorem d0 : decode yB 0 = .ok (.aload_n 0, 1) := by decide +kernel
theorem d1 : decode yB 1 = .ok (.aload_n 1, 1) := by decide +kernel
theorem d2 : decode yB 2 = .ok (.if_acmp (.ne) 5, 3) := by decide +kernel
theorem d5 : decode yB 5 = .ok (.iconst 1, 1) := by decide +kernel
theorem d6 : decode yB 6 = .ok (.ireturn, 1) := by decide +kernel
theorem d7 : decode yB 7 = .ok (.aload_n 1, 1) := by decide +kernel
theorem d8 : decode yB 8 = .ok (.instanceof 10, 3) := by decide +kernel
theorem d11 : decode yB 11 = .ok (.ifCond (.eq) 43, 3) := by decide +kernel
theorem d14 : decode yB 14 = .ok (.aload_n 1, 1) := by decide +kernel
theorem d15 : decode yB 15 = .ok (.checkcast 10, 3) := by decide +kernel
theorem d18 : decode yB 18 = .ok (.astore_n 2, 1) := by decide +kernel
theorem d19 : decode yB 19 = .ok (.getstatic 38, 3) := by decide +kernel
theorem d22 : decode yB 22 = .ok (.ifCond (.eq) 14, 3) := by decide +kernel
theorem d25 : decode yB 25 = .ok (.aload_n 0, 1) := by decide +kernel
theorem d26 : decode yB 26 = .ok (.getfield 15, 3) := by decide +kernel
theorem d29 : decode yB 29 = .ok (.aload_n 2, 1) := by decide +kernel
theorem d30 : decode yB 30 = .ok (.getfield 15, 3) := by decide +kernel
theorem d33 : decode yB 33 = .ok (.if_icmp (.ne) 21, 3) := by decide +kernel
theorem d36 : decode yB 36 = .ok (.aload_n 0, 1) := by decide +kernel
theorem d37 : decode yB 37 = .ok (.getfield 9, 3) := by decide +kernel
theorem d40 : decode yB 40 = .ok (.aload_n 2, 1) := by decide +kernel
theorem d41 : decode yB 41 = .ok (.getfield 9, 3) := by decide +kernel
theorem d44 : decode yB 44 = .ok (.invokestatic 541, 3) := by decide +kernel
theorem d47 : decode yB 47 = .ok (.ifCond (.eq) 7, 3) := by decide +kernel
theorem d50 : decode yB 50 = .ok (.iconst 1, 1) := by decide +kernel
theorem d51 : decode yB 51 = .ok (.goto 4, 3) := by decide +kernel
theorem d54 : decode yB 54 = .ok (.iconst 0, 1) := by decide +kernel
theorem d55 : decode yB 55 = .ok (.ireturn, 1) := by decide +kernel
def site : List Cond := [.classLink "java/lang/String" 10 "java/lang/String", .fieldLink "java/lang/String" 38 "java/lang/String" "COMPACT_STRINGS" "Z", .fieldLink "java/lang/String" 15 "java/lang/String" "coder" "B", .fieldLink "java/lang/String" 9 "java/lang/String" "value" "[B", LEq.tab] ++ staticW "java/lang/String" 541 LEq.yN
def tab : Cond := tabOf yN yB 3 (some .boolean) site
def P (x t : Addr) (V : Cell) (cd : Int32) (n : Nat) (f : Nat → Int32) (y t' : Addr) (V' : Cell) (cd' : Int32) (k : Nat) (g : Nat → Int32) (z : Int32) (args : Array Value) (s : State) : Prop := args = #[.ref x, .ref y] ∧ Txt x t V cd n f s ∧ Txt y t' V' cd' k g s ∧ StaticIs s "java/lang/String" "COMPACT_STRINGS" "Z" (.int z) ∧ ¬ z = 0
/-- equals(Object) of two Strings: whether the texts are the same -/
theorem law (l : Launch) (x t : Addr) (V : Cell) (cd : Int32) (n : Nat) (f : Nat → Int32) (y t' : Addr) (V' : Cell) (cd' : Int32) (k : Nat) (g : Nat → Int32) (z : Int32) : Law l yN 2 1 1 14 yB 3 (some .boolean) site (P x t V cd n f y t' V' cd' k g z) (Says01 (SameT n f k g)) [] 0 0 := by
  refine Law.of_walk (plainFor_of_name (by decide +kernel)) (by decide +kernel) (by decide +kernel) (by decide) (fun _ _ h => by rw [h.1]; rfl) (fun _ U U' hal hh h => ⟨h.1, h.2.1.mv hal hh, h.2.2.1.mv hal hh, h.2.2.2.1.there hal hh, h.2.2.2.2⟩) (fun r U U' V V' h1 hal h2 h => Says01.mv r U U' V V' h1 hal h2 h) ?_
  intro p e s m args below meth c s₁ X0 hexec hbytes hml hret hlk hnm hown hh0 W hP
  obtain ⟨rfl, hx, hy, s1, hz⟩ := hP
  have c1 : Steps p.tables e below (s₁.setTop (entryFrame m #[.ref x, .ref y] 3)) (s₁.setTop (mkF m 2 #[.val (.ref x), .val (.ref y), .unset] [.ref y, .ref x])) := Steps.trans (entry rfl) (by
    show Steps p.tables e below (s₁.setTop (mkF m 0 #[.val (.ref x), .val (.ref y), .unset] [])) _
    refine XS.aloadN X0.here hexec rfl (hb hbytes d0) rfl rfl ?_
    refine XS.aloadN X0.here hexec rfl (hb hbytes d1) rfl rfl ?_
    exact Steps.refl _)
  by_cases hxy : x = y
  · have c2 : Steps p.tables e below (s₁.setTop (entryFrame m #[.ref x, .ref y] 3)) (s₁.setTop (mkF m 6 #[.val (.ref x), .val (.ref y), .unset] [.int 1])) := c1.trans (by
      refine acmpNo X0.here hexec rfl (hb hbytes d2) rfl rfl rfl (by simp [acmp, hxy]) ?_
      refine iconstV X0.here hexec rfl 1 (hb hbytes d5) (by decide) ?_
      exact Steps.refl _)
    subst hxy
    have ec : cd = cd' := by
      obtain ⟨D, fd, a1, a2, a3⟩ := hx.2.2.1
      obtain ⟨D', fd', b1, b2, b3⟩ := hy.2.2.1
      cases a1.symm.trans b1
      obtain ⟨q1, q2, q3, q4⟩ := a2.1
      obtain ⟨r1, r2, r3, r4⟩ := b2.1
      cases q4.symm.trans r4
      cases a3.symm.trans b3; rfl
    have et : t = t' := by
      obtain ⟨D, fd, a1, a2, a3⟩ := hx.2.1
      obtain ⟨D', fd', b1, b2, b3⟩ := hy.2.1
      cases a1.symm.trans b1
      obtain ⟨q1, q2, q3, q4⟩ := a2.1
      obtain ⟨r1, r2, r3, r4⟩ := b2.1
      cases q4.symm.trans r4
      cases a3.symm.trans b3; rfl
    subst ec et
    have ev : V = V' := by cases hx.2.2.2.1.1.symm.trans hy.2.2.2.1.1; rfl
    subst ev
    have hs : SameT n f k g := (Cod.eqv hx.2.2.2.2.1 hy.2.2.2.2.1 hx.2.2.2.2.2 hy.2.2.2.2.2).mp ⟨rfl, fun _ _ => rfl⟩
    exact ⟨s₁, some (.int 1), _, _, _, X0, rfl, rfl, rfl, (fun h => by cases h), ⟨1, rfl, hh0, Or.inl ⟨rfl, hs⟩⟩, fun fs hl => c2.trans (X0.ireturnOut hexec hret rfl (Or.inr (Or.inl rfl)) (hb hbytes d6) hl)⟩
  · have c2 : Steps p.tables e below (s₁.setTop (entryFrame m #[.ref x, .ref y] 3)) (s₁.setTop (mkF m 8 #[.val (.ref x), .val (.ref y), .unset] [.ref y])) := c1.trans (by
      refine acmpYes X0.here hexec rfl (pc0 := 2) rfl (hb hbytes d2) rfl rfl rfl (by simp [acmp, hxy]) (by decide) rfl ?_
      refine XS.aloadN X0.here hexec rfl (hb hbytes d7) rfl rfl ?_
      exact Steps.refl _)
    obtain ⟨T3, X3, q3, st3⟩ := cinst X0 hexec hown (wk W (.classLink "java/lang/String" 10 "java/lang/String")) (hy.mv X0.warmed.alike hh0).1 (g := (mkF m 8 #[.val (.ref x), .val (.ref y), .unset] [.ref y])) rfl (rest := []) rfl (hb hbytes d8)
    have hh3 := q3.trans hh0
    have c4 : Steps p.tables e below (s₁.setTop (entryFrame m #[.ref x, .ref y] 3)) (T3.setTop (mkF m 15 #[.val (.ref x), .val (.ref y), .unset] [.ref y])) := (c2.trans (st3 _ (Steps.refl _))).trans (by
      refine XS.ifNo X3.here hexec rfl (hb hbytes d11) rfl (i0_eq_f (by decide)) ?_
      refine XS.aloadN X3.here hexec rfl (hb hbytes d14) rfl rfl ?_
      exact Steps.refl _)
    obtain ⟨T5, X5, q5, st5⟩ := cself X3 hexec hown (wk W (.classLink "java/lang/String" 10 "java/lang/String")) (hy.mv X3.warmed.alike hh3).1 (g := (mkF m 15 #[.val (.ref x), .val (.ref y), .unset] [.ref y])) rfl (rest := []) rfl (hb hbytes d15)
    have hh5 := q5.trans hh3
    have c6 : Steps p.tables e below (s₁.setTop (entryFrame m #[.ref x, .ref y] 3)) (T5.setTop (mkF m 19 #[.val (.ref x), .val (.ref y), .val (.ref y)] [])) := (c4.trans (st5 _ (Steps.refl _))).trans (by
      refine XS.astoreN X5.here hexec rfl (hb hbytes d18) rfl rfl rfl ?_
      exact Steps.refl _)
    obtain ⟨T7, X7, q7, st7⟩ := X5.sget hexec hown (wk W (.fieldLink "java/lang/String" 38 "java/lang/String" "COMPACT_STRINGS" "Z")) s1 (fun _ _ h => by rw [hh5]; exact h) (g := (mkF m 19 #[.val (.ref x), .val (.ref y), .val (.ref y)] [])) rfl (hb hbytes d19)
    have hh7 := q7.trans hh5
    have c8 : Steps p.tables e below (s₁.setTop (entryFrame m #[.ref x, .ref y] 3)) (T7.setTop (mkF m 26 #[.val (.ref x), .val (.ref y), .val (.ref y)] [.ref x])) := (c6.trans (st7 _ (Steps.refl _))).trans (by
      refine XS.ifNo X7.here hexec rfl (hb hbytes d22) rfl (i0_eq_f hz) ?_
      refine XS.aloadN X7.here hexec rfl (hb hbytes d25) rfl rfl ?_
      exact Steps.refl _)
    obtain ⟨T9, X9, q9, st9⟩ := X7.hget hexec hown (wk W (.fieldLink "java/lang/String" 15 "java/lang/String" "coder" "B")) (hx.mv X7.warmed.alike hh7).2.2.1 (g := (mkF m 26 #[.val (.ref x), .val (.ref y), .val (.ref y)] [.ref x])) rfl (rest := []) rfl (hb hbytes d26)
    have hh9 := q9.trans hh7
    have c10 : Steps p.tables e below (s₁.setTop (entryFrame m #[.ref x, .ref y] 3)) (T9.setTop (mkF m 30 #[.val (.ref x), .val (.ref y), .val (.ref y)] [.ref y, .int cd])) := (c8.trans (st9 _ (Steps.refl _))).trans (by
      refine XS.aloadN X9.here hexec rfl (hb hbytes d29) rfl rfl ?_
      exact Steps.refl _)
    obtain ⟨T11, X11, q11, st11⟩ := X9.hget hexec hown (wk W (.fieldLink "java/lang/String" 15 "java/lang/String" "coder" "B")) (hy.mv X9.warmed.alike hh9).2.2.1 (g := (mkF m 30 #[.val (.ref x), .val (.ref y), .val (.ref y)] [.ref y, .int cd])) rfl (rest := [.int cd]) rfl (hb hbytes d30)
    have hh11 := q11.trans hh9
    have c12 : Steps p.tables e below (s₁.setTop (entryFrame m #[.ref x, .ref y] 3)) (T11.setTop (mkF m 33 #[.val (.ref x), .val (.ref y), .val (.ref y)] [.int cd', .int cd])) := c10.trans (st11 _ (Steps.refl _))
    by_cases hcd : cd = cd'
    · subst hcd
      have c13 : Steps p.tables e below (s₁.setTop (entryFrame m #[.ref x, .ref y] 3)) (T11.setTop (mkF m 37 #[.val (.ref x), .val (.ref y), .val (.ref y)] [.ref x])) := c12.trans (by
        refine XS.icmpNo X11.here hexec rfl (hb hbytes d33) rfl (ii_ne_f rfl) ?_
        refine XS.aloadN X11.here hexec rfl (hb hbytes d36) rfl rfl ?_
        exact Steps.refl _)
      obtain ⟨T14, X14, q14, st14⟩ := X11.hget hexec hown (wk W (.fieldLink "java/lang/String" 9 "java/lang/String" "value" "[B")) (hx.mv X11.warmed.alike hh11).2.1 (g := (mkF m 37 #[.val (.ref x), .val (.ref y), .val (.ref y)] [.ref x])) rfl (rest := []) rfl (hb hbytes d37)
      have hh14 := q14.trans hh11
      have c15 : Steps p.tables e below (s₁.setTop (entryFrame m #[.ref x, .ref y] 3)) (T14.setTop (mkF m 41 #[.val (.ref x), .val (.ref y), .val (.ref y)] [.ref y, .ref t])) := (c13.trans (st14 _ (Steps.refl _))).trans (by
        refine XS.aloadN X14.here hexec rfl (hb hbytes d40) rfl rfl ?_
        exact Steps.refl _)
      obtain ⟨T16, X16, q16, st16⟩ := X14.hget hexec hown (wk W (.fieldLink "java/lang/String" 9 "java/lang/String" "value" "[B")) (hy.mv X14.warmed.alike hh14).2.1 (g := (mkF m 41 #[.val (.ref x), .val (.ref y), .val (.ref y)] [.ref y, .ref t])) rfl (rest := [.ref t]) rfl (hb hbytes d41)
      have hh16 := q16.trans hh14
      have c17 : Steps p.tables e below (s₁.setTop (entryFrame m #[.ref x, .ref y] 3)) (T16.setTop (mkF m 44 #[.val (.ref x), .val (.ref y), .val (.ref y)] [.ref t', .ref t])) := c15.trans (st16 _ (Steps.refl _))
      obtain ⟨v18, T18, X18, E18, g18⟩ := X16.callS hexec (LEq.law l t V t' V') hown (wks W (staticW "java/lang/String" 541 LEq.yN)) (wk W LEq.tab) (W := 0) (Nat.le_of_ble_eq_true rfl) (Nat.le_of_ble_eq_true rfl) (Nat.le_refl _) (Nat.le_refl _) (g := (mkF m 44 #[.val (.ref x), .val (.ref y), .val (.ref y)] [.ref t', .ref t])) rfl (by rw [hml]; rfl) c17 (argsL := [.ref t, .ref t']) (rest := []) rfl rfl (by show 2 * 0 + 0 ≤ _; decide) (hb hbytes d44) (⟨rfl, hx.2.2.2.1.mv X16.warmed.alike hh16, hx.2.2.2.2.1.ty, hy.2.2.2.1.mv X16.warmed.alike hh16, hy.2.2.2.2.1.ty⟩)
      obtain ⟨v, rfl, q18, hv⟩ := E18
      have iff := Cod.eqv hx.2.2.2.2.1 hy.2.2.2.2.1 hx.2.2.2.2.2 hy.2.2.2.2.2
      rcases hv with ⟨rfl, he⟩ | ⟨rfl, he⟩
      · have c19 : Steps p.tables e below (s₁.setTop (entryFrame m #[.ref x, .ref y] 3)) (T18.setTop (mkF m 55 #[.val (.ref x), .val (.ref y), .val (.ref y)] [.int 1])) := Steps.trans g18 (by
          refine XS.ifNo X18.here hexec rfl (hb hbytes d47) rfl (i0_eq_f (by decide)) ?_
          refine iconstV X18.here hexec rfl 1 (hb hbytes d50) (by decide) ?_
          refine XS.goto X18.here hexec rfl (pc0 := 51) rfl (hb hbytes d51) (by decide) rfl ?_
          exact Steps.refl _)
        exact ⟨T18, some (.int 1), _, _, _, X18, rfl, rfl, rfl, (fun h => by cases h), ⟨1, rfl, q18.trans hh16, Or.inl ⟨rfl, iff.mp he⟩⟩, fun fs hl => c19.trans (X18.ireturnOut hexec hret rfl (Or.inr (Or.inl rfl)) (hb hbytes d55) hl)⟩
      · have c19 : Steps p.tables e below (s₁.setTop (entryFrame m #[.ref x, .ref y] 3)) (T18.setTop (mkF m 55 #[.val (.ref x), .val (.ref y), .val (.ref y)] [.int 0])) := Steps.trans g18 (by
          refine XS.ifYes X18.here hexec rfl (pc0 := 47) rfl (hb hbytes d47) rfl (i0_eq_t rfl) (by decide) rfl ?_
          refine iconstV X18.here hexec rfl 0 (hb hbytes d54) (by decide) ?_
          exact Steps.refl _)
        exact ⟨T18, some (.int 0), _, _, _, X18, rfl, rfl, rfl, (fun h => by cases h), ⟨0, rfl, q18.trans hh16, Or.inr ⟨rfl, fun q => he (iff.mpr q)⟩⟩, fun fs hl => c19.trans (X18.ireturnOut hexec hret rfl (Or.inr (Or.inl rfl)) (hb hbytes d55) hl)⟩
    · have c13 : Steps p.tables e below (s₁.setTop (entryFrame m #[.ref x, .ref y] 3)) (T11.setTop (mkF m 55 #[.val (.ref x), .val (.ref y), .val (.ref y)] [.int 0])) := c12.trans (by
        refine XS.icmpYes X11.here hexec rfl (pc0 := 33) rfl (hb hbytes d33) rfl (ii_ne_t hcd) (by decide) rfl ?_
        refine iconstV X11.here hexec rfl 0 (hb hbytes d54) (by decide) ?_
        exact Steps.refl _)
      exact ⟨T11, some (.int 0), _, _, _, X11, rfl, rfl, rfl, (fun h => by cases h), ⟨0, rfl, hh11, Or.inr ⟨rfl, Cod.dif hx.2.2.2.2.1 hy.2.2.2.2.1 hcd⟩⟩, fun fs hl => c13.trans (X11.ireturnOut hexec hret rfl (Or.inr (Or.inl rfl)) (hb hbytes d55) hl)⟩
theorem pays {l : Launch} {R : Room} {p : Program} {e : Env} {below : List Frame} {s : State} {sargs : Array Value} {len W : Nat} (x t : Addr) (V : Cell) (cd : Int32) (n : Nat) (f : Nat → Int32) (y t' : Addr) (V' : Cell) (cd' : Int32) (k : Nat) (g : Nat → Int32) (z : Int32) (htab : tab.before sargs s = true) (hfr : 2 ≤ R.frames) (hlo : W + 28 ≤ R.locals) :
    Back l R p e below s sargs yN len W (fun A₁ a₁ => A₁.cells + 0 ≤ R.cells ∧ A₁.slots + 0 ≤ R.slots ∧ P x t V cd n f y t' V' cd' k g z a₁ A₁.U) (fun A₁ _ v₁ B₁ => Says01 (SameT n f k g) v₁ A₁.U B₁.U ∧ B₁.locs = A₁.locs ++ [] ∧ B₁.cells = A₁.cells + 0 ∧ B₁.slots = A₁.slots + 0) :=
  (law l x t V cd n f y t' V' cd' k g z).pays htab hfr (by omega)
end SEq
end StrChars
namespace StrChars.Road
open Jvm Sem ClassFile Op Lib Jvm.Stand Jvm.Free Jvm.Free.XT
open Jvm.Lib.Cold (StaticIs)
/-- the words of String.isEmpty() -/
abbrev wordsEmp : List Jvm.Cond := [.code Emp.yN Emp.yB 1 (some .boolean), .initialized ST, .fieldLink ST 9 ST "value" "[B"]
theorem tabEmp_of {a : Array Value} {s : State} (h : ∀ w ∈ wordsEmp, w.before a s = true) : Emp.tab.before a s = true := unparts (wk h (.code Emp.yN Emp.yB 1 (some .boolean))) (wks h (.initialized Emp.yN.cls :: Emp.site))
theorem movedEmp {Z s : State} {a0 args : Array Value} (hZ : Z.Warmed39 s.vm) (hw : ∀ d ∈ wordsEmp, d.before a0 Z = true) : ∀ d ∈ wordsEmp, d.before args s = true := fun d hd => by
  have t : ∀ d ∈ wordsEmp, (d.onTables && d.keepsFace) = true := by decide +kernel
  exact RoadKit.mv hZ (hw d hd) (t d hd)
/-- the words of String.equals(Object) -/
abbrev wordsEq : List Jvm.Cond := [.code SEq.yN SEq.yB 3 (some .boolean), .initialized ST, .classLink ST 10 ST, .fieldLink ST 38 ST "COMPACT_STRINGS" "Z", .fieldLink ST 15 ST "coder" "B", .fieldLink ST 9 ST "value" "[B", .methodLink ST 541 LEq.yN, .static LEq.yN, .code LEq.yN LEq.yB 3 (some .boolean), .initialized "java/lang/StringLatin1"]
theorem tabEq_of {a : Array Value} {s : State} (h : ∀ w ∈ wordsEq, w.before a s = true) : SEq.tab.before a s = true := by
  have hl : LEq.tab.before a s = true := unparts (wk h (.code LEq.yN LEq.yB 3 (some .boolean))) (wks h (.initialized LEq.yN.cls :: LEq.site))
  have q := consq hl h
  exact unparts (wk q (.code SEq.yN SEq.yB 3 (some .boolean))) (wks q (.initialized SEq.yN.cls :: SEq.site))
theorem movedEq {Z s : State} {a0 args : Array Value} (hZ : Z.Warmed39 s.vm) (hw : ∀ d ∈ wordsEq, d.before a0 Z = true) : ∀ d ∈ wordsEq, d.before args s = true := fun d hd => by
  have t : ∀ d ∈ wordsEq, (d.onTables && d.keepsFace) = true := by decide +kernel
  exact RoadKit.mv hZ (hw d hd) (t d hd)
/-- the road's facts of a String, as the laws ask it -/
theorem txt_of {Z U : State} {a0 : Array Value} {kI : Nat} (wi : (Jvm.Cond.instantiable ST kI).before a0 Z = true) (al : Z.vm.Alike U.vm) {x t : Addr} {kb : ClassId} {cs : List Int32} {cd N2 : Int32} {vs : List Value} (E : RoadKit.Exa Z U.heap x ST) (V : RoadKit.Fld Z U.heap x ST "value" "[B" (.ref t)) (C : RoadKit.Fld Z U.heap x ST "coder" "B" (.int cd)) (K : RoadKit.Arv Z U.heap t kb .byte N2 vs (.int 0)) (hc : CodA cs cd N2 vs) (hb : ∀ c ∈ cs, ¬ c < 0 ∧ ¬ (65535 : Int32) < c) (l2 : cs.length ≤ 4000) :
    ∃ A, Txt x t A cd cs.length (fun j => cs.getD j 0) U := by
  obtain ⟨A, K1, K2, K3, K4, K5, K6⟩ := K
  have hcod := hc.cod (by omega) K3 K5
  obtain ⟨D, fV, fC, hB, F1, F2, g1, g2, -, -⟩ := strObj wi al E V C
  exact ⟨A, ⟨_, hB.2.2.1, D, hB.1, rfl, by cases q : D.vm <;> first | rfl | exact absurd q (hB.2.1.2 _)⟩, Has.of hB F1 g1, Has.of hB F2 g2, ⟨K1.1, State.isArrayOf_alike al K1.2.1, K1.2.2, by rcases hcod with ⟨-, q, -⟩ | ⟨-, q, -⟩ <;> omega⟩, hcod, fun j hj => by
    have e : cs.getD j 0 = cs[j] := by simp [List.getD_eq_getElem?_getD, hj]
    show ¬ cs.getD j 0 < 0 ∧ ¬ 65535 < cs.getD j 0
    rw [e]; exact hb _ (List.getElem_mem _)⟩
theorem same_list (cs ds : List Int32) : SameT cs.length (fun j => cs.getD j 0) ds.length (fun j => ds.getD j 0) ↔ cs = ds := by
  constructor
  · rintro ⟨e, q⟩
    refine List.ext_getElem e fun j h1 h2 => ?_
    have := q j h1
    simpa [List.getD_eq_getElem?_getD, h1, h2] using this
  · rintro rfl
    exact ⟨rfl, fun _ _ => rfl⟩
/-- **isEmpty() OF SUCH A STRING** -/
theorem empW {p : Program} {l : Launch} {e : Env} {R : Room} {s : State} {args : Array Value} {below : List Frame} {len W : Nat} {Z : State} {a0 : Array Value} {h : Heap} (hZ : Z.Warmed39 s.vm) (hw : ∀ d ∈ wordsEmp, d.before a0 Z = true) {kI : Nat} (wi : (Jvm.Cond.instantiable ST kI).before a0 Z = true)
    {x t : Addr} {kb : ClassId} {cs : List Int32} {cd N2 : Int32} {vs : List Value} (E : RoadKit.Exa Z h x ST) (V : RoadKit.Fld Z h x ST "value" "[B" (.ref t)) (C : RoadKit.Fld Z h x ST "coder" "B" (.int cd)) (K : RoadKit.Arv Z h t kb .byte N2 vs (.int 0)) (hc : CodA cs cd N2 vs) (hb : ∀ c ∈ cs, ¬ c < 0 ∧ ¬ (65535 : Int32) < c) (l2 : cs.length ≤ 4000) (hfr : 1 ≤ R.frames) (hlo : W + 12 ≤ R.locals) :
    Back l R p e below s args (⟨"java/lang/String", "isEmpty", "()Z"⟩ : MethodName) len W (fun P a => a = #[.ref x] ∧ P.U.heap = h ∧ P.cells + 0 ≤ R.cells ∧ P.slots + 0 ≤ R.slots)
      (fun P _ v B => ∃ L, (v = some (.int (if cs.length = 0 then 1 else 0)) ∧ L = [] ∧ B.U.heap = h) ∧ B.locs = P.locs ++ L ∧ B.cells = P.cells + 0 ∧ B.slots = P.slots + 0) := by
  intro m meth c P g ig mk a X hg hsize hdg hW hn hp'
  obtain ⟨rfl, rfl, r1, r2⟩ := hp'
  have al : Z.vm.Alike P.U.vm := hZ.alike.trans X.warmed.alike
  obtain ⟨A, hx⟩ := txt_of wi al E V C K hc hb l2
  obtain ⟨v, B, X', ⟨⟨hv, hh⟩, hl, hk, hs⟩, st⟩ := Emp.pays x t A cd cs.length (fun j => cs.getD j 0) (tabEmp_of (movedEmp hZ hw)) hfr hlo m meth c P g ig mk _ X hg hsize hdg hW hn ⟨r1, r2, rfl, hx⟩
  exact ⟨v, B, X', ⟨[], ⟨hv, rfl, hh⟩, hl, hk, hs⟩, st⟩
/-- **equals(Object) OF TWO SUCH STRINGS**: 1 just where the chars are the same -/
theorem eqW {p : Program} {l : Launch} {e : Env} {R : Room} {s : State} {args : Array Value} {below : List Frame} {len W : Nat} {Z : State} {a0 : Array Value} {h : Heap} (hZ : Z.Warmed39 s.vm) (hw : ∀ d ∈ wordsEq, d.before a0 Z = true) {kI : Nat} (wi : (Jvm.Cond.instantiable ST kI).before a0 Z = true)
    {x t : Addr} {kb : ClassId} {cs : List Int32} {cd N2 : Int32} {vs : List Value} (E : RoadKit.Exa Z h x ST) (V : RoadKit.Fld Z h x ST "value" "[B" (.ref t)) (C : RoadKit.Fld Z h x ST "coder" "B" (.int cd)) (K : RoadKit.Arv Z h t kb .byte N2 vs (.int 0)) (hc : CodA cs cd N2 vs) (hb : ∀ c ∈ cs, ¬ c < 0 ∧ ¬ (65535 : Int32) < c) (l2 : cs.length ≤ 4000)
    {y t' : Addr} {kb' : ClassId} {ds : List Int32} {cd' N2' : Int32} {vs' : List Value} (E' : RoadKit.Exa Z h y ST) (V' : RoadKit.Fld Z h y ST "value" "[B" (.ref t')) (C' : RoadKit.Fld Z h y ST "coder" "B" (.int cd')) (K' : RoadKit.Arv Z h t' kb' .byte N2' vs' (.int 0)) (hc' : CodA ds cd' N2' vs') (hb' : ∀ c ∈ ds, ¬ c < 0 ∧ ¬ (65535 : Int32) < c) (l2' : ds.length ≤ 4000)
    {z : Int32} (S : RoadKit.Sta Z h ST "COMPACT_STRINGS" "Z" (.int z)) (hz : ¬ z = 0) (hfr : 2 ≤ R.frames) (hlo : W + 28 ≤ R.locals) :
    Back l R p e below s args (⟨"java/lang/String", "equals", "(Ljava/lang/Object;)Z"⟩ : MethodName) len W (fun P a => a = #[.ref x, .ref y] ∧ P.U.heap = h ∧ P.cells + 0 ≤ R.cells ∧ P.slots + 0 ≤ R.slots)
      (fun P _ v B => ∃ L, (((v = some (.int 1) ∧ cs = ds) ∨ (v = some (.int 0) ∧ ¬ cs = ds)) ∧ L = [] ∧ B.U.heap = h) ∧ B.locs = P.locs ++ L ∧ B.cells = P.cells + 0 ∧ B.slots = P.slots + 0) := by
  intro m meth c P g ig mk a X hg hsize hdg hW hn hp'
  obtain ⟨rfl, rfl, r1, r2⟩ := hp'
  have al : Z.vm.Alike P.U.vm := hZ.alike.trans X.warmed.alike
  obtain ⟨A, hx⟩ := txt_of wi al E V C K hc hb l2
  obtain ⟨A', hy⟩ := txt_of wi al E' V' C' K' hc' hb' l2'
  obtain ⟨v, B, X', ⟨⟨w, hv, hh, hq⟩, hl, hk, hs⟩, st⟩ := SEq.pays x t A cd cs.length (fun j => cs.getD j 0) y t' A' cd' ds.length (fun j => ds.getD j 0) z (tabEq_of (movedEq hZ hw)) hfr hlo m meth c P g ig mk _ X hg hsize hdg hW hn ⟨r1, r2, rfl, hx, hy, sta_is al S, hz⟩
  refine ⟨v, B, X', ⟨[], ⟨?_, rfl, hh⟩, hl, hk, hs⟩, st⟩
  rcases hq with ⟨rfl, q⟩ | ⟨rfl, q⟩
  · exact Or.inl ⟨hv, (same_list cs ds).mp q⟩
  · exact Or.inr ⟨hv, fun e => q ((same_list cs ds).mpr e)⟩
end StrChars.Road
namespace StrChars.Road
open Jvm Sem ClassFile Op Lib Jvm.Stand Jvm.Free Jvm.Free.XT
open Jvm.Lib.Cold (StaticIs)
/-- what backV says of its String, as the contracts of this text ask it: cs's low bytes, coder 0 -/
theorem codOf {cs : List Int32} {n : Nat} (hn : cs.length = n) (hb : ∀ c ∈ cs, ¬ 255 < c) : CodA cs 0 (Int32.ofNat n) ((cs.map lo8).map Value.int) := Or.inl ⟨rfl, by rw [hn], by simp [List.map_map, Function.comp_def], hb⟩
end StrChars.Road
end Jvm.Pilot.@@N@@

namespace Jvm.Pilot.@@N@@
open Jvm Jvm.ClassFile Sem Op Lib Jvm.Free Jvm.Stand Jvm.LawKit Jvm.RoadKit Bundle Jvm.Pilot.@@N@@.Jvm.D

/-! a String that spells the chars cs (each 0 to 255), its bytes at t -/
def own_Str (Z : State) (h : Heap) (x t : Addr) (cs : List Int32) : Prop := Exa Z h x "java/lang/String" ∧ Fld Z h x "java/lang/String" "coder" "B" (.int 0) ∧ Fld Z h x "java/lang/String" "value" "[B" (.ref t) ∧ (∃ kb, Arv Z h t kb .byte (Int32.ofNat cs.length) ((cs.map fun c => c.toInt8.toInt32).map Value.int) (.int 0)) ∧ (∀ c ∈ cs, ¬ c < 0 ∧ ¬ (255 : Int32) < c) ∧ cs.length ≤ 4000
def own_QP (r : Option Value) (h : Heap) (v : Option Value) (h' : Heap) (L : List Loc) : Prop := v = r ∧ L = [] ∧ h' = h
def own_QN (Z : State) (x : Addr) (cs : List Int32) (h : Heap) (n0 : Nat) (v : Option Value) (h' : Heap) (L : List Loc) : Prop := v = none ∧ Fr n0 L ∧ Keep h h' [x] ∧ ∃ t, n0 ≤ t ∧ h.size ≤ t ∧ ¬ t = x ∧ own_Str Z h' x t cs
section OwnStr
variable {p : Program} {l : Launch} {e : Env} {R : Room} {s : State} {args : Array Value} {below : List Frame} {W n0 : Nat} {Z : State} {a0 : Array Value} {h h' : Heap} {x t y u a : Addr} {cs ds : List Int32} {ws : List Addr} {sl : Nat} {v : Value}
theorem own_Str.ext (E : Ext h h') (F : own_Str Z h x t cs) : own_Str Z h' x t cs := by
  obtain ⟨f1, f2, f3, ⟨kb, f4⟩, f5⟩ := F; exact ⟨f1.ext E, f2.ext E, f3.ext E, ⟨kb, f4.ext E⟩, f5⟩
theorem own_Str.other (F : own_Str Z h x t cs) (Wq : Wr h h' a sl v) (q1 : x ≠ a) (q2 : t ≠ a) : own_Str Z h' x t cs := by
  obtain ⟨f1, f2, f3, ⟨kb, f4⟩, f5⟩ := F; exact ⟨f1.wr Wq, f2.other Wq (Or.inl q1), f3.other Wq (Or.inl q1), ⟨kb, f4.other Wq q2⟩, f5⟩
theorem own_Str.keep (F : own_Str Z h x t cs) (K : Keep h h' ws) (q1 : x ∉ ws) (q2 : t ∉ ws) : own_Str Z h' x t cs := by
  obtain ⟨f1, f2, f3, ⟨kb, f4⟩, f5⟩ := F; exact ⟨f1.keep K, f2.keep K q1, f3.keep K q1, ⟨kb, f4.keep K q2⟩, f5⟩
theorem own_Str.lt (F : own_Str Z h x t cs) : x < h.size := F.1.lt
theorem own_Str.lt2 (F : own_Str Z h x t cs) : t < h.size := by obtain ⟨_, _, _, ⟨_, f4⟩, _⟩ := F; exact f4.lt
theorem own_up16 (h : ∀ c ∈ cs, ¬ c < 0 ∧ ¬ (255 : Int32) < c) : ∀ c ∈ cs, ¬ c < 0 ∧ ¬ (65535 : Int32) < c := fun c hc => ⟨(h c hc).1, fun q => (h c hc).2 (by
  rw [Int32.lt_iff_toInt_lt] at q ⊢
  have e1 : (65535 : Int32).toInt = 65535 := rfl
  have e2 : (255 : Int32).toInt = 255 := rfl
  omega)⟩
theorem own_cs0 : ∀ c ∈ ([] : List Int32), ¬ c < 0 ∧ ¬ (255 : Int32) < c := fun _ h => nomatch h
theorem own_csS {a : Int32} {L : List Int32} (h1 : ¬ a < 0 ∧ ¬ (255 : Int32) < a) (h2 : ∀ c ∈ L, ¬ c < 0 ∧ ¬ (255 : Int32) < c) : ∀ c ∈ a :: L, ¬ c < 0 ∧ ¬ (255 : Int32) < c := fun c hc => (List.mem_cons.mp hc).elim (fun e => e ▸ h1) (h2 c)
theorem own_strw : ∀ d ∈ StrChars.Road.words, d ∈ tables_1 := by decide +kernel
theorem own_newB {b : Addr} {kC : ClassId} {d v0 c0 : Value} {z N : Int32} {n : Nat} (hZ : Z.Warmed39 s.vm) (hw : ∀ d ∈ tables_1, d.before a0 Z = true) (wi : (Jvm.Cond.instantiable "java/lang/String" 4).before a0 Z = true) (O : Old Z n0 h) (hx0 : n0 ≤ x) (E : Exa Z h x "java/lang/String") (V : Fld Z h x "java/lang/String" "value" "[B" v0) (C : Fld Z h x "java/lang/String" "coder" "B" c0) (K : Arv Z h b kC .char N (cs.map Value.int) d) (S : Sta Z Z.heap "java/lang/String" "COMPACT_STRINGS" "Z" (.int z)) (hz : ¬ z = 0)
    (hn : cs.length = n) (hN : N = Int32.ofNat n) (l0 : 0 < n) (l2 : n ≤ 4000) (hp : ∀ c ∈ cs, ¬ c < 0 ∧ ¬ (255 : Int32) < c) (hfr : 4 ≤ R.frames) (hlo : W + 65 ≤ R.locals) :
    Back l R p e below s args (⟨"java/lang/String", "<init>", "([C)V"⟩ : MethodName) 3 W (fun P a => a = #[.ref x, .ref b] ∧ P.U.heap = h ∧ P.cells + 1 ≤ R.cells ∧ P.slots + n ≤ R.slots)
      (fun P _ v B => ∃ L, own_QN Z x cs h n0 v B.U.heap L ∧ B.locs = P.locs ++ L ∧ B.cells = P.cells + 1 ∧ B.slots = P.slots + n) := by
  have hh0 : n0 ≤ h.size := by rw [← O.1]; exact O.2.1
  refine Back.mono (StrChars.Road.backV hZ (fun d hd => hw d (own_strw d hd)) wi hx0 hh0 E V C K (Sta.ext O.2 S) hz hn hN l0 l2 hp rfl hfr hlo) (fun P a hz => hz) (fun P a v B _ hq => ?_)
  obtain ⟨L, ⟨q1, q2, q3, q4, q5, t, kb, q6, q7, q8, q9, q10⟩, r⟩ := hq
  subst hn hN
  exact ⟨L, ⟨q1, q2, q3, t, q6, q7, q8, q4, q5, q9, ⟨kb, q10⟩, hp, l2⟩, r⟩
theorem own_empw : ∀ d ∈ StrChars.Road.wordsEmp, d ∈ tables_1 := by decide +kernel
theorem own_empB (hZ : Z.Warmed39 s.vm) (hw : ∀ d ∈ tables_1, d.before a0 Z = true) (wi : (Jvm.Cond.instantiable "java/lang/String" 4).before a0 Z = true) (F : own_Str Z h x t cs) (hfr : 1 ≤ R.frames) (hlo : W + 12 ≤ R.locals) :
    Back l R p e below s args (⟨"java/lang/String", "isEmpty", "()Z"⟩ : MethodName) 3 W (fun P a => a = #[.ref x] ∧ P.U.heap = h ∧ P.cells + 0 ≤ R.cells ∧ P.slots + 0 ≤ R.slots)
      (fun P _ v B => ∃ L, own_QP (some (.int (if cs.length = 0 then 1 else 0))) h v B.U.heap L ∧ B.locs = P.locs ++ L ∧ B.cells = P.cells + 0 ∧ B.slots = P.slots + 0) := by
  obtain ⟨f1, f2, f3, ⟨kb, f4⟩, f5, f6⟩ := F
  exact StrChars.Road.empW hZ (fun d hd => hw d (own_empw d hd)) wi f1 f3 f2 f4 (StrChars.Road.codOf rfl fun c hc => (f5 c hc).2) (own_up16 f5) f6 hfr hlo
theorem own_eqw : ∀ d ∈ StrChars.Road.wordsEq, d ∈ tables_1 := by decide +kernel
theorem own_eqB {z : Int32} (hZ : Z.Warmed39 s.vm) (hw : ∀ d ∈ tables_1, d.before a0 Z = true) (wi : (Jvm.Cond.instantiable "java/lang/String" 4).before a0 Z = true) (O : Old Z n0 h) (F : own_Str Z h x t cs) (F' : own_Str Z h y u ds) (S : Sta Z Z.heap "java/lang/String" "COMPACT_STRINGS" "Z" (.int z)) (hz : ¬ z = 0) (hfr : 2 ≤ R.frames) (hlo : W + 28 ≤ R.locals) :
    Back l R p e below s args (⟨"java/lang/String", "equals", "(Ljava/lang/Object;)Z"⟩ : MethodName) 3 W (fun P a => a = #[.ref x, .ref y] ∧ P.U.heap = h ∧ P.cells + 0 ≤ R.cells ∧ P.slots + 0 ≤ R.slots)
      (fun P _ v B => ∃ L, own_QP (some (.int (if cs = ds then 1 else 0))) h v B.U.heap L ∧ B.locs = P.locs ++ L ∧ B.cells = P.cells + 0 ∧ B.slots = P.slots + 0) := by
  obtain ⟨f1, f2, f3, ⟨kb, f4⟩, f5, f6⟩ := F
  obtain ⟨g1, g2, g3, ⟨kc, g4⟩, g5, g6⟩ := F'
  refine Back.mono (StrChars.Road.eqW hZ (fun d hd => hw d (own_eqw d hd)) wi f1 f3 f2 f4 (StrChars.Road.codOf rfl fun c hc => (f5 c hc).2) (own_up16 f5) f6 g1 g3 g2 g4 (StrChars.Road.codOf rfl fun c hc => (g5 c hc).2) (own_up16 g5) g6 (Sta.ext O.2 S) hz hfr hlo) (fun P a hz => hz) (fun P a v B _ hq => ?_)
  obtain ⟨L, ⟨q1, q2, q3⟩, r⟩ := hq
  refine ⟨L, ⟨?_, q2, q3⟩, r⟩
  rcases q1 with ⟨q, q'⟩ | ⟨q, q'⟩
  · rw [q, if_pos q']
  · rw [q, if_neg q']
end OwnStr
theorem own_not_zero {t : Term} {z : Int32} {args : Array Value} {Z : State} (h : (Jvm.Cond.not (.eq t (.int 0))).value args Z none Z [] = some true) (e : t.eval args Z none [] Z = some (.int z)) : ¬ z = 0 := fun q => by
  have h1 := not_v h
  subst q
  simp [Jvm.Cond.value, e, Term.eval] at h1
theorem own_chrP (x : Int32) : nar .char (x &&& 255).toUInt32.toUInt16.toUInt32.toInt32 = (x &&& 255).toUInt32.toUInt16.toUInt32.toInt32 ∧ ¬ (x &&& 255).toUInt32.toUInt16.toUInt32.toInt32 < 0 ∧ ¬ (255 : Int32) < (x &&& 255).toUInt32.toUInt16.toUInt32.toInt32 := by
  obtain ⟨c, -, h1, h2, h3, h4⟩ := own_chr x
  rw [h1]; exact ⟨h2, h3, h4⟩
theorem own_nn (x : Int32) : ¬ (x &&& 2147483647) < 0 := by
  have h : (x &&& 2147483647).toInt = x.toInt % 2147483648 := Jvm.Kit.i32_mask x 2147483647 (k := 31) (by decide) (by decide)
  rw [Int32.lt_iff_toInt_lt, h]; show ¬ _ < (0 : Int); omega
theorem own_sym {a b : Int32} {c d : List Int32} : (if a = b ∧ c = d then 1 else 0 : Int32) = (if b = a ∧ d = c then 1 else 0) := by
  by_cases h : a = b ∧ c = d
  · rw [if_pos h, if_pos ⟨h.1.symm, h.2.symm⟩]
  · rw [if_neg h, if_neg fun q => h ⟨q.1.symm, q.2.symm⟩]

theorem own_ite1 {P : Prop} [Decidable P] (h : ¬ (if P then 1 else 0 : Int32) = 0) : P := by
  by_cases q : P
  · exact q
  · rw [if_neg q] at h; exact absurd rfl h
theorem own_ite0 {P : Prop} [Decidable P] (h : (if P then 1 else 0 : Int32) = 0) : ¬ P := fun q => by
  rw [if_pos q] at h; exact absurd h (by decide)
theorem own_one_ne {a : Int32} (h1 : a = 1) (h2 : a = 0) : False := by rw [h1] at h2; exact absurd h2 (by decide)
theorem own_strat : ∀ d ∈ Bundle.stringAtoms, d ∈ tables_1 := by decide +kernel
theorem own_pn_0 : plainName "java/util/Objects" = true := by first | (simp [plainName, overriddenIn]; done) | decide +kernel
theorem own_d_jdk_31_method_11_code_0 : decode jdk_31_method_11_code 0 = .ok (.aload_n 0, 1) := by decide +kernel
theorem own_d_jdk_31_method_11_code_1 : decode jdk_31_method_11_code 1 = .ok (.ifnonnull 12, 3) := by decide +kernel
theorem own_d_jdk_31_method_11_code_13 : decode jdk_31_method_11_code 13 = .ok (.aload_n 0, 1) := by decide +kernel
theorem own_d_jdk_31_method_11_code_14 : decode jdk_31_method_11_code 14 = .ok (.areturn, 1) := by decide +kernel
theorem own_pn_1 : plainName "com/example/tightrope/tightrope/logic/Predicate" = true := by first | (simp [plainName, overriddenIn]; done) | decide +kernel
theorem own_d_prog_8_method_1_code_0 : decode prog_8_method_1_code 0 = .ok (.aload_n 0, 1) := by decide +kernel
theorem own_d_prog_8_method_1_code_1 : decode prog_8_method_1_code 1 = .ok (.invokespecial 1, 3) := by decide +kernel
theorem own_d_prog_8_method_1_code_4 : decode prog_8_method_1_code 4 = .ok (.aload_n 1, 1) := by decide +kernel
theorem own_d_prog_8_method_1_code_5 : decode prog_8_method_1_code 5 = .ok (.ldc 7, 2) := by decide +kernel
theorem own_d_prog_8_method_1_code_7 : decode prog_8_method_1_code 7 = .ok (.invokestatic 9, 3) := by decide +kernel
theorem own_pd__28Ljava_2flang_2fObject_3bLjava_2flang_2fString_3b_29Ljava_2flang_2fObject_3b : parseMethodDescriptor "(Ljava/lang/Object;Ljava/lang/String;)Ljava/lang/Object;" = some ⟨[(.object "java/lang/Object"), (.object "java/lang/String")], some (.object "java/lang/Object")⟩ := by decide +kernel
theorem own_d_prog_8_method_1_code_10 : decode prog_8_method_1_code 10 = .ok (.pop, 1) := by decide +kernel
theorem own_d_prog_8_method_1_code_11 : decode prog_8_method_1_code 11 = .ok (.aload_n 1, 1) := by decide +kernel
theorem own_d_prog_8_method_1_code_12 : decode prog_8_method_1_code 12 = .ok (.invokevirtual 15, 3) := by decide +kernel
theorem own_pd__28_29Z : parseMethodDescriptor "()Z" = some ⟨[], some .boolean⟩ := by decide +kernel
theorem own_d_prog_8_method_1_code_15 : decode prog_8_method_1_code 15 = .ok (.ifCond .ne 7, 3) := by decide +kernel
theorem own_d_prog_8_method_1_code_18 : decode prog_8_method_1_code 18 = .ok (.iload_n 2, 1) := by decide +kernel
theorem own_d_prog_8_method_1_code_19 : decode prog_8_method_1_code 19 = .ok (.ifCond .ge 18, 3) := by decide +kernel
theorem own_d_prog_8_method_1_code_37 : decode prog_8_method_1_code 37 = .ok (.aload_n 0, 1) := by decide +kernel
theorem own_d_prog_8_method_1_code_38 : decode prog_8_method_1_code 38 = .ok (.aload_n 1, 1) := by decide +kernel
theorem own_d_prog_8_method_1_code_39 : decode prog_8_method_1_code 39 = .ok (.putfield 30, 3) := by decide +kernel
theorem own_d_prog_8_method_1_code_42 : decode prog_8_method_1_code 42 = .ok (.aload_n 0, 1) := by decide +kernel
theorem own_d_prog_8_method_1_code_43 : decode prog_8_method_1_code 43 = .ok (.iload_n 2, 1) := by decide +kernel
theorem own_d_prog_8_method_1_code_44 : decode prog_8_method_1_code 44 = .ok (.putfield 35, 3) := by decide +kernel
theorem own_d_prog_8_method_1_code_47 : decode prog_8_method_1_code 47 = .ok (.return_, 1) := by decide +kernel
theorem own_d_prog_8_method_7_code_0 : decode prog_8_method_7_code 0 = .ok (.aload_n 1, 1) := by decide +kernel
theorem own_d_prog_8_method_7_code_1 : decode prog_8_method_7_code 1 = .ok (.instanceof 31, 3) := by decide +kernel
theorem own_d_prog_8_method_7_code_4 : decode prog_8_method_7_code 4 = .ok (.ifCond .eq 37, 3) := by decide +kernel
theorem own_d_prog_8_method_7_code_7 : decode prog_8_method_7_code 7 = .ok (.aload_n 1, 1) := by decide +kernel
theorem own_d_prog_8_method_7_code_8 : decode prog_8_method_7_code 8 = .ok (.checkcast 31, 3) := by decide +kernel
theorem own_d_prog_8_method_7_code_11 : decode prog_8_method_7_code 11 = .ok (.astore_n 2, 1) := by decide +kernel
theorem own_d_prog_8_method_7_code_12 : decode prog_8_method_7_code 12 = .ok (.aload_n 0, 1) := by decide +kernel
theorem own_d_prog_8_method_7_code_13 : decode prog_8_method_7_code 13 = .ok (.getfield 35, 3) := by decide +kernel
theorem own_d_prog_8_method_7_code_16 : decode prog_8_method_7_code 16 = .ok (.aload_n 2, 1) := by decide +kernel
theorem own_d_prog_8_method_7_code_17 : decode prog_8_method_7_code 17 = .ok (.getfield 35, 3) := by decide +kernel
theorem own_d_prog_8_method_7_code_20 : decode prog_8_method_7_code 20 = .ok (.if_icmp .ne 21, 3) := by decide +kernel
theorem own_d_prog_8_method_7_code_41 : decode prog_8_method_7_code 41 = .ok (.iconst 0, 1) := by decide +kernel
theorem own_d_prog_8_method_7_code_42 : decode prog_8_method_7_code 42 = .ok (.ireturn, 1) := by decide +kernel
theorem own_d_prog_8_method_7_code_23 : decode prog_8_method_7_code 23 = .ok (.aload_n 0, 1) := by decide +kernel
theorem own_d_prog_8_method_7_code_24 : decode prog_8_method_7_code 24 = .ok (.getfield 30, 3) := by decide +kernel
theorem own_d_prog_8_method_7_code_27 : decode prog_8_method_7_code 27 = .ok (.aload_n 2, 1) := by decide +kernel
theorem own_d_prog_8_method_7_code_28 : decode prog_8_method_7_code 28 = .ok (.getfield 30, 3) := by decide +kernel
theorem own_d_prog_8_method_7_code_31 : decode prog_8_method_7_code 31 = .ok (.invokevirtual 84, 3) := by decide +kernel
theorem own_pd__28Ljava_2flang_2fObject_3b_29Z : parseMethodDescriptor "(Ljava/lang/Object;)Z" = some ⟨[(.object "java/lang/Object")], some .boolean⟩ := by decide +kernel
theorem own_d_prog_8_method_7_code_34 : decode prog_8_method_7_code 34 = .ok (.ifCond .eq 7, 3) := by decide +kernel
theorem own_d_prog_8_method_7_code_37 : decode prog_8_method_7_code 37 = .ok (.iconst 1, 1) := by decide +kernel
theorem own_d_prog_8_method_7_code_38 : decode prog_8_method_7_code 38 = .ok (.goto 4, 3) := by decide +kernel
theorem own_pn_2 : plainName "com/example/tightrope/tightrope/logic/PredicateEqualsPinLaw" = true := by first | (simp [plainName, overriddenIn]; done) | decide +kernel
theorem own_pd__28_5bC_29V : parseMethodDescriptor "([C)V" = some ⟨[(.array .char)], none⟩ := by decide +kernel
theorem own_pd__28Ljava_2flang_2fString_3bI_29V : parseMethodDescriptor "(Ljava/lang/String;I)V" = some ⟨[(.object "java/lang/String"), .int], none⟩ := by decide +kernel
theorem own_ef3 (m : MethodId) (x0 : Addr) (x1 : Addr) : entryFrame m #[(.ref x0), (.ref x1)] 2 = mkF m 0 #[.val (.ref x0), .val (.ref x1)] [] := by first | (simp [entryFrame, mkF, argsToLocals, Value.category]; done) | rfl
def Q3 (Z : State) (x : Addr) (y : Addr) (h0 : Heap) (n0 : Nat) (v : Option Value) (h : Heap) (L : List Loc) : Prop := v = some (.ref x) ∧ Fr n0 L ∧ h = h0
set_option maxRecDepth 65536 in
set_option maxHeartbeats 40000000 in
theorem rm3 (l : Launch) (Z : State) (a0 : Array Value) (hw : ∀ d ∈ tables_1, d.before a0 Z = true) (ws : List Jvm.Cond) (x : Addr) (y : Addr) (h0 : Heap) (n0 : Nat) (O0 : Old Z n0 h0) :
    MetFree l (⟨"java/util/Objects", "requireNonNull", "(Ljava/lang/Object;Ljava/lang/String;)Ljava/lang/Object;"⟩ : MethodName) (head1 (Jvm.Cond.code (⟨"java/util/Objects", "requireNonNull", "(Ljava/lang/Object;Ljava/lang/String;)Ljava/lang/Object;"⟩ : MethodName) jdk_31_method_11_code 2 (some (.object "java/lang/Object")) :: ws) ({ frames := 0, cells := 0, slots := 0, locals := 0 } : Room)) (fun a_ U_ => a_ = #[(.ref x), (.ref y)] ∧ Z.Warmed39 U_.vm ∧ U_.heap = h0) (fun _ _ _ _ _ => True) (fun _ U_ o_ U1_ => ∃ v_ L_, o_ = .returned v_ ∧ (Q3 Z x y h0 n0) v_ U1_.heap L_ ∧ FrameEnd U_ o_ U1_ L_ ({ frames := 0, cells := 0, slots := 0, locals := 0 } : Room).cells ({ frames := 0, cells := 0, slots := 0, locals := 0 } : Room).slots) := by
  refine MetFree.of_bodySF (plainFor_of_name own_pn_0) hisR ?_
  intro p e s m args below meth c s₁ Bd hml0 hP hK
  obtain ⟨rfl, hZ, hh⟩ := hP
  have hx := Bd.exec
  have hby := Bd.bytes
  have hml : c.maxLocals = 2 := hml0
  have hown0 := findClass_of_methodNamed Bd.named
  have hown : s.vm.findClass "java/util/Objects" = some m.cls := hown0
  have hnm := (name_of_methodNamed Bd.named Bd.method).1
  have hlk : meth.locks = false := BodyLoose.notSynchronized Bd
  have X0 : Stand p l e ({ frames := 0, cells := 0, slots := 0, locals := 0 } : Room) s m #[(.ref x), (.ref y)] below meth c s₁ [] 0 0 := Stand.of_body Bd
  have e0 : s₁.heap = h0 := by rw [← hh, Bd.state]; rfl
  have N0 := Fr.nil n0
  show own_G p e below (own_E s (Q3 Z x y h0 n0) ({ frames := 0, cells := 0, slots := 0, locals := 0 } : Room).cells ({ frames := 0, cells := 0, slots := 0, locals := 0 } : Room).slots) s₁ (entryFrame m #[(.ref x), (.ref y)] 2)
  rw [own_ef3]
  refine own_aloadN (q := 0) X0 hx (hb hby own_d_jdk_31_method_11_code_0) rfl rfl ?_
  refine own_nonnullY (t := 13) (q := 1) X0 hx (hb hby own_d_jdk_31_method_11_code_1) (by decide) (by decide) ?_
  refine own_aloadN (q := 13) X0 hx (hb hby own_d_jdk_31_method_11_code_13) rfl rfl ?_
  exact own_retA (q := 14) X0 hx Bd.returns hlk rfl rfl rfl (hb hby own_d_jdk_31_method_11_code_14) (by decide) (by decide) (by show Q3 Z x y h0 n0 _ s₁.heap _; rw [e0]; exact ⟨rfl, N0, rfl⟩)
theorem own_ef4 (m : MethodId) (x0 : Addr) (x1 : Addr) (x2 : Int32) : entryFrame m #[(.ref x0), (.ref x1), (.int x2)] 3 = mkF m 0 #[.val (.ref x0), .val (.ref x1), .val (.int x2)] [] := by first | (simp [entryFrame, mkF, argsToLocals, Value.category]; done) | rfl
def Q4 (Z : State) (b : Addr) (x : Addr) (g : Int32) (t : Addr) (cs : List Int32) (h0 : Heap) (n0 : Nat) (v : Option Value) (h : Heap) (L : List Loc) : Prop := v = none ∧ Fr n0 L ∧ Keep h0 h [b] ∧ Exa Z h b "com/example/tightrope/tightrope/logic/Predicate" ∧ Fld Z h b "com/example/tightrope/tightrope/logic/Predicate" "name" "Ljava/lang/String;" (.ref x) ∧ Fld Z h b "com/example/tightrope/tightrope/logic/Predicate" "arity" "I" (.int g)
set_option maxRecDepth 65536 in
set_option maxHeartbeats 40000000 in
theorem rm4 (l : Launch) (Z : State) (a0 : Array Value) (hw : ∀ d ∈ tables_1, d.before a0 Z = true) (ws : List Jvm.Cond) (b : Addr) (x : Addr) (g : Int32) (t : Addr) (cs : List Int32) (h0 : Heap) (n0 : Nat) (O0 : Old Z n0 h0) (E_b : Exa Z h0 b "com/example/tightrope/tightrope/logic/Predicate") (F_n : Fld Z h0 b "com/example/tightrope/tightrope/logic/Predicate" "name" "Ljava/lang/String;" .null) (F_s : Fld Z h0 b "com/example/tightrope/tightrope/logic/Predicate" "arity" "I" (.int (0 : Int32))) (g_b : n0 ≤ b) (S_x : own_Str Z h0 x t cs) (hcs : ¬ cs.length = 0) (hg : ¬ g < 0) :
    MetFree l (⟨"com/example/tightrope/tightrope/logic/Predicate", "<init>", "(Ljava/lang/String;I)V"⟩ : MethodName) (head1 (Jvm.Cond.code (⟨"com/example/tightrope/tightrope/logic/Predicate", "<init>", "(Ljava/lang/String;I)V"⟩ : MethodName) prog_8_method_1_code 3 none :: ws) ({ frames := 2, cells := 2, slots := 24, locals := 40 } : Room)) (fun a_ U_ => a_ = #[(.ref b), (.ref x), (.int g)] ∧ Z.Warmed39 U_.vm ∧ U_.heap = h0) (fun _ _ _ _ _ => True) (fun _ U_ o_ U1_ => ∃ v_ L_, o_ = .returned v_ ∧ (Q4 Z b x g t cs h0 n0) v_ U1_.heap L_ ∧ ReturnedEndW U_ o_ U1_ L_ ({ frames := 2, cells := 2, slots := 24, locals := 40 } : Room).cells ({ frames := 2, cells := 2, slots := 24, locals := 40 } : Room).slots) := by
  refine MetFree.of_bodySF (plainFor_of_name own_pn_1) hisR ?_
  intro p e s m args below meth c s₁ Bd hml0 hP hK
  obtain ⟨rfl, hZ, hh⟩ := hP
  have hx := Bd.exec
  have hby := Bd.bytes
  have hml : c.maxLocals = 3 := hml0
  have hown0 := findClass_of_methodNamed Bd.named
  have hown : s.vm.findClass "com/example/tightrope/tightrope/logic/Predicate" = some m.cls := hown0
  have hnm := (name_of_methodNamed Bd.named Bd.method).1
  have hlk : meth.locks = false := BodyLoose.notSynchronized Bd
  have X0 : Stand p l e ({ frames := 2, cells := 2, slots := 24, locals := 40 } : Room) (s.setVm s.vm) m #[(.ref b), (.ref x), (.int g)] below meth c s₁ [] 0 0 := Stand.of_body Bd
  have e0 : s₁.heap = h0 := by rw [← hh, Bd.state]; rfl
  have N0 := Fr.nil n0
  have hS0 : s.Since s.vm 0 := (State.WarmedH.refl s).since 0
  have hk0 : 0 ≤ h0.size := Nat.zero_le _
  show own_G p e below (own_EW s (Q4 Z b x g t cs h0 n0) ({ frames := 2, cells := 2, slots := 24, locals := 40 } : Room).cells ({ frames := 2, cells := 2, slots := 24, locals := 40 } : Room).slots) s₁ (entryFrame m #[(.ref b), (.ref x), (.int g)] 3)
  rw [own_ef4]
  refine own_aloadN (q := 0) X0 hx (hb hby own_d_prog_8_method_1_code_0) rfl rfl ?_
  obtain ⟨T1, X1, e1, st1⟩ := initO X0 hx hZ hown (hw _ (List.mem_of_getElem? (i := 37) rfl)) (hw _ (List.mem_of_getElem? (i := 13) rfl)) (hw _ (List.mem_of_getElem? (i := 14) rfl)) e0 (g := (mkF m 1 #[.val (.ref b), .val (.ref x), .val (.int g)] [(.ref b)])) rfl (by rw [hml]; rfl) rfl (hb hby own_d_prog_8_method_1_code_1) (by decide) (W := 0) (by show 2 * 0 + _ ≤ _; exact Nat.le_of_eq rfl) (by decide)
  refine own_st st1 ?_
  show own_G p e below _ T1 (mkF m 4 #[.val (.ref b), .val (.ref x), .val (.int g)] [])
  refine own_aloadN (q := 4) X1 hx (hb hby own_d_prog_8_method_1_code_4) rfl rfl ?_
  refine own_ldcS (q := 5) (n := 16) X1 hx hZ hown (hw _ (List.mem_of_getElem? (i := 38) rfl)) (fun d hd => hw d (own_strat d hd)) e1 hS0 hk0 (hb hby own_d_prog_8_method_1_code_5) (by decide) (by decide) (by decide) (by decide) (fun a2 T2 k2 X2 E2 hS2 hk2 hZ2 hown2 => ?_)
  have O2 := Old.ext O0 E2
  show own_G p e below _ T2 (mkF m 7 #[.val (.ref b), .val (.ref x), .val (.int g)] [(.ref a2), (.ref x)])
  refine own_static (q := 7) (y := (⟨"java/util/Objects", "requireNonNull", "(Ljava/lang/Object;Ljava/lang/String;)Ljava/lang/Object;"⟩ : MethodName)) (argsL := [(.ref x), (.ref a2)]) (S := []) (W := 0) X2 hx hZ2 hown2 (hw _ (List.mem_of_getElem? (i := 41) rfl)) (hw _ (List.mem_of_getElem? (i := 42) rfl)) (hw _ (List.mem_of_getElem? (i := 43) rfl)) (hw _ (List.mem_of_getElem? (i := 44) rfl)) (by decide) (backOf (W := 0) (rm3 l Z a0 hw [] x a2 T2.heap n0 O2) hZ2 (hw _ (List.mem_of_getElem? (i := 44) rfl)) (hw _ (List.mem_of_getElem? (i := 43) rfl)) (by decide) (by decide)) rfl (by rw [hml]; rfl) (lenOf own_pd__28Ljava_2flang_2fObject_3bLjava_2flang_2fString_3b_29Ljava_2flang_2fObject_3b rfl) rfl (Nat.le_of_eq rfl) (hb hby own_d_prog_8_method_1_code_7) (by decide) (by decide) (fun T3 L3 v3 X3 hQ3 => ?_)
  obtain ⟨rfl, N3q, hh3⟩ := hQ3
  have N3 := Fr.app N0 N3q
  show own_G p e below _ T3 (mkF m 10 #[.val (.ref b), .val (.ref x), .val (.int g)] [(.ref x)])
  refine own_pop (q := 10) X3 hx (hb hby own_d_prog_8_method_1_code_10) rfl ?_
  refine own_aloadN (q := 11) X3 hx (hb hby own_d_prog_8_method_1_code_11) rfl rfl ?_
  have c4 := (own_Str.ext E2 S_x)
  refine own_virtual (q := 12) (y := (⟨"java/lang/String", "isEmpty", "()Z"⟩ : MethodName)) (z := (⟨"java/lang/String", "isEmpty", "()Z"⟩ : MethodName)) (b := x) (argsL := []) (S := []) (W := 0) X3 hx hZ2 hown2 (hw _ (List.mem_of_getElem? (i := 45) rfl)) (hw _ (List.mem_of_getElem? (i := 46) rfl)) (notFace_of_selects (args := #[]) (mvT hZ2 (hw _ (List.mem_of_getElem? (i := 48) rfl)))) (hw _ (List.mem_of_getElem? (i := 48) rfl)) (hw _ (List.mem_of_getElem? (i := 47) rfl)) (by decide) (own_empB (W := 0) hZ2 hw (hw _ (List.mem_of_getElem? (i := 2) rfl)) c4 (by decide) (by decide)) hh3 c4.1 (by rw [hml]; rfl) (lenOf own_pd__28_29Z rfl) rfl (Nat.le_of_eq rfl) (hb hby own_d_prog_8_method_1_code_12) (by decide) (by decide) (fun T5 L5 v5 X5 hQ5 => ?_)
  obtain ⟨rfl, rfl, hh5⟩ := hQ5
  have N5 := Fr.app N3 (Fr.nil n0)
  show own_G p e below _ T5 (mkF m 15 #[.val (.ref b), .val (.ref x), .val (.int g)] [(.int (if cs.length = 0 then 1 else 0 : Int32))])
  refine own_if (t := 22) (q := 15) X5 hx (hb hby own_d_prog_8_method_1_code_15) (by decide) (by decide) (fun hq => ?_) (fun hq => ?_)
  · have hc15 := own_h_ne.1 hq
    exact absurd (if_neg hcs) hc15
  · have hc15 := own_h_ne.2 hq
    refine own_iloadN (q := 18) X5 hx (hb hby own_d_prog_8_method_1_code_18) rfl ?_
    refine own_if (t := 37) (q := 19) X5 hx (hb hby own_d_prog_8_method_1_code_19) (by decide) (by decide) (fun hq => ?_) (fun hq => ?_)
    · have hc19 := own_h_ge.1 hq
      refine own_aloadN (q := 37) X5 hx (hb hby own_d_prog_8_method_1_code_37) rfl rfl ?_
      refine own_aloadN (q := 38) X5 hx (hb hby own_d_prog_8_method_1_code_38) rfl rfl ?_
      have c6 := (Exa.ext E2 E_b)
      have c7 := (Fld.ext E2 F_n)
      obtain ⟨T8, h8, X8, e8, W8, st8⟩ := putF X5 hx hZ2 hown2 (host := "") (Or.inl (hw _ (List.mem_of_getElem? (i := 50) rfl))) Via.refl hh5 c7 c6 (Or.inr ⟨(hw _ (List.mem_of_getElem? (i := 51) rfl)), rfl, hnm⟩) (hw _ (List.mem_of_getElem? (i := 32) rfl)) (ty := (.object "java/lang/String")) (by decide) rfl rfl (g := (mkF m 39 #[.val (.ref b), .val (.ref x), .val (.int g)] [(.ref x), (.ref b)])) rfl rfl (hb hby own_d_prog_8_method_1_code_39)
      refine own_st st8 ?_
      have F8 := Fld.same W8 c7
      have N8 := Fr.snoc X8 N5 g_b
      have O8 := Old.wr O2 W8 g_b
      show own_G p e below _ T8 (mkF m 42 #[.val (.ref b), .val (.ref x), .val (.int g)] [])
      refine own_aloadN (q := 42) X8 hx (hb hby own_d_prog_8_method_1_code_42) rfl rfl ?_
      refine own_iloadN (q := 43) X8 hx (hb hby own_d_prog_8_method_1_code_43) rfl ?_
      have c9 := (Exa.wr W8 c6)
      have c10 := (Fld.other W8 (Fld.ext E2 F_s) (Or.inr (slot_ne (Or.inr (hw _ (List.mem_of_getElem? (i := 53) rfl))) (Or.inr (hw _ (List.mem_of_getElem? (i := 51) rfl))) (by decide) (t := .int) (t' := (.object "java/lang/String")) (by decide) (by decide))))
      obtain ⟨T11, h11, X11, e11, W11, st11⟩ := putF X8 hx hZ2 hown2 (host := "") (Or.inl (hw _ (List.mem_of_getElem? (i := 52) rfl))) Via.refl e8 c10 c9 (Or.inr ⟨(hw _ (List.mem_of_getElem? (i := 53) rfl)), rfl, hnm⟩) (hw _ (List.mem_of_getElem? (i := 32) rfl)) (ty := .int) (by decide) rfl rfl (g := (mkF m 44 #[.val (.ref b), .val (.ref x), .val (.int g)] [(.int g), (.ref b)])) rfl rfl (hb hby own_d_prog_8_method_1_code_44)
      refine own_st st11 ?_
      have F11 := Fld.same W11 c10
      have N11 := Fr.snoc X11 N8 g_b
      have O11 := Old.wr O8 W11 g_b
      show own_G p e below _ T11 (mkF m 47 #[.val (.ref b), .val (.ref x), .val (.int g)] [])
      have kp12 := Keep.ext (Keep.refl h0 [b]) E2
      have kp13 := Keep.wr kp12 W8 (Or.inl (List.mem_of_getElem? (i := 0) rfl))
      have kp14 := Keep.wr kp13 W11 (Or.inl (List.mem_of_getElem? (i := 0) rfl))
      have c15 := (Exa.wr W11 c9)
      have c16 := (Fld.other W11 F8 (Or.inr (slot_ne (Or.inr (hw _ (List.mem_of_getElem? (i := 51) rfl))) (Or.inr (hw _ (List.mem_of_getElem? (i := 53) rfl))) (by decide) (t := (.object "java/lang/String")) (t' := .int) (by decide) (by decide))))
      exact own_retVW (q := 47) X11 hx hS2 (by rw [e11]; exact (Nat.le_trans (Nat.le_trans hk2 (Keep.of_wr W8).1) (Keep.of_wr W11).1)) Bd.returns hlk (hb hby own_d_prog_8_method_1_code_47) (by decide) (by decide) (by show Q4 Z b x g t cs h0 n0 _ T11.heap _; rw [e11]; exact ⟨rfl, N11, kp14, c15, c16, F11⟩)
    · have hc19 := own_h_ge.2 hq
      exact absurd hc19 hg
theorem own_ef6p (m : MethodId) (x0 : Addr) (x1 : Addr) : entryFrame m #[(.ref x0), (.ref x1)] 3 = mkF m 0 #[.val (.ref x0), .val (.ref x1), .unset] [] := by first | (simp [entryFrame, mkF, argsToLocals, Value.category]; done) | rfl
def Q6p (Z : State) (b : Addr) (o : Addr) (x : Addr) (t : Addr) (cs : List Int32) (g : Int32) (y : Addr) (u : Addr) (ds : List Int32) (f : Int32) (zCOMPACT : Int32) (h0 : Heap) (n0 : Nat) (v : Option Value) (h : Heap) (L : List Loc) : Prop := v = some (.int (if g = f ∧ cs = ds then 1 else 0)) ∧ Fr n0 L ∧ h = h0
set_option maxRecDepth 65536 in
set_option maxHeartbeats 40000000 in
theorem rm6p (l : Launch) (Z : State) (a0 : Array Value) (hw : ∀ d ∈ tables_1, d.before a0 Z = true) (ws : List Jvm.Cond) (b : Addr) (o : Addr) (x : Addr) (t : Addr) (cs : List Int32) (g : Int32) (y : Addr) (u : Addr) (ds : List Int32) (f : Int32) (zCOMPACT : Int32) (h0 : Heap) (n0 : Nat) (O0 : Old Z n0 h0) (F_n : Fld Z h0 b "com/example/tightrope/tightrope/logic/Predicate" "name" "Ljava/lang/String;" (.ref x)) (F_s : Fld Z h0 b "com/example/tightrope/tightrope/logic/Predicate" "arity" "I" (.int g)) (S_x : own_Str Z h0 x t cs) (E_o : Exa Z h0 o "com/example/tightrope/tightrope/logic/Predicate") (F_n2 : Fld Z h0 o "com/example/tightrope/tightrope/logic/Predicate" "name" "Ljava/lang/String;" (.ref y)) (F_s2 : Fld Z h0 o "com/example/tightrope/tightrope/logic/Predicate" "arity" "I" (.int f)) (S_y : own_Str Z h0 y u ds) (SCOMPACT : Sta Z Z.heap "java/lang/String" "COMPACT_STRINGS" "Z" (.int zCOMPACT)) (hCOMPACT : ¬ zCOMPACT = 0) :
    MetFree l (⟨"com/example/tightrope/tightrope/logic/Predicate", "equals", "(Ljava/lang/Object;)Z"⟩ : MethodName) (head1 (Jvm.Cond.code (⟨"com/example/tightrope/tightrope/logic/Predicate", "equals", "(Ljava/lang/Object;)Z"⟩ : MethodName) prog_8_method_7_code 3 (some .boolean) :: ws) ({ frames := 3, cells := 0, slots := 0, locals := 60 } : Room)) (fun a_ U_ => a_ = #[(.ref b), (.ref o)] ∧ Z.Warmed39 U_.vm ∧ U_.heap = h0) (fun _ _ _ _ _ => True) (fun _ U_ o_ U1_ => ∃ v_ L_, o_ = .returned v_ ∧ (Q6p Z b o x t cs g y u ds f zCOMPACT h0 n0) v_ U1_.heap L_ ∧ FrameEnd U_ o_ U1_ L_ ({ frames := 3, cells := 0, slots := 0, locals := 60 } : Room).cells ({ frames := 3, cells := 0, slots := 0, locals := 60 } : Room).slots) := by
  refine MetFree.of_bodySF (plainFor_of_name own_pn_1) hisR ?_
  intro p e s m args below meth c s₁ Bd hml0 hP hK
  obtain ⟨rfl, hZ, hh⟩ := hP
  have hx := Bd.exec
  have hby := Bd.bytes
  have hml : c.maxLocals = 3 := hml0
  have hown0 := findClass_of_methodNamed Bd.named
  have hown : s.vm.findClass "com/example/tightrope/tightrope/logic/Predicate" = some m.cls := hown0
  have hnm := (name_of_methodNamed Bd.named Bd.method).1
  have hlk : meth.locks = false := BodyLoose.notSynchronized Bd
  have X0 : Stand p l e ({ frames := 3, cells := 0, slots := 0, locals := 60 } : Room) s m #[(.ref b), (.ref o)] below meth c s₁ [] 0 0 := Stand.of_body Bd
  have e0 : s₁.heap = h0 := by rw [← hh, Bd.state]; rfl
  have N0 := Fr.nil n0
  show own_G p e below (own_E s (Q6p Z b o x t cs g y u ds f zCOMPACT h0 n0) ({ frames := 3, cells := 0, slots := 0, locals := 60 } : Room).cells ({ frames := 3, cells := 0, slots := 0, locals := 60 } : Room).slots) s₁ (entryFrame m #[(.ref b), (.ref o)] 3)
  rw [own_ef6p]
  refine own_aloadN (q := 0) X0 hx (hb hby own_d_prog_8_method_7_code_0) rfl rfl ?_
  obtain ⟨T1, X1, e1, st1⟩ := instY X0 hx hZ hown (hw _ (List.mem_of_getElem? (i := 59) rfl)) e0 (Ins.self E_o) (g := (mkF m 1 #[.val (.ref b), .val (.ref o), .unset] [(.ref o)])) rfl rfl (hb hby own_d_prog_8_method_7_code_1)
  refine own_st st1 ?_
  show own_G p e below _ T1 (mkF m 4 #[.val (.ref b), .val (.ref o), .unset] [(.int (1 : Int32))])
  refine own_if (t := 41) (q := 4) X1 hx (hb hby own_d_prog_8_method_7_code_4) (by decide) (by decide) (fun hq => ?_) (fun hq => ?_)
  · have hc4 := own_h_eq.1 hq
    exact absurd hc4 (by decide)
  · have hc4 := own_h_eq.2 hq
    refine own_aloadN (q := 7) X1 hx (hb hby own_d_prog_8_method_7_code_7) rfl rfl ?_
    obtain ⟨T2, X2, e2, st2⟩ := castY X1 hx hZ hown (hw _ (List.mem_of_getElem? (i := 59) rfl)) e1 (Ins.self E_o) (g := (mkF m 8 #[.val (.ref b), .val (.ref o), .unset] [(.ref o)])) rfl rfl (hb hby own_d_prog_8_method_7_code_8)
    refine own_st st2 ?_
    show own_G p e below _ T2 (mkF m 11 #[.val (.ref b), .val (.ref o), .unset] [(.ref o)])
    refine own_astoreN (q := 11) X2 hx (hb hby own_d_prog_8_method_7_code_11) rfl (A' := #[.val (.ref b), .val (.ref o), .val (.ref o)]) rfl ?_
    refine own_aloadN (q := 12) X2 hx (hb hby own_d_prog_8_method_7_code_12) rfl rfl ?_
    obtain ⟨T3, X3, e3, st3⟩ := getF X2 hx hZ hown (host := "") (Or.inl (hw _ (List.mem_of_getElem? (i := 52) rfl))) Via.refl e2 F_s (g := (mkF m 13 #[.val (.ref b), .val (.ref o), .val (.ref o)] [(.ref b)])) rfl rfl (hb hby own_d_prog_8_method_7_code_13)
    refine own_st st3 ?_
    show own_G p e below _ T3 (mkF m 16 #[.val (.ref b), .val (.ref o), .val (.ref o)] [(.int g)])
    refine own_aloadN (q := 16) X3 hx (hb hby own_d_prog_8_method_7_code_16) rfl rfl ?_
    obtain ⟨T4, X4, e4, st4⟩ := getF X3 hx hZ hown (host := "") (Or.inl (hw _ (List.mem_of_getElem? (i := 52) rfl))) Via.refl e3 F_s2 (g := (mkF m 17 #[.val (.ref b), .val (.ref o), .val (.ref o)] [(.ref o), (.int g)])) rfl rfl (hb hby own_d_prog_8_method_7_code_17)
    refine own_st st4 ?_
    show own_G p e below _ T4 (mkF m 20 #[.val (.ref b), .val (.ref o), .val (.ref o)] [(.int f), (.int g)])
    refine own_icmp (t := 41) (q := 20) X4 hx (hb hby own_d_prog_8_method_7_code_20) (by decide) (by decide) (fun hq => ?_) (fun hq => ?_)
    · have hc20 := own_c_ne.1 hq
      refine own_iconst (q := 41) X4 hx (hb hby own_d_prog_8_method_7_code_41) (x := (0 : Int32)) rfl ?_
      exact own_retN (q := 42) X4 hx (t := .boolean) Bd.returns hlk (by simp) (hb hby own_d_prog_8_method_7_code_42) rfl (by decide) (by decide) (by show Q6p Z b o x t cs g y u ds f zCOMPACT h0 n0 _ T4.heap _; rw [e4]; exact ⟨by rw [if_neg (fun q => hc20 q.1)], N0, rfl⟩)
    · have hc20 := own_c_ne.2 hq
      refine own_aloadN (q := 23) X4 hx (hb hby own_d_prog_8_method_7_code_23) rfl rfl ?_
      obtain ⟨T5, X5, e5, st5⟩ := getF X4 hx hZ hown (host := "") (Or.inl (hw _ (List.mem_of_getElem? (i := 50) rfl))) Via.refl e4 F_n (g := (mkF m 24 #[.val (.ref b), .val (.ref o), .val (.ref o)] [(.ref b)])) rfl rfl (hb hby own_d_prog_8_method_7_code_24)
      refine own_st st5 ?_
      show own_G p e below _ T5 (mkF m 27 #[.val (.ref b), .val (.ref o), .val (.ref o)] [(.ref x)])
      refine own_aloadN (q := 27) X5 hx (hb hby own_d_prog_8_method_7_code_27) rfl rfl ?_
      obtain ⟨T6, X6, e6, st6⟩ := getF X5 hx hZ hown (host := "") (Or.inl (hw _ (List.mem_of_getElem? (i := 50) rfl))) Via.refl e5 F_n2 (g := (mkF m 28 #[.val (.ref b), .val (.ref o), .val (.ref o)] [(.ref o), (.ref x)])) rfl rfl (hb hby own_d_prog_8_method_7_code_28)
      refine own_st st6 ?_
      show own_G p e below _ T6 (mkF m 31 #[.val (.ref b), .val (.ref o), .val (.ref o)] [(.ref y), (.ref x)])
      refine own_virtual (q := 31) (y := (⟨"java/lang/String", "equals", "(Ljava/lang/Object;)Z"⟩ : MethodName)) (z := (⟨"java/lang/String", "equals", "(Ljava/lang/Object;)Z"⟩ : MethodName)) (b := x) (argsL := [(.ref y)]) (S := []) (W := 0) X6 hx hZ hown (hw _ (List.mem_of_getElem? (i := 61) rfl)) (hw _ (List.mem_of_getElem? (i := 62) rfl)) (notFace_of_selects (args := #[]) (mvT hZ (hw _ (List.mem_of_getElem? (i := 64) rfl)))) (hw _ (List.mem_of_getElem? (i := 64) rfl)) (hw _ (List.mem_of_getElem? (i := 63) rfl)) (by decide) (own_eqB (W := 0) hZ hw (hw _ (List.mem_of_getElem? (i := 2) rfl)) O0 S_x S_y SCOMPACT hCOMPACT (by decide) (by decide)) e6 S_x.1 (by rw [hml]; rfl) (lenOf own_pd__28Ljava_2flang_2fObject_3b_29Z rfl) rfl (Nat.le_of_eq rfl) (hb hby own_d_prog_8_method_7_code_31) (by decide) (by decide) (fun T7 L7 v7 X7 hQ7 => ?_)
      obtain ⟨rfl, rfl, hh7⟩ := hQ7
      have N7 := Fr.app N0 (Fr.nil n0)
      show own_G p e below _ T7 (mkF m 34 #[.val (.ref b), .val (.ref o), .val (.ref o)] [(.int (if cs = ds then 1 else 0 : Int32))])
      refine own_if (t := 41) (q := 34) X7 hx (hb hby own_d_prog_8_method_7_code_34) (by decide) (by decide) (fun hq => ?_) (fun hq => ?_)
      · have hc34 := own_h_eq.1 hq
        refine own_iconst (q := 41) X7 hx (hb hby own_d_prog_8_method_7_code_41) (x := (0 : Int32)) rfl ?_
        exact own_retN (q := 42) X7 hx (t := .boolean) Bd.returns hlk (by simp) (hb hby own_d_prog_8_method_7_code_42) rfl (by decide) (by decide) (by show Q6p Z b o x t cs g y u ds f zCOMPACT h0 n0 _ T7.heap _; rw [hh7]; exact ⟨by rw [if_neg (fun q => own_ite0 hc34 q.2)], N7, rfl⟩)
      · have hc34 := own_h_eq.2 hq
        refine own_iconst (q := 37) X7 hx (hb hby own_d_prog_8_method_7_code_37) (x := (1 : Int32)) rfl ?_
        refine own_goto (t := 42) (q := 38) X7 hx (hb hby own_d_prog_8_method_7_code_38) (by decide) (by decide) ?_
        exact own_retN (q := 42) X7 hx (t := .boolean) Bd.returns hlk (by simp) (hb hby own_d_prog_8_method_7_code_42) rfl (by decide) (by decide) (by show Q6p Z b o x t cs g y u ds f zCOMPACT h0 n0 _ T7.heap _; rw [hh7]; exact ⟨by rw [if_pos ⟨hc20, own_ite1 hc34⟩], N7, rfl⟩)
theorem own_ef6s (m : MethodId) (x0 : Addr) (x1 : Addr) : entryFrame m #[(.ref x0), (.ref x1)] 3 = mkF m 0 #[.val (.ref x0), .val (.ref x1), .unset] [] := by first | (simp [entryFrame, mkF, argsToLocals, Value.category]; done) | rfl
def Q6s (Z : State) (b : Addr) (o : Addr) (x : Addr) (t : Addr) (cs : List Int32) (g : Int32) (zCOMPACT : Int32) (h0 : Heap) (n0 : Nat) (v : Option Value) (h : Heap) (L : List Loc) : Prop := v = some (.int 0) ∧ Fr n0 L ∧ h = h0
set_option maxRecDepth 65536 in
set_option maxHeartbeats 40000000 in
theorem rm6s (l : Launch) (Z : State) (a0 : Array Value) (hw : ∀ d ∈ tables_1, d.before a0 Z = true) (ws : List Jvm.Cond) (b : Addr) (o : Addr) (x : Addr) (t : Addr) (cs : List Int32) (g : Int32) (zCOMPACT : Int32) (h0 : Heap) (n0 : Nat) (O0 : Old Z n0 h0) (F_n : Fld Z h0 b "com/example/tightrope/tightrope/logic/Predicate" "name" "Ljava/lang/String;" (.ref x)) (F_s : Fld Z h0 b "com/example/tightrope/tightrope/logic/Predicate" "arity" "I" (.int g)) (S_x : own_Str Z h0 x t cs) (E_o : Exa Z h0 o "java/lang/String") (SCOMPACT : Sta Z Z.heap "java/lang/String" "COMPACT_STRINGS" "Z" (.int zCOMPACT)) (hCOMPACT : ¬ zCOMPACT = 0) :
    MetFree l (⟨"com/example/tightrope/tightrope/logic/Predicate", "equals", "(Ljava/lang/Object;)Z"⟩ : MethodName) (head1 (Jvm.Cond.code (⟨"com/example/tightrope/tightrope/logic/Predicate", "equals", "(Ljava/lang/Object;)Z"⟩ : MethodName) prog_8_method_7_code 3 (some .boolean) :: ws) ({ frames := 3, cells := 0, slots := 0, locals := 60 } : Room)) (fun a_ U_ => a_ = #[(.ref b), (.ref o)] ∧ Z.Warmed39 U_.vm ∧ U_.heap = h0) (fun _ _ _ _ _ => True) (fun _ U_ o_ U1_ => ∃ v_ L_, o_ = .returned v_ ∧ (Q6s Z b o x t cs g zCOMPACT h0 n0) v_ U1_.heap L_ ∧ FrameEnd U_ o_ U1_ L_ ({ frames := 3, cells := 0, slots := 0, locals := 60 } : Room).cells ({ frames := 3, cells := 0, slots := 0, locals := 60 } : Room).slots) := by
  refine MetFree.of_bodySF (plainFor_of_name own_pn_1) hisR ?_
  intro p e s m args below meth c s₁ Bd hml0 hP hK
  obtain ⟨rfl, hZ, hh⟩ := hP
  have hx := Bd.exec
  have hby := Bd.bytes
  have hml : c.maxLocals = 3 := hml0
  have hown0 := findClass_of_methodNamed Bd.named
  have hown : s.vm.findClass "com/example/tightrope/tightrope/logic/Predicate" = some m.cls := hown0
  have hnm := (name_of_methodNamed Bd.named Bd.method).1
  have hlk : meth.locks = false := BodyLoose.notSynchronized Bd
  have X0 : Stand p l e ({ frames := 3, cells := 0, slots := 0, locals := 60 } : Room) s m #[(.ref b), (.ref o)] below meth c s₁ [] 0 0 := Stand.of_body Bd
  have e0 : s₁.heap = h0 := by rw [← hh, Bd.state]; rfl
  have N0 := Fr.nil n0
  show own_G p e below (own_E s (Q6s Z b o x t cs g zCOMPACT h0 n0) ({ frames := 3, cells := 0, slots := 0, locals := 60 } : Room).cells ({ frames := 3, cells := 0, slots := 0, locals := 60 } : Room).slots) s₁ (entryFrame m #[(.ref b), (.ref o)] 3)
  rw [own_ef6s]
  refine own_aloadN (q := 0) X0 hx (hb hby own_d_prog_8_method_7_code_0) rfl rfl ?_
  obtain ⟨T1, X1, e1, st1⟩ := instNo X0 hx hZ hown (hw _ (List.mem_of_getElem? (i := 59) rfl)) e0 E_o (own_notInst (hw _ (List.mem_of_getElem? (i := 71) rfl)) (hw _ (List.mem_of_getElem? (i := 72) rfl)) (hw _ (List.mem_of_getElem? (i := 32) rfl)) (by decide) (by decide)) (g := (mkF m 1 #[.val (.ref b), .val (.ref o), .unset] [(.ref o)])) rfl rfl (hb hby own_d_prog_8_method_7_code_1)
  refine own_st st1 ?_
  show own_G p e below _ T1 (mkF m 4 #[.val (.ref b), .val (.ref o), .unset] [(.int (0 : Int32))])
  refine own_if (t := 41) (q := 4) X1 hx (hb hby own_d_prog_8_method_7_code_4) (by decide) (by decide) (fun hq => ?_) (fun hq => ?_)
  · have hc4 := own_h_eq.1 hq
    refine own_iconst (q := 41) X1 hx (hb hby own_d_prog_8_method_7_code_41) (x := (0 : Int32)) rfl ?_
    exact own_retN (q := 42) X1 hx (t := .boolean) Bd.returns hlk (by simp) (hb hby own_d_prog_8_method_7_code_42) rfl (by decide) (by decide) (by show Q6s Z b o x t cs g zCOMPACT h0 n0 _ T1.heap _; rw [e1]; exact ⟨rfl, N0, rfl⟩)
  · have hc4 := own_h_eq.2 hq
    exact absurd hc4 (by decide)
theorem own_ef6n (m : MethodId) (x0 : Addr) : entryFrame m #[(.ref x0), .null] 3 = mkF m 0 #[.val (.ref x0), .val .null, .unset] [] := by first | (simp [entryFrame, mkF, argsToLocals, Value.category]; done) | rfl
def Q6n (Z : State) (b : Addr) (x : Addr) (t : Addr) (cs : List Int32) (g : Int32) (zCOMPACT : Int32) (h0 : Heap) (n0 : Nat) (v : Option Value) (h : Heap) (L : List Loc) : Prop := v = some (.int 0) ∧ Fr n0 L ∧ h = h0
set_option maxRecDepth 65536 in
set_option maxHeartbeats 40000000 in
theorem rm6n (l : Launch) (Z : State) (a0 : Array Value) (hw : ∀ d ∈ tables_1, d.before a0 Z = true) (ws : List Jvm.Cond) (b : Addr) (x : Addr) (t : Addr) (cs : List Int32) (g : Int32) (zCOMPACT : Int32) (h0 : Heap) (n0 : Nat) (O0 : Old Z n0 h0) (F_n : Fld Z h0 b "com/example/tightrope/tightrope/logic/Predicate" "name" "Ljava/lang/String;" (.ref x)) (F_s : Fld Z h0 b "com/example/tightrope/tightrope/logic/Predicate" "arity" "I" (.int g)) (S_x : own_Str Z h0 x t cs) (SCOMPACT : Sta Z Z.heap "java/lang/String" "COMPACT_STRINGS" "Z" (.int zCOMPACT)) (hCOMPACT : ¬ zCOMPACT = 0) :
    MetFree l (⟨"com/example/tightrope/tightrope/logic/Predicate", "equals", "(Ljava/lang/Object;)Z"⟩ : MethodName) (head1 (Jvm.Cond.code (⟨"com/example/tightrope/tightrope/logic/Predicate", "equals", "(Ljava/lang/Object;)Z"⟩ : MethodName) prog_8_method_7_code 3 (some .boolean) :: ws) ({ frames := 3, cells := 0, slots := 0, locals := 60 } : Room)) (fun a_ U_ => a_ = #[(.ref b), .null] ∧ Z.Warmed39 U_.vm ∧ U_.heap = h0) (fun _ _ _ _ _ => True) (fun _ U_ o_ U1_ => ∃ v_ L_, o_ = .returned v_ ∧ (Q6n Z b x t cs g zCOMPACT h0 n0) v_ U1_.heap L_ ∧ FrameEnd U_ o_ U1_ L_ ({ frames := 3, cells := 0, slots := 0, locals := 60 } : Room).cells ({ frames := 3, cells := 0, slots := 0, locals := 60 } : Room).slots) := by
  refine MetFree.of_bodySF (plainFor_of_name own_pn_1) hisR ?_
  intro p e s m args below meth c s₁ Bd hml0 hP hK
  obtain ⟨rfl, hZ, hh⟩ := hP
  have hx := Bd.exec
  have hby := Bd.bytes
  have hml : c.maxLocals = 3 := hml0
  have hown0 := findClass_of_methodNamed Bd.named
  have hown : s.vm.findClass "com/example/tightrope/tightrope/logic/Predicate" = some m.cls := hown0
  have hnm := (name_of_methodNamed Bd.named Bd.method).1
  have hlk : meth.locks = false := BodyLoose.notSynchronized Bd
  have X0 : Stand p l e ({ frames := 3, cells := 0, slots := 0, locals := 60 } : Room) s m #[(.ref b), .null] below meth c s₁ [] 0 0 := Stand.of_body Bd
  have e0 : s₁.heap = h0 := by rw [← hh, Bd.state]; rfl
  have N0 := Fr.nil n0
  show own_G p e below (own_E s (Q6n Z b x t cs g zCOMPACT h0 n0) ({ frames := 3, cells := 0, slots := 0, locals := 60 } : Room).cells ({ frames := 3, cells := 0, slots := 0, locals := 60 } : Room).slots) s₁ (entryFrame m #[(.ref b), .null] 3)
  rw [own_ef6n]
  refine own_aloadN (q := 0) X0 hx (hb hby own_d_prog_8_method_7_code_0) rfl rfl ?_
  refine own_st (g' := (mkF m 4 #[.val (.ref b), .val .null, .unset] [(.int (0 : Int32))])) (fun t z => X0.instanceofNull hx (g := (mkF m 1 #[.val (.ref b), .val .null, .unset] [.null])) rfl rfl (hb hby own_d_prog_8_method_7_code_1) t z) ?_
  refine own_if (t := 41) (q := 4) X0 hx (hb hby own_d_prog_8_method_7_code_4) (by decide) (by decide) (fun hq => ?_) (fun hq => ?_)
  · have hc4 := own_h_eq.1 hq
    refine own_iconst (q := 41) X0 hx (hb hby own_d_prog_8_method_7_code_41) (x := (0 : Int32)) rfl ?_
    exact own_retN (q := 42) X0 hx (t := .boolean) Bd.returns hlk (by simp) (hb hby own_d_prog_8_method_7_code_42) rfl (by decide) (by decide) (by show Q6n Z b x t cs g zCOMPACT h0 n0 _ s₁.heap _; rw [e0]; exact ⟨rfl, N0, rfl⟩)
  · have hc4 := own_h_eq.2 hq
    exact absurd hc4 (by decide)
theorem own_ef0 (m : MethodId) (x0 : Int32) (x1 : Int32) (x2 : Int32) (x3 : Int32) (x4 : Int32) : entryFrame m #[(.int x0), (.int x1), (.int x2), (.int x3), (.int x4)] maxLocals = mkF m 0 #[.val (.int x0), .val (.int x1), .val (.int x2), .val (.int x3), .val (.int x4), .unset, .unset, .unset, .unset, .unset, .unset, .unset, .unset, .unset, .unset, .unset, .unset, .unset, .unset, .unset, .unset, .unset] [] := by first | (simp [entryFrame, mkF, argsToLocals, Value.category, maxLocals]; done) | rfl
def Q0 (Z : State) (c1_ : Int32) (c2_ : Int32) (r1_ : Int32) (r2_ : Int32) (md_ : Int32) (zCOMPACT : Int32) (h0 : Heap) (n0 : Nat) (v : Option Value) (h : Heap) (L : List Loc) : Prop := v = some (.int 1) ∧ Fr n0 L
set_option maxRecDepth 65536 in
set_option maxHeartbeats 40000000 in
theorem rm0 (l : Launch) (Z : State) (a0 : Array Value) (hw : ∀ d ∈ tables_1, d.before a0 Z = true) (ws : List Jvm.Cond) (c1_ : Int32) (c2_ : Int32) (r1_ : Int32) (r2_ : Int32) (md_ : Int32) (zCOMPACT : Int32) (h0 : Heap) (n0 : Nat) (O0 : Old Z n0 h0) (SCOMPACT : Sta Z Z.heap "java/lang/String" "COMPACT_STRINGS" "Z" (.int zCOMPACT)) (hCOMPACT : ¬ zCOMPACT = 0) :
    MetFree l x (head1 (Jvm.Cond.code x code maxLocals ret :: ws) room_1) (fun a_ U_ => a_ = #[(.int c1_), (.int c2_), (.int r1_), (.int r2_), (.int md_)] ∧ Z.Warmed39 U_.vm ∧ U_.heap = h0) (fun _ _ _ _ _ => True) (fun _ U_ o_ U1_ => ∃ v_ L_, o_ = .returned v_ ∧ (Q0 Z c1_ c2_ r1_ r2_ md_ zCOMPACT h0 n0) v_ U1_.heap L_ ∧ ReturnedEndW U_ o_ U1_ L_ room_1.cells room_1.slots) := by
  refine MetFree.of_bodySF (plainFor_of_name own_pn_2) hisR ?_
  intro p e s m args below meth c s₁ Bd hml0 hP hK
  obtain ⟨rfl, hZ, hh⟩ := hP
  have hx := Bd.exec
  have hby := Bd.bytes
  have hml : c.maxLocals = 22 := hml0
  have hown0 := findClass_of_methodNamed Bd.named
  have hown : s.vm.findClass "com/example/tightrope/tightrope/logic/PredicateEqualsPinLaw" = some m.cls := hown0
  have hnm := (name_of_methodNamed Bd.named Bd.method).1
  have hlk : meth.locks = false := BodyLoose.notSynchronized Bd
  have X0 : Stand p l e room_1 (s.setVm s.vm) m #[(.int c1_), (.int c2_), (.int r1_), (.int r2_), (.int md_)] below meth c s₁ [] 0 0 := Stand.of_body Bd
  have e0 : s₁.heap = h0 := by rw [← hh, Bd.state]; rfl
  have N0 := Fr.nil n0
  have hS0 : s.Since s.vm 0 := (State.WarmedH.refl s).since 0
  have hk0 : 0 ≤ h0.size := Nat.zero_le _
  show own_G p e below (own_EW s (Q0 Z c1_ c2_ r1_ r2_ md_ zCOMPACT h0 n0) room_1.cells room_1.slots) s₁ (entryFrame m #[(.int c1_), (.int c2_), (.int r1_), (.int r2_), (.int md_)] maxLocals)
  rw [own_ef0]
  refine own_iloadN (q := 0) X0 hx (hb hby at_0) rfl ?_
  refine own_sipush (q := 1) X0 hx (hb hby at_1) (x := (255 : Int32)) rfl ?_
  refine own_iand (q := 4) X0 hx (hb hby at_4) ?_
  refine own_i2c (q := 5) X0 hx (hb hby at_5) ?_
  obtain ⟨ca, e_ca, f_ca, n_ca, l_ca, u_ca⟩ := own_chr c1_
  rw [f_ca]
  refine own_istore (q := 6) X0 hx (hb hby at_6) (A' := #[.val (.int c1_), .val (.int c2_), .val (.int r1_), .val (.int r2_), .val (.int md_), .val (.int ca), .unset, .unset, .unset, .unset, .unset, .unset, .unset, .unset, .unset, .unset, .unset, .unset, .unset, .unset, .unset, .unset]) rfl ?_
  refine own_iloadN (q := 8) X0 hx (hb hby at_8) rfl ?_
  refine own_bipush (q := 9) X0 hx (hb hby at_9) (x := (8 : Int32)) rfl ?_
  refine own_iushr (q := 11) X0 hx (hb hby at_11) ?_
  refine own_sipush (q := 12) X0 hx (hb hby at_12) (x := (255 : Int32)) rfl ?_
  refine own_iand (q := 15) X0 hx (hb hby at_15) ?_
  refine own_i2c (q := 16) X0 hx (hb hby at_16) ?_
  obtain ⟨cb, e_cb, f_cb, n_cb, l_cb, u_cb⟩ := own_chr (XT.ushr c1_ (8 : Int32))
  rw [f_cb]
  refine own_istore (q := 17) X0 hx (hb hby at_17) (A' := #[.val (.int c1_), .val (.int c2_), .val (.int r1_), .val (.int r2_), .val (.int md_), .val (.int ca), .val (.int cb), .unset, .unset, .unset, .unset, .unset, .unset, .unset, .unset, .unset, .unset, .unset, .unset, .unset, .unset, .unset]) rfl ?_
  refine own_iload (q := 19) X0 hx (hb hby at_19) rfl ?_
  refine own_iconst (q := 21) X0 hx (hb hby at_21) (x := (1 : Int32)) rfl ?_
  refine own_iand (q := 22) X0 hx (hb hby at_22) ?_
  refine own_join (α := Int32) (P := fun tA => tA = 0 ∨ tA = 1) (F := fun tA => mkF m 31 #[.val (.int c1_), .val (.int c2_), .val (.int r1_), .val (.int r2_), .val (.int md_), .val (.int ca), .val (.int cb), .unset, .unset, .unset, .unset, .unset, .unset, .unset, .unset, .unset, .unset, .unset, .unset, .unset, .unset, .unset] [(.int tA)]) X0 e0 (fun T1 X1 e1 tA h_tA => ?_) (fun J31 => ?_)
  · show own_G p e below _ T1 (mkF m 31 #[.val (.int c1_), .val (.int c2_), .val (.int r1_), .val (.int r2_), .val (.int md_), .val (.int ca), .val (.int cb), .unset, .unset, .unset, .unset, .unset, .unset, .unset, .unset, .unset, .unset, .unset, .unset, .unset, .unset, .unset] [(.int tA)])
    refine own_istore (q := 31) X1 hx (hb hby at_31) (A' := #[.val (.int c1_), .val (.int c2_), .val (.int r1_), .val (.int r2_), .val (.int md_), .val (.int ca), .val (.int cb), .val (.int tA), .unset, .unset, .unset, .unset, .unset, .unset, .unset, .unset, .unset, .unset, .unset, .unset, .unset, .unset]) rfl ?_
    refine own_iload (q := 33) X1 hx (hb hby at_33) rfl ?_
    refine own_iconst (q := 35) X1 hx (hb hby at_35) (x := (2 : Int32)) rfl ?_
    refine own_iand (q := 36) X1 hx (hb hby at_36) ?_
    refine own_join (α := Int32) (P := fun o0 => True) (F := fun o0 => mkF m 45 #[.val (.int c1_), .val (.int c2_), .val (.int r1_), .val (.int r2_), .val (.int md_), .val (.int ca), .val (.int cb), .val (.int tA), .unset, .unset, .unset, .unset, .unset, .unset, .unset, .unset, .unset, .unset, .unset, .unset, .unset, .unset] [(.int o0)]) X1 e1 (fun T2 X2 e2 o0 h_o0 => ?_) (fun J45 => ?_)
    · show own_G p e below _ T2 (mkF m 45 #[.val (.int c1_), .val (.int c2_), .val (.int r1_), .val (.int r2_), .val (.int md_), .val (.int ca), .val (.int cb), .val (.int tA), .unset, .unset, .unset, .unset, .unset, .unset, .unset, .unset, .unset, .unset, .unset, .unset, .unset, .unset] [(.int o0)])
      refine own_istore (q := 45) X2 hx (hb hby at_45) (A' := #[.val (.int c1_), .val (.int c2_), .val (.int r1_), .val (.int r2_), .val (.int md_), .val (.int ca), .val (.int cb), .val (.int tA), .val (.int o0), .unset, .unset, .unset, .unset, .unset, .unset, .unset, .unset, .unset, .unset, .unset, .unset, .unset]) rfl ?_
      refine own_iload (q := 47) X2 hx (hb hby at_47) rfl ?_
      refine own_iconst (q := 49) X2 hx (hb hby at_49) (x := (4 : Int32)) rfl ?_
      refine own_iand (q := 50) X2 hx (hb hby at_50) ?_
      refine own_join (α := Int32) (P := fun o1 => True) (F := fun o1 => mkF m 59 #[.val (.int c1_), .val (.int c2_), .val (.int r1_), .val (.int r2_), .val (.int md_), .val (.int ca), .val (.int cb), .val (.int tA), .val (.int o0), .unset, .unset, .unset, .unset, .unset, .unset, .unset, .unset, .unset, .unset, .unset, .unset, .unset] [(.int o1)]) X2 e2 (fun T3 X3 e3 o1 h_o1 => ?_) (fun J59 => ?_)
      · show own_G p e below _ T3 (mkF m 59 #[.val (.int c1_), .val (.int c2_), .val (.int r1_), .val (.int r2_), .val (.int md_), .val (.int ca), .val (.int cb), .val (.int tA), .val (.int o0), .unset, .unset, .unset, .unset, .unset, .unset, .unset, .unset, .unset, .unset, .unset, .unset, .unset] [(.int o1)])
        refine own_istore (q := 59) X3 hx (hb hby at_59) (A' := #[.val (.int c1_), .val (.int c2_), .val (.int r1_), .val (.int r2_), .val (.int md_), .val (.int ca), .val (.int cb), .val (.int tA), .val (.int o0), .val (.int o1), .unset, .unset, .unset, .unset, .unset, .unset, .unset, .unset, .unset, .unset, .unset, .unset]) rfl ?_
        refine own_iload (q := 61) X3 hx (hb hby at_61) rfl ?_
        refine own_bipush (q := 63) X3 hx (hb hby at_63) (x := (8 : Int32)) rfl ?_
        refine own_iand (q := 65) X3 hx (hb hby at_65) ?_
        refine own_join (α := Int32) (P := fun tB => tB = 0 ∨ tB = 1) (F := fun tB => mkF m 74 #[.val (.int c1_), .val (.int c2_), .val (.int r1_), .val (.int r2_), .val (.int md_), .val (.int ca), .val (.int cb), .val (.int tA), .val (.int o0), .val (.int o1), .unset, .unset, .unset, .unset, .unset, .unset, .unset, .unset, .unset, .unset, .unset, .unset] [(.int tB)]) X3 e3 (fun T4 X4 e4 tB h_tB => ?_) (fun J74 => ?_)
        · show own_G p e below _ T4 (mkF m 74 #[.val (.int c1_), .val (.int c2_), .val (.int r1_), .val (.int r2_), .val (.int md_), .val (.int ca), .val (.int cb), .val (.int tA), .val (.int o0), .val (.int o1), .unset, .unset, .unset, .unset, .unset, .unset, .unset, .unset, .unset, .unset, .unset, .unset] [(.int tB)])
          refine own_istore (q := 74) X4 hx (hb hby at_74) (A' := #[.val (.int c1_), .val (.int c2_), .val (.int r1_), .val (.int r2_), .val (.int md_), .val (.int ca), .val (.int cb), .val (.int tA), .val (.int o0), .val (.int o1), .val (.int tB), .unset, .unset, .unset, .unset, .unset, .unset, .unset, .unset, .unset, .unset, .unset]) rfl ?_
          refine own_iload (q := 76) X4 hx (hb hby at_76) rfl ?_
          refine own_bipush (q := 78) X4 hx (hb hby at_78) (x := (16 : Int32)) rfl ?_
          refine own_iand (q := 80) X4 hx (hb hby at_80) ?_
          refine own_join (α := Int32) (P := fun oa => True) (F := fun oa => mkF m 89 #[.val (.int c1_), .val (.int c2_), .val (.int r1_), .val (.int r2_), .val (.int md_), .val (.int ca), .val (.int cb), .val (.int tA), .val (.int o0), .val (.int o1), .val (.int tB), .unset, .unset, .unset, .unset, .unset, .unset, .unset, .unset, .unset, .unset, .unset] [(.int oa)]) X4 e4 (fun T5 X5 e5 oa h_oa => ?_) (fun J89 => ?_)
          · show own_G p e below _ T5 (mkF m 89 #[.val (.int c1_), .val (.int c2_), .val (.int r1_), .val (.int r2_), .val (.int md_), .val (.int ca), .val (.int cb), .val (.int tA), .val (.int o0), .val (.int o1), .val (.int tB), .unset, .unset, .unset, .unset, .unset, .unset, .unset, .unset, .unset, .unset, .unset] [(.int oa)])
            refine own_istore (q := 89) X5 hx (hb hby at_89) (A' := #[.val (.int c1_), .val (.int c2_), .val (.int r1_), .val (.int r2_), .val (.int md_), .val (.int ca), .val (.int cb), .val (.int tA), .val (.int o0), .val (.int o1), .val (.int tB), .val (.int oa), .unset, .unset, .unset, .unset, .unset, .unset, .unset, .unset, .unset, .unset]) rfl ?_
            refine own_iload (q := 91) X5 hx (hb hby at_91) rfl ?_
            refine own_iconst (q := 93) X5 hx (hb hby at_93) (x := (5 : Int32)) rfl ?_
            refine own_iushr (q := 94) X5 hx (hb hby at_94) ?_
            refine own_iconst (q := 95) X5 hx (hb hby at_95) (x := (3 : Int32)) rfl ?_
            refine own_iand (q := 96) X5 hx (hb hby at_96) ?_
            generalize (XT.ushr md_ (5 : Int32)) &&& (3 : Int32) = k
            refine own_istore (q := 97) X5 hx (hb hby at_97) (A' := #[.val (.int c1_), .val (.int c2_), .val (.int r1_), .val (.int r2_), .val (.int md_), .val (.int ca), .val (.int cb), .val (.int tA), .val (.int o0), .val (.int o1), .val (.int tB), .val (.int oa), .val (.int k), .unset, .unset, .unset, .unset, .unset, .unset, .unset, .unset, .unset]) rfl ?_
            refine own_iload (q := 99) X5 hx (hb hby at_99) rfl ?_
            refine own_join (α := Int32) (P := fun da => nar .char da = da ∧ ¬ da < 0 ∧ ¬ (255 : Int32) < da) (F := fun da => mkF m 115 #[.val (.int c1_), .val (.int c2_), .val (.int r1_), .val (.int r2_), .val (.int md_), .val (.int ca), .val (.int cb), .val (.int tA), .val (.int o0), .val (.int o1), .val (.int tB), .val (.int oa), .val (.int k), .unset, .unset, .unset, .unset, .unset, .unset, .unset, .unset, .unset] [(.int da)]) X5 e5 (fun T6 X6 e6 da h_da => ?_) (fun J115 => ?_)
            · show own_G p e below _ T6 (mkF m 115 #[.val (.int c1_), .val (.int c2_), .val (.int r1_), .val (.int r2_), .val (.int md_), .val (.int ca), .val (.int cb), .val (.int tA), .val (.int o0), .val (.int o1), .val (.int tB), .val (.int oa), .val (.int k), .unset, .unset, .unset, .unset, .unset, .unset, .unset, .unset, .unset] [(.int da)])
              refine own_istore (q := 115) X6 hx (hb hby at_115) (A' := #[.val (.int c1_), .val (.int c2_), .val (.int r1_), .val (.int r2_), .val (.int md_), .val (.int ca), .val (.int cb), .val (.int tA), .val (.int o0), .val (.int o1), .val (.int tB), .val (.int oa), .val (.int k), .val (.int da), .unset, .unset, .unset, .unset, .unset, .unset, .unset, .unset]) rfl ?_
              obtain ⟨n_da, l_da, u_da⟩ := h_da
              refine own_iload (q := 117) X6 hx (hb hby at_117) rfl ?_
              refine own_join (α := Int32) (P := fun db => nar .char db = db ∧ ¬ db < 0 ∧ ¬ (255 : Int32) < db) (F := fun db => mkF m 136 #[.val (.int c1_), .val (.int c2_), .val (.int r1_), .val (.int r2_), .val (.int md_), .val (.int ca), .val (.int cb), .val (.int tA), .val (.int o0), .val (.int o1), .val (.int tB), .val (.int oa), .val (.int k), .val (.int da), .unset, .unset, .unset, .unset, .unset, .unset, .unset, .unset] [(.int db)]) X6 e6 (fun T7 X7 e7 db h_db => ?_) (fun J136 => ?_)
              · show own_G p e below _ T7 (mkF m 136 #[.val (.int c1_), .val (.int c2_), .val (.int r1_), .val (.int r2_), .val (.int md_), .val (.int ca), .val (.int cb), .val (.int tA), .val (.int o0), .val (.int o1), .val (.int tB), .val (.int oa), .val (.int k), .val (.int da), .unset, .unset, .unset, .unset, .unset, .unset, .unset, .unset] [(.int db)])
                refine own_istore (q := 136) X7 hx (hb hby at_136) (A' := #[.val (.int c1_), .val (.int c2_), .val (.int r1_), .val (.int r2_), .val (.int md_), .val (.int ca), .val (.int cb), .val (.int tA), .val (.int o0), .val (.int o1), .val (.int tB), .val (.int oa), .val (.int k), .val (.int da), .val (.int db), .unset, .unset, .unset, .unset, .unset, .unset, .unset]) rfl ?_
                obtain ⟨n_db, l_db, u_db⟩ := h_db
                refine own_iloadN (q := 138) X7 hx (hb hby at_138) rfl ?_
                refine own_st (g' := (mkF m 141 #[.val (.int c1_), .val (.int c2_), .val (.int r1_), .val (.int r2_), .val (.int md_), .val (.int ca), .val (.int cb), .val (.int tA), .val (.int o0), .val (.int o1), .val (.int tB), .val (.int oa), .val (.int k), .val (.int da), .val (.int db), .unset, .unset, .unset, .unset, .unset, .unset, .unset] (.int (2147483647 : Int32) :: [(.int r1_)]))) (fun _ z => X7.ldcI hx hown (mvT hZ (hw _ (List.mem_of_getElem? (i := 0) rfl))) (g := (mkF m 139 #[.val (.int c1_), .val (.int c2_), .val (.int r1_), .val (.int r2_), .val (.int md_), .val (.int ca), .val (.int cb), .val (.int tA), .val (.int o0), .val (.int o1), .val (.int tB), .val (.int oa), .val (.int k), .val (.int da), .val (.int db), .unset, .unset, .unset, .unset, .unset, .unset, .unset] [(.int r1_)])) rfl (hb hby at_139) z) ?_
                refine own_iand (q := 141) X7 hx (hb hby at_141) ?_
                have hr1 := own_nn r1_
                generalize (r1_ &&& (2147483647 : Int32)) = ra at hr1 ⊢
                refine own_istore (q := 142) X7 hx (hb hby at_142) (A' := #[.val (.int c1_), .val (.int c2_), .val (.int r1_), .val (.int r2_), .val (.int md_), .val (.int ca), .val (.int cb), .val (.int tA), .val (.int o0), .val (.int o1), .val (.int tB), .val (.int oa), .val (.int k), .val (.int da), .val (.int db), .val (.int ra), .unset, .unset, .unset, .unset, .unset, .unset]) rfl ?_
                refine own_iload (q := 144) X7 hx (hb hby at_144) rfl ?_
                refine own_join (α := Int32) (P := fun rb => ¬ rb < 0) (F := fun rb => mkF m 158 #[.val (.int c1_), .val (.int c2_), .val (.int r1_), .val (.int r2_), .val (.int md_), .val (.int ca), .val (.int cb), .val (.int tA), .val (.int o0), .val (.int o1), .val (.int tB), .val (.int oa), .val (.int k), .val (.int da), .val (.int db), .val (.int ra), .unset, .unset, .unset, .unset, .unset, .unset] [(.int rb)]) X7 e7 (fun T8 X8 e8 rb h_rb => ?_) (fun J158 => ?_)
                · show own_G p e below _ T8 (mkF m 158 #[.val (.int c1_), .val (.int c2_), .val (.int r1_), .val (.int r2_), .val (.int md_), .val (.int ca), .val (.int cb), .val (.int tA), .val (.int o0), .val (.int o1), .val (.int tB), .val (.int oa), .val (.int k), .val (.int da), .val (.int db), .val (.int ra), .unset, .unset, .unset, .unset, .unset, .unset] [(.int rb)])
                  refine own_istore (q := 158) X8 hx (hb hby at_158) (A' := #[.val (.int c1_), .val (.int c2_), .val (.int r1_), .val (.int r2_), .val (.int md_), .val (.int ca), .val (.int cb), .val (.int tA), .val (.int o0), .val (.int o1), .val (.int tB), .val (.int oa), .val (.int k), .val (.int da), .val (.int db), .val (.int ra), .val (.int rb), .unset, .unset, .unset, .unset, .unset]) rfl ?_
                  refine own_iload (q := 160) X8 hx (hb hby at_160) rfl ?_
                  refine own_if (t := 188) (q := 162) X8 hx (hb hby at_162) (by decide) (by decide) (fun hq => ?_) (fun hq => ?_)
                  · have hc162 := own_h_eq.1 hq
                    obtain ⟨T9, h9, X9, e9, E9, A9, D9, -, st9⟩ := newO X8 hx hZ hown (hw _ (List.mem_of_getElem? (i := 1) rfl)) (hw _ (List.mem_of_getElem? (i := 2) rfl)) (hw _ (List.mem_of_getElem? (i := 3) rfl)) e8 (g := (mkF m 188 #[.val (.int c1_), .val (.int c2_), .val (.int r1_), .val (.int r2_), .val (.int md_), .val (.int ca), .val (.int cb), .val (.int tA), .val (.int o0), .val (.int o1), .val (.int tB), .val (.int oa), .val (.int k), .val (.int da), .val (.int db), .val (.int ra), .val (.int rb), .unset, .unset, .unset, .unset, .unset] [])) rfl (hb hby at_188) (by decide) (by decide)
                    obtain ⟨b9, gg9⟩ : ∃ z, z = h0.size := ⟨_, rfl⟩
                    rw [← gg9] at A9 D9 st9
                    refine own_st st9 ?_
                    have g_b9 : n0 ≤ b9 := by rw [gg9, ← O0.1]; exact O0.2.1
                    have O9 := Old.ext O0 E9
                    have F9_coder : Fld Z h9 b9 "java/lang/String" "coder" "B" (.int (0 : Int32)) := D9 (Or.inr (hw _ (List.mem_of_getElem? (i := 28) rfl))) (ty := .byte) (by decide)
                    have F9_value : Fld Z h9 b9 "java/lang/String" "value" "[B" .null := D9 (Or.inr (hw _ (List.mem_of_getElem? (i := 30) rfl))) (ty := (.array .byte)) (by decide)
                    show own_G p e below _ T9 (mkF m 191 #[.val (.int c1_), .val (.int c2_), .val (.int r1_), .val (.int r2_), .val (.int md_), .val (.int ca), .val (.int cb), .val (.int tA), .val (.int o0), .val (.int o1), .val (.int tB), .val (.int oa), .val (.int k), .val (.int da), .val (.int db), .val (.int ra), .val (.int rb), .unset, .unset, .unset, .unset, .unset] [(.ref b9)])
                    refine own_dup (q := 191) X9 hx (hb hby at_191) rfl ?_
                    refine own_iconst (q := 192) X9 hx (hb hby at_192) (x := (1 : Int32)) rfl ?_
                    obtain ⟨T10, h10, k10, X10, e10, E10, A10, st10⟩ := newP X9 hx hZ (hw _ (List.mem_of_getElem? (i := 4) rfl)) e9 (g := (mkF m 193 #[.val (.int c1_), .val (.int c2_), .val (.int r1_), .val (.int r2_), .val (.int md_), .val (.int ca), .val (.int cb), .val (.int tA), .val (.int o0), .val (.int o1), .val (.int tB), .val (.int oa), .val (.int k), .val (.int da), .val (.int db), .val (.int ra), .val (.int rb), .unset, .unset, .unset, .unset, .unset] [(.int (1 : Int32)), (.ref b9), (.ref b9)])) rfl (hb hby at_193) rfl (by decide) (cap := 1) (by decide) (by decide) (by decide) (by decide)
                    obtain ⟨b10, gg10⟩ : ∃ z, z = h9.size := ⟨_, rfl⟩
                    rw [← gg10] at A10 st10
                    refine own_st st10 ?_
                    have g_b10 : n0 ≤ b10 := by rw [gg10, ← O9.1]; exact O9.2.1
                    have O10 := Old.ext O9 E10
                    have V10 : Arv Z h10 b10 k10 .char (1 : Int32) [(.int (0 : Int32))] (.int (0 : Int32)) := (Arv.new A10 (by decide)).pad (pad_rep [] (.int (0 : Int32)) 1)
                    show own_G p e below _ T10 (mkF m 195 #[.val (.int c1_), .val (.int c2_), .val (.int r1_), .val (.int r2_), .val (.int md_), .val (.int ca), .val (.int cb), .val (.int tA), .val (.int o0), .val (.int o1), .val (.int tB), .val (.int oa), .val (.int k), .val (.int da), .val (.int db), .val (.int ra), .val (.int rb), .unset, .unset, .unset, .unset, .unset] [(.ref b10), (.ref b9), (.ref b9)])
                    refine own_dup (q := 195) X10 hx (hb hby at_195) rfl ?_
                    refine own_iconst (q := 196) X10 hx (hb hby at_196) (x := (0 : Int32)) rfl ?_
                    refine own_iload (q := 197) X10 hx (hb hby at_197) rfl ?_
                    obtain ⟨cl11, Ar11, Aq11, As11, An11, Ah11, Ag11⟩ := V10
                    obtain ⟨T12, h12, X12, e12, W12, st12⟩ := stC X10 hx hZ e10 Ar11 (j := (0 : Int32)) (inb_of As11 ⟨by decide, by decide⟩) (g := (mkF m 199 #[.val (.int c1_), .val (.int c2_), .val (.int r1_), .val (.int r2_), .val (.int md_), .val (.int ca), .val (.int cb), .val (.int tA), .val (.int o0), .val (.int o1), .val (.int tB), .val (.int oa), .val (.int k), .val (.int da), .val (.int db), .val (.int ra), .val (.int rb), .unset, .unset, .unset, .unset, .unset] [(.int ca), (.int (0 : Int32)), (.ref b10), (.ref b10), (.ref b9), (.ref b9)])) rfl rfl (hb hby at_199)
                    refine own_st st12 ?_
                    have V12 : Arv Z h12 b10 k10 .char (1 : Int32) [(.int (nar .char ca))] (.int (0 : Int32)) := Arv.set Ar11 Aq11 As11 An11 Ah11 Ag11 (fits_nar_char _) W12 0 rfl (Nat.le_of_ble_eq_true rfl)
                    rw [n_ca] at V12
                    have N12 := Fr.snoc X12 N0 g_b10
                    have O12 := Old.wr O10 W12 g_b10
                    show own_G p e below _ T12 (mkF m 200 #[.val (.int c1_), .val (.int c2_), .val (.int r1_), .val (.int r2_), .val (.int md_), .val (.int ca), .val (.int cb), .val (.int tA), .val (.int o0), .val (.int o1), .val (.int tB), .val (.int oa), .val (.int k), .val (.int da), .val (.int db), .val (.int ra), .val (.int rb), .unset, .unset, .unset, .unset, .unset] [(.ref b10), (.ref b9), (.ref b9)])
                    have c13 := (Exa.wr W12 (Exa.ext E10 A9))
                    have c14 := (Fld.other W12 (Fld.ext E10 F9_value) (Or.inl (Nat.ne_of_lt (Nat.lt_of_lt_of_le A9.lt (Nat.le_of_eq gg10.symm)))))
                    have c15 := (Fld.other W12 (Fld.ext E10 F9_coder) (Or.inl (Nat.ne_of_lt (Nat.lt_of_lt_of_le A9.lt (Nat.le_of_eq gg10.symm)))))
                    refine own_init (q := 200) (y := (⟨"java/lang/String", "<init>", "([C)V"⟩ : MethodName)) (b := b9) (argsL := [(.ref b10)]) (S := [(.ref b9)]) (W := 1) rfl X12 hx hZ hown (hw _ (List.mem_of_getElem? (i := 5) rfl)) (hw _ (List.mem_of_getElem? (i := 6) rfl)) (hw _ (List.mem_of_getElem? (i := 7) rfl)) (by decide) (own_newB (W := 1) (cs := ([ca] : List Int32)) (n := 1) hZ hw (hw _ (List.mem_of_getElem? (i := 2) rfl)) O12 g_b9 c13 c14 c15 V12 SCOMPACT hCOMPACT rfl rfl (by decide) (by decide) (own_csS ⟨l_ca, u_ca⟩ own_cs0) (by decide) (by decide)) e12 (by rw [hml]; rfl) (lenOf own_pd__28_5bC_29V rfl) rfl (Nat.le_of_eq rfl) (hb hby at_200) (by decide) (by decide) (fun T16 L16 v16 X16 hQ16 => ?_)
                    obtain ⟨rfl, Nq16, Kp16, t16, g_t16, ht16, hne16, Sf16⟩ := hQ16
                    have N16 := Fr.app N12 Nq16
                    have O17 := Old.keep O12 Kp16 (allS g_b9 all0)
                    show own_G p e below _ T16 (mkF m 203 #[.val (.int c1_), .val (.int c2_), .val (.int r1_), .val (.int r2_), .val (.int md_), .val (.int ca), .val (.int cb), .val (.int tA), .val (.int o0), .val (.int o1), .val (.int tB), .val (.int oa), .val (.int k), .val (.int da), .val (.int db), .val (.int ra), .val (.int rb), .unset, .unset, .unset, .unset, .unset] [(.ref b9)])
                    refine own_astore (q := 203) X16 hx (hb hby at_203) rfl (A' := #[.val (.int c1_), .val (.int c2_), .val (.int r1_), .val (.int r2_), .val (.int md_), .val (.int ca), .val (.int cb), .val (.int tA), .val (.int o0), .val (.int o1), .val (.int tB), .val (.int oa), .val (.int k), .val (.int da), .val (.int db), .val (.int ra), .val (.int rb), .val (.ref b9), .unset, .unset, .unset, .unset]) rfl ?_
                    refine own_iload (q := 205) X16 hx (hb hby at_205) rfl ?_
                    refine own_if (t := 233) (q := 207) X16 hx (hb hby at_207) (by decide) (by decide) (fun hq => ?_) (fun hq => ?_)
                    · have hc207 := own_h_eq.1 hq
                      obtain ⟨T18, h18, X18, e18, E18, A18, D18, -, st18⟩ := newO X16 hx hZ hown (hw _ (List.mem_of_getElem? (i := 1) rfl)) (hw _ (List.mem_of_getElem? (i := 2) rfl)) (hw _ (List.mem_of_getElem? (i := 3) rfl)) rfl (g := (mkF m 233 #[.val (.int c1_), .val (.int c2_), .val (.int r1_), .val (.int r2_), .val (.int md_), .val (.int ca), .val (.int cb), .val (.int tA), .val (.int o0), .val (.int o1), .val (.int tB), .val (.int oa), .val (.int k), .val (.int da), .val (.int db), .val (.int ra), .val (.int rb), .val (.ref b9), .unset, .unset, .unset, .unset] [])) rfl (hb hby at_233) (by decide) (by decide)
                      obtain ⟨b18, gg18⟩ : ∃ z, z = T16.heap.size := ⟨_, rfl⟩
                      rw [← gg18] at A18 D18 st18
                      refine own_st st18 ?_
                      have g_b18 : n0 ≤ b18 := by rw [gg18, ← O17.1]; exact O17.2.1
                      have O18 := Old.ext O17 E18
                      have F18_coder : Fld Z h18 b18 "java/lang/String" "coder" "B" (.int (0 : Int32)) := D18 (Or.inr (hw _ (List.mem_of_getElem? (i := 28) rfl))) (ty := .byte) (by decide)
                      have F18_value : Fld Z h18 b18 "java/lang/String" "value" "[B" .null := D18 (Or.inr (hw _ (List.mem_of_getElem? (i := 30) rfl))) (ty := (.array .byte)) (by decide)
                      show own_G p e below _ T18 (mkF m 236 #[.val (.int c1_), .val (.int c2_), .val (.int r1_), .val (.int r2_), .val (.int md_), .val (.int ca), .val (.int cb), .val (.int tA), .val (.int o0), .val (.int o1), .val (.int tB), .val (.int oa), .val (.int k), .val (.int da), .val (.int db), .val (.int ra), .val (.int rb), .val (.ref b9), .unset, .unset, .unset, .unset] [(.ref b18)])
                      refine own_dup (q := 236) X18 hx (hb hby at_236) rfl ?_
                      refine own_iconst (q := 237) X18 hx (hb hby at_237) (x := (1 : Int32)) rfl ?_
                      obtain ⟨T19, h19, k19, X19, e19, E19, A19, st19⟩ := newP X18 hx hZ (hw _ (List.mem_of_getElem? (i := 4) rfl)) e18 (g := (mkF m 238 #[.val (.int c1_), .val (.int c2_), .val (.int r1_), .val (.int r2_), .val (.int md_), .val (.int ca), .val (.int cb), .val (.int tA), .val (.int o0), .val (.int o1), .val (.int tB), .val (.int oa), .val (.int k), .val (.int da), .val (.int db), .val (.int ra), .val (.int rb), .val (.ref b9), .unset, .unset, .unset, .unset] [(.int (1 : Int32)), (.ref b18), (.ref b18)])) rfl (hb hby at_238) rfl (by decide) (cap := 1) (by decide) (by decide) (by decide) (by decide)
                      obtain ⟨b19, gg19⟩ : ∃ z, z = h18.size := ⟨_, rfl⟩
                      rw [← gg19] at A19 st19
                      refine own_st st19 ?_
                      have g_b19 : n0 ≤ b19 := by rw [gg19, ← O18.1]; exact O18.2.1
                      have O19 := Old.ext O18 E19
                      have V19 : Arv Z h19 b19 k19 .char (1 : Int32) [(.int (0 : Int32))] (.int (0 : Int32)) := (Arv.new A19 (by decide)).pad (pad_rep [] (.int (0 : Int32)) 1)
                      show own_G p e below _ T19 (mkF m 240 #[.val (.int c1_), .val (.int c2_), .val (.int r1_), .val (.int r2_), .val (.int md_), .val (.int ca), .val (.int cb), .val (.int tA), .val (.int o0), .val (.int o1), .val (.int tB), .val (.int oa), .val (.int k), .val (.int da), .val (.int db), .val (.int ra), .val (.int rb), .val (.ref b9), .unset, .unset, .unset, .unset] [(.ref b19), (.ref b18), (.ref b18)])
                      refine own_dup (q := 240) X19 hx (hb hby at_240) rfl ?_
                      refine own_iconst (q := 241) X19 hx (hb hby at_241) (x := (0 : Int32)) rfl ?_
                      refine own_iload (q := 242) X19 hx (hb hby at_242) rfl ?_
                      obtain ⟨cl20, Ar20, Aq20, As20, An20, Ah20, Ag20⟩ := V19
                      obtain ⟨T21, h21, X21, e21, W21, st21⟩ := stC X19 hx hZ e19 Ar20 (j := (0 : Int32)) (inb_of As20 ⟨by decide, by decide⟩) (g := (mkF m 244 #[.val (.int c1_), .val (.int c2_), .val (.int r1_), .val (.int r2_), .val (.int md_), .val (.int ca), .val (.int cb), .val (.int tA), .val (.int o0), .val (.int o1), .val (.int tB), .val (.int oa), .val (.int k), .val (.int da), .val (.int db), .val (.int ra), .val (.int rb), .val (.ref b9), .unset, .unset, .unset, .unset] [(.int da), (.int (0 : Int32)), (.ref b19), (.ref b19), (.ref b18), (.ref b18)])) rfl rfl (hb hby at_244)
                      refine own_st st21 ?_
                      have V21 : Arv Z h21 b19 k19 .char (1 : Int32) [(.int (nar .char da))] (.int (0 : Int32)) := Arv.set Ar20 Aq20 As20 An20 Ah20 Ag20 (fits_nar_char _) W21 0 rfl (Nat.le_of_ble_eq_true rfl)
                      rw [n_da] at V21
                      have N21 := Fr.snoc X21 N16 g_b19
                      have O21 := Old.wr O19 W21 g_b19
                      show own_G p e below _ T21 (mkF m 245 #[.val (.int c1_), .val (.int c2_), .val (.int r1_), .val (.int r2_), .val (.int md_), .val (.int ca), .val (.int cb), .val (.int tA), .val (.int o0), .val (.int o1), .val (.int tB), .val (.int oa), .val (.int k), .val (.int da), .val (.int db), .val (.int ra), .val (.int rb), .val (.ref b9), .unset, .unset, .unset, .unset] [(.ref b19), (.ref b18), (.ref b18)])
                      have c22 := (Exa.wr W21 (Exa.ext E19 A18))
                      have c23 := (Fld.other W21 (Fld.ext E19 F18_value) (Or.inl (Nat.ne_of_lt (Nat.lt_of_lt_of_le A18.lt (Nat.le_of_eq gg19.symm)))))
                      have c24 := (Fld.other W21 (Fld.ext E19 F18_coder) (Or.inl (Nat.ne_of_lt (Nat.lt_of_lt_of_le A18.lt (Nat.le_of_eq gg19.symm)))))
                      refine own_init (q := 245) (y := (⟨"java/lang/String", "<init>", "([C)V"⟩ : MethodName)) (b := b18) (argsL := [(.ref b19)]) (S := [(.ref b18)]) (W := 1) rfl X21 hx hZ hown (hw _ (List.mem_of_getElem? (i := 5) rfl)) (hw _ (List.mem_of_getElem? (i := 6) rfl)) (hw _ (List.mem_of_getElem? (i := 7) rfl)) (by decide) (own_newB (W := 1) (cs := ([da] : List Int32)) (n := 1) hZ hw (hw _ (List.mem_of_getElem? (i := 2) rfl)) O21 g_b18 c22 c23 c24 V21 SCOMPACT hCOMPACT rfl rfl (by decide) (by decide) (own_csS ⟨l_da, u_da⟩ own_cs0) (by decide) (by decide)) e21 (by rw [hml]; rfl) (lenOf own_pd__28_5bC_29V rfl) rfl (Nat.le_of_eq rfl) (hb hby at_245) (by decide) (by decide) (fun T25 L25 v25 X25 hQ25 => ?_)
                      obtain ⟨rfl, Nq25, Kp25, t25, g_t25, ht25, hne25, Sf25⟩ := hQ25
                      have N25 := Fr.app N21 Nq25
                      have O26 := Old.keep O21 Kp25 (allS g_b18 all0)
                      show own_G p e below _ T25 (mkF m 248 #[.val (.int c1_), .val (.int c2_), .val (.int r1_), .val (.int r2_), .val (.int md_), .val (.int ca), .val (.int cb), .val (.int tA), .val (.int o0), .val (.int o1), .val (.int tB), .val (.int oa), .val (.int k), .val (.int da), .val (.int db), .val (.int ra), .val (.int rb), .val (.ref b9), .unset, .unset, .unset, .unset] [(.ref b18)])
                      refine own_astore (q := 248) X25 hx (hb hby at_248) rfl (A' := #[.val (.int c1_), .val (.int c2_), .val (.int r1_), .val (.int r2_), .val (.int md_), .val (.int ca), .val (.int cb), .val (.int tA), .val (.int o0), .val (.int o1), .val (.int tB), .val (.int oa), .val (.int k), .val (.int da), .val (.int db), .val (.int ra), .val (.int rb), .val (.ref b9), .val (.ref b18), .unset, .unset, .unset]) rfl ?_
                      obtain ⟨T27, h27, X27, e27, E27, A27, D27, -, st27⟩ := newO X25 hx hZ hown (hw _ (List.mem_of_getElem? (i := 31) rfl)) (hw _ (List.mem_of_getElem? (i := 32) rfl)) (hw _ (List.mem_of_getElem? (i := 33) rfl)) rfl (g := (mkF m 250 #[.val (.int c1_), .val (.int c2_), .val (.int r1_), .val (.int r2_), .val (.int md_), .val (.int ca), .val (.int cb), .val (.int tA), .val (.int o0), .val (.int o1), .val (.int tB), .val (.int oa), .val (.int k), .val (.int da), .val (.int db), .val (.int ra), .val (.int rb), .val (.ref b9), .val (.ref b18), .unset, .unset, .unset] [])) rfl (hb hby at_250) (by decide) (by decide)
                      obtain ⟨b27, gg27⟩ : ∃ z, z = T25.heap.size := ⟨_, rfl⟩
                      rw [← gg27] at A27 D27 st27
                      refine own_st st27 ?_
                      have g_b27 : n0 ≤ b27 := by rw [gg27, ← O26.1]; exact O26.2.1
                      have O27 := Old.ext O26 E27
                      have F27_name : Fld Z h27 b27 "com/example/tightrope/tightrope/logic/Predicate" "name" "Ljava/lang/String;" .null := D27 (Or.inr (hw _ (List.mem_of_getElem? (i := 51) rfl))) (ty := (.object "java/lang/String")) (by decide)
                      have F27_arity : Fld Z h27 b27 "com/example/tightrope/tightrope/logic/Predicate" "arity" "I" (.int (0 : Int32)) := D27 (Or.inr (hw _ (List.mem_of_getElem? (i := 53) rfl))) (ty := .int) (by decide)
                      show own_G p e below _ T27 (mkF m 253 #[.val (.int c1_), .val (.int c2_), .val (.int r1_), .val (.int r2_), .val (.int md_), .val (.int ca), .val (.int cb), .val (.int tA), .val (.int o0), .val (.int o1), .val (.int tB), .val (.int oa), .val (.int k), .val (.int da), .val (.int db), .val (.int ra), .val (.int rb), .val (.ref b9), .val (.ref b18), .unset, .unset, .unset] [(.ref b27)])
                      refine own_dup (q := 253) X27 hx (hb hby at_253) rfl ?_
                      refine own_aload (q := 254) X27 hx (hb hby at_254) rfl rfl ?_
                      refine own_iload (q := 256) X27 hx (hb hby at_256) rfl ?_
                      have c28 := (own_Str.ext E27 (own_Str.keep (own_Str.other (own_Str.ext E19 (own_Str.ext E18 Sf16)) W21 (Nat.ne_of_lt (Nat.lt_of_lt_of_le (Nat.lt_of_lt_of_le Sf16.lt E18.1) (Nat.le_of_eq gg19.symm))) (Nat.ne_of_lt (Nat.lt_of_lt_of_le (Nat.lt_of_lt_of_le Sf16.lt2 E18.1) (Nat.le_of_eq gg19.symm)))) Kp25 (ninS (Nat.ne_of_lt (Nat.lt_of_lt_of_le Sf16.lt (Nat.le_of_eq gg18.symm))) nin0) (ninS (Nat.ne_of_lt (Nat.lt_of_lt_of_le Sf16.lt2 (Nat.le_of_eq gg18.symm))) nin0)))
                      refine own_initS (q := 258) (y := (⟨"com/example/tightrope/tightrope/logic/Predicate", "<init>", "(Ljava/lang/String;I)V"⟩ : MethodName)) (b := b27) (argsL := [(.ref b9), (.int ra)]) (S := [(.ref b27)]) (W := 1) rfl X27 hx hZ hS0 hown (hw _ (List.mem_of_getElem? (i := 34) rfl)) (hw _ (List.mem_of_getElem? (i := 35) rfl)) (hw _ (List.mem_of_getElem? (i := 36) rfl)) (by decide) (backOfS (W := 1) (rm4 l Z a0 hw [] b27 b9 ra t16 ([ca] : List Int32) h27 n0 O27 A27 F27_name F27_arity g_b27 c28 (by simp) hr1) hZ (hw _ (List.mem_of_getElem? (i := 36) rfl)) (hw _ (List.mem_of_getElem? (i := 33) rfl)) (by decide) (by decide)) e27 (Nat.le_trans (Nat.le_trans (Nat.le_trans (Nat.le_trans (Nat.le_trans (Nat.le_trans (Nat.le_trans (Nat.le_trans (Nat.le_trans hk0 E9.1) E10.1) (Keep.of_wr W12).1) Kp16.1) E18.1) E19.1) (Keep.of_wr W21).1) Kp25.1) E27.1) (by rw [hml]; rfl) (lenOf own_pd__28Ljava_2flang_2fString_3bI_29V rfl) rfl (Nat.le_of_eq rfl) (hb hby at_258) (by decide) (by decide) (fun T29 L29 v29 k29 X29 hS29 hk29 hZ29 hown29 hQ29 => ?_)
                      obtain ⟨rfl, N29q, Kp29, Ex29, Fn29, Fs29⟩ := hQ29
                      have N29 := Fr.app N25 N29q
                      have O30 := Old.keep O27 Kp29 (allS g_b27 all0)
                      show own_G p e below _ T29 (mkF m 261 #[.val (.int c1_), .val (.int c2_), .val (.int r1_), .val (.int r2_), .val (.int md_), .val (.int ca), .val (.int cb), .val (.int tA), .val (.int o0), .val (.int o1), .val (.int tB), .val (.int oa), .val (.int k), .val (.int da), .val (.int db), .val (.int ra), .val (.int rb), .val (.ref b9), .val (.ref b18), .unset, .unset, .unset] [(.ref b27)])
                      refine own_astore (q := 261) X29 hx (hb hby at_261) rfl (A' := #[.val (.int c1_), .val (.int c2_), .val (.int r1_), .val (.int r2_), .val (.int md_), .val (.int ca), .val (.int cb), .val (.int tA), .val (.int o0), .val (.int o1), .val (.int tB), .val (.int oa), .val (.int k), .val (.int da), .val (.int db), .val (.int ra), .val (.int rb), .val (.ref b9), .val (.ref b18), .val (.ref b27), .unset, .unset]) rfl ?_
                      obtain ⟨T31, h31, X31, e31, E31, A31, D31, -, st31⟩ := newO X29 hx hZ29 hown29 (hw _ (List.mem_of_getElem? (i := 31) rfl)) (hw _ (List.mem_of_getElem? (i := 32) rfl)) (hw _ (List.mem_of_getElem? (i := 33) rfl)) rfl (g := (mkF m 263 #[.val (.int c1_), .val (.int c2_), .val (.int r1_), .val (.int r2_), .val (.int md_), .val (.int ca), .val (.int cb), .val (.int tA), .val (.int o0), .val (.int o1), .val (.int tB), .val (.int oa), .val (.int k), .val (.int da), .val (.int db), .val (.int ra), .val (.int rb), .val (.ref b9), .val (.ref b18), .val (.ref b27), .unset, .unset] [])) rfl (hb hby at_263) (by decide) (by decide)
                      obtain ⟨b31, gg31⟩ : ∃ z, z = T29.heap.size := ⟨_, rfl⟩
                      rw [← gg31] at A31 D31 st31
                      refine own_st st31 ?_
                      have g_b31 : n0 ≤ b31 := by rw [gg31, ← O30.1]; exact O30.2.1
                      have O31 := Old.ext O30 E31
                      have F31_name : Fld Z h31 b31 "com/example/tightrope/tightrope/logic/Predicate" "name" "Ljava/lang/String;" .null := D31 (Or.inr (hw _ (List.mem_of_getElem? (i := 51) rfl))) (ty := (.object "java/lang/String")) (by decide)
                      have F31_arity : Fld Z h31 b31 "com/example/tightrope/tightrope/logic/Predicate" "arity" "I" (.int (0 : Int32)) := D31 (Or.inr (hw _ (List.mem_of_getElem? (i := 53) rfl))) (ty := .int) (by decide)
                      show own_G p e below _ T31 (mkF m 266 #[.val (.int c1_), .val (.int c2_), .val (.int r1_), .val (.int r2_), .val (.int md_), .val (.int ca), .val (.int cb), .val (.int tA), .val (.int o0), .val (.int o1), .val (.int tB), .val (.int oa), .val (.int k), .val (.int da), .val (.int db), .val (.int ra), .val (.int rb), .val (.ref b9), .val (.ref b18), .val (.ref b27), .unset, .unset] [(.ref b31)])
                      refine own_dup (q := 266) X31 hx (hb hby at_266) rfl ?_
                      refine own_aload (q := 267) X31 hx (hb hby at_267) rfl rfl ?_
                      refine own_iload (q := 269) X31 hx (hb hby at_269) rfl ?_
                      have c32 := (own_Str.ext E31 (own_Str.keep (own_Str.ext E27 Sf25) Kp29 (ninS (Nat.ne_of_lt (Nat.lt_of_lt_of_le Sf25.lt (Nat.le_of_eq gg27.symm))) nin0) (ninS (Nat.ne_of_lt (Nat.lt_of_lt_of_le Sf25.lt2 (Nat.le_of_eq gg27.symm))) nin0)))
                      refine own_initS (q := 271) (y := (⟨"com/example/tightrope/tightrope/logic/Predicate", "<init>", "(Ljava/lang/String;I)V"⟩ : MethodName)) (b := b31) (argsL := [(.ref b18), (.int rb)]) (S := [(.ref b31)]) (W := 1) rfl X31 hx hZ29 hS29 hown29 (hw _ (List.mem_of_getElem? (i := 34) rfl)) (hw _ (List.mem_of_getElem? (i := 35) rfl)) (hw _ (List.mem_of_getElem? (i := 36) rfl)) (by decide) (backOfS (W := 1) (rm4 l Z a0 hw [] b31 b18 rb t25 ([da] : List Int32) h31 n0 O31 A31 F31_name F31_arity g_b31 c32 (by simp) h_rb) hZ29 (hw _ (List.mem_of_getElem? (i := 36) rfl)) (hw _ (List.mem_of_getElem? (i := 33) rfl)) (by decide) (by decide)) e31 (Nat.le_trans hk29 E31.1) (by rw [hml]; rfl) (lenOf own_pd__28Ljava_2flang_2fString_3bI_29V rfl) rfl (Nat.le_of_eq rfl) (hb hby at_271) (by decide) (by decide) (fun T33 L33 v33 k33 X33 hS33 hk33 hZ33 hown33 hQ33 => ?_)
                      obtain ⟨rfl, N33q, Kp33, Ex33, Fn33, Fs33⟩ := hQ33
                      have N33 := Fr.app N29 N33q
                      have O34 := Old.keep O31 Kp33 (allS g_b31 all0)
                      show own_G p e below _ T33 (mkF m 274 #[.val (.int c1_), .val (.int c2_), .val (.int r1_), .val (.int r2_), .val (.int md_), .val (.int ca), .val (.int cb), .val (.int tA), .val (.int o0), .val (.int o1), .val (.int tB), .val (.int oa), .val (.int k), .val (.int da), .val (.int db), .val (.int ra), .val (.int rb), .val (.ref b9), .val (.ref b18), .val (.ref b27), .unset, .unset] [(.ref b31)])
                      refine own_astore (q := 274) X33 hx (hb hby at_274) rfl (A' := #[.val (.int c1_), .val (.int c2_), .val (.int r1_), .val (.int r2_), .val (.int md_), .val (.int ca), .val (.int cb), .val (.int tA), .val (.int o0), .val (.int o1), .val (.int tB), .val (.int oa), .val (.int k), .val (.int da), .val (.int db), .val (.int ra), .val (.int rb), .val (.ref b9), .val (.ref b18), .val (.ref b27), .val (.ref b31), .unset]) rfl ?_
                      refine own_iload (q := 276) X33 hx (hb hby at_276) rfl ?_
                      refine own_iconst (q := 278) X33 hx (hb hby at_278) (x := (1 : Int32)) rfl ?_
                      refine own_icmp (t := 297) (q := 279) X33 hx (hb hby at_279) (by decide) (by decide) (fun hq => ?_) (fun hq => ?_)
                      · have hc279 := own_c_ne.1 hq
                        refine own_iload (q := 297) X33 hx (hb hby at_297) rfl ?_
                        refine own_iconst (q := 299) X33 hx (hb hby at_299) (x := (2 : Int32)) rfl ?_
                        refine own_icmp (t := 323) (q := 300) X33 hx (hb hby at_300) (by decide) (by decide) (fun hq => ?_) (fun hq => ?_)
                        · have hc300 := own_c_ne.1 hq
                          refine own_iload (q := 323) X33 hx (hb hby at_323) rfl ?_
                          refine own_iload (q := 325) X33 hx (hb hby at_325) rfl ?_
                          refine own_join (α := Int32) (P := fun ex => ex = (if ra = rb ∧ ([ca] : List Int32) = ([da] : List Int32) then 1 else 0)) (F := fun ex => mkF m 361 #[.val (.int c1_), .val (.int c2_), .val (.int r1_), .val (.int r2_), .val (.int md_), .val (.int ca), .val (.int cb), .val (.int tA), .val (.int o0), .val (.int o1), .val (.int tB), .val (.int oa), .val (.int k), .val (.int da), .val (.int db), .val (.int ra), .val (.int rb), .val (.ref b9), .val (.ref b18), .val (.ref b27), .val (.ref b31), .unset] [(.int ex)]) X33 rfl (fun T35 X35 e35 ex h_ex => ?_) (fun J361 => ?_)
                          · show own_G p e below _ T35 (mkF m 361 #[.val (.int c1_), .val (.int c2_), .val (.int r1_), .val (.int r2_), .val (.int md_), .val (.int ca), .val (.int cb), .val (.int tA), .val (.int o0), .val (.int o1), .val (.int tB), .val (.int oa), .val (.int k), .val (.int da), .val (.int db), .val (.int ra), .val (.int rb), .val (.ref b9), .val (.ref b18), .val (.ref b27), .val (.ref b31), .unset] [(.int ex)])
                            refine own_istore (q := 361) X35 hx (hb hby at_361) (A' := #[.val (.int c1_), .val (.int c2_), .val (.int r1_), .val (.int r2_), .val (.int md_), .val (.int ca), .val (.int cb), .val (.int tA), .val (.int o0), .val (.int o1), .val (.int tB), .val (.int oa), .val (.int k), .val (.int da), .val (.int db), .val (.int ra), .val (.int rb), .val (.ref b9), .val (.ref b18), .val (.ref b27), .val (.ref b31), .val (.int ex)]) rfl ?_
                            refine own_aload (q := 363) X35 hx (hb hby at_363) rfl rfl ?_
                            refine own_aload (q := 365) X35 hx (hb hby at_365) rfl rfl ?_
                            have c36 := (Fld.keep (Fld.ext E31 Fn29) Kp33 (ninS (Nat.ne_of_lt (Nat.lt_of_lt_of_le Ex29.lt (Nat.le_of_eq gg31.symm))) nin0))
                            have c37 := (Fld.keep (Fld.ext E31 Fs29) Kp33 (ninS (Nat.ne_of_lt (Nat.lt_of_lt_of_le Ex29.lt (Nat.le_of_eq gg31.symm))) nin0))
                            have c38 := (own_Str.keep (own_Str.ext E31 (own_Str.keep c28 Kp29 (ninS (Nat.ne_of_lt (Nat.lt_of_lt_of_le (Nat.lt_of_lt_of_le Sf16.lt (Nat.le_trans (Nat.le_trans (Nat.le_trans E18.1 E19.1) (Keep.of_wr W21).1) Kp25.1)) (Nat.le_of_eq gg27.symm))) nin0) (ninS (Nat.ne_of_lt (Nat.lt_of_lt_of_le (Nat.lt_of_lt_of_le Sf16.lt2 (Nat.le_trans (Nat.le_trans (Nat.le_trans E18.1 E19.1) (Keep.of_wr W21).1) Kp25.1)) (Nat.le_of_eq gg27.symm))) nin0))) Kp33 (ninS (Nat.ne_of_lt (Nat.lt_of_lt_of_le (Nat.lt_of_lt_of_le c28.lt Kp29.1) (Nat.le_of_eq gg31.symm))) nin0) (ninS (Nat.ne_of_lt (Nat.lt_of_lt_of_le (Nat.lt_of_lt_of_le c28.lt2 Kp29.1) (Nat.le_of_eq gg31.symm))) nin0))
                            have c39 := (own_Str.keep c32 Kp33 (ninS (Nat.ne_of_lt (Nat.lt_of_lt_of_le (Nat.lt_of_lt_of_le Sf25.lt (Nat.le_trans E27.1 Kp29.1)) (Nat.le_of_eq gg31.symm))) nin0) (ninS (Nat.ne_of_lt (Nat.lt_of_lt_of_le (Nat.lt_of_lt_of_le Sf25.lt2 (Nat.le_trans E27.1 Kp29.1)) (Nat.le_of_eq gg31.symm))) nin0))
                            have c41 := (Exa.keep (Exa.ext E31 Ex29) Kp33)
                            refine own_virtual (q := 367) (y := (⟨"com/example/tightrope/tightrope/logic/Predicate", "equals", "(Ljava/lang/Object;)Z"⟩ : MethodName)) (z := (⟨"com/example/tightrope/tightrope/logic/Predicate", "equals", "(Ljava/lang/Object;)Z"⟩ : MethodName)) (b := b27) (argsL := [(.ref b31)]) (S := []) (W := 0) X35 hx hZ33 hown33 (hw _ (List.mem_of_getElem? (i := 54) rfl)) (hw _ (List.mem_of_getElem? (i := 55) rfl)) (notFace_of_selects (args := #[]) (mvT hZ33 (hw _ (List.mem_of_getElem? (i := 57) rfl)))) (hw _ (List.mem_of_getElem? (i := 57) rfl)) (hw _ (List.mem_of_getElem? (i := 56) rfl)) (by decide) (backOf (W := 0) (rm6p l Z a0 hw [] b27 b31 b9 t16 ([ca] : List Int32) ra b18 t25 ([da] : List Int32) rb zCOMPACT T33.heap n0 O34 c36 c37 c38 Ex33 Fn33 Fs33 c39 SCOMPACT hCOMPACT) hZ33 (hw _ (List.mem_of_getElem? (i := 58) rfl)) (hw _ (List.mem_of_getElem? (i := 33) rfl)) (by decide) (by decide)) e35 c41 (by rw [hml]; rfl) (lenOf own_pd__28Ljava_2flang_2fObject_3b_29Z rfl) rfl (Nat.le_of_eq rfl) (hb hby at_367) (by decide) (by decide) (fun T40 L40 v40 X40 hQ40 => ?_)
                            obtain ⟨rfl, N40q, hh40⟩ := hQ40
                            have N40 := Fr.app N33 N40q
                            show own_G p e below _ T40 (mkF m 370 #[.val (.int c1_), .val (.int c2_), .val (.int r1_), .val (.int r2_), .val (.int md_), .val (.int ca), .val (.int cb), .val (.int tA), .val (.int o0), .val (.int o1), .val (.int tB), .val (.int oa), .val (.int k), .val (.int da), .val (.int db), .val (.int ra), .val (.int rb), .val (.ref b9), .val (.ref b18), .val (.ref b27), .val (.ref b31), .val (.int ex)] [(.int (if ra = rb ∧ ([ca] : List Int32) = ([da] : List Int32) then 1 else 0 : Int32))])
                            refine own_iload (q := 370) X40 hx (hb hby at_370) rfl ?_
                            refine own_icmp (t := 401) (q := 372) X40 hx (hb hby at_372) (by decide) (by decide) (fun hq => ?_) (fun hq => ?_)
                            · have hc372 := own_c_ne.1 hq
                              exact absurd h_ex.symm hc372
                            · have hc372 := own_c_ne.2 hq
                              refine own_aload (q := 375) X40 hx (hb hby at_375) rfl rfl ?_
                              refine own_aload (q := 377) X40 hx (hb hby at_377) rfl rfl ?_
                              refine own_virtual (q := 379) (y := (⟨"com/example/tightrope/tightrope/logic/Predicate", "equals", "(Ljava/lang/Object;)Z"⟩ : MethodName)) (z := (⟨"com/example/tightrope/tightrope/logic/Predicate", "equals", "(Ljava/lang/Object;)Z"⟩ : MethodName)) (b := b31) (argsL := [(.ref b27)]) (S := []) (W := 0) X40 hx hZ33 hown33 (hw _ (List.mem_of_getElem? (i := 54) rfl)) (hw _ (List.mem_of_getElem? (i := 55) rfl)) (notFace_of_selects (args := #[]) (mvT hZ33 (hw _ (List.mem_of_getElem? (i := 57) rfl)))) (hw _ (List.mem_of_getElem? (i := 57) rfl)) (hw _ (List.mem_of_getElem? (i := 56) rfl)) (by decide) (backOf (W := 0) (rm6p l Z a0 hw [] b31 b27 b18 t25 ([da] : List Int32) rb b9 t16 ([ca] : List Int32) ra zCOMPACT T33.heap n0 O34 Fn33 Fs33 c39 c41 c36 c37 c38 SCOMPACT hCOMPACT) hZ33 (hw _ (List.mem_of_getElem? (i := 58) rfl)) (hw _ (List.mem_of_getElem? (i := 33) rfl)) (by decide) (by decide)) hh40 Ex33 (by rw [hml]; rfl) (lenOf own_pd__28Ljava_2flang_2fObject_3b_29Z rfl) rfl (Nat.le_of_eq rfl) (hb hby at_379) (by decide) (by decide) (fun T42 L42 v42 X42 hQ42 => ?_)
                              obtain ⟨rfl, N42q, hh42⟩ := hQ42
                              have N42 := Fr.app N40 N42q
                              show own_G p e below _ T42 (mkF m 382 #[.val (.int c1_), .val (.int c2_), .val (.int r1_), .val (.int r2_), .val (.int md_), .val (.int ca), .val (.int cb), .val (.int tA), .val (.int o0), .val (.int o1), .val (.int tB), .val (.int oa), .val (.int k), .val (.int da), .val (.int db), .val (.int ra), .val (.int rb), .val (.ref b9), .val (.ref b18), .val (.ref b27), .val (.ref b31), .val (.int ex)] [(.int (if rb = ra ∧ ([da] : List Int32) = ([ca] : List Int32) then 1 else 0 : Int32))])
                              refine own_iload (q := 382) X42 hx (hb hby at_382) rfl ?_
                              refine own_icmp (t := 401) (q := 384) X42 hx (hb hby at_384) (by decide) (by decide) (fun hq => ?_) (fun hq => ?_)
                              · have hc384 := own_c_ne.1 hq
                                exact absurd (own_sym.trans h_ex.symm) hc384
                              · have hc384 := own_c_ne.2 hq
                                refine own_aload (q := 387) X42 hx (hb hby at_387) rfl rfl ?_
                                refine own_aload (q := 389) X42 hx (hb hby at_389) rfl rfl ?_
                                refine own_virtual (q := 391) (y := (⟨"com/example/tightrope/tightrope/logic/Predicate", "equals", "(Ljava/lang/Object;)Z"⟩ : MethodName)) (z := (⟨"com/example/tightrope/tightrope/logic/Predicate", "equals", "(Ljava/lang/Object;)Z"⟩ : MethodName)) (b := b27) (argsL := [(.ref b27)]) (S := []) (W := 0) X42 hx hZ33 hown33 (hw _ (List.mem_of_getElem? (i := 54) rfl)) (hw _ (List.mem_of_getElem? (i := 55) rfl)) (notFace_of_selects (args := #[]) (mvT hZ33 (hw _ (List.mem_of_getElem? (i := 57) rfl)))) (hw _ (List.mem_of_getElem? (i := 57) rfl)) (hw _ (List.mem_of_getElem? (i := 56) rfl)) (by decide) (backOf (W := 0) (rm6p l Z a0 hw [] b27 b27 b9 t16 ([ca] : List Int32) ra b9 t16 ([ca] : List Int32) ra zCOMPACT T33.heap n0 O34 c36 c37 c38 c41 c36 c37 c38 SCOMPACT hCOMPACT) hZ33 (hw _ (List.mem_of_getElem? (i := 58) rfl)) (hw _ (List.mem_of_getElem? (i := 33) rfl)) (by decide) (by decide)) hh42 c41 (by rw [hml]; rfl) (lenOf own_pd__28Ljava_2flang_2fObject_3b_29Z rfl) rfl (Nat.le_of_eq rfl) (hb hby at_391) (by decide) (by decide) (fun T43 L43 v43 X43 hQ43 => ?_)
                                obtain ⟨rfl, N43q, hh43⟩ := hQ43
                                have N43 := Fr.app N42 N43q
                                show own_G p e below _ T43 (mkF m 394 #[.val (.int c1_), .val (.int c2_), .val (.int r1_), .val (.int r2_), .val (.int md_), .val (.int ca), .val (.int cb), .val (.int tA), .val (.int o0), .val (.int o1), .val (.int tB), .val (.int oa), .val (.int k), .val (.int da), .val (.int db), .val (.int ra), .val (.int rb), .val (.ref b9), .val (.ref b18), .val (.ref b27), .val (.ref b31), .val (.int ex)] [(.int (if ra = ra ∧ ([ca] : List Int32) = ([ca] : List Int32) then 1 else 0 : Int32))])
                                refine own_if (t := 401) (q := 394) X43 hx (hb hby at_394) (by decide) (by decide) (fun hq => ?_) (fun hq => ?_)
                                · have hc394 := own_h_eq.1 hq
                                  exact (own_one_ne (if_pos ⟨rfl, rfl⟩) hc394).elim
                                · have hc394 := own_h_eq.2 hq
                                  refine own_iconst (q := 397) X43 hx (hb hby at_397) (x := (1 : Int32)) rfl ?_
                                  refine own_goto (t := 402) (q := 398) X43 hx (hb hby at_398) (by decide) (by decide) ?_
                                  exact own_retNW (q := 402) X43 hx hS33 (by rw [hh43]; exact hk33) (t := .boolean) Bd.returns hlk (by simp) (hb hby at_402) rfl (by decide) (by decide) (by show Q0 Z c1_ c2_ r1_ r2_ md_ zCOMPACT h0 n0 _ T43.heap _; rw [hh43]; exact ⟨rfl, N43⟩)
                          · have hj361 := True.intro
                            refine own_icmp (t := 360) (q := 327) X33 hx (hb hby at_327) (by decide) (by decide) (fun hq => ?_) (fun hq => ?_)
                            · have hc327 := own_c_ne.1 hq
                              refine own_iconst (q := 360) X33 hx (hb hby at_360) (x := (0 : Int32)) rfl ?_
                              exact J361 _ X33 rfl (0 : Int32) (by rw [if_neg (fun q => hc327 q.1)])
                            · have hc327 := own_c_ne.2 hq
                              refine own_iload (q := 330) X33 hx (hb hby at_330) rfl ?_
                              refine own_iload (q := 332) X33 hx (hb hby at_332) rfl ?_
                              refine own_icmp (t := 360) (q := 334) X33 hx (hb hby at_334) (by decide) (by decide) (fun hq => ?_) (fun hq => ?_)
                              · have hc334 := own_c_ne.1 hq
                                exact absurd (hc162.trans hc207.symm) hc334
                              · have hc334 := own_c_ne.2 hq
                                refine own_iload (q := 337) X33 hx (hb hby at_337) rfl ?_
                                refine own_iload (q := 339) X33 hx (hb hby at_339) rfl ?_
                                refine own_icmp (t := 360) (q := 341) X33 hx (hb hby at_341) (by decide) (by decide) (fun hq => ?_) (fun hq => ?_)
                                · have hc341 := own_c_ne.1 hq
                                  refine own_iconst (q := 360) X33 hx (hb hby at_360) (x := (0 : Int32)) rfl ?_
                                  exact J361 _ X33 rfl (0 : Int32) (by rw [if_neg (fun q => hc341 (List.cons.inj q.2).1.symm)])
                                · have hc341 := own_c_ne.2 hq
                                  refine own_iload (q := 344) X33 hx (hb hby at_344) rfl ?_
                                  refine own_if (t := 356) (q := 346) X33 hx (hb hby at_346) (by decide) (by decide) (fun hq => ?_) (fun hq => ?_)
                                  · have hc346 := own_h_eq.1 hq
                                    refine own_iconst (q := 356) X33 hx (hb hby at_356) (x := (1 : Int32)) rfl ?_
                                    refine own_goto (t := 361) (q := 357) X33 hx (hb hby at_357) (by decide) (by decide) ?_
                                    exact J361 _ X33 rfl (1 : Int32) (by rw [if_pos ⟨hc327, (by rw [hc341])⟩])
                                  · have hc346 := own_h_eq.2 hq
                                    exact absurd hc162 hc346
                        · have hc300 := own_c_ne.2 hq
                          refine own_aload (q := 303) X33 hx (hb hby at_303) rfl rfl ?_
                          refine own_astore (q := 305) X33 hx (hb hby at_305) rfl (A' := #[.val (.int c1_), .val (.int c2_), .val (.int r1_), .val (.int r2_), .val (.int md_), .val (.int ca), .val (.int cb), .val (.int tA), .val (.int o0), .val (.int o1), .val (.int tB), .val (.int oa), .val (.int k), .val (.int da), .val (.int db), .val (.int ra), .val (.int rb), .val (.ref b9), .val (.ref b18), .val (.ref b27), .val (.ref b31), .val (.ref b9)]) rfl ?_
                          refine own_aload (q := 307) X33 hx (hb hby at_307) rfl rfl ?_
                          refine own_aload (q := 309) X33 hx (hb hby at_309) rfl rfl ?_
                          have c44 := (Fld.keep (Fld.ext E31 Fn29) Kp33 (ninS (Nat.ne_of_lt (Nat.lt_of_lt_of_le Ex29.lt (Nat.le_of_eq gg31.symm))) nin0))
                          have c45 := (Fld.keep (Fld.ext E31 Fs29) Kp33 (ninS (Nat.ne_of_lt (Nat.lt_of_lt_of_le Ex29.lt (Nat.le_of_eq gg31.symm))) nin0))
                          have c46 := (own_Str.keep (own_Str.ext E31 (own_Str.keep c28 Kp29 (ninS (Nat.ne_of_lt (Nat.lt_of_lt_of_le (Nat.lt_of_lt_of_le Sf16.lt (Nat.le_trans (Nat.le_trans (Nat.le_trans E18.1 E19.1) (Keep.of_wr W21).1) Kp25.1)) (Nat.le_of_eq gg27.symm))) nin0) (ninS (Nat.ne_of_lt (Nat.lt_of_lt_of_le (Nat.lt_of_lt_of_le Sf16.lt2 (Nat.le_trans (Nat.le_trans (Nat.le_trans E18.1 E19.1) (Keep.of_wr W21).1) Kp25.1)) (Nat.le_of_eq gg27.symm))) nin0))) Kp33 (ninS (Nat.ne_of_lt (Nat.lt_of_lt_of_le (Nat.lt_of_lt_of_le c28.lt Kp29.1) (Nat.le_of_eq gg31.symm))) nin0) (ninS (Nat.ne_of_lt (Nat.lt_of_lt_of_le (Nat.lt_of_lt_of_le c28.lt2 Kp29.1) (Nat.le_of_eq gg31.symm))) nin0))
                          have c48 := (Exa.keep (Exa.ext E31 Ex29) Kp33)
                          refine own_virtual (q := 311) (y := (⟨"com/example/tightrope/tightrope/logic/Predicate", "equals", "(Ljava/lang/Object;)Z"⟩ : MethodName)) (z := (⟨"com/example/tightrope/tightrope/logic/Predicate", "equals", "(Ljava/lang/Object;)Z"⟩ : MethodName)) (b := b27) (argsL := [(.ref b9)]) (S := []) (W := 0) X33 hx hZ33 hown33 (hw _ (List.mem_of_getElem? (i := 54) rfl)) (hw _ (List.mem_of_getElem? (i := 55) rfl)) (notFace_of_selects (args := #[]) (mvT hZ33 (hw _ (List.mem_of_getElem? (i := 57) rfl)))) (hw _ (List.mem_of_getElem? (i := 57) rfl)) (hw _ (List.mem_of_getElem? (i := 56) rfl)) (by decide) (backOf (W := 0) (rm6s l Z a0 hw [] b27 b9 b9 t16 ([ca] : List Int32) ra zCOMPACT T33.heap n0 O34 c44 c45 c46 c46.1 SCOMPACT hCOMPACT) hZ33 (hw _ (List.mem_of_getElem? (i := 58) rfl)) (hw _ (List.mem_of_getElem? (i := 33) rfl)) (by decide) (by decide)) rfl c48 (by rw [hml]; rfl) (lenOf own_pd__28Ljava_2flang_2fObject_3b_29Z rfl) rfl (Nat.le_of_eq rfl) (hb hby at_311) (by decide) (by decide) (fun T47 L47 v47 X47 hQ47 => ?_)
                          obtain ⟨rfl, N47q, hh47⟩ := hQ47
                          have N47 := Fr.app N33 N47q
                          show own_G p e below _ T47 (mkF m 314 #[.val (.int c1_), .val (.int c2_), .val (.int r1_), .val (.int r2_), .val (.int md_), .val (.int ca), .val (.int cb), .val (.int tA), .val (.int o0), .val (.int o1), .val (.int tB), .val (.int oa), .val (.int k), .val (.int da), .val (.int db), .val (.int ra), .val (.int rb), .val (.ref b9), .val (.ref b18), .val (.ref b27), .val (.ref b31), .val (.ref b9)] [(.int (0 : Int32))])
                          refine own_if (t := 321) (q := 314) X47 hx (hb hby at_314) (by decide) (by decide) (fun hq => ?_) (fun hq => ?_)
                          · have hc314 := own_h_ne.1 hq
                            exact absurd rfl hc314
                          · have hc314 := own_h_ne.2 hq
                            refine own_iconst (q := 317) X47 hx (hb hby at_317) (x := (1 : Int32)) rfl ?_
                            refine own_goto (t := 322) (q := 318) X47 hx (hb hby at_318) (by decide) (by decide) ?_
                            exact own_retNW (q := 322) X47 hx hS33 (by rw [hh47]; exact hk33) (t := .boolean) Bd.returns hlk (by simp) (hb hby at_322) rfl (by decide) (by decide) (by show Q0 Z c1_ c2_ r1_ r2_ md_ zCOMPACT h0 n0 _ T47.heap _; rw [hh47]; exact ⟨rfl, N47⟩)
                      · have hc279 := own_c_ne.2 hq
                        refine own_aload (q := 282) X33 hx (hb hby at_282) rfl rfl ?_
                        refine own_anull (q := 284) X33 hx (hb hby at_284) ?_
                        have c49 := (Fld.keep (Fld.ext E31 Fn29) Kp33 (ninS (Nat.ne_of_lt (Nat.lt_of_lt_of_le Ex29.lt (Nat.le_of_eq gg31.symm))) nin0))
                        have c50 := (Fld.keep (Fld.ext E31 Fs29) Kp33 (ninS (Nat.ne_of_lt (Nat.lt_of_lt_of_le Ex29.lt (Nat.le_of_eq gg31.symm))) nin0))
                        have c51 := (own_Str.keep (own_Str.ext E31 (own_Str.keep c28 Kp29 (ninS (Nat.ne_of_lt (Nat.lt_of_lt_of_le (Nat.lt_of_lt_of_le Sf16.lt (Nat.le_trans (Nat.le_trans (Nat.le_trans E18.1 E19.1) (Keep.of_wr W21).1) Kp25.1)) (Nat.le_of_eq gg27.symm))) nin0) (ninS (Nat.ne_of_lt (Nat.lt_of_lt_of_le (Nat.lt_of_lt_of_le Sf16.lt2 (Nat.le_trans (Nat.le_trans (Nat.le_trans E18.1 E19.1) (Keep.of_wr W21).1) Kp25.1)) (Nat.le_of_eq gg27.symm))) nin0))) Kp33 (ninS (Nat.ne_of_lt (Nat.lt_of_lt_of_le (Nat.lt_of_lt_of_le c28.lt Kp29.1) (Nat.le_of_eq gg31.symm))) nin0) (ninS (Nat.ne_of_lt (Nat.lt_of_lt_of_le (Nat.lt_of_lt_of_le c28.lt2 Kp29.1) (Nat.le_of_eq gg31.symm))) nin0))
                        have c53 := (Exa.keep (Exa.ext E31 Ex29) Kp33)
                        refine own_virtual (q := 285) (y := (⟨"com/example/tightrope/tightrope/logic/Predicate", "equals", "(Ljava/lang/Object;)Z"⟩ : MethodName)) (z := (⟨"com/example/tightrope/tightrope/logic/Predicate", "equals", "(Ljava/lang/Object;)Z"⟩ : MethodName)) (b := b27) (argsL := [.null]) (S := []) (W := 0) X33 hx hZ33 hown33 (hw _ (List.mem_of_getElem? (i := 54) rfl)) (hw _ (List.mem_of_getElem? (i := 55) rfl)) (notFace_of_selects (args := #[]) (mvT hZ33 (hw _ (List.mem_of_getElem? (i := 57) rfl)))) (hw _ (List.mem_of_getElem? (i := 57) rfl)) (hw _ (List.mem_of_getElem? (i := 56) rfl)) (by decide) (backOf (W := 0) (rm6n l Z a0 hw [] b27 b9 t16 ([ca] : List Int32) ra zCOMPACT T33.heap n0 O34 c49 c50 c51 SCOMPACT hCOMPACT) hZ33 (hw _ (List.mem_of_getElem? (i := 58) rfl)) (hw _ (List.mem_of_getElem? (i := 33) rfl)) (by decide) (by decide)) rfl c53 (by rw [hml]; rfl) (lenOf own_pd__28Ljava_2flang_2fObject_3b_29Z rfl) rfl (Nat.le_of_eq rfl) (hb hby at_285) (by decide) (by decide) (fun T52 L52 v52 X52 hQ52 => ?_)
                        obtain ⟨rfl, N52q, hh52⟩ := hQ52
                        have N52 := Fr.app N33 N52q
                        show own_G p e below _ T52 (mkF m 288 #[.val (.int c1_), .val (.int c2_), .val (.int r1_), .val (.int r2_), .val (.int md_), .val (.int ca), .val (.int cb), .val (.int tA), .val (.int o0), .val (.int o1), .val (.int tB), .val (.int oa), .val (.int k), .val (.int da), .val (.int db), .val (.int ra), .val (.int rb), .val (.ref b9), .val (.ref b18), .val (.ref b27), .val (.ref b31), .unset] [(.int (0 : Int32))])
                        refine own_if (t := 295) (q := 288) X52 hx (hb hby at_288) (by decide) (by decide) (fun hq => ?_) (fun hq => ?_)
                        · have hc288 := own_h_ne.1 hq
                          exact absurd rfl hc288
                        · have hc288 := own_h_ne.2 hq
                          refine own_iconst (q := 291) X52 hx (hb hby at_291) (x := (1 : Int32)) rfl ?_
                          refine own_goto (t := 296) (q := 292) X52 hx (hb hby at_292) (by decide) (by decide) ?_
                          exact own_retNW (q := 296) X52 hx hS33 (by rw [hh52]; exact hk33) (t := .boolean) Bd.returns hlk (by simp) (hb hby at_296) rfl (by decide) (by decide) (by show Q0 Z c1_ c2_ r1_ r2_ md_ zCOMPACT h0 n0 _ T52.heap _; rw [hh52]; exact ⟨rfl, N52⟩)
                    · have hc207 := own_h_eq.2 hq
                      obtain ⟨T54, h54, X54, e54, E54, A54, D54, -, st54⟩ := newO X16 hx hZ hown (hw _ (List.mem_of_getElem? (i := 1) rfl)) (hw _ (List.mem_of_getElem? (i := 2) rfl)) (hw _ (List.mem_of_getElem? (i := 3) rfl)) rfl (g := (mkF m 210 #[.val (.int c1_), .val (.int c2_), .val (.int r1_), .val (.int r2_), .val (.int md_), .val (.int ca), .val (.int cb), .val (.int tA), .val (.int o0), .val (.int o1), .val (.int tB), .val (.int oa), .val (.int k), .val (.int da), .val (.int db), .val (.int ra), .val (.int rb), .val (.ref b9), .unset, .unset, .unset, .unset] [])) rfl (hb hby at_210) (by decide) (by decide)
                      obtain ⟨b54, gg54⟩ : ∃ z, z = T16.heap.size := ⟨_, rfl⟩
                      rw [← gg54] at A54 D54 st54
                      refine own_st st54 ?_
                      have g_b54 : n0 ≤ b54 := by rw [gg54, ← O17.1]; exact O17.2.1
                      have O54 := Old.ext O17 E54
                      have F54_coder : Fld Z h54 b54 "java/lang/String" "coder" "B" (.int (0 : Int32)) := D54 (Or.inr (hw _ (List.mem_of_getElem? (i := 28) rfl))) (ty := .byte) (by decide)
                      have F54_value : Fld Z h54 b54 "java/lang/String" "value" "[B" .null := D54 (Or.inr (hw _ (List.mem_of_getElem? (i := 30) rfl))) (ty := (.array .byte)) (by decide)
                      show own_G p e below _ T54 (mkF m 213 #[.val (.int c1_), .val (.int c2_), .val (.int r1_), .val (.int r2_), .val (.int md_), .val (.int ca), .val (.int cb), .val (.int tA), .val (.int o0), .val (.int o1), .val (.int tB), .val (.int oa), .val (.int k), .val (.int da), .val (.int db), .val (.int ra), .val (.int rb), .val (.ref b9), .unset, .unset, .unset, .unset] [(.ref b54)])
                      refine own_dup (q := 213) X54 hx (hb hby at_213) rfl ?_
                      refine own_iconst (q := 214) X54 hx (hb hby at_214) (x := (2 : Int32)) rfl ?_
                      obtain ⟨T55, h55, k55, X55, e55, E55, A55, st55⟩ := newP X54 hx hZ (hw _ (List.mem_of_getElem? (i := 4) rfl)) e54 (g := (mkF m 215 #[.val (.int c1_), .val (.int c2_), .val (.int r1_), .val (.int r2_), .val (.int md_), .val (.int ca), .val (.int cb), .val (.int tA), .val (.int o0), .val (.int o1), .val (.int tB), .val (.int oa), .val (.int k), .val (.int da), .val (.int db), .val (.int ra), .val (.int rb), .val (.ref b9), .unset, .unset, .unset, .unset] [(.int (2 : Int32)), (.ref b54), (.ref b54)])) rfl (hb hby at_215) rfl (by decide) (cap := 2) (by decide) (by decide) (by decide) (by decide)
                      obtain ⟨b55, gg55⟩ : ∃ z, z = h54.size := ⟨_, rfl⟩
                      rw [← gg55] at A55 st55
                      refine own_st st55 ?_
                      have g_b55 : n0 ≤ b55 := by rw [gg55, ← O54.1]; exact O54.2.1
                      have O55 := Old.ext O54 E55
                      have V55 : Arv Z h55 b55 k55 .char (2 : Int32) [(.int (0 : Int32)), (.int (0 : Int32))] (.int (0 : Int32)) := (Arv.new A55 (by decide)).pad (pad_rep [] (.int (0 : Int32)) 2)
                      show own_G p e below _ T55 (mkF m 217 #[.val (.int c1_), .val (.int c2_), .val (.int r1_), .val (.int r2_), .val (.int md_), .val (.int ca), .val (.int cb), .val (.int tA), .val (.int o0), .val (.int o1), .val (.int tB), .val (.int oa), .val (.int k), .val (.int da), .val (.int db), .val (.int ra), .val (.int rb), .val (.ref b9), .unset, .unset, .unset, .unset] [(.ref b55), (.ref b54), (.ref b54)])
                      refine own_dup (q := 217) X55 hx (hb hby at_217) rfl ?_
                      refine own_iconst (q := 218) X55 hx (hb hby at_218) (x := (0 : Int32)) rfl ?_
                      refine own_iload (q := 219) X55 hx (hb hby at_219) rfl ?_
                      obtain ⟨cl56, Ar56, Aq56, As56, An56, Ah56, Ag56⟩ := V55
                      obtain ⟨T57, h57, X57, e57, W57, st57⟩ := stC X55 hx hZ e55 Ar56 (j := (0 : Int32)) (inb_of As56 ⟨by decide, by decide⟩) (g := (mkF m 221 #[.val (.int c1_), .val (.int c2_), .val (.int r1_), .val (.int r2_), .val (.int md_), .val (.int ca), .val (.int cb), .val (.int tA), .val (.int o0), .val (.int o1), .val (.int tB), .val (.int oa), .val (.int k), .val (.int da), .val (.int db), .val (.int ra), .val (.int rb), .val (.ref b9), .unset, .unset, .unset, .unset] [(.int da), (.int (0 : Int32)), (.ref b55), (.ref b55), (.ref b54), (.ref b54)])) rfl rfl (hb hby at_221)
                      refine own_st st57 ?_
                      have V57 : Arv Z h57 b55 k55 .char (2 : Int32) [(.int (nar .char da)), (.int (0 : Int32))] (.int (0 : Int32)) := Arv.set Ar56 Aq56 As56 An56 Ah56 Ag56 (fits_nar_char _) W57 0 rfl (Nat.le_of_ble_eq_true rfl)
                      rw [n_da] at V57
                      have N57 := Fr.snoc X57 N16 g_b55
                      have O57 := Old.wr O55 W57 g_b55
                      show own_G p e below _ T57 (mkF m 222 #[.val (.int c1_), .val (.int c2_), .val (.int r1_), .val (.int r2_), .val (.int md_), .val (.int ca), .val (.int cb), .val (.int tA), .val (.int o0), .val (.int o1), .val (.int tB), .val (.int oa), .val (.int k), .val (.int da), .val (.int db), .val (.int ra), .val (.int rb), .val (.ref b9), .unset, .unset, .unset, .unset] [(.ref b55), (.ref b54), (.ref b54)])
                      refine own_dup (q := 222) X57 hx (hb hby at_222) rfl ?_
                      refine own_iconst (q := 223) X57 hx (hb hby at_223) (x := (1 : Int32)) rfl ?_
                      refine own_iload (q := 224) X57 hx (hb hby at_224) rfl ?_
                      obtain ⟨cl58, Ar58, Aq58, As58, An58, Ah58, Ag58⟩ := V57
                      obtain ⟨T59, h59, X59, e59, W59, st59⟩ := stC X57 hx hZ e57 Ar58 (j := (1 : Int32)) (inb_of As58 ⟨by decide, by decide⟩) (g := (mkF m 226 #[.val (.int c1_), .val (.int c2_), .val (.int r1_), .val (.int r2_), .val (.int md_), .val (.int ca), .val (.int cb), .val (.int tA), .val (.int o0), .val (.int o1), .val (.int tB), .val (.int oa), .val (.int k), .val (.int da), .val (.int db), .val (.int ra), .val (.int rb), .val (.ref b9), .unset, .unset, .unset, .unset] [(.int db), (.int (1 : Int32)), (.ref b55), (.ref b55), (.ref b54), (.ref b54)])) rfl rfl (hb hby at_226)
                      refine own_st st59 ?_
                      have V59 : Arv Z h59 b55 k55 .char (2 : Int32) [(.int da), (.int (nar .char db))] (.int (0 : Int32)) := Arv.set Ar58 Aq58 As58 An58 Ah58 Ag58 (fits_nar_char _) W59 1 rfl (Nat.le_of_ble_eq_true rfl)
                      rw [n_db] at V59
                      have N59 := Fr.snoc X59 N57 g_b55
                      have O59 := Old.wr O57 W59 g_b55
                      show own_G p e below _ T59 (mkF m 227 #[.val (.int c1_), .val (.int c2_), .val (.int r1_), .val (.int r2_), .val (.int md_), .val (.int ca), .val (.int cb), .val (.int tA), .val (.int o0), .val (.int o1), .val (.int tB), .val (.int oa), .val (.int k), .val (.int da), .val (.int db), .val (.int ra), .val (.int rb), .val (.ref b9), .unset, .unset, .unset, .unset] [(.ref b55), (.ref b54), (.ref b54)])
                      have c60 := (Exa.wr W59 (Exa.wr W57 (Exa.ext E55 A54)))
                      have c61 := (Fld.other W59 (Fld.other W57 (Fld.ext E55 F54_value) (Or.inl (Nat.ne_of_lt (Nat.lt_of_lt_of_le A54.lt (Nat.le_of_eq gg55.symm))))) (Or.inl (Nat.ne_of_lt (Nat.lt_of_lt_of_le A54.lt (Nat.le_of_eq gg55.symm)))))
                      have c62 := (Fld.other W59 (Fld.other W57 (Fld.ext E55 F54_coder) (Or.inl (Nat.ne_of_lt (Nat.lt_of_lt_of_le A54.lt (Nat.le_of_eq gg55.symm))))) (Or.inl (Nat.ne_of_lt (Nat.lt_of_lt_of_le A54.lt (Nat.le_of_eq gg55.symm)))))
                      refine own_init (q := 227) (y := (⟨"java/lang/String", "<init>", "([C)V"⟩ : MethodName)) (b := b54) (argsL := [(.ref b55)]) (S := [(.ref b54)]) (W := 1) rfl X59 hx hZ hown (hw _ (List.mem_of_getElem? (i := 5) rfl)) (hw _ (List.mem_of_getElem? (i := 6) rfl)) (hw _ (List.mem_of_getElem? (i := 7) rfl)) (by decide) (own_newB (W := 1) (cs := ([da, db] : List Int32)) (n := 2) hZ hw (hw _ (List.mem_of_getElem? (i := 2) rfl)) O59 g_b54 c60 c61 c62 V59 SCOMPACT hCOMPACT rfl rfl (by decide) (by decide) (own_csS ⟨l_da, u_da⟩ (own_csS ⟨l_db, u_db⟩ own_cs0)) (by decide) (by decide)) e59 (by rw [hml]; rfl) (lenOf own_pd__28_5bC_29V rfl) rfl (Nat.le_of_eq rfl) (hb hby at_227) (by decide) (by decide) (fun T63 L63 v63 X63 hQ63 => ?_)
                      obtain ⟨rfl, Nq63, Kp63, t63, g_t63, ht63, hne63, Sf63⟩ := hQ63
                      have N63 := Fr.app N59 Nq63
                      have O64 := Old.keep O59 Kp63 (allS g_b54 all0)
                      show own_G p e below _ T63 (mkF m 230 #[.val (.int c1_), .val (.int c2_), .val (.int r1_), .val (.int r2_), .val (.int md_), .val (.int ca), .val (.int cb), .val (.int tA), .val (.int o0), .val (.int o1), .val (.int tB), .val (.int oa), .val (.int k), .val (.int da), .val (.int db), .val (.int ra), .val (.int rb), .val (.ref b9), .unset, .unset, .unset, .unset] [(.ref b54)])
                      refine own_goto (t := 248) (q := 230) X63 hx (hb hby at_230) (by decide) (by decide) ?_
                      refine own_astore (q := 248) X63 hx (hb hby at_248) rfl (A' := #[.val (.int c1_), .val (.int c2_), .val (.int r1_), .val (.int r2_), .val (.int md_), .val (.int ca), .val (.int cb), .val (.int tA), .val (.int o0), .val (.int o1), .val (.int tB), .val (.int oa), .val (.int k), .val (.int da), .val (.int db), .val (.int ra), .val (.int rb), .val (.ref b9), .val (.ref b54), .unset, .unset, .unset]) rfl ?_
                      obtain ⟨T65, h65, X65, e65, E65, A65, D65, -, st65⟩ := newO X63 hx hZ hown (hw _ (List.mem_of_getElem? (i := 31) rfl)) (hw _ (List.mem_of_getElem? (i := 32) rfl)) (hw _ (List.mem_of_getElem? (i := 33) rfl)) rfl (g := (mkF m 250 #[.val (.int c1_), .val (.int c2_), .val (.int r1_), .val (.int r2_), .val (.int md_), .val (.int ca), .val (.int cb), .val (.int tA), .val (.int o0), .val (.int o1), .val (.int tB), .val (.int oa), .val (.int k), .val (.int da), .val (.int db), .val (.int ra), .val (.int rb), .val (.ref b9), .val (.ref b54), .unset, .unset, .unset] [])) rfl (hb hby at_250) (by decide) (by decide)
                      obtain ⟨b65, gg65⟩ : ∃ z, z = T63.heap.size := ⟨_, rfl⟩
                      rw [← gg65] at A65 D65 st65
                      refine own_st st65 ?_
                      have g_b65 : n0 ≤ b65 := by rw [gg65, ← O64.1]; exact O64.2.1
                      have O65 := Old.ext O64 E65
                      have F65_name : Fld Z h65 b65 "com/example/tightrope/tightrope/logic/Predicate" "name" "Ljava/lang/String;" .null := D65 (Or.inr (hw _ (List.mem_of_getElem? (i := 51) rfl))) (ty := (.object "java/lang/String")) (by decide)
                      have F65_arity : Fld Z h65 b65 "com/example/tightrope/tightrope/logic/Predicate" "arity" "I" (.int (0 : Int32)) := D65 (Or.inr (hw _ (List.mem_of_getElem? (i := 53) rfl))) (ty := .int) (by decide)
                      show own_G p e below _ T65 (mkF m 253 #[.val (.int c1_), .val (.int c2_), .val (.int r1_), .val (.int r2_), .val (.int md_), .val (.int ca), .val (.int cb), .val (.int tA), .val (.int o0), .val (.int o1), .val (.int tB), .val (.int oa), .val (.int k), .val (.int da), .val (.int db), .val (.int ra), .val (.int rb), .val (.ref b9), .val (.ref b54), .unset, .unset, .unset] [(.ref b65)])
                      refine own_dup (q := 253) X65 hx (hb hby at_253) rfl ?_
                      refine own_aload (q := 254) X65 hx (hb hby at_254) rfl rfl ?_
                      refine own_iload (q := 256) X65 hx (hb hby at_256) rfl ?_
                      have c66 := (own_Str.ext E65 (own_Str.keep (own_Str.other (own_Str.other (own_Str.ext E55 (own_Str.ext E54 Sf16)) W57 (Nat.ne_of_lt (Nat.lt_of_lt_of_le (Nat.lt_of_lt_of_le Sf16.lt E54.1) (Nat.le_of_eq gg55.symm))) (Nat.ne_of_lt (Nat.lt_of_lt_of_le (Nat.lt_of_lt_of_le Sf16.lt2 E54.1) (Nat.le_of_eq gg55.symm)))) W59 (Nat.ne_of_lt (Nat.lt_of_lt_of_le (Nat.lt_of_lt_of_le Sf16.lt E54.1) (Nat.le_of_eq gg55.symm))) (Nat.ne_of_lt (Nat.lt_of_lt_of_le (Nat.lt_of_lt_of_le Sf16.lt2 E54.1) (Nat.le_of_eq gg55.symm)))) Kp63 (ninS (Nat.ne_of_lt (Nat.lt_of_lt_of_le Sf16.lt (Nat.le_of_eq gg54.symm))) nin0) (ninS (Nat.ne_of_lt (Nat.lt_of_lt_of_le Sf16.lt2 (Nat.le_of_eq gg54.symm))) nin0)))
                      refine own_initS (q := 258) (y := (⟨"com/example/tightrope/tightrope/logic/Predicate", "<init>", "(Ljava/lang/String;I)V"⟩ : MethodName)) (b := b65) (argsL := [(.ref b9), (.int ra)]) (S := [(.ref b65)]) (W := 1) rfl X65 hx hZ hS0 hown (hw _ (List.mem_of_getElem? (i := 34) rfl)) (hw _ (List.mem_of_getElem? (i := 35) rfl)) (hw _ (List.mem_of_getElem? (i := 36) rfl)) (by decide) (backOfS (W := 1) (rm4 l Z a0 hw [] b65 b9 ra t16 ([ca] : List Int32) h65 n0 O65 A65 F65_name F65_arity g_b65 c66 (by simp) hr1) hZ (hw _ (List.mem_of_getElem? (i := 36) rfl)) (hw _ (List.mem_of_getElem? (i := 33) rfl)) (by decide) (by decide)) e65 (Nat.le_trans (Nat.le_trans (Nat.le_trans (Nat.le_trans (Nat.le_trans (Nat.le_trans (Nat.le_trans (Nat.le_trans (Nat.le_trans (Nat.le_trans hk0 E9.1) E10.1) (Keep.of_wr W12).1) Kp16.1) E54.1) E55.1) (Keep.of_wr W57).1) (Keep.of_wr W59).1) Kp63.1) E65.1) (by rw [hml]; rfl) (lenOf own_pd__28Ljava_2flang_2fString_3bI_29V rfl) rfl (Nat.le_of_eq rfl) (hb hby at_258) (by decide) (by decide) (fun T67 L67 v67 k67 X67 hS67 hk67 hZ67 hown67 hQ67 => ?_)
                      obtain ⟨rfl, N67q, Kp67, Ex67, Fn67, Fs67⟩ := hQ67
                      have N67 := Fr.app N63 N67q
                      have O68 := Old.keep O65 Kp67 (allS g_b65 all0)
                      show own_G p e below _ T67 (mkF m 261 #[.val (.int c1_), .val (.int c2_), .val (.int r1_), .val (.int r2_), .val (.int md_), .val (.int ca), .val (.int cb), .val (.int tA), .val (.int o0), .val (.int o1), .val (.int tB), .val (.int oa), .val (.int k), .val (.int da), .val (.int db), .val (.int ra), .val (.int rb), .val (.ref b9), .val (.ref b54), .unset, .unset, .unset] [(.ref b65)])
                      refine own_astore (q := 261) X67 hx (hb hby at_261) rfl (A' := #[.val (.int c1_), .val (.int c2_), .val (.int r1_), .val (.int r2_), .val (.int md_), .val (.int ca), .val (.int cb), .val (.int tA), .val (.int o0), .val (.int o1), .val (.int tB), .val (.int oa), .val (.int k), .val (.int da), .val (.int db), .val (.int ra), .val (.int rb), .val (.ref b9), .val (.ref b54), .val (.ref b65), .unset, .unset]) rfl ?_
                      obtain ⟨T69, h69, X69, e69, E69, A69, D69, -, st69⟩ := newO X67 hx hZ67 hown67 (hw _ (List.mem_of_getElem? (i := 31) rfl)) (hw _ (List.mem_of_getElem? (i := 32) rfl)) (hw _ (List.mem_of_getElem? (i := 33) rfl)) rfl (g := (mkF m 263 #[.val (.int c1_), .val (.int c2_), .val (.int r1_), .val (.int r2_), .val (.int md_), .val (.int ca), .val (.int cb), .val (.int tA), .val (.int o0), .val (.int o1), .val (.int tB), .val (.int oa), .val (.int k), .val (.int da), .val (.int db), .val (.int ra), .val (.int rb), .val (.ref b9), .val (.ref b54), .val (.ref b65), .unset, .unset] [])) rfl (hb hby at_263) (by decide) (by decide)
                      obtain ⟨b69, gg69⟩ : ∃ z, z = T67.heap.size := ⟨_, rfl⟩
                      rw [← gg69] at A69 D69 st69
                      refine own_st st69 ?_
                      have g_b69 : n0 ≤ b69 := by rw [gg69, ← O68.1]; exact O68.2.1
                      have O69 := Old.ext O68 E69
                      have F69_name : Fld Z h69 b69 "com/example/tightrope/tightrope/logic/Predicate" "name" "Ljava/lang/String;" .null := D69 (Or.inr (hw _ (List.mem_of_getElem? (i := 51) rfl))) (ty := (.object "java/lang/String")) (by decide)
                      have F69_arity : Fld Z h69 b69 "com/example/tightrope/tightrope/logic/Predicate" "arity" "I" (.int (0 : Int32)) := D69 (Or.inr (hw _ (List.mem_of_getElem? (i := 53) rfl))) (ty := .int) (by decide)
                      show own_G p e below _ T69 (mkF m 266 #[.val (.int c1_), .val (.int c2_), .val (.int r1_), .val (.int r2_), .val (.int md_), .val (.int ca), .val (.int cb), .val (.int tA), .val (.int o0), .val (.int o1), .val (.int tB), .val (.int oa), .val (.int k), .val (.int da), .val (.int db), .val (.int ra), .val (.int rb), .val (.ref b9), .val (.ref b54), .val (.ref b65), .unset, .unset] [(.ref b69)])
                      refine own_dup (q := 266) X69 hx (hb hby at_266) rfl ?_
                      refine own_aload (q := 267) X69 hx (hb hby at_267) rfl rfl ?_
                      refine own_iload (q := 269) X69 hx (hb hby at_269) rfl ?_
                      have c70 := (own_Str.ext E69 (own_Str.keep (own_Str.ext E65 Sf63) Kp67 (ninS (Nat.ne_of_lt (Nat.lt_of_lt_of_le Sf63.lt (Nat.le_of_eq gg65.symm))) nin0) (ninS (Nat.ne_of_lt (Nat.lt_of_lt_of_le Sf63.lt2 (Nat.le_of_eq gg65.symm))) nin0)))
                      refine own_initS (q := 271) (y := (⟨"com/example/tightrope/tightrope/logic/Predicate", "<init>", "(Ljava/lang/String;I)V"⟩ : MethodName)) (b := b69) (argsL := [(.ref b54), (.int rb)]) (S := [(.ref b69)]) (W := 1) rfl X69 hx hZ67 hS67 hown67 (hw _ (List.mem_of_getElem? (i := 34) rfl)) (hw _ (List.mem_of_getElem? (i := 35) rfl)) (hw _ (List.mem_of_getElem? (i := 36) rfl)) (by decide) (backOfS (W := 1) (rm4 l Z a0 hw [] b69 b54 rb t63 ([da, db] : List Int32) h69 n0 O69 A69 F69_name F69_arity g_b69 c70 (by simp) h_rb) hZ67 (hw _ (List.mem_of_getElem? (i := 36) rfl)) (hw _ (List.mem_of_getElem? (i := 33) rfl)) (by decide) (by decide)) e69 (Nat.le_trans hk67 E69.1) (by rw [hml]; rfl) (lenOf own_pd__28Ljava_2flang_2fString_3bI_29V rfl) rfl (Nat.le_of_eq rfl) (hb hby at_271) (by decide) (by decide) (fun T71 L71 v71 k71 X71 hS71 hk71 hZ71 hown71 hQ71 => ?_)
                      obtain ⟨rfl, N71q, Kp71, Ex71, Fn71, Fs71⟩ := hQ71
                      have N71 := Fr.app N67 N71q
                      have O72 := Old.keep O69 Kp71 (allS g_b69 all0)
                      show own_G p e below _ T71 (mkF m 274 #[.val (.int c1_), .val (.int c2_), .val (.int r1_), .val (.int r2_), .val (.int md_), .val (.int ca), .val (.int cb), .val (.int tA), .val (.int o0), .val (.int o1), .val (.int tB), .val (.int oa), .val (.int k), .val (.int da), .val (.int db), .val (.int ra), .val (.int rb), .val (.ref b9), .val (.ref b54), .val (.ref b65), .unset, .unset] [(.ref b69)])
                      refine own_astore (q := 274) X71 hx (hb hby at_274) rfl (A' := #[.val (.int c1_), .val (.int c2_), .val (.int r1_), .val (.int r2_), .val (.int md_), .val (.int ca), .val (.int cb), .val (.int tA), .val (.int o0), .val (.int o1), .val (.int tB), .val (.int oa), .val (.int k), .val (.int da), .val (.int db), .val (.int ra), .val (.int rb), .val (.ref b9), .val (.ref b54), .val (.ref b65), .val (.ref b69), .unset]) rfl ?_
                      refine own_iload (q := 276) X71 hx (hb hby at_276) rfl ?_
                      refine own_iconst (q := 278) X71 hx (hb hby at_278) (x := (1 : Int32)) rfl ?_
                      refine own_icmp (t := 297) (q := 279) X71 hx (hb hby at_279) (by decide) (by decide) (fun hq => ?_) (fun hq => ?_)
                      · have hc279 := own_c_ne.1 hq
                        refine own_iload (q := 297) X71 hx (hb hby at_297) rfl ?_
                        refine own_iconst (q := 299) X71 hx (hb hby at_299) (x := (2 : Int32)) rfl ?_
                        refine own_icmp (t := 323) (q := 300) X71 hx (hb hby at_300) (by decide) (by decide) (fun hq => ?_) (fun hq => ?_)
                        · have hc300 := own_c_ne.1 hq
                          refine own_iload (q := 323) X71 hx (hb hby at_323) rfl ?_
                          refine own_iload (q := 325) X71 hx (hb hby at_325) rfl ?_
                          refine own_join (α := Int32) (P := fun ex => ex = (if ra = rb ∧ ([ca] : List Int32) = ([da, db] : List Int32) then 1 else 0)) (F := fun ex => mkF m 361 #[.val (.int c1_), .val (.int c2_), .val (.int r1_), .val (.int r2_), .val (.int md_), .val (.int ca), .val (.int cb), .val (.int tA), .val (.int o0), .val (.int o1), .val (.int tB), .val (.int oa), .val (.int k), .val (.int da), .val (.int db), .val (.int ra), .val (.int rb), .val (.ref b9), .val (.ref b54), .val (.ref b65), .val (.ref b69), .unset] [(.int ex)]) X71 rfl (fun T73 X73 e73 ex h_ex => ?_) (fun J361 => ?_)
                          · show own_G p e below _ T73 (mkF m 361 #[.val (.int c1_), .val (.int c2_), .val (.int r1_), .val (.int r2_), .val (.int md_), .val (.int ca), .val (.int cb), .val (.int tA), .val (.int o0), .val (.int o1), .val (.int tB), .val (.int oa), .val (.int k), .val (.int da), .val (.int db), .val (.int ra), .val (.int rb), .val (.ref b9), .val (.ref b54), .val (.ref b65), .val (.ref b69), .unset] [(.int ex)])
                            refine own_istore (q := 361) X73 hx (hb hby at_361) (A' := #[.val (.int c1_), .val (.int c2_), .val (.int r1_), .val (.int r2_), .val (.int md_), .val (.int ca), .val (.int cb), .val (.int tA), .val (.int o0), .val (.int o1), .val (.int tB), .val (.int oa), .val (.int k), .val (.int da), .val (.int db), .val (.int ra), .val (.int rb), .val (.ref b9), .val (.ref b54), .val (.ref b65), .val (.ref b69), .val (.int ex)]) rfl ?_
                            refine own_aload (q := 363) X73 hx (hb hby at_363) rfl rfl ?_
                            refine own_aload (q := 365) X73 hx (hb hby at_365) rfl rfl ?_
                            have c74 := (Fld.keep (Fld.ext E69 Fn67) Kp71 (ninS (Nat.ne_of_lt (Nat.lt_of_lt_of_le Ex67.lt (Nat.le_of_eq gg69.symm))) nin0))
                            have c75 := (Fld.keep (Fld.ext E69 Fs67) Kp71 (ninS (Nat.ne_of_lt (Nat.lt_of_lt_of_le Ex67.lt (Nat.le_of_eq gg69.symm))) nin0))
                            have c76 := (own_Str.keep (own_Str.ext E69 (own_Str.keep c66 Kp67 (ninS (Nat.ne_of_lt (Nat.lt_of_lt_of_le (Nat.lt_of_lt_of_le Sf16.lt (Nat.le_trans (Nat.le_trans (Nat.le_trans (Nat.le_trans E54.1 E55.1) (Keep.of_wr W57).1) (Keep.of_wr W59).1) Kp63.1)) (Nat.le_of_eq gg65.symm))) nin0) (ninS (Nat.ne_of_lt (Nat.lt_of_lt_of_le (Nat.lt_of_lt_of_le Sf16.lt2 (Nat.le_trans (Nat.le_trans (Nat.le_trans (Nat.le_trans E54.1 E55.1) (Keep.of_wr W57).1) (Keep.of_wr W59).1) Kp63.1)) (Nat.le_of_eq gg65.symm))) nin0))) Kp71 (ninS (Nat.ne_of_lt (Nat.lt_of_lt_of_le (Nat.lt_of_lt_of_le c66.lt Kp67.1) (Nat.le_of_eq gg69.symm))) nin0) (ninS (Nat.ne_of_lt (Nat.lt_of_lt_of_le (Nat.lt_of_lt_of_le c66.lt2 Kp67.1) (Nat.le_of_eq gg69.symm))) nin0))
                            have c77 := (own_Str.keep c70 Kp71 (ninS (Nat.ne_of_lt (Nat.lt_of_lt_of_le (Nat.lt_of_lt_of_le Sf63.lt (Nat.le_trans E65.1 Kp67.1)) (Nat.le_of_eq gg69.symm))) nin0) (ninS (Nat.ne_of_lt (Nat.lt_of_lt_of_le (Nat.lt_of_lt_of_le Sf63.lt2 (Nat.le_trans E65.1 Kp67.1)) (Nat.le_of_eq gg69.symm))) nin0))
                            have c79 := (Exa.keep (Exa.ext E69 Ex67) Kp71)
                            refine own_virtual (q := 367) (y := (⟨"com/example/tightrope/tightrope/logic/Predicate", "equals", "(Ljava/lang/Object;)Z"⟩ : MethodName)) (z := (⟨"com/example/tightrope/tightrope/logic/Predicate", "equals", "(Ljava/lang/Object;)Z"⟩ : MethodName)) (b := b65) (argsL := [(.ref b69)]) (S := []) (W := 0) X73 hx hZ71 hown71 (hw _ (List.mem_of_getElem? (i := 54) rfl)) (hw _ (List.mem_of_getElem? (i := 55) rfl)) (notFace_of_selects (args := #[]) (mvT hZ71 (hw _ (List.mem_of_getElem? (i := 57) rfl)))) (hw _ (List.mem_of_getElem? (i := 57) rfl)) (hw _ (List.mem_of_getElem? (i := 56) rfl)) (by decide) (backOf (W := 0) (rm6p l Z a0 hw [] b65 b69 b9 t16 ([ca] : List Int32) ra b54 t63 ([da, db] : List Int32) rb zCOMPACT T71.heap n0 O72 c74 c75 c76 Ex71 Fn71 Fs71 c77 SCOMPACT hCOMPACT) hZ71 (hw _ (List.mem_of_getElem? (i := 58) rfl)) (hw _ (List.mem_of_getElem? (i := 33) rfl)) (by decide) (by decide)) e73 c79 (by rw [hml]; rfl) (lenOf own_pd__28Ljava_2flang_2fObject_3b_29Z rfl) rfl (Nat.le_of_eq rfl) (hb hby at_367) (by decide) (by decide) (fun T78 L78 v78 X78 hQ78 => ?_)
                            obtain ⟨rfl, N78q, hh78⟩ := hQ78
                            have N78 := Fr.app N71 N78q
                            show own_G p e below _ T78 (mkF m 370 #[.val (.int c1_), .val (.int c2_), .val (.int r1_), .val (.int r2_), .val (.int md_), .val (.int ca), .val (.int cb), .val (.int tA), .val (.int o0), .val (.int o1), .val (.int tB), .val (.int oa), .val (.int k), .val (.int da), .val (.int db), .val (.int ra), .val (.int rb), .val (.ref b9), .val (.ref b54), .val (.ref b65), .val (.ref b69), .val (.int ex)] [(.int (if ra = rb ∧ ([ca] : List Int32) = ([da, db] : List Int32) then 1 else 0 : Int32))])
                            refine own_iload (q := 370) X78 hx (hb hby at_370) rfl ?_
                            refine own_icmp (t := 401) (q := 372) X78 hx (hb hby at_372) (by decide) (by decide) (fun hq => ?_) (fun hq => ?_)
                            · have hc372 := own_c_ne.1 hq
                              exact absurd h_ex.symm hc372
                            · have hc372 := own_c_ne.2 hq
                              refine own_aload (q := 375) X78 hx (hb hby at_375) rfl rfl ?_
                              refine own_aload (q := 377) X78 hx (hb hby at_377) rfl rfl ?_
                              refine own_virtual (q := 379) (y := (⟨"com/example/tightrope/tightrope/logic/Predicate", "equals", "(Ljava/lang/Object;)Z"⟩ : MethodName)) (z := (⟨"com/example/tightrope/tightrope/logic/Predicate", "equals", "(Ljava/lang/Object;)Z"⟩ : MethodName)) (b := b69) (argsL := [(.ref b65)]) (S := []) (W := 0) X78 hx hZ71 hown71 (hw _ (List.mem_of_getElem? (i := 54) rfl)) (hw _ (List.mem_of_getElem? (i := 55) rfl)) (notFace_of_selects (args := #[]) (mvT hZ71 (hw _ (List.mem_of_getElem? (i := 57) rfl)))) (hw _ (List.mem_of_getElem? (i := 57) rfl)) (hw _ (List.mem_of_getElem? (i := 56) rfl)) (by decide) (backOf (W := 0) (rm6p l Z a0 hw [] b69 b65 b54 t63 ([da, db] : List Int32) rb b9 t16 ([ca] : List Int32) ra zCOMPACT T71.heap n0 O72 Fn71 Fs71 c77 c79 c74 c75 c76 SCOMPACT hCOMPACT) hZ71 (hw _ (List.mem_of_getElem? (i := 58) rfl)) (hw _ (List.mem_of_getElem? (i := 33) rfl)) (by decide) (by decide)) hh78 Ex71 (by rw [hml]; rfl) (lenOf own_pd__28Ljava_2flang_2fObject_3b_29Z rfl) rfl (Nat.le_of_eq rfl) (hb hby at_379) (by decide) (by decide) (fun T80 L80 v80 X80 hQ80 => ?_)
                              obtain ⟨rfl, N80q, hh80⟩ := hQ80
                              have N80 := Fr.app N78 N80q
                              show own_G p e below _ T80 (mkF m 382 #[.val (.int c1_), .val (.int c2_), .val (.int r1_), .val (.int r2_), .val (.int md_), .val (.int ca), .val (.int cb), .val (.int tA), .val (.int o0), .val (.int o1), .val (.int tB), .val (.int oa), .val (.int k), .val (.int da), .val (.int db), .val (.int ra), .val (.int rb), .val (.ref b9), .val (.ref b54), .val (.ref b65), .val (.ref b69), .val (.int ex)] [(.int (if rb = ra ∧ ([da, db] : List Int32) = ([ca] : List Int32) then 1 else 0 : Int32))])
                              refine own_iload (q := 382) X80 hx (hb hby at_382) rfl ?_
                              refine own_icmp (t := 401) (q := 384) X80 hx (hb hby at_384) (by decide) (by decide) (fun hq => ?_) (fun hq => ?_)
                              · have hc384 := own_c_ne.1 hq
                                exact absurd (own_sym.trans h_ex.symm) hc384
                              · have hc384 := own_c_ne.2 hq
                                refine own_aload (q := 387) X80 hx (hb hby at_387) rfl rfl ?_
                                refine own_aload (q := 389) X80 hx (hb hby at_389) rfl rfl ?_
                                refine own_virtual (q := 391) (y := (⟨"com/example/tightrope/tightrope/logic/Predicate", "equals", "(Ljava/lang/Object;)Z"⟩ : MethodName)) (z := (⟨"com/example/tightrope/tightrope/logic/Predicate", "equals", "(Ljava/lang/Object;)Z"⟩ : MethodName)) (b := b65) (argsL := [(.ref b65)]) (S := []) (W := 0) X80 hx hZ71 hown71 (hw _ (List.mem_of_getElem? (i := 54) rfl)) (hw _ (List.mem_of_getElem? (i := 55) rfl)) (notFace_of_selects (args := #[]) (mvT hZ71 (hw _ (List.mem_of_getElem? (i := 57) rfl)))) (hw _ (List.mem_of_getElem? (i := 57) rfl)) (hw _ (List.mem_of_getElem? (i := 56) rfl)) (by decide) (backOf (W := 0) (rm6p l Z a0 hw [] b65 b65 b9 t16 ([ca] : List Int32) ra b9 t16 ([ca] : List Int32) ra zCOMPACT T71.heap n0 O72 c74 c75 c76 c79 c74 c75 c76 SCOMPACT hCOMPACT) hZ71 (hw _ (List.mem_of_getElem? (i := 58) rfl)) (hw _ (List.mem_of_getElem? (i := 33) rfl)) (by decide) (by decide)) hh80 c79 (by rw [hml]; rfl) (lenOf own_pd__28Ljava_2flang_2fObject_3b_29Z rfl) rfl (Nat.le_of_eq rfl) (hb hby at_391) (by decide) (by decide) (fun T81 L81 v81 X81 hQ81 => ?_)
                                obtain ⟨rfl, N81q, hh81⟩ := hQ81
                                have N81 := Fr.app N80 N81q
                                show own_G p e below _ T81 (mkF m 394 #[.val (.int c1_), .val (.int c2_), .val (.int r1_), .val (.int r2_), .val (.int md_), .val (.int ca), .val (.int cb), .val (.int tA), .val (.int o0), .val (.int o1), .val (.int tB), .val (.int oa), .val (.int k), .val (.int da), .val (.int db), .val (.int ra), .val (.int rb), .val (.ref b9), .val (.ref b54), .val (.ref b65), .val (.ref b69), .val (.int ex)] [(.int (if ra = ra ∧ ([ca] : List Int32) = ([ca] : List Int32) then 1 else 0 : Int32))])
                                refine own_if (t := 401) (q := 394) X81 hx (hb hby at_394) (by decide) (by decide) (fun hq => ?_) (fun hq => ?_)
                                · have hc394 := own_h_eq.1 hq
                                  exact (own_one_ne (if_pos ⟨rfl, rfl⟩) hc394).elim
                                · have hc394 := own_h_eq.2 hq
                                  refine own_iconst (q := 397) X81 hx (hb hby at_397) (x := (1 : Int32)) rfl ?_
                                  refine own_goto (t := 402) (q := 398) X81 hx (hb hby at_398) (by decide) (by decide) ?_
                                  exact own_retNW (q := 402) X81 hx hS71 (by rw [hh81]; exact hk71) (t := .boolean) Bd.returns hlk (by simp) (hb hby at_402) rfl (by decide) (by decide) (by show Q0 Z c1_ c2_ r1_ r2_ md_ zCOMPACT h0 n0 _ T81.heap _; rw [hh81]; exact ⟨rfl, N81⟩)
                          · have hj361 := True.intro
                            refine own_icmp (t := 360) (q := 327) X71 hx (hb hby at_327) (by decide) (by decide) (fun hq => ?_) (fun hq => ?_)
                            · have hc327 := own_c_ne.1 hq
                              refine own_iconst (q := 360) X71 hx (hb hby at_360) (x := (0 : Int32)) rfl ?_
                              exact J361 _ X71 rfl (0 : Int32) (by rw [if_neg (fun q => hc327 q.1)])
                            · have hc327 := own_c_ne.2 hq
                              refine own_iload (q := 330) X71 hx (hb hby at_330) rfl ?_
                              refine own_iload (q := 332) X71 hx (hb hby at_332) rfl ?_
                              refine own_icmp (t := 360) (q := 334) X71 hx (hb hby at_334) (by decide) (by decide) (fun hq => ?_) (fun hq => ?_)
                              · have hc334 := own_c_ne.1 hq
                                refine own_iconst (q := 360) X71 hx (hb hby at_360) (x := (0 : Int32)) rfl ?_
                                exact J361 _ X71 rfl (0 : Int32) (by rw [if_neg (fun q => absurd (congrArg List.length q.2) (by simp))])
                              · have hc334 := own_c_ne.2 hq
                                exact absurd (hc334.symm.trans hc162) hc207
                        · have hc300 := own_c_ne.2 hq
                          refine own_aload (q := 303) X71 hx (hb hby at_303) rfl rfl ?_
                          refine own_astore (q := 305) X71 hx (hb hby at_305) rfl (A' := #[.val (.int c1_), .val (.int c2_), .val (.int r1_), .val (.int r2_), .val (.int md_), .val (.int ca), .val (.int cb), .val (.int tA), .val (.int o0), .val (.int o1), .val (.int tB), .val (.int oa), .val (.int k), .val (.int da), .val (.int db), .val (.int ra), .val (.int rb), .val (.ref b9), .val (.ref b54), .val (.ref b65), .val (.ref b69), .val (.ref b9)]) rfl ?_
                          refine own_aload (q := 307) X71 hx (hb hby at_307) rfl rfl ?_
                          refine own_aload (q := 309) X71 hx (hb hby at_309) rfl rfl ?_
                          have c82 := (Fld.keep (Fld.ext E69 Fn67) Kp71 (ninS (Nat.ne_of_lt (Nat.lt_of_lt_of_le Ex67.lt (Nat.le_of_eq gg69.symm))) nin0))
                          have c83 := (Fld.keep (Fld.ext E69 Fs67) Kp71 (ninS (Nat.ne_of_lt (Nat.lt_of_lt_of_le Ex67.lt (Nat.le_of_eq gg69.symm))) nin0))
                          have c84 := (own_Str.keep (own_Str.ext E69 (own_Str.keep c66 Kp67 (ninS (Nat.ne_of_lt (Nat.lt_of_lt_of_le (Nat.lt_of_lt_of_le Sf16.lt (Nat.le_trans (Nat.le_trans (Nat.le_trans (Nat.le_trans E54.1 E55.1) (Keep.of_wr W57).1) (Keep.of_wr W59).1) Kp63.1)) (Nat.le_of_eq gg65.symm))) nin0) (ninS (Nat.ne_of_lt (Nat.lt_of_lt_of_le (Nat.lt_of_lt_of_le Sf16.lt2 (Nat.le_trans (Nat.le_trans (Nat.le_trans (Nat.le_trans E54.1 E55.1) (Keep.of_wr W57).1) (Keep.of_wr W59).1) Kp63.1)) (Nat.le_of_eq gg65.symm))) nin0))) Kp71 (ninS (Nat.ne_of_lt (Nat.lt_of_lt_of_le (Nat.lt_of_lt_of_le c66.lt Kp67.1) (Nat.le_of_eq gg69.symm))) nin0) (ninS (Nat.ne_of_lt (Nat.lt_of_lt_of_le (Nat.lt_of_lt_of_le c66.lt2 Kp67.1) (Nat.le_of_eq gg69.symm))) nin0))
                          have c86 := (Exa.keep (Exa.ext E69 Ex67) Kp71)
                          refine own_virtual (q := 311) (y := (⟨"com/example/tightrope/tightrope/logic/Predicate", "equals", "(Ljava/lang/Object;)Z"⟩ : MethodName)) (z := (⟨"com/example/tightrope/tightrope/logic/Predicate", "equals", "(Ljava/lang/Object;)Z"⟩ : MethodName)) (b := b65) (argsL := [(.ref b9)]) (S := []) (W := 0) X71 hx hZ71 hown71 (hw _ (List.mem_of_getElem? (i := 54) rfl)) (hw _ (List.mem_of_getElem? (i := 55) rfl)) (notFace_of_selects (args := #[]) (mvT hZ71 (hw _ (List.mem_of_getElem? (i := 57) rfl)))) (hw _ (List.mem_of_getElem? (i := 57) rfl)) (hw _ (List.mem_of_getElem? (i := 56) rfl)) (by decide) (backOf (W := 0) (rm6s l Z a0 hw [] b65 b9 b9 t16 ([ca] : List Int32) ra zCOMPACT T71.heap n0 O72 c82 c83 c84 c84.1 SCOMPACT hCOMPACT) hZ71 (hw _ (List.mem_of_getElem? (i := 58) rfl)) (hw _ (List.mem_of_getElem? (i := 33) rfl)) (by decide) (by decide)) rfl c86 (by rw [hml]; rfl) (lenOf own_pd__28Ljava_2flang_2fObject_3b_29Z rfl) rfl (Nat.le_of_eq rfl) (hb hby at_311) (by decide) (by decide) (fun T85 L85 v85 X85 hQ85 => ?_)
                          obtain ⟨rfl, N85q, hh85⟩ := hQ85
                          have N85 := Fr.app N71 N85q
                          show own_G p e below _ T85 (mkF m 314 #[.val (.int c1_), .val (.int c2_), .val (.int r1_), .val (.int r2_), .val (.int md_), .val (.int ca), .val (.int cb), .val (.int tA), .val (.int o0), .val (.int o1), .val (.int tB), .val (.int oa), .val (.int k), .val (.int da), .val (.int db), .val (.int ra), .val (.int rb), .val (.ref b9), .val (.ref b54), .val (.ref b65), .val (.ref b69), .val (.ref b9)] [(.int (0 : Int32))])
                          refine own_if (t := 321) (q := 314) X85 hx (hb hby at_314) (by decide) (by decide) (fun hq => ?_) (fun hq => ?_)
                          · have hc314 := own_h_ne.1 hq
                            exact absurd rfl hc314
                          · have hc314 := own_h_ne.2 hq
                            refine own_iconst (q := 317) X85 hx (hb hby at_317) (x := (1 : Int32)) rfl ?_
                            refine own_goto (t := 322) (q := 318) X85 hx (hb hby at_318) (by decide) (by decide) ?_
                            exact own_retNW (q := 322) X85 hx hS71 (by rw [hh85]; exact hk71) (t := .boolean) Bd.returns hlk (by simp) (hb hby at_322) rfl (by decide) (by decide) (by show Q0 Z c1_ c2_ r1_ r2_ md_ zCOMPACT h0 n0 _ T85.heap _; rw [hh85]; exact ⟨rfl, N85⟩)
                      · have hc279 := own_c_ne.2 hq
                        refine own_aload (q := 282) X71 hx (hb hby at_282) rfl rfl ?_
                        refine own_anull (q := 284) X71 hx (hb hby at_284) ?_
                        have c87 := (Fld.keep (Fld.ext E69 Fn67) Kp71 (ninS (Nat.ne_of_lt (Nat.lt_of_lt_of_le Ex67.lt (Nat.le_of_eq gg69.symm))) nin0))
                        have c88 := (Fld.keep (Fld.ext E69 Fs67) Kp71 (ninS (Nat.ne_of_lt (Nat.lt_of_lt_of_le Ex67.lt (Nat.le_of_eq gg69.symm))) nin0))
                        have c89 := (own_Str.keep (own_Str.ext E69 (own_Str.keep c66 Kp67 (ninS (Nat.ne_of_lt (Nat.lt_of_lt_of_le (Nat.lt_of_lt_of_le Sf16.lt (Nat.le_trans (Nat.le_trans (Nat.le_trans (Nat.le_trans E54.1 E55.1) (Keep.of_wr W57).1) (Keep.of_wr W59).1) Kp63.1)) (Nat.le_of_eq gg65.symm))) nin0) (ninS (Nat.ne_of_lt (Nat.lt_of_lt_of_le (Nat.lt_of_lt_of_le Sf16.lt2 (Nat.le_trans (Nat.le_trans (Nat.le_trans (Nat.le_trans E54.1 E55.1) (Keep.of_wr W57).1) (Keep.of_wr W59).1) Kp63.1)) (Nat.le_of_eq gg65.symm))) nin0))) Kp71 (ninS (Nat.ne_of_lt (Nat.lt_of_lt_of_le (Nat.lt_of_lt_of_le c66.lt Kp67.1) (Nat.le_of_eq gg69.symm))) nin0) (ninS (Nat.ne_of_lt (Nat.lt_of_lt_of_le (Nat.lt_of_lt_of_le c66.lt2 Kp67.1) (Nat.le_of_eq gg69.symm))) nin0))
                        have c91 := (Exa.keep (Exa.ext E69 Ex67) Kp71)
                        refine own_virtual (q := 285) (y := (⟨"com/example/tightrope/tightrope/logic/Predicate", "equals", "(Ljava/lang/Object;)Z"⟩ : MethodName)) (z := (⟨"com/example/tightrope/tightrope/logic/Predicate", "equals", "(Ljava/lang/Object;)Z"⟩ : MethodName)) (b := b65) (argsL := [.null]) (S := []) (W := 0) X71 hx hZ71 hown71 (hw _ (List.mem_of_getElem? (i := 54) rfl)) (hw _ (List.mem_of_getElem? (i := 55) rfl)) (notFace_of_selects (args := #[]) (mvT hZ71 (hw _ (List.mem_of_getElem? (i := 57) rfl)))) (hw _ (List.mem_of_getElem? (i := 57) rfl)) (hw _ (List.mem_of_getElem? (i := 56) rfl)) (by decide) (backOf (W := 0) (rm6n l Z a0 hw [] b65 b9 t16 ([ca] : List Int32) ra zCOMPACT T71.heap n0 O72 c87 c88 c89 SCOMPACT hCOMPACT) hZ71 (hw _ (List.mem_of_getElem? (i := 58) rfl)) (hw _ (List.mem_of_getElem? (i := 33) rfl)) (by decide) (by decide)) rfl c91 (by rw [hml]; rfl) (lenOf own_pd__28Ljava_2flang_2fObject_3b_29Z rfl) rfl (Nat.le_of_eq rfl) (hb hby at_285) (by decide) (by decide) (fun T90 L90 v90 X90 hQ90 => ?_)
                        obtain ⟨rfl, N90q, hh90⟩ := hQ90
                        have N90 := Fr.app N71 N90q
                        show own_G p e below _ T90 (mkF m 288 #[.val (.int c1_), .val (.int c2_), .val (.int r1_), .val (.int r2_), .val (.int md_), .val (.int ca), .val (.int cb), .val (.int tA), .val (.int o0), .val (.int o1), .val (.int tB), .val (.int oa), .val (.int k), .val (.int da), .val (.int db), .val (.int ra), .val (.int rb), .val (.ref b9), .val (.ref b54), .val (.ref b65), .val (.ref b69), .unset] [(.int (0 : Int32))])
                        refine own_if (t := 295) (q := 288) X90 hx (hb hby at_288) (by decide) (by decide) (fun hq => ?_) (fun hq => ?_)
                        · have hc288 := own_h_ne.1 hq
                          exact absurd rfl hc288
                        · have hc288 := own_h_ne.2 hq
                          refine own_iconst (q := 291) X90 hx (hb hby at_291) (x := (1 : Int32)) rfl ?_
                          refine own_goto (t := 296) (q := 292) X90 hx (hb hby at_292) (by decide) (by decide) ?_
                          exact own_retNW (q := 296) X90 hx hS71 (by rw [hh90]; exact hk71) (t := .boolean) Bd.returns hlk (by simp) (hb hby at_296) rfl (by decide) (by decide) (by show Q0 Z c1_ c2_ r1_ r2_ md_ zCOMPACT h0 n0 _ T90.heap _; rw [hh90]; exact ⟨rfl, N90⟩)
                  · have hc162 := own_h_eq.2 hq
                    obtain ⟨T92, h92, X92, e92, E92, A92, D92, -, st92⟩ := newO X8 hx hZ hown (hw _ (List.mem_of_getElem? (i := 1) rfl)) (hw _ (List.mem_of_getElem? (i := 2) rfl)) (hw _ (List.mem_of_getElem? (i := 3) rfl)) e8 (g := (mkF m 165 #[.val (.int c1_), .val (.int c2_), .val (.int r1_), .val (.int r2_), .val (.int md_), .val (.int ca), .val (.int cb), .val (.int tA), .val (.int o0), .val (.int o1), .val (.int tB), .val (.int oa), .val (.int k), .val (.int da), .val (.int db), .val (.int ra), .val (.int rb), .unset, .unset, .unset, .unset, .unset] [])) rfl (hb hby at_165) (by decide) (by decide)
                    obtain ⟨b92, gg92⟩ : ∃ z, z = h0.size := ⟨_, rfl⟩
                    rw [← gg92] at A92 D92 st92
                    refine own_st st92 ?_
                    have g_b92 : n0 ≤ b92 := by rw [gg92, ← O0.1]; exact O0.2.1
                    have O92 := Old.ext O0 E92
                    have F92_coder : Fld Z h92 b92 "java/lang/String" "coder" "B" (.int (0 : Int32)) := D92 (Or.inr (hw _ (List.mem_of_getElem? (i := 28) rfl))) (ty := .byte) (by decide)
                    have F92_value : Fld Z h92 b92 "java/lang/String" "value" "[B" .null := D92 (Or.inr (hw _ (List.mem_of_getElem? (i := 30) rfl))) (ty := (.array .byte)) (by decide)
                    show own_G p e below _ T92 (mkF m 168 #[.val (.int c1_), .val (.int c2_), .val (.int r1_), .val (.int r2_), .val (.int md_), .val (.int ca), .val (.int cb), .val (.int tA), .val (.int o0), .val (.int o1), .val (.int tB), .val (.int oa), .val (.int k), .val (.int da), .val (.int db), .val (.int ra), .val (.int rb), .unset, .unset, .unset, .unset, .unset] [(.ref b92)])
                    refine own_dup (q := 168) X92 hx (hb hby at_168) rfl ?_
                    refine own_iconst (q := 169) X92 hx (hb hby at_169) (x := (2 : Int32)) rfl ?_
                    obtain ⟨T93, h93, k93, X93, e93, E93, A93, st93⟩ := newP X92 hx hZ (hw _ (List.mem_of_getElem? (i := 4) rfl)) e92 (g := (mkF m 170 #[.val (.int c1_), .val (.int c2_), .val (.int r1_), .val (.int r2_), .val (.int md_), .val (.int ca), .val (.int cb), .val (.int tA), .val (.int o0), .val (.int o1), .val (.int tB), .val (.int oa), .val (.int k), .val (.int da), .val (.int db), .val (.int ra), .val (.int rb), .unset, .unset, .unset, .unset, .unset] [(.int (2 : Int32)), (.ref b92), (.ref b92)])) rfl (hb hby at_170) rfl (by decide) (cap := 2) (by decide) (by decide) (by decide) (by decide)
                    obtain ⟨b93, gg93⟩ : ∃ z, z = h92.size := ⟨_, rfl⟩
                    rw [← gg93] at A93 st93
                    refine own_st st93 ?_
                    have g_b93 : n0 ≤ b93 := by rw [gg93, ← O92.1]; exact O92.2.1
                    have O93 := Old.ext O92 E93
                    have V93 : Arv Z h93 b93 k93 .char (2 : Int32) [(.int (0 : Int32)), (.int (0 : Int32))] (.int (0 : Int32)) := (Arv.new A93 (by decide)).pad (pad_rep [] (.int (0 : Int32)) 2)
                    show own_G p e below _ T93 (mkF m 172 #[.val (.int c1_), .val (.int c2_), .val (.int r1_), .val (.int r2_), .val (.int md_), .val (.int ca), .val (.int cb), .val (.int tA), .val (.int o0), .val (.int o1), .val (.int tB), .val (.int oa), .val (.int k), .val (.int da), .val (.int db), .val (.int ra), .val (.int rb), .unset, .unset, .unset, .unset, .unset] [(.ref b93), (.ref b92), (.ref b92)])
                    refine own_dup (q := 172) X93 hx (hb hby at_172) rfl ?_
                    refine own_iconst (q := 173) X93 hx (hb hby at_173) (x := (0 : Int32)) rfl ?_
                    refine own_iload (q := 174) X93 hx (hb hby at_174) rfl ?_
                    obtain ⟨cl94, Ar94, Aq94, As94, An94, Ah94, Ag94⟩ := V93
                    obtain ⟨T95, h95, X95, e95, W95, st95⟩ := stC X93 hx hZ e93 Ar94 (j := (0 : Int32)) (inb_of As94 ⟨by decide, by decide⟩) (g := (mkF m 176 #[.val (.int c1_), .val (.int c2_), .val (.int r1_), .val (.int r2_), .val (.int md_), .val (.int ca), .val (.int cb), .val (.int tA), .val (.int o0), .val (.int o1), .val (.int tB), .val (.int oa), .val (.int k), .val (.int da), .val (.int db), .val (.int ra), .val (.int rb), .unset, .unset, .unset, .unset, .unset] [(.int ca), (.int (0 : Int32)), (.ref b93), (.ref b93), (.ref b92), (.ref b92)])) rfl rfl (hb hby at_176)
                    refine own_st st95 ?_
                    have V95 : Arv Z h95 b93 k93 .char (2 : Int32) [(.int (nar .char ca)), (.int (0 : Int32))] (.int (0 : Int32)) := Arv.set Ar94 Aq94 As94 An94 Ah94 Ag94 (fits_nar_char _) W95 0 rfl (Nat.le_of_ble_eq_true rfl)
                    rw [n_ca] at V95
                    have N95 := Fr.snoc X95 N0 g_b93
                    have O95 := Old.wr O93 W95 g_b93
                    show own_G p e below _ T95 (mkF m 177 #[.val (.int c1_), .val (.int c2_), .val (.int r1_), .val (.int r2_), .val (.int md_), .val (.int ca), .val (.int cb), .val (.int tA), .val (.int o0), .val (.int o1), .val (.int tB), .val (.int oa), .val (.int k), .val (.int da), .val (.int db), .val (.int ra), .val (.int rb), .unset, .unset, .unset, .unset, .unset] [(.ref b93), (.ref b92), (.ref b92)])
                    refine own_dup (q := 177) X95 hx (hb hby at_177) rfl ?_
                    refine own_iconst (q := 178) X95 hx (hb hby at_178) (x := (1 : Int32)) rfl ?_
                    refine own_iload (q := 179) X95 hx (hb hby at_179) rfl ?_
                    obtain ⟨cl96, Ar96, Aq96, As96, An96, Ah96, Ag96⟩ := V95
                    obtain ⟨T97, h97, X97, e97, W97, st97⟩ := stC X95 hx hZ e95 Ar96 (j := (1 : Int32)) (inb_of As96 ⟨by decide, by decide⟩) (g := (mkF m 181 #[.val (.int c1_), .val (.int c2_), .val (.int r1_), .val (.int r2_), .val (.int md_), .val (.int ca), .val (.int cb), .val (.int tA), .val (.int o0), .val (.int o1), .val (.int tB), .val (.int oa), .val (.int k), .val (.int da), .val (.int db), .val (.int ra), .val (.int rb), .unset, .unset, .unset, .unset, .unset] [(.int cb), (.int (1 : Int32)), (.ref b93), (.ref b93), (.ref b92), (.ref b92)])) rfl rfl (hb hby at_181)
                    refine own_st st97 ?_
                    have V97 : Arv Z h97 b93 k93 .char (2 : Int32) [(.int ca), (.int (nar .char cb))] (.int (0 : Int32)) := Arv.set Ar96 Aq96 As96 An96 Ah96 Ag96 (fits_nar_char _) W97 1 rfl (Nat.le_of_ble_eq_true rfl)
                    rw [n_cb] at V97
                    have N97 := Fr.snoc X97 N95 g_b93
                    have O97 := Old.wr O95 W97 g_b93
                    show own_G p e below _ T97 (mkF m 182 #[.val (.int c1_), .val (.int c2_), .val (.int r1_), .val (.int r2_), .val (.int md_), .val (.int ca), .val (.int cb), .val (.int tA), .val (.int o0), .val (.int o1), .val (.int tB), .val (.int oa), .val (.int k), .val (.int da), .val (.int db), .val (.int ra), .val (.int rb), .unset, .unset, .unset, .unset, .unset] [(.ref b93), (.ref b92), (.ref b92)])
                    have c98 := (Exa.wr W97 (Exa.wr W95 (Exa.ext E93 A92)))
                    have c99 := (Fld.other W97 (Fld.other W95 (Fld.ext E93 F92_value) (Or.inl (Nat.ne_of_lt (Nat.lt_of_lt_of_le A92.lt (Nat.le_of_eq gg93.symm))))) (Or.inl (Nat.ne_of_lt (Nat.lt_of_lt_of_le A92.lt (Nat.le_of_eq gg93.symm)))))
                    have c100 := (Fld.other W97 (Fld.other W95 (Fld.ext E93 F92_coder) (Or.inl (Nat.ne_of_lt (Nat.lt_of_lt_of_le A92.lt (Nat.le_of_eq gg93.symm))))) (Or.inl (Nat.ne_of_lt (Nat.lt_of_lt_of_le A92.lt (Nat.le_of_eq gg93.symm)))))
                    refine own_init (q := 182) (y := (⟨"java/lang/String", "<init>", "([C)V"⟩ : MethodName)) (b := b92) (argsL := [(.ref b93)]) (S := [(.ref b92)]) (W := 1) rfl X97 hx hZ hown (hw _ (List.mem_of_getElem? (i := 5) rfl)) (hw _ (List.mem_of_getElem? (i := 6) rfl)) (hw _ (List.mem_of_getElem? (i := 7) rfl)) (by decide) (own_newB (W := 1) (cs := ([ca, cb] : List Int32)) (n := 2) hZ hw (hw _ (List.mem_of_getElem? (i := 2) rfl)) O97 g_b92 c98 c99 c100 V97 SCOMPACT hCOMPACT rfl rfl (by decide) (by decide) (own_csS ⟨l_ca, u_ca⟩ (own_csS ⟨l_cb, u_cb⟩ own_cs0)) (by decide) (by decide)) e97 (by rw [hml]; rfl) (lenOf own_pd__28_5bC_29V rfl) rfl (Nat.le_of_eq rfl) (hb hby at_182) (by decide) (by decide) (fun T101 L101 v101 X101 hQ101 => ?_)
                    obtain ⟨rfl, Nq101, Kp101, t101, g_t101, ht101, hne101, Sf101⟩ := hQ101
                    have N101 := Fr.app N97 Nq101
                    have O102 := Old.keep O97 Kp101 (allS g_b92 all0)
                    show own_G p e below _ T101 (mkF m 185 #[.val (.int c1_), .val (.int c2_), .val (.int r1_), .val (.int r2_), .val (.int md_), .val (.int ca), .val (.int cb), .val (.int tA), .val (.int o0), .val (.int o1), .val (.int tB), .val (.int oa), .val (.int k), .val (.int da), .val (.int db), .val (.int ra), .val (.int rb), .unset, .unset, .unset, .unset, .unset] [(.ref b92)])
                    refine own_goto (t := 203) (q := 185) X101 hx (hb hby at_185) (by decide) (by decide) ?_
                    refine own_astore (q := 203) X101 hx (hb hby at_203) rfl (A' := #[.val (.int c1_), .val (.int c2_), .val (.int r1_), .val (.int r2_), .val (.int md_), .val (.int ca), .val (.int cb), .val (.int tA), .val (.int o0), .val (.int o1), .val (.int tB), .val (.int oa), .val (.int k), .val (.int da), .val (.int db), .val (.int ra), .val (.int rb), .val (.ref b92), .unset, .unset, .unset, .unset]) rfl ?_
                    refine own_iload (q := 205) X101 hx (hb hby at_205) rfl ?_
                    refine own_if (t := 233) (q := 207) X101 hx (hb hby at_207) (by decide) (by decide) (fun hq => ?_) (fun hq => ?_)
                    · have hc207 := own_h_eq.1 hq
                      obtain ⟨T103, h103, X103, e103, E103, A103, D103, -, st103⟩ := newO X101 hx hZ hown (hw _ (List.mem_of_getElem? (i := 1) rfl)) (hw _ (List.mem_of_getElem? (i := 2) rfl)) (hw _ (List.mem_of_getElem? (i := 3) rfl)) rfl (g := (mkF m 233 #[.val (.int c1_), .val (.int c2_), .val (.int r1_), .val (.int r2_), .val (.int md_), .val (.int ca), .val (.int cb), .val (.int tA), .val (.int o0), .val (.int o1), .val (.int tB), .val (.int oa), .val (.int k), .val (.int da), .val (.int db), .val (.int ra), .val (.int rb), .val (.ref b92), .unset, .unset, .unset, .unset] [])) rfl (hb hby at_233) (by decide) (by decide)
                      obtain ⟨b103, gg103⟩ : ∃ z, z = T101.heap.size := ⟨_, rfl⟩
                      rw [← gg103] at A103 D103 st103
                      refine own_st st103 ?_
                      have g_b103 : n0 ≤ b103 := by rw [gg103, ← O102.1]; exact O102.2.1
                      have O103 := Old.ext O102 E103
                      have F103_coder : Fld Z h103 b103 "java/lang/String" "coder" "B" (.int (0 : Int32)) := D103 (Or.inr (hw _ (List.mem_of_getElem? (i := 28) rfl))) (ty := .byte) (by decide)
                      have F103_value : Fld Z h103 b103 "java/lang/String" "value" "[B" .null := D103 (Or.inr (hw _ (List.mem_of_getElem? (i := 30) rfl))) (ty := (.array .byte)) (by decide)
                      show own_G p e below _ T103 (mkF m 236 #[.val (.int c1_), .val (.int c2_), .val (.int r1_), .val (.int r2_), .val (.int md_), .val (.int ca), .val (.int cb), .val (.int tA), .val (.int o0), .val (.int o1), .val (.int tB), .val (.int oa), .val (.int k), .val (.int da), .val (.int db), .val (.int ra), .val (.int rb), .val (.ref b92), .unset, .unset, .unset, .unset] [(.ref b103)])
                      refine own_dup (q := 236) X103 hx (hb hby at_236) rfl ?_
                      refine own_iconst (q := 237) X103 hx (hb hby at_237) (x := (1 : Int32)) rfl ?_
                      obtain ⟨T104, h104, k104, X104, e104, E104, A104, st104⟩ := newP X103 hx hZ (hw _ (List.mem_of_getElem? (i := 4) rfl)) e103 (g := (mkF m 238 #[.val (.int c1_), .val (.int c2_), .val (.int r1_), .val (.int r2_), .val (.int md_), .val (.int ca), .val (.int cb), .val (.int tA), .val (.int o0), .val (.int o1), .val (.int tB), .val (.int oa), .val (.int k), .val (.int da), .val (.int db), .val (.int ra), .val (.int rb), .val (.ref b92), .unset, .unset, .unset, .unset] [(.int (1 : Int32)), (.ref b103), (.ref b103)])) rfl (hb hby at_238) rfl (by decide) (cap := 1) (by decide) (by decide) (by decide) (by decide)
                      obtain ⟨b104, gg104⟩ : ∃ z, z = h103.size := ⟨_, rfl⟩
                      rw [← gg104] at A104 st104
                      refine own_st st104 ?_
                      have g_b104 : n0 ≤ b104 := by rw [gg104, ← O103.1]; exact O103.2.1
                      have O104 := Old.ext O103 E104
                      have V104 : Arv Z h104 b104 k104 .char (1 : Int32) [(.int (0 : Int32))] (.int (0 : Int32)) := (Arv.new A104 (by decide)).pad (pad_rep [] (.int (0 : Int32)) 1)
                      show own_G p e below _ T104 (mkF m 240 #[.val (.int c1_), .val (.int c2_), .val (.int r1_), .val (.int r2_), .val (.int md_), .val (.int ca), .val (.int cb), .val (.int tA), .val (.int o0), .val (.int o1), .val (.int tB), .val (.int oa), .val (.int k), .val (.int da), .val (.int db), .val (.int ra), .val (.int rb), .val (.ref b92), .unset, .unset, .unset, .unset] [(.ref b104), (.ref b103), (.ref b103)])
                      refine own_dup (q := 240) X104 hx (hb hby at_240) rfl ?_
                      refine own_iconst (q := 241) X104 hx (hb hby at_241) (x := (0 : Int32)) rfl ?_
                      refine own_iload (q := 242) X104 hx (hb hby at_242) rfl ?_
                      obtain ⟨cl105, Ar105, Aq105, As105, An105, Ah105, Ag105⟩ := V104
                      obtain ⟨T106, h106, X106, e106, W106, st106⟩ := stC X104 hx hZ e104 Ar105 (j := (0 : Int32)) (inb_of As105 ⟨by decide, by decide⟩) (g := (mkF m 244 #[.val (.int c1_), .val (.int c2_), .val (.int r1_), .val (.int r2_), .val (.int md_), .val (.int ca), .val (.int cb), .val (.int tA), .val (.int o0), .val (.int o1), .val (.int tB), .val (.int oa), .val (.int k), .val (.int da), .val (.int db), .val (.int ra), .val (.int rb), .val (.ref b92), .unset, .unset, .unset, .unset] [(.int da), (.int (0 : Int32)), (.ref b104), (.ref b104), (.ref b103), (.ref b103)])) rfl rfl (hb hby at_244)
                      refine own_st st106 ?_
                      have V106 : Arv Z h106 b104 k104 .char (1 : Int32) [(.int (nar .char da))] (.int (0 : Int32)) := Arv.set Ar105 Aq105 As105 An105 Ah105 Ag105 (fits_nar_char _) W106 0 rfl (Nat.le_of_ble_eq_true rfl)
                      rw [n_da] at V106
                      have N106 := Fr.snoc X106 N101 g_b104
                      have O106 := Old.wr O104 W106 g_b104
                      show own_G p e below _ T106 (mkF m 245 #[.val (.int c1_), .val (.int c2_), .val (.int r1_), .val (.int r2_), .val (.int md_), .val (.int ca), .val (.int cb), .val (.int tA), .val (.int o0), .val (.int o1), .val (.int tB), .val (.int oa), .val (.int k), .val (.int da), .val (.int db), .val (.int ra), .val (.int rb), .val (.ref b92), .unset, .unset, .unset, .unset] [(.ref b104), (.ref b103), (.ref b103)])
                      have c107 := (Exa.wr W106 (Exa.ext E104 A103))
                      have c108 := (Fld.other W106 (Fld.ext E104 F103_value) (Or.inl (Nat.ne_of_lt (Nat.lt_of_lt_of_le A103.lt (Nat.le_of_eq gg104.symm)))))
                      have c109 := (Fld.other W106 (Fld.ext E104 F103_coder) (Or.inl (Nat.ne_of_lt (Nat.lt_of_lt_of_le A103.lt (Nat.le_of_eq gg104.symm)))))
                      refine own_init (q := 245) (y := (⟨"java/lang/String", "<init>", "([C)V"⟩ : MethodName)) (b := b103) (argsL := [(.ref b104)]) (S := [(.ref b103)]) (W := 1) rfl X106 hx hZ hown (hw _ (List.mem_of_getElem? (i := 5) rfl)) (hw _ (List.mem_of_getElem? (i := 6) rfl)) (hw _ (List.mem_of_getElem? (i := 7) rfl)) (by decide) (own_newB (W := 1) (cs := ([da] : List Int32)) (n := 1) hZ hw (hw _ (List.mem_of_getElem? (i := 2) rfl)) O106 g_b103 c107 c108 c109 V106 SCOMPACT hCOMPACT rfl rfl (by decide) (by decide) (own_csS ⟨l_da, u_da⟩ own_cs0) (by decide) (by decide)) e106 (by rw [hml]; rfl) (lenOf own_pd__28_5bC_29V rfl) rfl (Nat.le_of_eq rfl) (hb hby at_245) (by decide) (by decide) (fun T110 L110 v110 X110 hQ110 => ?_)
                      obtain ⟨rfl, Nq110, Kp110, t110, g_t110, ht110, hne110, Sf110⟩ := hQ110
                      have N110 := Fr.app N106 Nq110
                      have O111 := Old.keep O106 Kp110 (allS g_b103 all0)
                      show own_G p e below _ T110 (mkF m 248 #[.val (.int c1_), .val (.int c2_), .val (.int r1_), .val (.int r2_), .val (.int md_), .val (.int ca), .val (.int cb), .val (.int tA), .val (.int o0), .val (.int o1), .val (.int tB), .val (.int oa), .val (.int k), .val (.int da), .val (.int db), .val (.int ra), .val (.int rb), .val (.ref b92), .unset, .unset, .unset, .unset] [(.ref b103)])
                      refine own_astore (q := 248) X110 hx (hb hby at_248) rfl (A' := #[.val (.int c1_), .val (.int c2_), .val (.int r1_), .val (.int r2_), .val (.int md_), .val (.int ca), .val (.int cb), .val (.int tA), .val (.int o0), .val (.int o1), .val (.int tB), .val (.int oa), .val (.int k), .val (.int da), .val (.int db), .val (.int ra), .val (.int rb), .val (.ref b92), .val (.ref b103), .unset, .unset, .unset]) rfl ?_
                      obtain ⟨T112, h112, X112, e112, E112, A112, D112, -, st112⟩ := newO X110 hx hZ hown (hw _ (List.mem_of_getElem? (i := 31) rfl)) (hw _ (List.mem_of_getElem? (i := 32) rfl)) (hw _ (List.mem_of_getElem? (i := 33) rfl)) rfl (g := (mkF m 250 #[.val (.int c1_), .val (.int c2_), .val (.int r1_), .val (.int r2_), .val (.int md_), .val (.int ca), .val (.int cb), .val (.int tA), .val (.int o0), .val (.int o1), .val (.int tB), .val (.int oa), .val (.int k), .val (.int da), .val (.int db), .val (.int ra), .val (.int rb), .val (.ref b92), .val (.ref b103), .unset, .unset, .unset] [])) rfl (hb hby at_250) (by decide) (by decide)
                      obtain ⟨b112, gg112⟩ : ∃ z, z = T110.heap.size := ⟨_, rfl⟩
                      rw [← gg112] at A112 D112 st112
                      refine own_st st112 ?_
                      have g_b112 : n0 ≤ b112 := by rw [gg112, ← O111.1]; exact O111.2.1
                      have O112 := Old.ext O111 E112
                      have F112_name : Fld Z h112 b112 "com/example/tightrope/tightrope/logic/Predicate" "name" "Ljava/lang/String;" .null := D112 (Or.inr (hw _ (List.mem_of_getElem? (i := 51) rfl))) (ty := (.object "java/lang/String")) (by decide)
                      have F112_arity : Fld Z h112 b112 "com/example/tightrope/tightrope/logic/Predicate" "arity" "I" (.int (0 : Int32)) := D112 (Or.inr (hw _ (List.mem_of_getElem? (i := 53) rfl))) (ty := .int) (by decide)
                      show own_G p e below _ T112 (mkF m 253 #[.val (.int c1_), .val (.int c2_), .val (.int r1_), .val (.int r2_), .val (.int md_), .val (.int ca), .val (.int cb), .val (.int tA), .val (.int o0), .val (.int o1), .val (.int tB), .val (.int oa), .val (.int k), .val (.int da), .val (.int db), .val (.int ra), .val (.int rb), .val (.ref b92), .val (.ref b103), .unset, .unset, .unset] [(.ref b112)])
                      refine own_dup (q := 253) X112 hx (hb hby at_253) rfl ?_
                      refine own_aload (q := 254) X112 hx (hb hby at_254) rfl rfl ?_
                      refine own_iload (q := 256) X112 hx (hb hby at_256) rfl ?_
                      have c113 := (own_Str.ext E112 (own_Str.keep (own_Str.other (own_Str.ext E104 (own_Str.ext E103 Sf101)) W106 (Nat.ne_of_lt (Nat.lt_of_lt_of_le (Nat.lt_of_lt_of_le Sf101.lt E103.1) (Nat.le_of_eq gg104.symm))) (Nat.ne_of_lt (Nat.lt_of_lt_of_le (Nat.lt_of_lt_of_le Sf101.lt2 E103.1) (Nat.le_of_eq gg104.symm)))) Kp110 (ninS (Nat.ne_of_lt (Nat.lt_of_lt_of_le Sf101.lt (Nat.le_of_eq gg103.symm))) nin0) (ninS (Nat.ne_of_lt (Nat.lt_of_lt_of_le Sf101.lt2 (Nat.le_of_eq gg103.symm))) nin0)))
                      refine own_initS (q := 258) (y := (⟨"com/example/tightrope/tightrope/logic/Predicate", "<init>", "(Ljava/lang/String;I)V"⟩ : MethodName)) (b := b112) (argsL := [(.ref b92), (.int ra)]) (S := [(.ref b112)]) (W := 1) rfl X112 hx hZ hS0 hown (hw _ (List.mem_of_getElem? (i := 34) rfl)) (hw _ (List.mem_of_getElem? (i := 35) rfl)) (hw _ (List.mem_of_getElem? (i := 36) rfl)) (by decide) (backOfS (W := 1) (rm4 l Z a0 hw [] b112 b92 ra t101 ([ca, cb] : List Int32) h112 n0 O112 A112 F112_name F112_arity g_b112 c113 (by simp) hr1) hZ (hw _ (List.mem_of_getElem? (i := 36) rfl)) (hw _ (List.mem_of_getElem? (i := 33) rfl)) (by decide) (by decide)) e112 (Nat.le_trans (Nat.le_trans (Nat.le_trans (Nat.le_trans (Nat.le_trans (Nat.le_trans (Nat.le_trans (Nat.le_trans (Nat.le_trans (Nat.le_trans hk0 E92.1) E93.1) (Keep.of_wr W95).1) (Keep.of_wr W97).1) Kp101.1) E103.1) E104.1) (Keep.of_wr W106).1) Kp110.1) E112.1) (by rw [hml]; rfl) (lenOf own_pd__28Ljava_2flang_2fString_3bI_29V rfl) rfl (Nat.le_of_eq rfl) (hb hby at_258) (by decide) (by decide) (fun T114 L114 v114 k114 X114 hS114 hk114 hZ114 hown114 hQ114 => ?_)
                      obtain ⟨rfl, N114q, Kp114, Ex114, Fn114, Fs114⟩ := hQ114
                      have N114 := Fr.app N110 N114q
                      have O115 := Old.keep O112 Kp114 (allS g_b112 all0)
                      show own_G p e below _ T114 (mkF m 261 #[.val (.int c1_), .val (.int c2_), .val (.int r1_), .val (.int r2_), .val (.int md_), .val (.int ca), .val (.int cb), .val (.int tA), .val (.int o0), .val (.int o1), .val (.int tB), .val (.int oa), .val (.int k), .val (.int da), .val (.int db), .val (.int ra), .val (.int rb), .val (.ref b92), .val (.ref b103), .unset, .unset, .unset] [(.ref b112)])
                      refine own_astore (q := 261) X114 hx (hb hby at_261) rfl (A' := #[.val (.int c1_), .val (.int c2_), .val (.int r1_), .val (.int r2_), .val (.int md_), .val (.int ca), .val (.int cb), .val (.int tA), .val (.int o0), .val (.int o1), .val (.int tB), .val (.int oa), .val (.int k), .val (.int da), .val (.int db), .val (.int ra), .val (.int rb), .val (.ref b92), .val (.ref b103), .val (.ref b112), .unset, .unset]) rfl ?_
                      obtain ⟨T116, h116, X116, e116, E116, A116, D116, -, st116⟩ := newO X114 hx hZ114 hown114 (hw _ (List.mem_of_getElem? (i := 31) rfl)) (hw _ (List.mem_of_getElem? (i := 32) rfl)) (hw _ (List.mem_of_getElem? (i := 33) rfl)) rfl (g := (mkF m 263 #[.val (.int c1_), .val (.int c2_), .val (.int r1_), .val (.int r2_), .val (.int md_), .val (.int ca), .val (.int cb), .val (.int tA), .val (.int o0), .val (.int o1), .val (.int tB), .val (.int oa), .val (.int k), .val (.int da), .val (.int db), .val (.int ra), .val (.int rb), .val (.ref b92), .val (.ref b103), .val (.ref b112), .unset, .unset] [])) rfl (hb hby at_263) (by decide) (by decide)
                      obtain ⟨b116, gg116⟩ : ∃ z, z = T114.heap.size := ⟨_, rfl⟩
                      rw [← gg116] at A116 D116 st116
                      refine own_st st116 ?_
                      have g_b116 : n0 ≤ b116 := by rw [gg116, ← O115.1]; exact O115.2.1
                      have O116 := Old.ext O115 E116
                      have F116_name : Fld Z h116 b116 "com/example/tightrope/tightrope/logic/Predicate" "name" "Ljava/lang/String;" .null := D116 (Or.inr (hw _ (List.mem_of_getElem? (i := 51) rfl))) (ty := (.object "java/lang/String")) (by decide)
                      have F116_arity : Fld Z h116 b116 "com/example/tightrope/tightrope/logic/Predicate" "arity" "I" (.int (0 : Int32)) := D116 (Or.inr (hw _ (List.mem_of_getElem? (i := 53) rfl))) (ty := .int) (by decide)
                      show own_G p e below _ T116 (mkF m 266 #[.val (.int c1_), .val (.int c2_), .val (.int r1_), .val (.int r2_), .val (.int md_), .val (.int ca), .val (.int cb), .val (.int tA), .val (.int o0), .val (.int o1), .val (.int tB), .val (.int oa), .val (.int k), .val (.int da), .val (.int db), .val (.int ra), .val (.int rb), .val (.ref b92), .val (.ref b103), .val (.ref b112), .unset, .unset] [(.ref b116)])
                      refine own_dup (q := 266) X116 hx (hb hby at_266) rfl ?_
                      refine own_aload (q := 267) X116 hx (hb hby at_267) rfl rfl ?_
                      refine own_iload (q := 269) X116 hx (hb hby at_269) rfl ?_
                      have c117 := (own_Str.ext E116 (own_Str.keep (own_Str.ext E112 Sf110) Kp114 (ninS (Nat.ne_of_lt (Nat.lt_of_lt_of_le Sf110.lt (Nat.le_of_eq gg112.symm))) nin0) (ninS (Nat.ne_of_lt (Nat.lt_of_lt_of_le Sf110.lt2 (Nat.le_of_eq gg112.symm))) nin0)))
                      refine own_initS (q := 271) (y := (⟨"com/example/tightrope/tightrope/logic/Predicate", "<init>", "(Ljava/lang/String;I)V"⟩ : MethodName)) (b := b116) (argsL := [(.ref b103), (.int rb)]) (S := [(.ref b116)]) (W := 1) rfl X116 hx hZ114 hS114 hown114 (hw _ (List.mem_of_getElem? (i := 34) rfl)) (hw _ (List.mem_of_getElem? (i := 35) rfl)) (hw _ (List.mem_of_getElem? (i := 36) rfl)) (by decide) (backOfS (W := 1) (rm4 l Z a0 hw [] b116 b103 rb t110 ([da] : List Int32) h116 n0 O116 A116 F116_name F116_arity g_b116 c117 (by simp) h_rb) hZ114 (hw _ (List.mem_of_getElem? (i := 36) rfl)) (hw _ (List.mem_of_getElem? (i := 33) rfl)) (by decide) (by decide)) e116 (Nat.le_trans hk114 E116.1) (by rw [hml]; rfl) (lenOf own_pd__28Ljava_2flang_2fString_3bI_29V rfl) rfl (Nat.le_of_eq rfl) (hb hby at_271) (by decide) (by decide) (fun T118 L118 v118 k118 X118 hS118 hk118 hZ118 hown118 hQ118 => ?_)
                      obtain ⟨rfl, N118q, Kp118, Ex118, Fn118, Fs118⟩ := hQ118
                      have N118 := Fr.app N114 N118q
                      have O119 := Old.keep O116 Kp118 (allS g_b116 all0)
                      show own_G p e below _ T118 (mkF m 274 #[.val (.int c1_), .val (.int c2_), .val (.int r1_), .val (.int r2_), .val (.int md_), .val (.int ca), .val (.int cb), .val (.int tA), .val (.int o0), .val (.int o1), .val (.int tB), .val (.int oa), .val (.int k), .val (.int da), .val (.int db), .val (.int ra), .val (.int rb), .val (.ref b92), .val (.ref b103), .val (.ref b112), .unset, .unset] [(.ref b116)])
                      refine own_astore (q := 274) X118 hx (hb hby at_274) rfl (A' := #[.val (.int c1_), .val (.int c2_), .val (.int r1_), .val (.int r2_), .val (.int md_), .val (.int ca), .val (.int cb), .val (.int tA), .val (.int o0), .val (.int o1), .val (.int tB), .val (.int oa), .val (.int k), .val (.int da), .val (.int db), .val (.int ra), .val (.int rb), .val (.ref b92), .val (.ref b103), .val (.ref b112), .val (.ref b116), .unset]) rfl ?_
                      refine own_iload (q := 276) X118 hx (hb hby at_276) rfl ?_
                      refine own_iconst (q := 278) X118 hx (hb hby at_278) (x := (1 : Int32)) rfl ?_
                      refine own_icmp (t := 297) (q := 279) X118 hx (hb hby at_279) (by decide) (by decide) (fun hq => ?_) (fun hq => ?_)
                      · have hc279 := own_c_ne.1 hq
                        refine own_iload (q := 297) X118 hx (hb hby at_297) rfl ?_
                        refine own_iconst (q := 299) X118 hx (hb hby at_299) (x := (2 : Int32)) rfl ?_
                        refine own_icmp (t := 323) (q := 300) X118 hx (hb hby at_300) (by decide) (by decide) (fun hq => ?_) (fun hq => ?_)
                        · have hc300 := own_c_ne.1 hq
                          refine own_iload (q := 323) X118 hx (hb hby at_323) rfl ?_
                          refine own_iload (q := 325) X118 hx (hb hby at_325) rfl ?_
                          refine own_join (α := Int32) (P := fun ex => ex = (if ra = rb ∧ ([ca, cb] : List Int32) = ([da] : List Int32) then 1 else 0)) (F := fun ex => mkF m 361 #[.val (.int c1_), .val (.int c2_), .val (.int r1_), .val (.int r2_), .val (.int md_), .val (.int ca), .val (.int cb), .val (.int tA), .val (.int o0), .val (.int o1), .val (.int tB), .val (.int oa), .val (.int k), .val (.int da), .val (.int db), .val (.int ra), .val (.int rb), .val (.ref b92), .val (.ref b103), .val (.ref b112), .val (.ref b116), .unset] [(.int ex)]) X118 rfl (fun T120 X120 e120 ex h_ex => ?_) (fun J361 => ?_)
                          · show own_G p e below _ T120 (mkF m 361 #[.val (.int c1_), .val (.int c2_), .val (.int r1_), .val (.int r2_), .val (.int md_), .val (.int ca), .val (.int cb), .val (.int tA), .val (.int o0), .val (.int o1), .val (.int tB), .val (.int oa), .val (.int k), .val (.int da), .val (.int db), .val (.int ra), .val (.int rb), .val (.ref b92), .val (.ref b103), .val (.ref b112), .val (.ref b116), .unset] [(.int ex)])
                            refine own_istore (q := 361) X120 hx (hb hby at_361) (A' := #[.val (.int c1_), .val (.int c2_), .val (.int r1_), .val (.int r2_), .val (.int md_), .val (.int ca), .val (.int cb), .val (.int tA), .val (.int o0), .val (.int o1), .val (.int tB), .val (.int oa), .val (.int k), .val (.int da), .val (.int db), .val (.int ra), .val (.int rb), .val (.ref b92), .val (.ref b103), .val (.ref b112), .val (.ref b116), .val (.int ex)]) rfl ?_
                            refine own_aload (q := 363) X120 hx (hb hby at_363) rfl rfl ?_
                            refine own_aload (q := 365) X120 hx (hb hby at_365) rfl rfl ?_
                            have c121 := (Fld.keep (Fld.ext E116 Fn114) Kp118 (ninS (Nat.ne_of_lt (Nat.lt_of_lt_of_le Ex114.lt (Nat.le_of_eq gg116.symm))) nin0))
                            have c122 := (Fld.keep (Fld.ext E116 Fs114) Kp118 (ninS (Nat.ne_of_lt (Nat.lt_of_lt_of_le Ex114.lt (Nat.le_of_eq gg116.symm))) nin0))
                            have c123 := (own_Str.keep (own_Str.ext E116 (own_Str.keep c113 Kp114 (ninS (Nat.ne_of_lt (Nat.lt_of_lt_of_le (Nat.lt_of_lt_of_le Sf101.lt (Nat.le_trans (Nat.le_trans (Nat.le_trans E103.1 E104.1) (Keep.of_wr W106).1) Kp110.1)) (Nat.le_of_eq gg112.symm))) nin0) (ninS (Nat.ne_of_lt (Nat.lt_of_lt_of_le (Nat.lt_of_lt_of_le Sf101.lt2 (Nat.le_trans (Nat.le_trans (Nat.le_trans E103.1 E104.1) (Keep.of_wr W106).1) Kp110.1)) (Nat.le_of_eq gg112.symm))) nin0))) Kp118 (ninS (Nat.ne_of_lt (Nat.lt_of_lt_of_le (Nat.lt_of_lt_of_le c113.lt Kp114.1) (Nat.le_of_eq gg116.symm))) nin0) (ninS (Nat.ne_of_lt (Nat.lt_of_lt_of_le (Nat.lt_of_lt_of_le c113.lt2 Kp114.1) (Nat.le_of_eq gg116.symm))) nin0))
                            have c124 := (own_Str.keep c117 Kp118 (ninS (Nat.ne_of_lt (Nat.lt_of_lt_of_le (Nat.lt_of_lt_of_le Sf110.lt (Nat.le_trans E112.1 Kp114.1)) (Nat.le_of_eq gg116.symm))) nin0) (ninS (Nat.ne_of_lt (Nat.lt_of_lt_of_le (Nat.lt_of_lt_of_le Sf110.lt2 (Nat.le_trans E112.1 Kp114.1)) (Nat.le_of_eq gg116.symm))) nin0))
                            have c126 := (Exa.keep (Exa.ext E116 Ex114) Kp118)
                            refine own_virtual (q := 367) (y := (⟨"com/example/tightrope/tightrope/logic/Predicate", "equals", "(Ljava/lang/Object;)Z"⟩ : MethodName)) (z := (⟨"com/example/tightrope/tightrope/logic/Predicate", "equals", "(Ljava/lang/Object;)Z"⟩ : MethodName)) (b := b112) (argsL := [(.ref b116)]) (S := []) (W := 0) X120 hx hZ118 hown118 (hw _ (List.mem_of_getElem? (i := 54) rfl)) (hw _ (List.mem_of_getElem? (i := 55) rfl)) (notFace_of_selects (args := #[]) (mvT hZ118 (hw _ (List.mem_of_getElem? (i := 57) rfl)))) (hw _ (List.mem_of_getElem? (i := 57) rfl)) (hw _ (List.mem_of_getElem? (i := 56) rfl)) (by decide) (backOf (W := 0) (rm6p l Z a0 hw [] b112 b116 b92 t101 ([ca, cb] : List Int32) ra b103 t110 ([da] : List Int32) rb zCOMPACT T118.heap n0 O119 c121 c122 c123 Ex118 Fn118 Fs118 c124 SCOMPACT hCOMPACT) hZ118 (hw _ (List.mem_of_getElem? (i := 58) rfl)) (hw _ (List.mem_of_getElem? (i := 33) rfl)) (by decide) (by decide)) e120 c126 (by rw [hml]; rfl) (lenOf own_pd__28Ljava_2flang_2fObject_3b_29Z rfl) rfl (Nat.le_of_eq rfl) (hb hby at_367) (by decide) (by decide) (fun T125 L125 v125 X125 hQ125 => ?_)
                            obtain ⟨rfl, N125q, hh125⟩ := hQ125
                            have N125 := Fr.app N118 N125q
                            show own_G p e below _ T125 (mkF m 370 #[.val (.int c1_), .val (.int c2_), .val (.int r1_), .val (.int r2_), .val (.int md_), .val (.int ca), .val (.int cb), .val (.int tA), .val (.int o0), .val (.int o1), .val (.int tB), .val (.int oa), .val (.int k), .val (.int da), .val (.int db), .val (.int ra), .val (.int rb), .val (.ref b92), .val (.ref b103), .val (.ref b112), .val (.ref b116), .val (.int ex)] [(.int (if ra = rb ∧ ([ca, cb] : List Int32) = ([da] : List Int32) then 1 else 0 : Int32))])
                            refine own_iload (q := 370) X125 hx (hb hby at_370) rfl ?_
                            refine own_icmp (t := 401) (q := 372) X125 hx (hb hby at_372) (by decide) (by decide) (fun hq => ?_) (fun hq => ?_)
                            · have hc372 := own_c_ne.1 hq
                              exact absurd h_ex.symm hc372
                            · have hc372 := own_c_ne.2 hq
                              refine own_aload (q := 375) X125 hx (hb hby at_375) rfl rfl ?_
                              refine own_aload (q := 377) X125 hx (hb hby at_377) rfl rfl ?_
                              refine own_virtual (q := 379) (y := (⟨"com/example/tightrope/tightrope/logic/Predicate", "equals", "(Ljava/lang/Object;)Z"⟩ : MethodName)) (z := (⟨"com/example/tightrope/tightrope/logic/Predicate", "equals", "(Ljava/lang/Object;)Z"⟩ : MethodName)) (b := b116) (argsL := [(.ref b112)]) (S := []) (W := 0) X125 hx hZ118 hown118 (hw _ (List.mem_of_getElem? (i := 54) rfl)) (hw _ (List.mem_of_getElem? (i := 55) rfl)) (notFace_of_selects (args := #[]) (mvT hZ118 (hw _ (List.mem_of_getElem? (i := 57) rfl)))) (hw _ (List.mem_of_getElem? (i := 57) rfl)) (hw _ (List.mem_of_getElem? (i := 56) rfl)) (by decide) (backOf (W := 0) (rm6p l Z a0 hw [] b116 b112 b103 t110 ([da] : List Int32) rb b92 t101 ([ca, cb] : List Int32) ra zCOMPACT T118.heap n0 O119 Fn118 Fs118 c124 c126 c121 c122 c123 SCOMPACT hCOMPACT) hZ118 (hw _ (List.mem_of_getElem? (i := 58) rfl)) (hw _ (List.mem_of_getElem? (i := 33) rfl)) (by decide) (by decide)) hh125 Ex118 (by rw [hml]; rfl) (lenOf own_pd__28Ljava_2flang_2fObject_3b_29Z rfl) rfl (Nat.le_of_eq rfl) (hb hby at_379) (by decide) (by decide) (fun T127 L127 v127 X127 hQ127 => ?_)
                              obtain ⟨rfl, N127q, hh127⟩ := hQ127
                              have N127 := Fr.app N125 N127q
                              show own_G p e below _ T127 (mkF m 382 #[.val (.int c1_), .val (.int c2_), .val (.int r1_), .val (.int r2_), .val (.int md_), .val (.int ca), .val (.int cb), .val (.int tA), .val (.int o0), .val (.int o1), .val (.int tB), .val (.int oa), .val (.int k), .val (.int da), .val (.int db), .val (.int ra), .val (.int rb), .val (.ref b92), .val (.ref b103), .val (.ref b112), .val (.ref b116), .val (.int ex)] [(.int (if rb = ra ∧ ([da] : List Int32) = ([ca, cb] : List Int32) then 1 else 0 : Int32))])
                              refine own_iload (q := 382) X127 hx (hb hby at_382) rfl ?_
                              refine own_icmp (t := 401) (q := 384) X127 hx (hb hby at_384) (by decide) (by decide) (fun hq => ?_) (fun hq => ?_)
                              · have hc384 := own_c_ne.1 hq
                                exact absurd (own_sym.trans h_ex.symm) hc384
                              · have hc384 := own_c_ne.2 hq
                                refine own_aload (q := 387) X127 hx (hb hby at_387) rfl rfl ?_
                                refine own_aload (q := 389) X127 hx (hb hby at_389) rfl rfl ?_
                                refine own_virtual (q := 391) (y := (⟨"com/example/tightrope/tightrope/logic/Predicate", "equals", "(Ljava/lang/Object;)Z"⟩ : MethodName)) (z := (⟨"com/example/tightrope/tightrope/logic/Predicate", "equals", "(Ljava/lang/Object;)Z"⟩ : MethodName)) (b := b112) (argsL := [(.ref b112)]) (S := []) (W := 0) X127 hx hZ118 hown118 (hw _ (List.mem_of_getElem? (i := 54) rfl)) (hw _ (List.mem_of_getElem? (i := 55) rfl)) (notFace_of_selects (args := #[]) (mvT hZ118 (hw _ (List.mem_of_getElem? (i := 57) rfl)))) (hw _ (List.mem_of_getElem? (i := 57) rfl)) (hw _ (List.mem_of_getElem? (i := 56) rfl)) (by decide) (backOf (W := 0) (rm6p l Z a0 hw [] b112 b112 b92 t101 ([ca, cb] : List Int32) ra b92 t101 ([ca, cb] : List Int32) ra zCOMPACT T118.heap n0 O119 c121 c122 c123 c126 c121 c122 c123 SCOMPACT hCOMPACT) hZ118 (hw _ (List.mem_of_getElem? (i := 58) rfl)) (hw _ (List.mem_of_getElem? (i := 33) rfl)) (by decide) (by decide)) hh127 c126 (by rw [hml]; rfl) (lenOf own_pd__28Ljava_2flang_2fObject_3b_29Z rfl) rfl (Nat.le_of_eq rfl) (hb hby at_391) (by decide) (by decide) (fun T128 L128 v128 X128 hQ128 => ?_)
                                obtain ⟨rfl, N128q, hh128⟩ := hQ128
                                have N128 := Fr.app N127 N128q
                                show own_G p e below _ T128 (mkF m 394 #[.val (.int c1_), .val (.int c2_), .val (.int r1_), .val (.int r2_), .val (.int md_), .val (.int ca), .val (.int cb), .val (.int tA), .val (.int o0), .val (.int o1), .val (.int tB), .val (.int oa), .val (.int k), .val (.int da), .val (.int db), .val (.int ra), .val (.int rb), .val (.ref b92), .val (.ref b103), .val (.ref b112), .val (.ref b116), .val (.int ex)] [(.int (if ra = ra ∧ ([ca, cb] : List Int32) = ([ca, cb] : List Int32) then 1 else 0 : Int32))])
                                refine own_if (t := 401) (q := 394) X128 hx (hb hby at_394) (by decide) (by decide) (fun hq => ?_) (fun hq => ?_)
                                · have hc394 := own_h_eq.1 hq
                                  exact (own_one_ne (if_pos ⟨rfl, rfl⟩) hc394).elim
                                · have hc394 := own_h_eq.2 hq
                                  refine own_iconst (q := 397) X128 hx (hb hby at_397) (x := (1 : Int32)) rfl ?_
                                  refine own_goto (t := 402) (q := 398) X128 hx (hb hby at_398) (by decide) (by decide) ?_
                                  exact own_retNW (q := 402) X128 hx hS118 (by rw [hh128]; exact hk118) (t := .boolean) Bd.returns hlk (by simp) (hb hby at_402) rfl (by decide) (by decide) (by show Q0 Z c1_ c2_ r1_ r2_ md_ zCOMPACT h0 n0 _ T128.heap _; rw [hh128]; exact ⟨rfl, N128⟩)
                          · have hj361 := True.intro
                            refine own_icmp (t := 360) (q := 327) X118 hx (hb hby at_327) (by decide) (by decide) (fun hq => ?_) (fun hq => ?_)
                            · have hc327 := own_c_ne.1 hq
                              refine own_iconst (q := 360) X118 hx (hb hby at_360) (x := (0 : Int32)) rfl ?_
                              exact J361 _ X118 rfl (0 : Int32) (by rw [if_neg (fun q => hc327 q.1)])
                            · have hc327 := own_c_ne.2 hq
                              refine own_iload (q := 330) X118 hx (hb hby at_330) rfl ?_
                              refine own_iload (q := 332) X118 hx (hb hby at_332) rfl ?_
                              refine own_icmp (t := 360) (q := 334) X118 hx (hb hby at_334) (by decide) (by decide) (fun hq => ?_) (fun hq => ?_)
                              · have hc334 := own_c_ne.1 hq
                                refine own_iconst (q := 360) X118 hx (hb hby at_360) (x := (0 : Int32)) rfl ?_
                                exact J361 _ X118 rfl (0 : Int32) (by rw [if_neg (fun q => absurd (congrArg List.length q.2) (by simp))])
                              · have hc334 := own_c_ne.2 hq
                                exact absurd (hc334.trans hc207) hc162
                        · have hc300 := own_c_ne.2 hq
                          refine own_aload (q := 303) X118 hx (hb hby at_303) rfl rfl ?_
                          refine own_astore (q := 305) X118 hx (hb hby at_305) rfl (A' := #[.val (.int c1_), .val (.int c2_), .val (.int r1_), .val (.int r2_), .val (.int md_), .val (.int ca), .val (.int cb), .val (.int tA), .val (.int o0), .val (.int o1), .val (.int tB), .val (.int oa), .val (.int k), .val (.int da), .val (.int db), .val (.int ra), .val (.int rb), .val (.ref b92), .val (.ref b103), .val (.ref b112), .val (.ref b116), .val (.ref b92)]) rfl ?_
                          refine own_aload (q := 307) X118 hx (hb hby at_307) rfl rfl ?_
                          refine own_aload (q := 309) X118 hx (hb hby at_309) rfl rfl ?_
                          have c129 := (Fld.keep (Fld.ext E116 Fn114) Kp118 (ninS (Nat.ne_of_lt (Nat.lt_of_lt_of_le Ex114.lt (Nat.le_of_eq gg116.symm))) nin0))
                          have c130 := (Fld.keep (Fld.ext E116 Fs114) Kp118 (ninS (Nat.ne_of_lt (Nat.lt_of_lt_of_le Ex114.lt (Nat.le_of_eq gg116.symm))) nin0))
                          have c131 := (own_Str.keep (own_Str.ext E116 (own_Str.keep c113 Kp114 (ninS (Nat.ne_of_lt (Nat.lt_of_lt_of_le (Nat.lt_of_lt_of_le Sf101.lt (Nat.le_trans (Nat.le_trans (Nat.le_trans E103.1 E104.1) (Keep.of_wr W106).1) Kp110.1)) (Nat.le_of_eq gg112.symm))) nin0) (ninS (Nat.ne_of_lt (Nat.lt_of_lt_of_le (Nat.lt_of_lt_of_le Sf101.lt2 (Nat.le_trans (Nat.le_trans (Nat.le_trans E103.1 E104.1) (Keep.of_wr W106).1) Kp110.1)) (Nat.le_of_eq gg112.symm))) nin0))) Kp118 (ninS (Nat.ne_of_lt (Nat.lt_of_lt_of_le (Nat.lt_of_lt_of_le c113.lt Kp114.1) (Nat.le_of_eq gg116.symm))) nin0) (ninS (Nat.ne_of_lt (Nat.lt_of_lt_of_le (Nat.lt_of_lt_of_le c113.lt2 Kp114.1) (Nat.le_of_eq gg116.symm))) nin0))
                          have c133 := (Exa.keep (Exa.ext E116 Ex114) Kp118)
                          refine own_virtual (q := 311) (y := (⟨"com/example/tightrope/tightrope/logic/Predicate", "equals", "(Ljava/lang/Object;)Z"⟩ : MethodName)) (z := (⟨"com/example/tightrope/tightrope/logic/Predicate", "equals", "(Ljava/lang/Object;)Z"⟩ : MethodName)) (b := b112) (argsL := [(.ref b92)]) (S := []) (W := 0) X118 hx hZ118 hown118 (hw _ (List.mem_of_getElem? (i := 54) rfl)) (hw _ (List.mem_of_getElem? (i := 55) rfl)) (notFace_of_selects (args := #[]) (mvT hZ118 (hw _ (List.mem_of_getElem? (i := 57) rfl)))) (hw _ (List.mem_of_getElem? (i := 57) rfl)) (hw _ (List.mem_of_getElem? (i := 56) rfl)) (by decide) (backOf (W := 0) (rm6s l Z a0 hw [] b112 b92 b92 t101 ([ca, cb] : List Int32) ra zCOMPACT T118.heap n0 O119 c129 c130 c131 c131.1 SCOMPACT hCOMPACT) hZ118 (hw _ (List.mem_of_getElem? (i := 58) rfl)) (hw _ (List.mem_of_getElem? (i := 33) rfl)) (by decide) (by decide)) rfl c133 (by rw [hml]; rfl) (lenOf own_pd__28Ljava_2flang_2fObject_3b_29Z rfl) rfl (Nat.le_of_eq rfl) (hb hby at_311) (by decide) (by decide) (fun T132 L132 v132 X132 hQ132 => ?_)
                          obtain ⟨rfl, N132q, hh132⟩ := hQ132
                          have N132 := Fr.app N118 N132q
                          show own_G p e below _ T132 (mkF m 314 #[.val (.int c1_), .val (.int c2_), .val (.int r1_), .val (.int r2_), .val (.int md_), .val (.int ca), .val (.int cb), .val (.int tA), .val (.int o0), .val (.int o1), .val (.int tB), .val (.int oa), .val (.int k), .val (.int da), .val (.int db), .val (.int ra), .val (.int rb), .val (.ref b92), .val (.ref b103), .val (.ref b112), .val (.ref b116), .val (.ref b92)] [(.int (0 : Int32))])
                          refine own_if (t := 321) (q := 314) X132 hx (hb hby at_314) (by decide) (by decide) (fun hq => ?_) (fun hq => ?_)
                          · have hc314 := own_h_ne.1 hq
                            exact absurd rfl hc314
                          · have hc314 := own_h_ne.2 hq
                            refine own_iconst (q := 317) X132 hx (hb hby at_317) (x := (1 : Int32)) rfl ?_
                            refine own_goto (t := 322) (q := 318) X132 hx (hb hby at_318) (by decide) (by decide) ?_
                            exact own_retNW (q := 322) X132 hx hS118 (by rw [hh132]; exact hk118) (t := .boolean) Bd.returns hlk (by simp) (hb hby at_322) rfl (by decide) (by decide) (by show Q0 Z c1_ c2_ r1_ r2_ md_ zCOMPACT h0 n0 _ T132.heap _; rw [hh132]; exact ⟨rfl, N132⟩)
                      · have hc279 := own_c_ne.2 hq
                        refine own_aload (q := 282) X118 hx (hb hby at_282) rfl rfl ?_
                        refine own_anull (q := 284) X118 hx (hb hby at_284) ?_
                        have c134 := (Fld.keep (Fld.ext E116 Fn114) Kp118 (ninS (Nat.ne_of_lt (Nat.lt_of_lt_of_le Ex114.lt (Nat.le_of_eq gg116.symm))) nin0))
                        have c135 := (Fld.keep (Fld.ext E116 Fs114) Kp118 (ninS (Nat.ne_of_lt (Nat.lt_of_lt_of_le Ex114.lt (Nat.le_of_eq gg116.symm))) nin0))
                        have c136 := (own_Str.keep (own_Str.ext E116 (own_Str.keep c113 Kp114 (ninS (Nat.ne_of_lt (Nat.lt_of_lt_of_le (Nat.lt_of_lt_of_le Sf101.lt (Nat.le_trans (Nat.le_trans (Nat.le_trans E103.1 E104.1) (Keep.of_wr W106).1) Kp110.1)) (Nat.le_of_eq gg112.symm))) nin0) (ninS (Nat.ne_of_lt (Nat.lt_of_lt_of_le (Nat.lt_of_lt_of_le Sf101.lt2 (Nat.le_trans (Nat.le_trans (Nat.le_trans E103.1 E104.1) (Keep.of_wr W106).1) Kp110.1)) (Nat.le_of_eq gg112.symm))) nin0))) Kp118 (ninS (Nat.ne_of_lt (Nat.lt_of_lt_of_le (Nat.lt_of_lt_of_le c113.lt Kp114.1) (Nat.le_of_eq gg116.symm))) nin0) (ninS (Nat.ne_of_lt (Nat.lt_of_lt_of_le (Nat.lt_of_lt_of_le c113.lt2 Kp114.1) (Nat.le_of_eq gg116.symm))) nin0))
                        have c138 := (Exa.keep (Exa.ext E116 Ex114) Kp118)
                        refine own_virtual (q := 285) (y := (⟨"com/example/tightrope/tightrope/logic/Predicate", "equals", "(Ljava/lang/Object;)Z"⟩ : MethodName)) (z := (⟨"com/example/tightrope/tightrope/logic/Predicate", "equals", "(Ljava/lang/Object;)Z"⟩ : MethodName)) (b := b112) (argsL := [.null]) (S := []) (W := 0) X118 hx hZ118 hown118 (hw _ (List.mem_of_getElem? (i := 54) rfl)) (hw _ (List.mem_of_getElem? (i := 55) rfl)) (notFace_of_selects (args := #[]) (mvT hZ118 (hw _ (List.mem_of_getElem? (i := 57) rfl)))) (hw _ (List.mem_of_getElem? (i := 57) rfl)) (hw _ (List.mem_of_getElem? (i := 56) rfl)) (by decide) (backOf (W := 0) (rm6n l Z a0 hw [] b112 b92 t101 ([ca, cb] : List Int32) ra zCOMPACT T118.heap n0 O119 c134 c135 c136 SCOMPACT hCOMPACT) hZ118 (hw _ (List.mem_of_getElem? (i := 58) rfl)) (hw _ (List.mem_of_getElem? (i := 33) rfl)) (by decide) (by decide)) rfl c138 (by rw [hml]; rfl) (lenOf own_pd__28Ljava_2flang_2fObject_3b_29Z rfl) rfl (Nat.le_of_eq rfl) (hb hby at_285) (by decide) (by decide) (fun T137 L137 v137 X137 hQ137 => ?_)
                        obtain ⟨rfl, N137q, hh137⟩ := hQ137
                        have N137 := Fr.app N118 N137q
                        show own_G p e below _ T137 (mkF m 288 #[.val (.int c1_), .val (.int c2_), .val (.int r1_), .val (.int r2_), .val (.int md_), .val (.int ca), .val (.int cb), .val (.int tA), .val (.int o0), .val (.int o1), .val (.int tB), .val (.int oa), .val (.int k), .val (.int da), .val (.int db), .val (.int ra), .val (.int rb), .val (.ref b92), .val (.ref b103), .val (.ref b112), .val (.ref b116), .unset] [(.int (0 : Int32))])
                        refine own_if (t := 295) (q := 288) X137 hx (hb hby at_288) (by decide) (by decide) (fun hq => ?_) (fun hq => ?_)
                        · have hc288 := own_h_ne.1 hq
                          exact absurd rfl hc288
                        · have hc288 := own_h_ne.2 hq
                          refine own_iconst (q := 291) X137 hx (hb hby at_291) (x := (1 : Int32)) rfl ?_
                          refine own_goto (t := 296) (q := 292) X137 hx (hb hby at_292) (by decide) (by decide) ?_
                          exact own_retNW (q := 296) X137 hx hS118 (by rw [hh137]; exact hk118) (t := .boolean) Bd.returns hlk (by simp) (hb hby at_296) rfl (by decide) (by decide) (by show Q0 Z c1_ c2_ r1_ r2_ md_ zCOMPACT h0 n0 _ T137.heap _; rw [hh137]; exact ⟨rfl, N137⟩)
                    · have hc207 := own_h_eq.2 hq
                      obtain ⟨T139, h139, X139, e139, E139, A139, D139, -, st139⟩ := newO X101 hx hZ hown (hw _ (List.mem_of_getElem? (i := 1) rfl)) (hw _ (List.mem_of_getElem? (i := 2) rfl)) (hw _ (List.mem_of_getElem? (i := 3) rfl)) rfl (g := (mkF m 210 #[.val (.int c1_), .val (.int c2_), .val (.int r1_), .val (.int r2_), .val (.int md_), .val (.int ca), .val (.int cb), .val (.int tA), .val (.int o0), .val (.int o1), .val (.int tB), .val (.int oa), .val (.int k), .val (.int da), .val (.int db), .val (.int ra), .val (.int rb), .val (.ref b92), .unset, .unset, .unset, .unset] [])) rfl (hb hby at_210) (by decide) (by decide)
                      obtain ⟨b139, gg139⟩ : ∃ z, z = T101.heap.size := ⟨_, rfl⟩
                      rw [← gg139] at A139 D139 st139
                      refine own_st st139 ?_
                      have g_b139 : n0 ≤ b139 := by rw [gg139, ← O102.1]; exact O102.2.1
                      have O139 := Old.ext O102 E139
                      have F139_coder : Fld Z h139 b139 "java/lang/String" "coder" "B" (.int (0 : Int32)) := D139 (Or.inr (hw _ (List.mem_of_getElem? (i := 28) rfl))) (ty := .byte) (by decide)
                      have F139_value : Fld Z h139 b139 "java/lang/String" "value" "[B" .null := D139 (Or.inr (hw _ (List.mem_of_getElem? (i := 30) rfl))) (ty := (.array .byte)) (by decide)
                      show own_G p e below _ T139 (mkF m 213 #[.val (.int c1_), .val (.int c2_), .val (.int r1_), .val (.int r2_), .val (.int md_), .val (.int ca), .val (.int cb), .val (.int tA), .val (.int o0), .val (.int o1), .val (.int tB), .val (.int oa), .val (.int k), .val (.int da), .val (.int db), .val (.int ra), .val (.int rb), .val (.ref b92), .unset, .unset, .unset, .unset] [(.ref b139)])
                      refine own_dup (q := 213) X139 hx (hb hby at_213) rfl ?_
                      refine own_iconst (q := 214) X139 hx (hb hby at_214) (x := (2 : Int32)) rfl ?_
                      obtain ⟨T140, h140, k140, X140, e140, E140, A140, st140⟩ := newP X139 hx hZ (hw _ (List.mem_of_getElem? (i := 4) rfl)) e139 (g := (mkF m 215 #[.val (.int c1_), .val (.int c2_), .val (.int r1_), .val (.int r2_), .val (.int md_), .val (.int ca), .val (.int cb), .val (.int tA), .val (.int o0), .val (.int o1), .val (.int tB), .val (.int oa), .val (.int k), .val (.int da), .val (.int db), .val (.int ra), .val (.int rb), .val (.ref b92), .unset, .unset, .unset, .unset] [(.int (2 : Int32)), (.ref b139), (.ref b139)])) rfl (hb hby at_215) rfl (by decide) (cap := 2) (by decide) (by decide) (by decide) (by decide)
                      obtain ⟨b140, gg140⟩ : ∃ z, z = h139.size := ⟨_, rfl⟩
                      rw [← gg140] at A140 st140
                      refine own_st st140 ?_
                      have g_b140 : n0 ≤ b140 := by rw [gg140, ← O139.1]; exact O139.2.1
                      have O140 := Old.ext O139 E140
                      have V140 : Arv Z h140 b140 k140 .char (2 : Int32) [(.int (0 : Int32)), (.int (0 : Int32))] (.int (0 : Int32)) := (Arv.new A140 (by decide)).pad (pad_rep [] (.int (0 : Int32)) 2)
                      show own_G p e below _ T140 (mkF m 217 #[.val (.int c1_), .val (.int c2_), .val (.int r1_), .val (.int r2_), .val (.int md_), .val (.int ca), .val (.int cb), .val (.int tA), .val (.int o0), .val (.int o1), .val (.int tB), .val (.int oa), .val (.int k), .val (.int da), .val (.int db), .val (.int ra), .val (.int rb), .val (.ref b92), .unset, .unset, .unset, .unset] [(.ref b140), (.ref b139), (.ref b139)])
                      refine own_dup (q := 217) X140 hx (hb hby at_217) rfl ?_
                      refine own_iconst (q := 218) X140 hx (hb hby at_218) (x := (0 : Int32)) rfl ?_
                      refine own_iload (q := 219) X140 hx (hb hby at_219) rfl ?_
                      obtain ⟨cl141, Ar141, Aq141, As141, An141, Ah141, Ag141⟩ := V140
                      obtain ⟨T142, h142, X142, e142, W142, st142⟩ := stC X140 hx hZ e140 Ar141 (j := (0 : Int32)) (inb_of As141 ⟨by decide, by decide⟩) (g := (mkF m 221 #[.val (.int c1_), .val (.int c2_), .val (.int r1_), .val (.int r2_), .val (.int md_), .val (.int ca), .val (.int cb), .val (.int tA), .val (.int o0), .val (.int o1), .val (.int tB), .val (.int oa), .val (.int k), .val (.int da), .val (.int db), .val (.int ra), .val (.int rb), .val (.ref b92), .unset, .unset, .unset, .unset] [(.int da), (.int (0 : Int32)), (.ref b140), (.ref b140), (.ref b139), (.ref b139)])) rfl rfl (hb hby at_221)
                      refine own_st st142 ?_
                      have V142 : Arv Z h142 b140 k140 .char (2 : Int32) [(.int (nar .char da)), (.int (0 : Int32))] (.int (0 : Int32)) := Arv.set Ar141 Aq141 As141 An141 Ah141 Ag141 (fits_nar_char _) W142 0 rfl (Nat.le_of_ble_eq_true rfl)
                      rw [n_da] at V142
                      have N142 := Fr.snoc X142 N101 g_b140
                      have O142 := Old.wr O140 W142 g_b140
                      show own_G p e below _ T142 (mkF m 222 #[.val (.int c1_), .val (.int c2_), .val (.int r1_), .val (.int r2_), .val (.int md_), .val (.int ca), .val (.int cb), .val (.int tA), .val (.int o0), .val (.int o1), .val (.int tB), .val (.int oa), .val (.int k), .val (.int da), .val (.int db), .val (.int ra), .val (.int rb), .val (.ref b92), .unset, .unset, .unset, .unset] [(.ref b140), (.ref b139), (.ref b139)])
                      refine own_dup (q := 222) X142 hx (hb hby at_222) rfl ?_
                      refine own_iconst (q := 223) X142 hx (hb hby at_223) (x := (1 : Int32)) rfl ?_
                      refine own_iload (q := 224) X142 hx (hb hby at_224) rfl ?_
                      obtain ⟨cl143, Ar143, Aq143, As143, An143, Ah143, Ag143⟩ := V142
                      obtain ⟨T144, h144, X144, e144, W144, st144⟩ := stC X142 hx hZ e142 Ar143 (j := (1 : Int32)) (inb_of As143 ⟨by decide, by decide⟩) (g := (mkF m 226 #[.val (.int c1_), .val (.int c2_), .val (.int r1_), .val (.int r2_), .val (.int md_), .val (.int ca), .val (.int cb), .val (.int tA), .val (.int o0), .val (.int o1), .val (.int tB), .val (.int oa), .val (.int k), .val (.int da), .val (.int db), .val (.int ra), .val (.int rb), .val (.ref b92), .unset, .unset, .unset, .unset] [(.int db), (.int (1 : Int32)), (.ref b140), (.ref b140), (.ref b139), (.ref b139)])) rfl rfl (hb hby at_226)
                      refine own_st st144 ?_
                      have V144 : Arv Z h144 b140 k140 .char (2 : Int32) [(.int da), (.int (nar .char db))] (.int (0 : Int32)) := Arv.set Ar143 Aq143 As143 An143 Ah143 Ag143 (fits_nar_char _) W144 1 rfl (Nat.le_of_ble_eq_true rfl)
                      rw [n_db] at V144
                      have N144 := Fr.snoc X144 N142 g_b140
                      have O144 := Old.wr O142 W144 g_b140
                      show own_G p e below _ T144 (mkF m 227 #[.val (.int c1_), .val (.int c2_), .val (.int r1_), .val (.int r2_), .val (.int md_), .val (.int ca), .val (.int cb), .val (.int tA), .val (.int o0), .val (.int o1), .val (.int tB), .val (.int oa), .val (.int k), .val (.int da), .val (.int db), .val (.int ra), .val (.int rb), .val (.ref b92), .unset, .unset, .unset, .unset] [(.ref b140), (.ref b139), (.ref b139)])
                      have c145 := (Exa.wr W144 (Exa.wr W142 (Exa.ext E140 A139)))
                      have c146 := (Fld.other W144 (Fld.other W142 (Fld.ext E140 F139_value) (Or.inl (Nat.ne_of_lt (Nat.lt_of_lt_of_le A139.lt (Nat.le_of_eq gg140.symm))))) (Or.inl (Nat.ne_of_lt (Nat.lt_of_lt_of_le A139.lt (Nat.le_of_eq gg140.symm)))))
                      have c147 := (Fld.other W144 (Fld.other W142 (Fld.ext E140 F139_coder) (Or.inl (Nat.ne_of_lt (Nat.lt_of_lt_of_le A139.lt (Nat.le_of_eq gg140.symm))))) (Or.inl (Nat.ne_of_lt (Nat.lt_of_lt_of_le A139.lt (Nat.le_of_eq gg140.symm)))))
                      refine own_init (q := 227) (y := (⟨"java/lang/String", "<init>", "([C)V"⟩ : MethodName)) (b := b139) (argsL := [(.ref b140)]) (S := [(.ref b139)]) (W := 1) rfl X144 hx hZ hown (hw _ (List.mem_of_getElem? (i := 5) rfl)) (hw _ (List.mem_of_getElem? (i := 6) rfl)) (hw _ (List.mem_of_getElem? (i := 7) rfl)) (by decide) (own_newB (W := 1) (cs := ([da, db] : List Int32)) (n := 2) hZ hw (hw _ (List.mem_of_getElem? (i := 2) rfl)) O144 g_b139 c145 c146 c147 V144 SCOMPACT hCOMPACT rfl rfl (by decide) (by decide) (own_csS ⟨l_da, u_da⟩ (own_csS ⟨l_db, u_db⟩ own_cs0)) (by decide) (by decide)) e144 (by rw [hml]; rfl) (lenOf own_pd__28_5bC_29V rfl) rfl (Nat.le_of_eq rfl) (hb hby at_227) (by decide) (by decide) (fun T148 L148 v148 X148 hQ148 => ?_)
                      obtain ⟨rfl, Nq148, Kp148, t148, g_t148, ht148, hne148, Sf148⟩ := hQ148
                      have N148 := Fr.app N144 Nq148
                      have O149 := Old.keep O144 Kp148 (allS g_b139 all0)
                      show own_G p e below _ T148 (mkF m 230 #[.val (.int c1_), .val (.int c2_), .val (.int r1_), .val (.int r2_), .val (.int md_), .val (.int ca), .val (.int cb), .val (.int tA), .val (.int o0), .val (.int o1), .val (.int tB), .val (.int oa), .val (.int k), .val (.int da), .val (.int db), .val (.int ra), .val (.int rb), .val (.ref b92), .unset, .unset, .unset, .unset] [(.ref b139)])
                      refine own_goto (t := 248) (q := 230) X148 hx (hb hby at_230) (by decide) (by decide) ?_
                      refine own_astore (q := 248) X148 hx (hb hby at_248) rfl (A' := #[.val (.int c1_), .val (.int c2_), .val (.int r1_), .val (.int r2_), .val (.int md_), .val (.int ca), .val (.int cb), .val (.int tA), .val (.int o0), .val (.int o1), .val (.int tB), .val (.int oa), .val (.int k), .val (.int da), .val (.int db), .val (.int ra), .val (.int rb), .val (.ref b92), .val (.ref b139), .unset, .unset, .unset]) rfl ?_
                      obtain ⟨T150, h150, X150, e150, E150, A150, D150, -, st150⟩ := newO X148 hx hZ hown (hw _ (List.mem_of_getElem? (i := 31) rfl)) (hw _ (List.mem_of_getElem? (i := 32) rfl)) (hw _ (List.mem_of_getElem? (i := 33) rfl)) rfl (g := (mkF m 250 #[.val (.int c1_), .val (.int c2_), .val (.int r1_), .val (.int r2_), .val (.int md_), .val (.int ca), .val (.int cb), .val (.int tA), .val (.int o0), .val (.int o1), .val (.int tB), .val (.int oa), .val (.int k), .val (.int da), .val (.int db), .val (.int ra), .val (.int rb), .val (.ref b92), .val (.ref b139), .unset, .unset, .unset] [])) rfl (hb hby at_250) (by decide) (by decide)
                      obtain ⟨b150, gg150⟩ : ∃ z, z = T148.heap.size := ⟨_, rfl⟩
                      rw [← gg150] at A150 D150 st150
                      refine own_st st150 ?_
                      have g_b150 : n0 ≤ b150 := by rw [gg150, ← O149.1]; exact O149.2.1
                      have O150 := Old.ext O149 E150
                      have F150_name : Fld Z h150 b150 "com/example/tightrope/tightrope/logic/Predicate" "name" "Ljava/lang/String;" .null := D150 (Or.inr (hw _ (List.mem_of_getElem? (i := 51) rfl))) (ty := (.object "java/lang/String")) (by decide)
                      have F150_arity : Fld Z h150 b150 "com/example/tightrope/tightrope/logic/Predicate" "arity" "I" (.int (0 : Int32)) := D150 (Or.inr (hw _ (List.mem_of_getElem? (i := 53) rfl))) (ty := .int) (by decide)
                      show own_G p e below _ T150 (mkF m 253 #[.val (.int c1_), .val (.int c2_), .val (.int r1_), .val (.int r2_), .val (.int md_), .val (.int ca), .val (.int cb), .val (.int tA), .val (.int o0), .val (.int o1), .val (.int tB), .val (.int oa), .val (.int k), .val (.int da), .val (.int db), .val (.int ra), .val (.int rb), .val (.ref b92), .val (.ref b139), .unset, .unset, .unset] [(.ref b150)])
                      refine own_dup (q := 253) X150 hx (hb hby at_253) rfl ?_
                      refine own_aload (q := 254) X150 hx (hb hby at_254) rfl rfl ?_
                      refine own_iload (q := 256) X150 hx (hb hby at_256) rfl ?_
                      have c151 := (own_Str.ext E150 (own_Str.keep (own_Str.other (own_Str.other (own_Str.ext E140 (own_Str.ext E139 Sf101)) W142 (Nat.ne_of_lt (Nat.lt_of_lt_of_le (Nat.lt_of_lt_of_le Sf101.lt E139.1) (Nat.le_of_eq gg140.symm))) (Nat.ne_of_lt (Nat.lt_of_lt_of_le (Nat.lt_of_lt_of_le Sf101.lt2 E139.1) (Nat.le_of_eq gg140.symm)))) W144 (Nat.ne_of_lt (Nat.lt_of_lt_of_le (Nat.lt_of_lt_of_le Sf101.lt E139.1) (Nat.le_of_eq gg140.symm))) (Nat.ne_of_lt (Nat.lt_of_lt_of_le (Nat.lt_of_lt_of_le Sf101.lt2 E139.1) (Nat.le_of_eq gg140.symm)))) Kp148 (ninS (Nat.ne_of_lt (Nat.lt_of_lt_of_le Sf101.lt (Nat.le_of_eq gg139.symm))) nin0) (ninS (Nat.ne_of_lt (Nat.lt_of_lt_of_le Sf101.lt2 (Nat.le_of_eq gg139.symm))) nin0)))
                      refine own_initS (q := 258) (y := (⟨"com/example/tightrope/tightrope/logic/Predicate", "<init>", "(Ljava/lang/String;I)V"⟩ : MethodName)) (b := b150) (argsL := [(.ref b92), (.int ra)]) (S := [(.ref b150)]) (W := 1) rfl X150 hx hZ hS0 hown (hw _ (List.mem_of_getElem? (i := 34) rfl)) (hw _ (List.mem_of_getElem? (i := 35) rfl)) (hw _ (List.mem_of_getElem? (i := 36) rfl)) (by decide) (backOfS (W := 1) (rm4 l Z a0 hw [] b150 b92 ra t101 ([ca, cb] : List Int32) h150 n0 O150 A150 F150_name F150_arity g_b150 c151 (by simp) hr1) hZ (hw _ (List.mem_of_getElem? (i := 36) rfl)) (hw _ (List.mem_of_getElem? (i := 33) rfl)) (by decide) (by decide)) e150 (Nat.le_trans (Nat.le_trans (Nat.le_trans (Nat.le_trans (Nat.le_trans (Nat.le_trans (Nat.le_trans (Nat.le_trans (Nat.le_trans (Nat.le_trans (Nat.le_trans hk0 E92.1) E93.1) (Keep.of_wr W95).1) (Keep.of_wr W97).1) Kp101.1) E139.1) E140.1) (Keep.of_wr W142).1) (Keep.of_wr W144).1) Kp148.1) E150.1) (by rw [hml]; rfl) (lenOf own_pd__28Ljava_2flang_2fString_3bI_29V rfl) rfl (Nat.le_of_eq rfl) (hb hby at_258) (by decide) (by decide) (fun T152 L152 v152 k152 X152 hS152 hk152 hZ152 hown152 hQ152 => ?_)
                      obtain ⟨rfl, N152q, Kp152, Ex152, Fn152, Fs152⟩ := hQ152
                      have N152 := Fr.app N148 N152q
                      have O153 := Old.keep O150 Kp152 (allS g_b150 all0)
                      show own_G p e below _ T152 (mkF m 261 #[.val (.int c1_), .val (.int c2_), .val (.int r1_), .val (.int r2_), .val (.int md_), .val (.int ca), .val (.int cb), .val (.int tA), .val (.int o0), .val (.int o1), .val (.int tB), .val (.int oa), .val (.int k), .val (.int da), .val (.int db), .val (.int ra), .val (.int rb), .val (.ref b92), .val (.ref b139), .unset, .unset, .unset] [(.ref b150)])
                      refine own_astore (q := 261) X152 hx (hb hby at_261) rfl (A' := #[.val (.int c1_), .val (.int c2_), .val (.int r1_), .val (.int r2_), .val (.int md_), .val (.int ca), .val (.int cb), .val (.int tA), .val (.int o0), .val (.int o1), .val (.int tB), .val (.int oa), .val (.int k), .val (.int da), .val (.int db), .val (.int ra), .val (.int rb), .val (.ref b92), .val (.ref b139), .val (.ref b150), .unset, .unset]) rfl ?_
                      obtain ⟨T154, h154, X154, e154, E154, A154, D154, -, st154⟩ := newO X152 hx hZ152 hown152 (hw _ (List.mem_of_getElem? (i := 31) rfl)) (hw _ (List.mem_of_getElem? (i := 32) rfl)) (hw _ (List.mem_of_getElem? (i := 33) rfl)) rfl (g := (mkF m 263 #[.val (.int c1_), .val (.int c2_), .val (.int r1_), .val (.int r2_), .val (.int md_), .val (.int ca), .val (.int cb), .val (.int tA), .val (.int o0), .val (.int o1), .val (.int tB), .val (.int oa), .val (.int k), .val (.int da), .val (.int db), .val (.int ra), .val (.int rb), .val (.ref b92), .val (.ref b139), .val (.ref b150), .unset, .unset] [])) rfl (hb hby at_263) (by decide) (by decide)
                      obtain ⟨b154, gg154⟩ : ∃ z, z = T152.heap.size := ⟨_, rfl⟩
                      rw [← gg154] at A154 D154 st154
                      refine own_st st154 ?_
                      have g_b154 : n0 ≤ b154 := by rw [gg154, ← O153.1]; exact O153.2.1
                      have O154 := Old.ext O153 E154
                      have F154_name : Fld Z h154 b154 "com/example/tightrope/tightrope/logic/Predicate" "name" "Ljava/lang/String;" .null := D154 (Or.inr (hw _ (List.mem_of_getElem? (i := 51) rfl))) (ty := (.object "java/lang/String")) (by decide)
                      have F154_arity : Fld Z h154 b154 "com/example/tightrope/tightrope/logic/Predicate" "arity" "I" (.int (0 : Int32)) := D154 (Or.inr (hw _ (List.mem_of_getElem? (i := 53) rfl))) (ty := .int) (by decide)
                      show own_G p e below _ T154 (mkF m 266 #[.val (.int c1_), .val (.int c2_), .val (.int r1_), .val (.int r2_), .val (.int md_), .val (.int ca), .val (.int cb), .val (.int tA), .val (.int o0), .val (.int o1), .val (.int tB), .val (.int oa), .val (.int k), .val (.int da), .val (.int db), .val (.int ra), .val (.int rb), .val (.ref b92), .val (.ref b139), .val (.ref b150), .unset, .unset] [(.ref b154)])
                      refine own_dup (q := 266) X154 hx (hb hby at_266) rfl ?_
                      refine own_aload (q := 267) X154 hx (hb hby at_267) rfl rfl ?_
                      refine own_iload (q := 269) X154 hx (hb hby at_269) rfl ?_
                      have c155 := (own_Str.ext E154 (own_Str.keep (own_Str.ext E150 Sf148) Kp152 (ninS (Nat.ne_of_lt (Nat.lt_of_lt_of_le Sf148.lt (Nat.le_of_eq gg150.symm))) nin0) (ninS (Nat.ne_of_lt (Nat.lt_of_lt_of_le Sf148.lt2 (Nat.le_of_eq gg150.symm))) nin0)))
                      refine own_initS (q := 271) (y := (⟨"com/example/tightrope/tightrope/logic/Predicate", "<init>", "(Ljava/lang/String;I)V"⟩ : MethodName)) (b := b154) (argsL := [(.ref b139), (.int rb)]) (S := [(.ref b154)]) (W := 1) rfl X154 hx hZ152 hS152 hown152 (hw _ (List.mem_of_getElem? (i := 34) rfl)) (hw _ (List.mem_of_getElem? (i := 35) rfl)) (hw _ (List.mem_of_getElem? (i := 36) rfl)) (by decide) (backOfS (W := 1) (rm4 l Z a0 hw [] b154 b139 rb t148 ([da, db] : List Int32) h154 n0 O154 A154 F154_name F154_arity g_b154 c155 (by simp) h_rb) hZ152 (hw _ (List.mem_of_getElem? (i := 36) rfl)) (hw _ (List.mem_of_getElem? (i := 33) rfl)) (by decide) (by decide)) e154 (Nat.le_trans hk152 E154.1) (by rw [hml]; rfl) (lenOf own_pd__28Ljava_2flang_2fString_3bI_29V rfl) rfl (Nat.le_of_eq rfl) (hb hby at_271) (by decide) (by decide) (fun T156 L156 v156 k156 X156 hS156 hk156 hZ156 hown156 hQ156 => ?_)
                      obtain ⟨rfl, N156q, Kp156, Ex156, Fn156, Fs156⟩ := hQ156
                      have N156 := Fr.app N152 N156q
                      have O157 := Old.keep O154 Kp156 (allS g_b154 all0)
                      show own_G p e below _ T156 (mkF m 274 #[.val (.int c1_), .val (.int c2_), .val (.int r1_), .val (.int r2_), .val (.int md_), .val (.int ca), .val (.int cb), .val (.int tA), .val (.int o0), .val (.int o1), .val (.int tB), .val (.int oa), .val (.int k), .val (.int da), .val (.int db), .val (.int ra), .val (.int rb), .val (.ref b92), .val (.ref b139), .val (.ref b150), .unset, .unset] [(.ref b154)])
                      refine own_astore (q := 274) X156 hx (hb hby at_274) rfl (A' := #[.val (.int c1_), .val (.int c2_), .val (.int r1_), .val (.int r2_), .val (.int md_), .val (.int ca), .val (.int cb), .val (.int tA), .val (.int o0), .val (.int o1), .val (.int tB), .val (.int oa), .val (.int k), .val (.int da), .val (.int db), .val (.int ra), .val (.int rb), .val (.ref b92), .val (.ref b139), .val (.ref b150), .val (.ref b154), .unset]) rfl ?_
                      refine own_iload (q := 276) X156 hx (hb hby at_276) rfl ?_
                      refine own_iconst (q := 278) X156 hx (hb hby at_278) (x := (1 : Int32)) rfl ?_
                      refine own_icmp (t := 297) (q := 279) X156 hx (hb hby at_279) (by decide) (by decide) (fun hq => ?_) (fun hq => ?_)
                      · have hc279 := own_c_ne.1 hq
                        refine own_iload (q := 297) X156 hx (hb hby at_297) rfl ?_
                        refine own_iconst (q := 299) X156 hx (hb hby at_299) (x := (2 : Int32)) rfl ?_
                        refine own_icmp (t := 323) (q := 300) X156 hx (hb hby at_300) (by decide) (by decide) (fun hq => ?_) (fun hq => ?_)
                        · have hc300 := own_c_ne.1 hq
                          refine own_iload (q := 323) X156 hx (hb hby at_323) rfl ?_
                          refine own_iload (q := 325) X156 hx (hb hby at_325) rfl ?_
                          refine own_join (α := Int32) (P := fun ex => ex = (if ra = rb ∧ ([ca, cb] : List Int32) = ([da, db] : List Int32) then 1 else 0)) (F := fun ex => mkF m 361 #[.val (.int c1_), .val (.int c2_), .val (.int r1_), .val (.int r2_), .val (.int md_), .val (.int ca), .val (.int cb), .val (.int tA), .val (.int o0), .val (.int o1), .val (.int tB), .val (.int oa), .val (.int k), .val (.int da), .val (.int db), .val (.int ra), .val (.int rb), .val (.ref b92), .val (.ref b139), .val (.ref b150), .val (.ref b154), .unset] [(.int ex)]) X156 rfl (fun T158 X158 e158 ex h_ex => ?_) (fun J361 => ?_)
                          · show own_G p e below _ T158 (mkF m 361 #[.val (.int c1_), .val (.int c2_), .val (.int r1_), .val (.int r2_), .val (.int md_), .val (.int ca), .val (.int cb), .val (.int tA), .val (.int o0), .val (.int o1), .val (.int tB), .val (.int oa), .val (.int k), .val (.int da), .val (.int db), .val (.int ra), .val (.int rb), .val (.ref b92), .val (.ref b139), .val (.ref b150), .val (.ref b154), .unset] [(.int ex)])
                            refine own_istore (q := 361) X158 hx (hb hby at_361) (A' := #[.val (.int c1_), .val (.int c2_), .val (.int r1_), .val (.int r2_), .val (.int md_), .val (.int ca), .val (.int cb), .val (.int tA), .val (.int o0), .val (.int o1), .val (.int tB), .val (.int oa), .val (.int k), .val (.int da), .val (.int db), .val (.int ra), .val (.int rb), .val (.ref b92), .val (.ref b139), .val (.ref b150), .val (.ref b154), .val (.int ex)]) rfl ?_
                            refine own_aload (q := 363) X158 hx (hb hby at_363) rfl rfl ?_
                            refine own_aload (q := 365) X158 hx (hb hby at_365) rfl rfl ?_
                            have c159 := (Fld.keep (Fld.ext E154 Fn152) Kp156 (ninS (Nat.ne_of_lt (Nat.lt_of_lt_of_le Ex152.lt (Nat.le_of_eq gg154.symm))) nin0))
                            have c160 := (Fld.keep (Fld.ext E154 Fs152) Kp156 (ninS (Nat.ne_of_lt (Nat.lt_of_lt_of_le Ex152.lt (Nat.le_of_eq gg154.symm))) nin0))
                            have c161 := (own_Str.keep (own_Str.ext E154 (own_Str.keep c151 Kp152 (ninS (Nat.ne_of_lt (Nat.lt_of_lt_of_le (Nat.lt_of_lt_of_le Sf101.lt (Nat.le_trans (Nat.le_trans (Nat.le_trans (Nat.le_trans E139.1 E140.1) (Keep.of_wr W142).1) (Keep.of_wr W144).1) Kp148.1)) (Nat.le_of_eq gg150.symm))) nin0) (ninS (Nat.ne_of_lt (Nat.lt_of_lt_of_le (Nat.lt_of_lt_of_le Sf101.lt2 (Nat.le_trans (Nat.le_trans (Nat.le_trans (Nat.le_trans E139.1 E140.1) (Keep.of_wr W142).1) (Keep.of_wr W144).1) Kp148.1)) (Nat.le_of_eq gg150.symm))) nin0))) Kp156 (ninS (Nat.ne_of_lt (Nat.lt_of_lt_of_le (Nat.lt_of_lt_of_le c151.lt Kp152.1) (Nat.le_of_eq gg154.symm))) nin0) (ninS (Nat.ne_of_lt (Nat.lt_of_lt_of_le (Nat.lt_of_lt_of_le c151.lt2 Kp152.1) (Nat.le_of_eq gg154.symm))) nin0))
                            have c162 := (own_Str.keep c155 Kp156 (ninS (Nat.ne_of_lt (Nat.lt_of_lt_of_le (Nat.lt_of_lt_of_le Sf148.lt (Nat.le_trans E150.1 Kp152.1)) (Nat.le_of_eq gg154.symm))) nin0) (ninS (Nat.ne_of_lt (Nat.lt_of_lt_of_le (Nat.lt_of_lt_of_le Sf148.lt2 (Nat.le_trans E150.1 Kp152.1)) (Nat.le_of_eq gg154.symm))) nin0))
                            have c164 := (Exa.keep (Exa.ext E154 Ex152) Kp156)
                            refine own_virtual (q := 367) (y := (⟨"com/example/tightrope/tightrope/logic/Predicate", "equals", "(Ljava/lang/Object;)Z"⟩ : MethodName)) (z := (⟨"com/example/tightrope/tightrope/logic/Predicate", "equals", "(Ljava/lang/Object;)Z"⟩ : MethodName)) (b := b150) (argsL := [(.ref b154)]) (S := []) (W := 0) X158 hx hZ156 hown156 (hw _ (List.mem_of_getElem? (i := 54) rfl)) (hw _ (List.mem_of_getElem? (i := 55) rfl)) (notFace_of_selects (args := #[]) (mvT hZ156 (hw _ (List.mem_of_getElem? (i := 57) rfl)))) (hw _ (List.mem_of_getElem? (i := 57) rfl)) (hw _ (List.mem_of_getElem? (i := 56) rfl)) (by decide) (backOf (W := 0) (rm6p l Z a0 hw [] b150 b154 b92 t101 ([ca, cb] : List Int32) ra b139 t148 ([da, db] : List Int32) rb zCOMPACT T156.heap n0 O157 c159 c160 c161 Ex156 Fn156 Fs156 c162 SCOMPACT hCOMPACT) hZ156 (hw _ (List.mem_of_getElem? (i := 58) rfl)) (hw _ (List.mem_of_getElem? (i := 33) rfl)) (by decide) (by decide)) e158 c164 (by rw [hml]; rfl) (lenOf own_pd__28Ljava_2flang_2fObject_3b_29Z rfl) rfl (Nat.le_of_eq rfl) (hb hby at_367) (by decide) (by decide) (fun T163 L163 v163 X163 hQ163 => ?_)
                            obtain ⟨rfl, N163q, hh163⟩ := hQ163
                            have N163 := Fr.app N156 N163q
                            show own_G p e below _ T163 (mkF m 370 #[.val (.int c1_), .val (.int c2_), .val (.int r1_), .val (.int r2_), .val (.int md_), .val (.int ca), .val (.int cb), .val (.int tA), .val (.int o0), .val (.int o1), .val (.int tB), .val (.int oa), .val (.int k), .val (.int da), .val (.int db), .val (.int ra), .val (.int rb), .val (.ref b92), .val (.ref b139), .val (.ref b150), .val (.ref b154), .val (.int ex)] [(.int (if ra = rb ∧ ([ca, cb] : List Int32) = ([da, db] : List Int32) then 1 else 0 : Int32))])
                            refine own_iload (q := 370) X163 hx (hb hby at_370) rfl ?_
                            refine own_icmp (t := 401) (q := 372) X163 hx (hb hby at_372) (by decide) (by decide) (fun hq => ?_) (fun hq => ?_)
                            · have hc372 := own_c_ne.1 hq
                              exact absurd h_ex.symm hc372
                            · have hc372 := own_c_ne.2 hq
                              refine own_aload (q := 375) X163 hx (hb hby at_375) rfl rfl ?_
                              refine own_aload (q := 377) X163 hx (hb hby at_377) rfl rfl ?_
                              refine own_virtual (q := 379) (y := (⟨"com/example/tightrope/tightrope/logic/Predicate", "equals", "(Ljava/lang/Object;)Z"⟩ : MethodName)) (z := (⟨"com/example/tightrope/tightrope/logic/Predicate", "equals", "(Ljava/lang/Object;)Z"⟩ : MethodName)) (b := b154) (argsL := [(.ref b150)]) (S := []) (W := 0) X163 hx hZ156 hown156 (hw _ (List.mem_of_getElem? (i := 54) rfl)) (hw _ (List.mem_of_getElem? (i := 55) rfl)) (notFace_of_selects (args := #[]) (mvT hZ156 (hw _ (List.mem_of_getElem? (i := 57) rfl)))) (hw _ (List.mem_of_getElem? (i := 57) rfl)) (hw _ (List.mem_of_getElem? (i := 56) rfl)) (by decide) (backOf (W := 0) (rm6p l Z a0 hw [] b154 b150 b139 t148 ([da, db] : List Int32) rb b92 t101 ([ca, cb] : List Int32) ra zCOMPACT T156.heap n0 O157 Fn156 Fs156 c162 c164 c159 c160 c161 SCOMPACT hCOMPACT) hZ156 (hw _ (List.mem_of_getElem? (i := 58) rfl)) (hw _ (List.mem_of_getElem? (i := 33) rfl)) (by decide) (by decide)) hh163 Ex156 (by rw [hml]; rfl) (lenOf own_pd__28Ljava_2flang_2fObject_3b_29Z rfl) rfl (Nat.le_of_eq rfl) (hb hby at_379) (by decide) (by decide) (fun T165 L165 v165 X165 hQ165 => ?_)
                              obtain ⟨rfl, N165q, hh165⟩ := hQ165
                              have N165 := Fr.app N163 N165q
                              show own_G p e below _ T165 (mkF m 382 #[.val (.int c1_), .val (.int c2_), .val (.int r1_), .val (.int r2_), .val (.int md_), .val (.int ca), .val (.int cb), .val (.int tA), .val (.int o0), .val (.int o1), .val (.int tB), .val (.int oa), .val (.int k), .val (.int da), .val (.int db), .val (.int ra), .val (.int rb), .val (.ref b92), .val (.ref b139), .val (.ref b150), .val (.ref b154), .val (.int ex)] [(.int (if rb = ra ∧ ([da, db] : List Int32) = ([ca, cb] : List Int32) then 1 else 0 : Int32))])
                              refine own_iload (q := 382) X165 hx (hb hby at_382) rfl ?_
                              refine own_icmp (t := 401) (q := 384) X165 hx (hb hby at_384) (by decide) (by decide) (fun hq => ?_) (fun hq => ?_)
                              · have hc384 := own_c_ne.1 hq
                                exact absurd (own_sym.trans h_ex.symm) hc384
                              · have hc384 := own_c_ne.2 hq
                                refine own_aload (q := 387) X165 hx (hb hby at_387) rfl rfl ?_
                                refine own_aload (q := 389) X165 hx (hb hby at_389) rfl rfl ?_
                                refine own_virtual (q := 391) (y := (⟨"com/example/tightrope/tightrope/logic/Predicate", "equals", "(Ljava/lang/Object;)Z"⟩ : MethodName)) (z := (⟨"com/example/tightrope/tightrope/logic/Predicate", "equals", "(Ljava/lang/Object;)Z"⟩ : MethodName)) (b := b150) (argsL := [(.ref b150)]) (S := []) (W := 0) X165 hx hZ156 hown156 (hw _ (List.mem_of_getElem? (i := 54) rfl)) (hw _ (List.mem_of_getElem? (i := 55) rfl)) (notFace_of_selects (args := #[]) (mvT hZ156 (hw _ (List.mem_of_getElem? (i := 57) rfl)))) (hw _ (List.mem_of_getElem? (i := 57) rfl)) (hw _ (List.mem_of_getElem? (i := 56) rfl)) (by decide) (backOf (W := 0) (rm6p l Z a0 hw [] b150 b150 b92 t101 ([ca, cb] : List Int32) ra b92 t101 ([ca, cb] : List Int32) ra zCOMPACT T156.heap n0 O157 c159 c160 c161 c164 c159 c160 c161 SCOMPACT hCOMPACT) hZ156 (hw _ (List.mem_of_getElem? (i := 58) rfl)) (hw _ (List.mem_of_getElem? (i := 33) rfl)) (by decide) (by decide)) hh165 c164 (by rw [hml]; rfl) (lenOf own_pd__28Ljava_2flang_2fObject_3b_29Z rfl) rfl (Nat.le_of_eq rfl) (hb hby at_391) (by decide) (by decide) (fun T166 L166 v166 X166 hQ166 => ?_)
                                obtain ⟨rfl, N166q, hh166⟩ := hQ166
                                have N166 := Fr.app N165 N166q
                                show own_G p e below _ T166 (mkF m 394 #[.val (.int c1_), .val (.int c2_), .val (.int r1_), .val (.int r2_), .val (.int md_), .val (.int ca), .val (.int cb), .val (.int tA), .val (.int o0), .val (.int o1), .val (.int tB), .val (.int oa), .val (.int k), .val (.int da), .val (.int db), .val (.int ra), .val (.int rb), .val (.ref b92), .val (.ref b139), .val (.ref b150), .val (.ref b154), .val (.int ex)] [(.int (if ra = ra ∧ ([ca, cb] : List Int32) = ([ca, cb] : List Int32) then 1 else 0 : Int32))])
                                refine own_if (t := 401) (q := 394) X166 hx (hb hby at_394) (by decide) (by decide) (fun hq => ?_) (fun hq => ?_)
                                · have hc394 := own_h_eq.1 hq
                                  exact (own_one_ne (if_pos ⟨rfl, rfl⟩) hc394).elim
                                · have hc394 := own_h_eq.2 hq
                                  refine own_iconst (q := 397) X166 hx (hb hby at_397) (x := (1 : Int32)) rfl ?_
                                  refine own_goto (t := 402) (q := 398) X166 hx (hb hby at_398) (by decide) (by decide) ?_
                                  exact own_retNW (q := 402) X166 hx hS156 (by rw [hh166]; exact hk156) (t := .boolean) Bd.returns hlk (by simp) (hb hby at_402) rfl (by decide) (by decide) (by show Q0 Z c1_ c2_ r1_ r2_ md_ zCOMPACT h0 n0 _ T166.heap _; rw [hh166]; exact ⟨rfl, N166⟩)
                          · have hj361 := True.intro
                            refine own_icmp (t := 360) (q := 327) X156 hx (hb hby at_327) (by decide) (by decide) (fun hq => ?_) (fun hq => ?_)
                            · have hc327 := own_c_ne.1 hq
                              refine own_iconst (q := 360) X156 hx (hb hby at_360) (x := (0 : Int32)) rfl ?_
                              exact J361 _ X156 rfl (0 : Int32) (by rw [if_neg (fun q => hc327 q.1)])
                            · have hc327 := own_c_ne.2 hq
                              refine own_iload (q := 330) X156 hx (hb hby at_330) rfl ?_
                              refine own_iload (q := 332) X156 hx (hb hby at_332) rfl ?_
                              refine own_icmp (t := 360) (q := 334) X156 hx (hb hby at_334) (by decide) (by decide) (fun hq => ?_) (fun hq => ?_)
                              · have hc334 := own_c_ne.1 hq
                                exact absurd ((h_tA.resolve_left hc162).trans (h_tB.resolve_left hc207).symm) hc334
                              · have hc334 := own_c_ne.2 hq
                                refine own_iload (q := 337) X156 hx (hb hby at_337) rfl ?_
                                refine own_iload (q := 339) X156 hx (hb hby at_339) rfl ?_
                                refine own_icmp (t := 360) (q := 341) X156 hx (hb hby at_341) (by decide) (by decide) (fun hq => ?_) (fun hq => ?_)
                                · have hc341 := own_c_ne.1 hq
                                  refine own_iconst (q := 360) X156 hx (hb hby at_360) (x := (0 : Int32)) rfl ?_
                                  exact J361 _ X156 rfl (0 : Int32) (by rw [if_neg (fun q => hc341 (List.cons.inj q.2).1.symm)])
                                · have hc341 := own_c_ne.2 hq
                                  refine own_iload (q := 344) X156 hx (hb hby at_344) rfl ?_
                                  refine own_if (t := 356) (q := 346) X156 hx (hb hby at_346) (by decide) (by decide) (fun hq => ?_) (fun hq => ?_)
                                  · have hc346 := own_h_eq.1 hq
                                    exact absurd hc346 hc162
                                  · have hc346 := own_h_eq.2 hq
                                    refine own_iload (q := 349) X156 hx (hb hby at_349) rfl ?_
                                    refine own_iload (q := 351) X156 hx (hb hby at_351) rfl ?_
                                    refine own_icmp (t := 360) (q := 353) X156 hx (hb hby at_353) (by decide) (by decide) (fun hq => ?_) (fun hq => ?_)
                                    · have hc353 := own_c_ne.1 hq
                                      refine own_iconst (q := 360) X156 hx (hb hby at_360) (x := (0 : Int32)) rfl ?_
                                      exact J361 _ X156 rfl (0 : Int32) (by rw [if_neg (fun q => hc353 (List.cons.inj (List.cons.inj q.2).2).1.symm)])
                                    · have hc353 := own_c_ne.2 hq
                                      refine own_iconst (q := 356) X156 hx (hb hby at_356) (x := (1 : Int32)) rfl ?_
                                      refine own_goto (t := 361) (q := 357) X156 hx (hb hby at_357) (by decide) (by decide) ?_
                                      exact J361 _ X156 rfl (1 : Int32) (by rw [if_pos ⟨hc327, (by rw [hc341, hc353])⟩])
                        · have hc300 := own_c_ne.2 hq
                          refine own_aload (q := 303) X156 hx (hb hby at_303) rfl rfl ?_
                          refine own_astore (q := 305) X156 hx (hb hby at_305) rfl (A' := #[.val (.int c1_), .val (.int c2_), .val (.int r1_), .val (.int r2_), .val (.int md_), .val (.int ca), .val (.int cb), .val (.int tA), .val (.int o0), .val (.int o1), .val (.int tB), .val (.int oa), .val (.int k), .val (.int da), .val (.int db), .val (.int ra), .val (.int rb), .val (.ref b92), .val (.ref b139), .val (.ref b150), .val (.ref b154), .val (.ref b92)]) rfl ?_
                          refine own_aload (q := 307) X156 hx (hb hby at_307) rfl rfl ?_
                          refine own_aload (q := 309) X156 hx (hb hby at_309) rfl rfl ?_
                          have c167 := (Fld.keep (Fld.ext E154 Fn152) Kp156 (ninS (Nat.ne_of_lt (Nat.lt_of_lt_of_le Ex152.lt (Nat.le_of_eq gg154.symm))) nin0))
                          have c168 := (Fld.keep (Fld.ext E154 Fs152) Kp156 (ninS (Nat.ne_of_lt (Nat.lt_of_lt_of_le Ex152.lt (Nat.le_of_eq gg154.symm))) nin0))
                          have c169 := (own_Str.keep (own_Str.ext E154 (own_Str.keep c151 Kp152 (ninS (Nat.ne_of_lt (Nat.lt_of_lt_of_le (Nat.lt_of_lt_of_le Sf101.lt (Nat.le_trans (Nat.le_trans (Nat.le_trans (Nat.le_trans E139.1 E140.1) (Keep.of_wr W142).1) (Keep.of_wr W144).1) Kp148.1)) (Nat.le_of_eq gg150.symm))) nin0) (ninS (Nat.ne_of_lt (Nat.lt_of_lt_of_le (Nat.lt_of_lt_of_le Sf101.lt2 (Nat.le_trans (Nat.le_trans (Nat.le_trans (Nat.le_trans E139.1 E140.1) (Keep.of_wr W142).1) (Keep.of_wr W144).1) Kp148.1)) (Nat.le_of_eq gg150.symm))) nin0))) Kp156 (ninS (Nat.ne_of_lt (Nat.lt_of_lt_of_le (Nat.lt_of_lt_of_le c151.lt Kp152.1) (Nat.le_of_eq gg154.symm))) nin0) (ninS (Nat.ne_of_lt (Nat.lt_of_lt_of_le (Nat.lt_of_lt_of_le c151.lt2 Kp152.1) (Nat.le_of_eq gg154.symm))) nin0))
                          have c171 := (Exa.keep (Exa.ext E154 Ex152) Kp156)
                          refine own_virtual (q := 311) (y := (⟨"com/example/tightrope/tightrope/logic/Predicate", "equals", "(Ljava/lang/Object;)Z"⟩ : MethodName)) (z := (⟨"com/example/tightrope/tightrope/logic/Predicate", "equals", "(Ljava/lang/Object;)Z"⟩ : MethodName)) (b := b150) (argsL := [(.ref b92)]) (S := []) (W := 0) X156 hx hZ156 hown156 (hw _ (List.mem_of_getElem? (i := 54) rfl)) (hw _ (List.mem_of_getElem? (i := 55) rfl)) (notFace_of_selects (args := #[]) (mvT hZ156 (hw _ (List.mem_of_getElem? (i := 57) rfl)))) (hw _ (List.mem_of_getElem? (i := 57) rfl)) (hw _ (List.mem_of_getElem? (i := 56) rfl)) (by decide) (backOf (W := 0) (rm6s l Z a0 hw [] b150 b92 b92 t101 ([ca, cb] : List Int32) ra zCOMPACT T156.heap n0 O157 c167 c168 c169 c169.1 SCOMPACT hCOMPACT) hZ156 (hw _ (List.mem_of_getElem? (i := 58) rfl)) (hw _ (List.mem_of_getElem? (i := 33) rfl)) (by decide) (by decide)) rfl c171 (by rw [hml]; rfl) (lenOf own_pd__28Ljava_2flang_2fObject_3b_29Z rfl) rfl (Nat.le_of_eq rfl) (hb hby at_311) (by decide) (by decide) (fun T170 L170 v170 X170 hQ170 => ?_)
                          obtain ⟨rfl, N170q, hh170⟩ := hQ170
                          have N170 := Fr.app N156 N170q
                          show own_G p e below _ T170 (mkF m 314 #[.val (.int c1_), .val (.int c2_), .val (.int r1_), .val (.int r2_), .val (.int md_), .val (.int ca), .val (.int cb), .val (.int tA), .val (.int o0), .val (.int o1), .val (.int tB), .val (.int oa), .val (.int k), .val (.int da), .val (.int db), .val (.int ra), .val (.int rb), .val (.ref b92), .val (.ref b139), .val (.ref b150), .val (.ref b154), .val (.ref b92)] [(.int (0 : Int32))])
                          refine own_if (t := 321) (q := 314) X170 hx (hb hby at_314) (by decide) (by decide) (fun hq => ?_) (fun hq => ?_)
                          · have hc314 := own_h_ne.1 hq
                            exact absurd rfl hc314
                          · have hc314 := own_h_ne.2 hq
                            refine own_iconst (q := 317) X170 hx (hb hby at_317) (x := (1 : Int32)) rfl ?_
                            refine own_goto (t := 322) (q := 318) X170 hx (hb hby at_318) (by decide) (by decide) ?_
                            exact own_retNW (q := 322) X170 hx hS156 (by rw [hh170]; exact hk156) (t := .boolean) Bd.returns hlk (by simp) (hb hby at_322) rfl (by decide) (by decide) (by show Q0 Z c1_ c2_ r1_ r2_ md_ zCOMPACT h0 n0 _ T170.heap _; rw [hh170]; exact ⟨rfl, N170⟩)
                      · have hc279 := own_c_ne.2 hq
                        refine own_aload (q := 282) X156 hx (hb hby at_282) rfl rfl ?_
                        refine own_anull (q := 284) X156 hx (hb hby at_284) ?_
                        have c172 := (Fld.keep (Fld.ext E154 Fn152) Kp156 (ninS (Nat.ne_of_lt (Nat.lt_of_lt_of_le Ex152.lt (Nat.le_of_eq gg154.symm))) nin0))
                        have c173 := (Fld.keep (Fld.ext E154 Fs152) Kp156 (ninS (Nat.ne_of_lt (Nat.lt_of_lt_of_le Ex152.lt (Nat.le_of_eq gg154.symm))) nin0))
                        have c174 := (own_Str.keep (own_Str.ext E154 (own_Str.keep c151 Kp152 (ninS (Nat.ne_of_lt (Nat.lt_of_lt_of_le (Nat.lt_of_lt_of_le Sf101.lt (Nat.le_trans (Nat.le_trans (Nat.le_trans (Nat.le_trans E139.1 E140.1) (Keep.of_wr W142).1) (Keep.of_wr W144).1) Kp148.1)) (Nat.le_of_eq gg150.symm))) nin0) (ninS (Nat.ne_of_lt (Nat.lt_of_lt_of_le (Nat.lt_of_lt_of_le Sf101.lt2 (Nat.le_trans (Nat.le_trans (Nat.le_trans (Nat.le_trans E139.1 E140.1) (Keep.of_wr W142).1) (Keep.of_wr W144).1) Kp148.1)) (Nat.le_of_eq gg150.symm))) nin0))) Kp156 (ninS (Nat.ne_of_lt (Nat.lt_of_lt_of_le (Nat.lt_of_lt_of_le c151.lt Kp152.1) (Nat.le_of_eq gg154.symm))) nin0) (ninS (Nat.ne_of_lt (Nat.lt_of_lt_of_le (Nat.lt_of_lt_of_le c151.lt2 Kp152.1) (Nat.le_of_eq gg154.symm))) nin0))
                        have c176 := (Exa.keep (Exa.ext E154 Ex152) Kp156)
                        refine own_virtual (q := 285) (y := (⟨"com/example/tightrope/tightrope/logic/Predicate", "equals", "(Ljava/lang/Object;)Z"⟩ : MethodName)) (z := (⟨"com/example/tightrope/tightrope/logic/Predicate", "equals", "(Ljava/lang/Object;)Z"⟩ : MethodName)) (b := b150) (argsL := [.null]) (S := []) (W := 0) X156 hx hZ156 hown156 (hw _ (List.mem_of_getElem? (i := 54) rfl)) (hw _ (List.mem_of_getElem? (i := 55) rfl)) (notFace_of_selects (args := #[]) (mvT hZ156 (hw _ (List.mem_of_getElem? (i := 57) rfl)))) (hw _ (List.mem_of_getElem? (i := 57) rfl)) (hw _ (List.mem_of_getElem? (i := 56) rfl)) (by decide) (backOf (W := 0) (rm6n l Z a0 hw [] b150 b92 t101 ([ca, cb] : List Int32) ra zCOMPACT T156.heap n0 O157 c172 c173 c174 SCOMPACT hCOMPACT) hZ156 (hw _ (List.mem_of_getElem? (i := 58) rfl)) (hw _ (List.mem_of_getElem? (i := 33) rfl)) (by decide) (by decide)) rfl c176 (by rw [hml]; rfl) (lenOf own_pd__28Ljava_2flang_2fObject_3b_29Z rfl) rfl (Nat.le_of_eq rfl) (hb hby at_285) (by decide) (by decide) (fun T175 L175 v175 X175 hQ175 => ?_)
                        obtain ⟨rfl, N175q, hh175⟩ := hQ175
                        have N175 := Fr.app N156 N175q
                        show own_G p e below _ T175 (mkF m 288 #[.val (.int c1_), .val (.int c2_), .val (.int r1_), .val (.int r2_), .val (.int md_), .val (.int ca), .val (.int cb), .val (.int tA), .val (.int o0), .val (.int o1), .val (.int tB), .val (.int oa), .val (.int k), .val (.int da), .val (.int db), .val (.int ra), .val (.int rb), .val (.ref b92), .val (.ref b139), .val (.ref b150), .val (.ref b154), .unset] [(.int (0 : Int32))])
                        refine own_if (t := 295) (q := 288) X175 hx (hb hby at_288) (by decide) (by decide) (fun hq => ?_) (fun hq => ?_)
                        · have hc288 := own_h_ne.1 hq
                          exact absurd rfl hc288
                        · have hc288 := own_h_ne.2 hq
                          refine own_iconst (q := 291) X175 hx (hb hby at_291) (x := (1 : Int32)) rfl ?_
                          refine own_goto (t := 296) (q := 292) X175 hx (hb hby at_292) (by decide) (by decide) ?_
                          exact own_retNW (q := 296) X175 hx hS156 (by rw [hh175]; exact hk156) (t := .boolean) Bd.returns hlk (by simp) (hb hby at_296) rfl (by decide) (by decide) (by show Q0 Z c1_ c2_ r1_ r2_ md_ zCOMPACT h0 n0 _ T175.heap _; rw [hh175]; exact ⟨rfl, N175⟩)
                · have hj158 := True.intro
                  refine own_if (t := 156) (q := 146) X7 hx (hb hby at_146) (by decide) (by decide) (fun hq => ?_) (fun hq => ?_)
                  · have hc146 := own_h_eq.1 hq
                    refine own_iload (q := 156) X7 hx (hb hby at_156) rfl ?_
                    exact J158 _ X7 e7 ra hr1
                  · have hc146 := own_h_eq.2 hq
                    refine own_iloadN (q := 149) X7 hx (hb hby at_149) rfl ?_
                    refine own_st (g' := (mkF m 152 #[.val (.int c1_), .val (.int c2_), .val (.int r1_), .val (.int r2_), .val (.int md_), .val (.int ca), .val (.int cb), .val (.int tA), .val (.int o0), .val (.int o1), .val (.int tB), .val (.int oa), .val (.int k), .val (.int da), .val (.int db), .val (.int ra), .unset, .unset, .unset, .unset, .unset, .unset] (.int (2147483647 : Int32) :: [(.int r2_)]))) (fun _ z => X7.ldcI hx hown (mvT hZ (hw _ (List.mem_of_getElem? (i := 0) rfl))) (g := (mkF m 150 #[.val (.int c1_), .val (.int c2_), .val (.int r1_), .val (.int r2_), .val (.int md_), .val (.int ca), .val (.int cb), .val (.int tA), .val (.int o0), .val (.int o1), .val (.int tB), .val (.int oa), .val (.int k), .val (.int da), .val (.int db), .val (.int ra), .unset, .unset, .unset, .unset, .unset, .unset] [(.int r2_)])) rfl (hb hby at_150) z) ?_
                    refine own_iand (q := 152) X7 hx (hb hby at_152) ?_
                    refine own_goto (t := 158) (q := 153) X7 hx (hb hby at_153) (by decide) (by decide) ?_
                    exact J158 _ X7 e7 (r2_ &&& (2147483647 : Int32)) (own_nn r2_)
              · have hj136 := True.intro
                refine own_if (t := 134) (q := 119) X6 hx (hb hby at_119) (by decide) (by decide) (fun hq => ?_) (fun hq => ?_)
                · have hc119 := own_h_eq.1 hq
                  refine own_iload (q := 134) X6 hx (hb hby at_134) rfl ?_
                  exact J136 _ X6 e6 cb ⟨n_cb, l_cb, u_cb⟩
                · have hc119 := own_h_eq.2 hq
                  refine own_iloadN (q := 122) X6 hx (hb hby at_122) rfl ?_
                  refine own_bipush (q := 123) X6 hx (hb hby at_123) (x := (8 : Int32)) rfl ?_
                  refine own_iushr (q := 125) X6 hx (hb hby at_125) ?_
                  refine own_sipush (q := 126) X6 hx (hb hby at_126) (x := (255 : Int32)) rfl ?_
                  refine own_iand (q := 129) X6 hx (hb hby at_129) ?_
                  refine own_i2c (q := 130) X6 hx (hb hby at_130) ?_
                  refine own_goto (t := 136) (q := 131) X6 hx (hb hby at_131) (by decide) (by decide) ?_
                  exact J136 _ X6 e6 ((((XT.ushr c2_ (8 : Int32)) &&& (255 : Int32))).toUInt32.toUInt16.toUInt32.toInt32) (own_chrP (XT.ushr c2_ (8 : Int32)))
            · have hj115 := True.intro
              refine own_if (t := 113) (q := 101) X5 hx (hb hby at_101) (by decide) (by decide) (fun hq => ?_) (fun hq => ?_)
              · have hc101 := own_h_eq.1 hq
                refine own_iload (q := 113) X5 hx (hb hby at_113) rfl ?_
                exact J115 _ X5 e5 ca ⟨n_ca, l_ca, u_ca⟩
              · have hc101 := own_h_eq.2 hq
                refine own_iloadN (q := 104) X5 hx (hb hby at_104) rfl ?_
                refine own_sipush (q := 105) X5 hx (hb hby at_105) (x := (255 : Int32)) rfl ?_
                refine own_iand (q := 108) X5 hx (hb hby at_108) ?_
                refine own_i2c (q := 109) X5 hx (hb hby at_109) ?_
                refine own_goto (t := 115) (q := 110) X5 hx (hb hby at_110) (by decide) (by decide) ?_
                exact J115 _ X5 e5 (((c2_ &&& (255 : Int32))).toUInt32.toUInt16.toUInt32.toInt32) (own_chrP c2_)
          · have hj89 := True.intro
            refine own_if (t := 88) (q := 81) X4 hx (hb hby at_81) (by decide) (by decide) (fun hq => ?_) (fun hq => ?_)
            · have hc81 := own_h_eq.1 hq
              refine own_iconst (q := 88) X4 hx (hb hby at_88) (x := (0 : Int32)) rfl ?_
              exact J89 _ X4 e4 (0 : Int32) trivial
            · have hc81 := own_h_eq.2 hq
              refine own_iconst (q := 84) X4 hx (hb hby at_84) (x := (1 : Int32)) rfl ?_
              refine own_goto (t := 89) (q := 85) X4 hx (hb hby at_85) (by decide) (by decide) ?_
              exact J89 _ X4 e4 (1 : Int32) trivial
        · have hj74 := True.intro
          refine own_if (t := 73) (q := 66) X3 hx (hb hby at_66) (by decide) (by decide) (fun hq => ?_) (fun hq => ?_)
          · have hc66 := own_h_eq.1 hq
            refine own_iconst (q := 73) X3 hx (hb hby at_73) (x := (0 : Int32)) rfl ?_
            exact J74 _ X3 e3 (0 : Int32) (Or.inl rfl)
          · have hc66 := own_h_eq.2 hq
            refine own_iconst (q := 69) X3 hx (hb hby at_69) (x := (1 : Int32)) rfl ?_
            refine own_goto (t := 74) (q := 70) X3 hx (hb hby at_70) (by decide) (by decide) ?_
            exact J74 _ X3 e3 (1 : Int32) (Or.inr rfl)
      · have hj59 := True.intro
        refine own_if (t := 58) (q := 51) X2 hx (hb hby at_51) (by decide) (by decide) (fun hq => ?_) (fun hq => ?_)
        · have hc51 := own_h_eq.1 hq
          refine own_iconst (q := 58) X2 hx (hb hby at_58) (x := (0 : Int32)) rfl ?_
          exact J59 _ X2 e2 (0 : Int32) trivial
        · have hc51 := own_h_eq.2 hq
          refine own_iconst (q := 54) X2 hx (hb hby at_54) (x := (1 : Int32)) rfl ?_
          refine own_goto (t := 59) (q := 55) X2 hx (hb hby at_55) (by decide) (by decide) ?_
          exact J59 _ X2 e2 (1 : Int32) trivial
    · have hj45 := True.intro
      refine own_if (t := 44) (q := 37) X1 hx (hb hby at_37) (by decide) (by decide) (fun hq => ?_) (fun hq => ?_)
      · have hc37 := own_h_eq.1 hq
        refine own_iconst (q := 44) X1 hx (hb hby at_44) (x := (0 : Int32)) rfl ?_
        exact J45 _ X1 e1 (0 : Int32) trivial
      · have hc37 := own_h_eq.2 hq
        refine own_iconst (q := 40) X1 hx (hb hby at_40) (x := (1 : Int32)) rfl ?_
        refine own_goto (t := 45) (q := 41) X1 hx (hb hby at_41) (by decide) (by decide) ?_
        exact J45 _ X1 e1 (1 : Int32) trivial
  · have hj31 := True.intro
    refine own_if (t := 30) (q := 23) X0 hx (hb hby at_23) (by decide) (by decide) (fun hq => ?_) (fun hq => ?_)
    · have hc23 := own_h_eq.1 hq
      refine own_iconst (q := 30) X0 hx (hb hby at_30) (x := (0 : Int32)) rfl ?_
      exact J31 _ X0 e0 (0 : Int32) (Or.inl rfl)
    · have hc23 := own_h_eq.2 hq
      refine own_iconst (q := 26) X0 hx (hb hby at_26) (x := (1 : Int32)) rfl ?_
      refine own_goto (t := 31) (q := 27) X0 hx (hb hby at_27) (by decide) (by decide) ?_
      exact J31 _ X0 e0 (1 : Int32) (Or.inr rfl)
set_option maxRecDepth 65536 in
set_option maxHeartbeats 40000000 in
theorem comes_1 {Post : Tables → Env → Array Value → State → Outcome → State → Prop} (hpost : ∀ tb e args s v u, (limb_1_1.after args s (.returned v) u = true ∧ limb_1_2.after args s (.returned v) u = true) → ReturnedEndW s (.returned v) u (Jvm.fieldLocs frame_1_writes args s ++ Jvm.arrayLocs frame_1_arrays args s ++ Jvm.staticLocs frame_1_statics s) 32 1152 → Post tb e args s (.returned v) u) :
    ArmFor flags0 classFile x code maxLocals ret World_1 tables_1 room_1 Calls_1 rest_1 Pre_1 Post := by
  intro l hfl _ _ p e ha hc hk s m args below hf hA hF happ hP
  obtain ⟨hcalls, hrest, hpre⟩ := hP
  obtain ⟨-, -, -, hnamed, -, -, -, hat⟩ := (Spec.applies_iff hf).mp happ
  obtain ⟨hg, hn⟩ := and_e (Cond.before_iff.mp (show (Jvm.Cond.and given_1 narrow_1).before args s = true from hpre))
  obtain ⟨hg0, hgr0⟩ := and_e hg
  obtain ⟨hg1, hgr1⟩ := and_e hgr0
  obtain ⟨hg2, hgr2⟩ := and_e hgr1
  obtain ⟨hg3, hgr3⟩ := and_e hgr2
  obtain ⟨hg4, hgr4⟩ := and_e hgr3
  have hg5 := hgr4
  obtain ⟨w0, w1, w2, w3, w4, rfl⟩ : ∃ w0 w1 w2 w3 w4 : Value, args = #[w0, w1, w2, w3, w4] := by
    have hs : args.size = 5 := by simpa [Cond.value, given_1] using hg0
    obtain ⟨L⟩ := args
    match L, hs with
    | [w0, w1, w2, w3, w4], _ => exact ⟨w0, w1, w2, w3, w4, rfl⟩
  have hw := fun d (hd : d ∈ tables_1) => atoms_spec (ws := Jvm.Cond.code x code maxLocals ret :: tables_1) hat d (List.mem_cons_of_mem _ hd)
  obtain ⟨hsets, hown0⟩ := atoms_of _ (rest_1_c_eq ▸ (show rest_1_c.before _ s = true from hrest))
  obtain ⟨i0, ei0⟩ := is_v hg1
  obtain rfl : w0 = (.int i0) := Option.some.inj ei0
  obtain ⟨i1, ei1⟩ := is_v hg2
  obtain rfl : w1 = (.int i1) := Option.some.inj ei1
  obtain ⟨i2, ei2⟩ := is_v hg3
  obtain rfl : w2 = (.int i2) := Option.some.inj ei2
  obtain ⟨i3, ei3⟩ := is_v hg4
  obtain rfl : w3 = (.int i3) := Option.some.inj ei3
  obtain ⟨i4, ei4⟩ := is_v hg5
  obtain rfl : w4 = (.int i4) := Option.some.inj ei4
  have hn0 := hn
  obtain ⟨zCOMPACT, eCOMPACT⟩ := is_v (Cond.before_iff.mp (hsets _ (List.mem_of_getElem? (i := 1) rfl)))
  have SCOMPACT := Sta.start eCOMPACT (Or.inl (hsets _ (List.mem_of_getElem? (i := 0) rfl)))
  have hCOMPACT : ¬ zCOMPACT = 0 := own_not_zero (Cond.before_iff.mp (hsets _ (List.mem_of_getElem? (i := 2) rfl))) eCOMPACT
  obtain ⟨n, o, h1, h2, h3, _, L, rfl, ⟨rfl, N⟩, hq⟩ := rm0 l s _ hw tables_1 i0 i1 i2 i3 i4 zCOMPACT s.heap s.heap.size (Old.start s) SCOMPACT hCOMPACT p e ha hc hk s m _ below hf ((Spec.applies_iff_loose hf).mp happ).1 ⟨rfl, State.Warmed39.refl s, rfl⟩ trivial
  refine ⟨n, _, h1, h2, h3, hpost _ _ _ _ _ _ ⟨Cond.after_iff.mpr rfl, Cond.after_iff.mpr (eq_i res_at (Term.int_eval (1)) rfl)⟩ ⟨hq.1, hq.2.1, hq.2.2.1, (hq.2.2.2.sift fun y hy => Or.inr (N y hy)).mono (by decide) (by decide)⟩⟩
theorem main_1_1 : Claimed_1_1 := comes_1 fun _ _ _ _ _ _ h hF => ⟨h.1, hF⟩
theorem main_1_2 : Claimed_1_2 := comes_1 fun _ _ _ _ _ _ h hF => ⟨h.2, hF⟩
end Jvm.Pilot.@@N@@
namespace Jvm.Pilot.@@N@@
open Jvm Jvm.ClassFile Sem Op Lib Jvm.Free Jvm.Stand Jvm.Pilot.@@N@@.Jvm.D
/-! MADE BY PROGRAM (witnessworld.py) out of the Statement's table words and the real class files: 21 classes; the members and pool entries that the words name. The judged class is class 1, her method 1. -/
namespace start1
open Jvm.ClassFile
def u (s : String) : CpInfo := .utf8 (stringToUtf16 s)
/-- a pool by its gaps: so many unusable entries, then the entry; so many at the end -/
def gap : Nat → List CpInfo → List CpInfo
  | 0, r => r
  | n + 1, r => .unusable :: gap n r
def poolList (es : List (Nat × CpInfo)) (last : Nat) : List CpInfo := es.foldr (fun e r => gap e.1 (e.2 :: r)) (gap last [])
def pool (es : List (Nat × CpInfo)) (last : Nat) : Array CpInfo := ⟨poolList es last⟩
def fileOf (pool : Array CpInfo) (this : Nat) (attrs : Array Attribute := #[]) (ms : Array MethodInfo := #[]) (fl : Nat := 33) (sup : Nat := 0) (ifs : Array Nat := #[]) (fds : Array FieldInfo := #[]) : ClassFile where
  minorVersion := 0
  majorVersion := 65
  constantPool := pool
  accessFlags := fl
  thisClass := this
  superClass := sup
  interfaces := ifs
  fields := fds
  methods := ms
  attributes := attrs
def plain (name : String) (sup : Option ClassId) : Class where
  name := name
  kind := .ordinary
  loader := none
  accessFlags := 33
  super := sup
  interfaces := #[]
  cf := none
  fields := #[]
  methods := #[]
  instanceTypes := #[]
  staticTypes := #[]
  resolved := #[]
  callSites := []
  init := .initialized
  statics := none
  mirror := none

def pool0 : Array CpInfo := pool [(5, u "<init>"), (0, u "()V"), (1, .class_ 10), (1, u "java/lang/Object")] 113

def k0c0 : Code := { maxStack := 0, maxLocals := 1, code := object_method_1_code, exceptionTable := #[], attributes := #[] }
def k0m0 : Method := { name := "<init>", desc := "()V", sig := { parameters := [], returnType := none }, accessFlags := 1, code := some k0c0 }
/-- java/lang/Object -/
def k0 : Class := { plain "java/lang/Object" none with
  accessFlags := 33
  interfaces := #[]
  cf := some (fileOf pool0 8 #[] #[{ accessFlags := 1, nameIndex := 5, descriptorIndex := 6, attributes := #[] }] 33 0 #[] #[])
  fields := #[]
  methods := #[k0m0]
  instanceTypes := #[]
  staticTypes := #[]
  resolved := Array.replicate 124 none
  statics := none }

def pool1 : Array CpInfo := pool [(2, .class_ 4), (1, u "java/lang/Object"), (0, u "<init>"), (0, u "()V"), (0, .integer 2147483647), (0, .class_ 9), (0, u "java/lang/String"), (0, .methodref 8 11), (0, .nameAndType 5 12), (0, u "([C)V"), (0, .class_ 14), (0, u "com/example/tightrope/tightrope/logic/Predicate"), (0, .methodref 13 16), (0, .nameAndType 5 17), (0, u "(Ljava/lang/String;I)V"), (0, .methodref 13 19), (0, .nameAndType 20 21), (0, u "equals"), (0, u "(Ljava/lang/Object;)Z"), (0, .class_ 23), (0, u "com/example/tightrope/tightrope/logic/PredicateEqualsPinLaw"), (2, u "law"), (0, u "(IIIII)Z")] 3

def k1m0 : Method := { name := "<init>", desc := "()V", sig := { parameters := [], returnType := none }, accessFlags := 1, code := none }
def k1c1 : Code := { maxStack := 6, maxLocals := 22, code := code, exceptionTable := #[], attributes := #[] }
def k1m1 : Method := { name := "law", desc := "(IIIII)Z", sig := { parameters := [.int, .int, .int, .int, .int], returnType := some .boolean }, accessFlags := 9, code := some k1c1 }
/-- com/example/tightrope/tightrope/logic/PredicateEqualsPinLaw -/
def k1 : Class := { plain "com/example/tightrope/tightrope/logic/PredicateEqualsPinLaw" (some 0) with
  accessFlags := 49
  interfaces := #[]
  cf := some (fileOf pool1 22 #[] #[{ accessFlags := 1, nameIndex := 5, descriptorIndex := 6, attributes := #[] }, { accessFlags := 9, nameIndex := 26, descriptorIndex := 27, attributes := #[] }] 49 2 #[] #[])
  fields := #[]
  methods := #[k1m0, k1m1]
  instanceTypes := #[]
  staticTypes := #[]
  resolved := Array.replicate 31 none
  statics := none }

def pool2 : Array CpInfo := pool [(1, .class_ 2), (0, u "java/io/Serializable"), (0, .class_ 4), (0, u "java/lang/Object")] 2

/-- java/io/Serializable -/
def k2 : Class := { plain "java/io/Serializable" (some 0) with
  accessFlags := 1537
  interfaces := #[]
  cf := some (fileOf pool2 1 #[] #[] 1537 3 #[] #[])
  fields := #[]
  methods := #[]
  instanceTypes := #[]
  staticTypes := #[]
  resolved := Array.replicate 7 none
  statics := none }

def pool3 : Array CpInfo := pool [(1, .class_ 2), (0, u "java/lang/Comparable"), (0, .class_ 4), (0, u "java/lang/Object")] 7

/-- java/lang/Comparable -/
def k3 : Class := { plain "java/lang/Comparable" (some 0) with
  accessFlags := 1537
  interfaces := #[]
  cf := some (fileOf pool3 1 #[] #[] 1537 3 #[] #[])
  fields := #[]
  methods := #[]
  instanceTypes := #[]
  staticTypes := #[]
  resolved := Array.replicate 12 none
  statics := none }

def pool4 : Array CpInfo := pool [(2, .class_ 4), (1, u "java/lang/CharSequence"), (42, .class_ 48), (0, u "java/lang/CharSequence$1CodePointIterator"), (10, .class_ 60), (0, u "java/lang/CharSequence$1CharIterator"), (5, .class_ 67), (0, u "java/lang/Object")] 63

/-- java/lang/CharSequence -/
def k4 : Class := { plain "java/lang/CharSequence" (some 0) with
  accessFlags := 1537
  interfaces := #[]
  cf := some (fileOf pool4 2 #[.nestMembers #[47, 59]] #[] 1537 66 #[] #[])
  fields := #[]
  methods := #[]
  instanceTypes := #[]
  staticTypes := #[]
  resolved := Array.replicate 131 none
  statics := none }

def pool5 : Array CpInfo := pool [(1, .class_ 2), (0, u "java/lang/constant/Constable"), (0, .class_ 4), (0, u "java/lang/Object")] 6

/-- java/lang/constant/Constable -/
def k5 : Class := { plain "java/lang/constant/Constable" (some 0) with
  accessFlags := 1537
  interfaces := #[]
  cf := some (fileOf pool5 1 #[] #[] 1537 3 #[] #[])
  fields := #[]
  methods := #[]
  instanceTypes := #[]
  staticTypes := #[]
  resolved := Array.replicate 11 none
  statics := none }

def pool6 : Array CpInfo := pool [(1, .class_ 2), (0, u "java/lang/constant/ConstantDesc"), (0, .class_ 4), (0, u "java/lang/Object")] 32

/-- java/lang/constant/ConstantDesc -/
def k6 : Class := { plain "java/lang/constant/ConstantDesc" (some 0) with
  accessFlags := 1537
  interfaces := #[]
  cf := some (fileOf pool6 1 #[] #[] 1537 3 #[] #[])
  fields := #[]
  methods := #[]
  instanceTypes := #[]
  staticTypes := #[]
  resolved := Array.replicate 37 none
  statics := none }

def pool7 : Array CpInfo := pool [(1, .methodref 2 3), (0, .class_ 4), (0, .nameAndType 5 6), (0, u "java/lang/Object"), (0, u "<init>"), (0, u "()V"), (2, .fieldref 10 11), (0, .class_ 12), (0, .nameAndType 13 14), (0, u "java/lang/String"), (0, u "value"), (0, u "[B"), (0, .fieldref 10 16), (0, .nameAndType 17 18), (0, u "coder"), (0, u "B"), (2, u "hash"), (0, u "I"), (2, u "hashIsZero"), (0, u "Z"), (0, .methodref 10 28), (0, .nameAndType 5 29), (0, u "([CIILjava/lang/Void;)V"), (8, .fieldref 10 39), (0, .nameAndType 40 26), (0, u "COMPACT_STRINGS"), (1, .class_ 44), (1, u "java/lang/StringUTF16"), (0, u "compress"), (1, .methodref 42 48), (0, .nameAndType 49 50), (0, u "coderFromArrayLen"), (0, u "([BI)B"), (56, .class_ 109), (1, u "java/lang/StringLatin1"), (32, u "()Z"), (34, .methodref 42 178), (0, .nameAndType 45 179), (0, u "([CII)[B"), (361, .methodref 107 542), (0, .nameAndType 543 544), (0, u "equals"), (0, u "([B[B)Z"), (28, u "(Ljava/lang/Object;)Z"), (1, .class_ 576), (0, u "java/lang/CharSequence"), (22, u "CASE_INSENSITIVE_ORDER"), (0, u "Ljava/util/Comparator;"), (91, u "isEmpty"), (317, u "([C)V"), (90, u "serialPersistentFields"), (0, u "[Ljava/io/ObjectStreamField;"), (0, .class_ 1104), (0, u "java/lang/String$CaseInsensitiveComparator"), (1, .class_ 1107), (0, u "java/io/Serializable"), (0, .class_ 1109), (0, u "java/lang/Comparable"), (0, .class_ 1111), (0, u "java/lang/constant/Constable"), (0, .class_ 1113), (0, u "java/lang/constant/ConstantDesc"), (2, u "serialVersionUID"), (0, u "J"), (3, u "REPL"), (0, u "C"), (2, u "LATIN1"), (1, u "UTF16")] 323

def k7m0 : Method := { name := "<init>", desc := "()V", sig := { parameters := [], returnType := none }, accessFlags := 1, code := none }
def k7c1 : Code := { maxStack := 5, maxLocals := 2, code := jdk_42_method_3_code, exceptionTable := #[], attributes := #[] }
def k7m1 : Method := { name := "<init>", desc := "([C)V", sig := { parameters := [(.array .char)], returnType := none }, accessFlags := 1, code := some k7c1 }
def k7c2 : Code := { maxStack := 1, maxLocals := 1, code := jdk_42_method_55_code, exceptionTable := #[], attributes := #[] }
def k7m2 : Method := { name := "isEmpty", desc := "()Z", sig := { parameters := [], returnType := some .boolean }, accessFlags := 1, code := some k7c2 }
def k7c3 : Code := { maxStack := 2, maxLocals := 3, code := jdk_42_method_66_code, exceptionTable := #[], attributes := #[] }
def k7m3 : Method := { name := "equals", desc := "(Ljava/lang/Object;)Z", sig := { parameters := [(.object "java/lang/Object")], returnType := some .boolean }, accessFlags := 1, code := some k7c3 }
def k7c4 : Code := { maxStack := 4, maxLocals := 6, code := jdk_42_method_149_code, exceptionTable := #[], attributes := #[] }
def k7m4 : Method := { name := "<init>", desc := "([CIILjava/lang/Void;)V", sig := { parameters := [(.array .char), .int, .int, (.object "java/lang/Void")], returnType := none }, accessFlags := 2, code := some k7c4 }
/-- java/lang/String -/
def k7 : Class := { plain "java/lang/String" (some 0) with
  accessFlags := 49
  interfaces := #[2, 3, 4, 5, 6]
  cf := some (fileOf pool7 10 #[.nestMembers #[1103]] #[{ accessFlags := 1, nameIndex := 5, descriptorIndex := 6, attributes := #[] }, { accessFlags := 1, nameIndex := 5, descriptorIndex := 1010, attributes := #[] }, { accessFlags := 1, nameIndex := 692, descriptorIndex := 142, attributes := #[] }, { accessFlags := 1, nameIndex := 543, descriptorIndex := 573, attributes := #[] }, { accessFlags := 2, nameIndex := 5, descriptorIndex := 29, attributes := #[] }] 49 2 #[1106, 1108, 575, 1110, 1112] #[{ accessFlags := 18, nameIndex := 13, descriptorIndex := 14, attributes := #[] }, { accessFlags := 18, nameIndex := 17, descriptorIndex := 18, attributes := #[] }, { accessFlags := 2, nameIndex := 21, descriptorIndex := 22, attributes := #[] }, { accessFlags := 2, nameIndex := 25, descriptorIndex := 26, attributes := #[] }, { accessFlags := 26, nameIndex := 1116, descriptorIndex := 1117, attributes := #[] }, { accessFlags := 24, nameIndex := 40, descriptorIndex := 26, attributes := #[] }, { accessFlags := 26, nameIndex := 1101, descriptorIndex := 1102, attributes := #[] }, { accessFlags := 26, nameIndex := 1121, descriptorIndex := 1122, attributes := #[] }, { accessFlags := 25, nameIndex := 599, descriptorIndex := 600, attributes := #[] }, { accessFlags := 24, nameIndex := 1125, descriptorIndex := 18, attributes := #[] }, { accessFlags := 24, nameIndex := 1127, descriptorIndex := 18, attributes := #[] }])
  fields := #[{ name := "value", type := (.array .byte), accessFlags := 18, slot := 0, constantValue := 0 }, { name := "coder", type := .byte, accessFlags := 18, slot := 1, constantValue := 0 }, { name := "hash", type := .int, accessFlags := 2, slot := 2, constantValue := 0 }, { name := "hashIsZero", type := .boolean, accessFlags := 2, slot := 3, constantValue := 0 }, { name := "serialVersionUID", type := .long, accessFlags := 26, slot := 0, constantValue := 0 }, { name := "COMPACT_STRINGS", type := .boolean, accessFlags := 24, slot := 1, constantValue := 0 }, { name := "serialPersistentFields", type := (.array (.object "java/io/ObjectStreamField")), accessFlags := 26, slot := 2, constantValue := 0 }, { name := "REPL", type := .char, accessFlags := 26, slot := 3, constantValue := 0 }, { name := "CASE_INSENSITIVE_ORDER", type := (.object "java/util/Comparator"), accessFlags := 25, slot := 4, constantValue := 0 }, { name := "LATIN1", type := .byte, accessFlags := 24, slot := 5, constantValue := 0 }, { name := "UTF16", type := .byte, accessFlags := 24, slot := 6, constantValue := 0 }]
  methods := #[k7m0, k7m1, k7m2, k7m3, k7m4]
  instanceTypes := #[(.array .byte), .byte, .int, .boolean]
  staticTypes := #[.long, .boolean, (.array (.object "java/io/ObjectStreamField")), .char, (.object "java/util/Comparator"), .byte, .byte]
  resolved := Array.replicate 1451 none
  statics := some 0 }

def pool8 : Array CpInfo := pool [(6, .class_ 8), (1, u "java/lang/Object"), (0, u "<init>"), (0, u "()V"), (1, .class_ 14), (1, u "java/lang/StringUTF16"), (31, u "$assertionsDisabled"), (0, u "Z"), (13, u "HI_BYTE_SHIFT"), (0, u "I"), (2, u "LO_BYTE_SHIFT"), (49, .methodref 12 116), (0, .nameAndType 117 118), (0, u "compress"), (0, u "([CI[BII)I"), (3, u "([CII)[B"), (138, u "coderFromArrayLen"), (0, u "([BI)B"), (106, .class_ 371), (1, u "java/lang/StringUTF16$LinesSpliterator"), (58, u "MAX_LENGTH"), (196, .class_ 628), (0, u "java/lang/StringUTF16$CodePointsSpliterator"), (0, .class_ 630), (0, u "java/lang/StringUTF16$CharsSpliterator")] 4

def k8m0 : Method := { name := "<init>", desc := "()V", sig := { parameters := [], returnType := none }, accessFlags := 0, code := none }
def k8c1 : Code := { maxStack := 2, maxLocals := 2, code := jdk_52_method_15_code, exceptionTable := #[], attributes := #[] }
def k8m1 : Method := { name := "coderFromArrayLen", desc := "([BI)B", sig := { parameters := [(.array .byte), .int], returnType := some .byte }, accessFlags := 8, code := some k8c1 }
def k8c2 : Code := { maxStack := 5, maxLocals := 6, code := jdk_52_method_16_code, exceptionTable := #[], attributes := #[] }
def k8m2 : Method := { name := "compress", desc := "([CII)[B", sig := { parameters := [(.array .char), .int, .int], returnType := some (.array .byte) }, accessFlags := 9, code := some k8c2 }
def k8c3 : Code := { maxStack := 3, maxLocals := 7, code := jdk_52_method_21_code, exceptionTable := #[], attributes := #[] }
def k8m3 : Method := { name := "compress", desc := "([CI[BII)I", sig := { parameters := [(.array .char), .int, (.array .byte), .int, .int], returnType := some .int }, accessFlags := 9, code := some k8c3 }
/-- java/lang/StringUTF16 -/
def k8 : Class := { plain "java/lang/StringUTF16" (some 0) with
  accessFlags := 48
  interfaces := #[]
  cf := some (fileOf pool8 12 #[.nestMembers #[627, 629, 369]] #[{ accessFlags := 0, nameIndex := 9, descriptorIndex := 10, attributes := #[] }, { accessFlags := 8, nameIndex := 261, descriptorIndex := 262, attributes := #[] }, { accessFlags := 9, nameIndex := 117, descriptorIndex := 122, attributes := #[] }, { accessFlags := 9, nameIndex := 117, descriptorIndex := 118, attributes := #[] }] 48 6 #[] #[{ accessFlags := 26, nameIndex := 61, descriptorIndex := 62, attributes := #[] }, { accessFlags := 26, nameIndex := 65, descriptorIndex := 62, attributes := #[] }, { accessFlags := 24, nameIndex := 430, descriptorIndex := 62, attributes := #[] }, { accessFlags := 4120, nameIndex := 46, descriptorIndex := 47, attributes := #[] }])
  fields := #[{ name := "HI_BYTE_SHIFT", type := .int, accessFlags := 26, slot := 0, constantValue := 0 }, { name := "LO_BYTE_SHIFT", type := .int, accessFlags := 26, slot := 1, constantValue := 0 }, { name := "MAX_LENGTH", type := .int, accessFlags := 24, slot := 2, constantValue := 0 }, { name := "$assertionsDisabled", type := .boolean, accessFlags := 4120, slot := 3, constantValue := 0 }]
  methods := #[k8m0, k8m1, k8m2, k8m3]
  instanceTypes := #[]
  staticTypes := #[.int, .int, .int, .boolean]
  resolved := Array.replicate 635 none
  statics := none }

def pool9 : Array CpInfo := pool [(1, .methodref 2 3), (0, .class_ 4), (0, .nameAndType 5 6), (0, u "java/lang/Object"), (0, u "<init>"), (0, u "()V"), (0, .string 8), (0, u "name"), (0, .methodref 10 11), (0, .class_ 12), (0, .nameAndType 13 14), (0, u "java/util/Objects"), (0, u "requireNonNull"), (0, u "(Ljava/lang/Object;Ljava/lang/String;)Ljava/lang/Object;"), (0, .methodref 16 17), (0, .class_ 18), (0, .nameAndType 19 20), (0, u "java/lang/String"), (0, u "isEmpty"), (0, u "()Z"), (9, .fieldref 31 32), (0, .class_ 33), (0, .nameAndType 8 34), (0, u "com/example/tightrope/tightrope/logic/Predicate"), (0, u "Ljava/lang/String;"), (0, .fieldref 31 36), (0, .nameAndType 37 38), (0, u "arity"), (0, u "I"), (37, u "ORDER"), (0, u "Ljava/util/Comparator;"), (6, .methodref 16 85), (0, .nameAndType 86 87), (0, u "equals"), (0, u "(Ljava/lang/Object;)Z"), (24, .class_ 113), (0, u "java/lang/Comparable"), (2, u "(Ljava/lang/String;I)V")] 57

def k9c0 : Code := { maxStack := 4, maxLocals := 3, code := prog_8_method_1_code, exceptionTable := #[], attributes := #[] }
def k9m0 : Method := { name := "<init>", desc := "(Ljava/lang/String;I)V", sig := { parameters := [(.object "java/lang/String"), .int], returnType := none }, accessFlags := 1, code := some k9c0 }
def k9c1 : Code := { maxStack := 2, maxLocals := 3, code := prog_8_method_7_code, exceptionTable := #[], attributes := #[] }
def k9m1 : Method := { name := "equals", desc := "(Ljava/lang/Object;)Z", sig := { parameters := [(.object "java/lang/Object")], returnType := some .boolean }, accessFlags := 1, code := some k9c1 }
/-- com/example/tightrope/tightrope/logic/Predicate -/
def k9 : Class := { plain "com/example/tightrope/tightrope/logic/Predicate" (some 0) with
  accessFlags := 49
  interfaces := #[3]
  cf := some (fileOf pool9 31 #[] #[{ accessFlags := 1, nameIndex := 5, descriptorIndex := 116, attributes := #[] }, { accessFlags := 1, nameIndex := 86, descriptorIndex := 87, attributes := #[] }] 49 2 #[112] #[{ accessFlags := 26, nameIndex := 76, descriptorIndex := 77, attributes := #[] }, { accessFlags := 18, nameIndex := 8, descriptorIndex := 34, attributes := #[] }, { accessFlags := 18, nameIndex := 37, descriptorIndex := 38, attributes := #[] }])
  fields := #[{ name := "ORDER", type := (.object "java/util/Comparator"), accessFlags := 26, slot := 0, constantValue := 0 }, { name := "name", type := (.object "java/lang/String"), accessFlags := 18, slot := 0, constantValue := 0 }, { name := "arity", type := .int, accessFlags := 18, slot := 1, constantValue := 0 }]
  methods := #[k9m0, k9m1]
  instanceTypes := #[(.object "java/lang/String"), .int]
  staticTypes := #[(.object "java/util/Comparator")]
  resolved := Array.replicate 174 none
  statics := none }

def pool10 : Array CpInfo := pool [(2, .class_ 4), (1, u "java/lang/Object"), (0, u "<init>"), (0, u "()V"), (35, .class_ 44), (1, u "java/util/Objects"), (0, u "requireNonNull"), (48, u "(Ljava/lang/Object;Ljava/lang/String;)Ljava/lang/Object;")] 89

def k10m0 : Method := { name := "<init>", desc := "()V", sig := { parameters := [], returnType := none }, accessFlags := 2, code := none }
def k10c1 : Code := { maxStack := 3, maxLocals := 2, code := jdk_31_method_11_code, exceptionTable := #[], attributes := #[] }
def k10m1 : Method := { name := "requireNonNull", desc := "(Ljava/lang/Object;Ljava/lang/String;)Ljava/lang/Object;", sig := { parameters := [(.object "java/lang/Object"), (.object "java/lang/String")], returnType := some (.object "java/lang/Object") }, accessFlags := 9, code := some k10c1 }
/-- java/util/Objects -/
def k10 : Class := { plain "java/util/Objects" (some 0) with
  accessFlags := 49
  interfaces := #[]
  cf := some (fileOf pool10 42 #[] #[{ accessFlags := 2, nameIndex := 5, descriptorIndex := 6, attributes := #[] }, { accessFlags := 9, nameIndex := 45, descriptorIndex := 94, attributes := #[] }] 49 2 #[] #[])
  fields := #[]
  methods := #[k10m0, k10m1]
  instanceTypes := #[]
  staticTypes := #[]
  resolved := Array.replicate 184 none
  statics := none }

def pool11 : Array CpInfo := pool [(4, .class_ 6), (1, u "java/lang/Object"), (0, u "<init>"), (0, u "()V"), (5, .class_ 16), (1, u "java/lang/StringLatin1"), (104, u "$assertionsDisabled"), (0, u "Z"), (98, .class_ 223), (1, u "java/lang/StringLatin1$LinesSpliterator"), (57, u "equals"), (0, u "([B[B)Z"), (107, .class_ 391), (0, u "java/lang/StringLatin1$CharsSpliterator")] 3

def k11m0 : Method := { name := "<init>", desc := "()V", sig := { parameters := [], returnType := none }, accessFlags := 0, code := none }
def k11c1 : Code := { maxStack := 3, maxLocals := 3, code := jdk_43_method_13_code, exceptionTable := #[], attributes := #[] }
def k11m1 : Method := { name := "equals", desc := "([B[B)Z", sig := { parameters := [(.array .byte), (.array .byte)], returnType := some .boolean }, accessFlags := 9, code := some k11c1 }
/-- java/lang/StringLatin1 -/
def k11 : Class := { plain "java/lang/StringLatin1" (some 0) with
  accessFlags := 48
  interfaces := #[]
  cf := some (fileOf pool11 14 #[.nestMembers #[390, 221]] #[{ accessFlags := 0, nameIndex := 7, descriptorIndex := 8, attributes := #[] }, { accessFlags := 9, nameIndex := 281, descriptorIndex := 282, attributes := #[] }] 48 4 #[] #[{ accessFlags := 4120, nameIndex := 121, descriptorIndex := 122, attributes := #[] }])
  fields := #[{ name := "$assertionsDisabled", type := .boolean, accessFlags := 4120, slot := 0, constantValue := 0 }]
  methods := #[k11m0, k11m1]
  instanceTypes := #[]
  staticTypes := #[.boolean]
  resolved := Array.replicate 395 none
  statics := none }

def pool12 : Array CpInfo := pool [(2, .class_ 4), (1, u "java/lang/Object"), (0, u "<init>"), (0, u "()V"), (17, .class_ 26), (1, u "jdk/internal/util/Preconditions"), (28, .class_ 56), (0, u "jdk/internal/util/Preconditions$4"), (57, .class_ 115), (0, u "jdk/internal/util/Preconditions$1"), (7, u "SIOOBE_FORMATTER"), (0, u "Ljava/util/function/BiFunction;"), (0, .class_ 126), (0, u "jdk/internal/util/Preconditions$2"), (3, u "AIOOBE_FORMATTER"), (0, .class_ 132), (0, u "jdk/internal/util/Preconditions$3"), (3, u "IOOBE_FORMATTER")] 57

def k12m0 : Method := { name := "<init>", desc := "()V", sig := { parameters := [], returnType := none }, accessFlags := 1, code := none }
/-- jdk/internal/util/Preconditions -/
def k12 : Class := { plain "jdk/internal/util/Preconditions" (some 0) with
  accessFlags := 33
  interfaces := #[]
  cf := some (fileOf pool12 24 #[.nestMembers #[55, 131, 125, 114]] #[{ accessFlags := 1, nameIndex := 5, descriptorIndex := 6, attributes := #[] }] 33 2 #[] #[{ accessFlags := 25, nameIndex := 123, descriptorIndex := 124, attributes := #[] }, { accessFlags := 25, nameIndex := 130, descriptorIndex := 124, attributes := #[] }, { accessFlags := 25, nameIndex := 136, descriptorIndex := 124, attributes := #[] }])
  fields := #[{ name := "SIOOBE_FORMATTER", type := (.object "java/util/function/BiFunction"), accessFlags := 25, slot := 0, constantValue := 0 }, { name := "AIOOBE_FORMATTER", type := (.object "java/util/function/BiFunction"), accessFlags := 25, slot := 1, constantValue := 0 }, { name := "IOOBE_FORMATTER", type := (.object "java/util/function/BiFunction"), accessFlags := 25, slot := 2, constantValue := 0 }]
  methods := #[k12m0]
  instanceTypes := #[]
  staticTypes := #[(.object "java/util/function/BiFunction"), (.object "java/util/function/BiFunction"), (.object "java/util/function/BiFunction")]
  resolved := Array.replicate 194 none
  statics := some 1 }

def pool13 : Array CpInfo := pool [(9, u "<init>"), (6, .class_ 18), (1, u "java/lang/Object"), (0, u "()V"), (1, .class_ 23), (1, u "jdk/internal/util/ArraysSupport"), (0, u "LOG2_ARRAY_LONG_INDEX_SCALE"), (0, u "I"), (2, u "U"), (0, u "Ljdk/internal/misc/Unsafe;"), (8, u "BIG_ENDIAN"), (0, u "Z"), (8, u "LOG2_BYTE_BIT_SIZE"), (4, u "LOG2_ARRAY_INT_INDEX_SCALE"), (54, u "JLA"), (0, u "Ljdk/internal/access/JavaLangAccess;"), (11, u "LOG2_ARRAY_BOOLEAN_INDEX_SCALE"), (9, u "LOG2_ARRAY_BYTE_INDEX_SCALE"), (5, u "LOG2_ARRAY_CHAR_INDEX_SCALE"), (5, u "LOG2_ARRAY_SHORT_INDEX_SCALE"), (18, u "LOG2_ARRAY_FLOAT_INDEX_SCALE"), (24, u "LOG2_ARRAY_DOUBLE_INDEX_SCALE"), (89, u "T_BOOLEAN"), (2, u "T_CHAR"), (1, u "T_FLOAT"), (1, u "T_DOUBLE"), (1, u "T_BYTE"), (1, u "T_SHORT"), (1, u "T_INT"), (1, u "T_LONG"), (1, u "SOFT_MAX_ARRAY_LENGTH")] 83

def k13m0 : Method := { name := "<init>", desc := "()V", sig := { parameters := [], returnType := none }, accessFlags := 2, code := none }
/-- jdk/internal/util/ArraysSupport -/
def k13 : Class := { plain "jdk/internal/util/ArraysSupport" (some 0) with
  accessFlags := 33
  interfaces := #[]
  cf := some (fileOf pool13 21 #[] #[{ accessFlags := 2, nameIndex := 9, descriptorIndex := 19, attributes := #[] }] 33 16 #[] #[{ accessFlags := 24, nameIndex := 28, descriptorIndex := 29, attributes := #[] }, { accessFlags := 26, nameIndex := 38, descriptorIndex := 39, attributes := #[] }, { accessFlags := 25, nameIndex := 121, descriptorIndex := 25, attributes := #[] }, { accessFlags := 25, nameIndex := 131, descriptorIndex := 25, attributes := #[] }, { accessFlags := 25, nameIndex := 137, descriptorIndex := 25, attributes := #[] }, { accessFlags := 25, nameIndex := 143, descriptorIndex := 25, attributes := #[] }, { accessFlags := 25, nameIndex := 53, descriptorIndex := 25, attributes := #[] }, { accessFlags := 25, nameIndex := 24, descriptorIndex := 25, attributes := #[] }, { accessFlags := 25, nameIndex := 162, descriptorIndex := 25, attributes := #[] }, { accessFlags := 25, nameIndex := 187, descriptorIndex := 25, attributes := #[] }, { accessFlags := 26, nameIndex := 48, descriptorIndex := 25, attributes := #[] }, { accessFlags := 25, nameIndex := 277, descriptorIndex := 25, attributes := #[] }, { accessFlags := 25, nameIndex := 280, descriptorIndex := 25, attributes := #[] }, { accessFlags := 25, nameIndex := 282, descriptorIndex := 25, attributes := #[] }, { accessFlags := 25, nameIndex := 284, descriptorIndex := 25, attributes := #[] }, { accessFlags := 25, nameIndex := 286, descriptorIndex := 25, attributes := #[] }, { accessFlags := 25, nameIndex := 288, descriptorIndex := 25, attributes := #[] }, { accessFlags := 25, nameIndex := 290, descriptorIndex := 25, attributes := #[] }, { accessFlags := 25, nameIndex := 292, descriptorIndex := 25, attributes := #[] }, { accessFlags := 26, nameIndex := 108, descriptorIndex := 109, attributes := #[] }, { accessFlags := 25, nameIndex := 294, descriptorIndex := 25, attributes := #[] }])
  fields := #[{ name := "U", type := (.object "jdk/internal/misc/Unsafe"), accessFlags := 24, slot := 0, constantValue := 0 }, { name := "BIG_ENDIAN", type := .boolean, accessFlags := 26, slot := 1, constantValue := 0 }, { name := "LOG2_ARRAY_BOOLEAN_INDEX_SCALE", type := .int, accessFlags := 25, slot := 2, constantValue := 0 }, { name := "LOG2_ARRAY_BYTE_INDEX_SCALE", type := .int, accessFlags := 25, slot := 3, constantValue := 0 }, { name := "LOG2_ARRAY_CHAR_INDEX_SCALE", type := .int, accessFlags := 25, slot := 4, constantValue := 0 }, { name := "LOG2_ARRAY_SHORT_INDEX_SCALE", type := .int, accessFlags := 25, slot := 5, constantValue := 0 }, { name := "LOG2_ARRAY_INT_INDEX_SCALE", type := .int, accessFlags := 25, slot := 6, constantValue := 0 }, { name := "LOG2_ARRAY_LONG_INDEX_SCALE", type := .int, accessFlags := 25, slot := 7, constantValue := 0 }, { name := "LOG2_ARRAY_FLOAT_INDEX_SCALE", type := .int, accessFlags := 25, slot := 8, constantValue := 0 }, { name := "LOG2_ARRAY_DOUBLE_INDEX_SCALE", type := .int, accessFlags := 25, slot := 9, constantValue := 0 }, { name := "LOG2_BYTE_BIT_SIZE", type := .int, accessFlags := 26, slot := 10, constantValue := 0 }, { name := "T_BOOLEAN", type := .int, accessFlags := 25, slot := 11, constantValue := 0 }, { name := "T_CHAR", type := .int, accessFlags := 25, slot := 12, constantValue := 0 }, { name := "T_FLOAT", type := .int, accessFlags := 25, slot := 13, constantValue := 0 }, { name := "T_DOUBLE", type := .int, accessFlags := 25, slot := 14, constantValue := 0 }, { name := "T_BYTE", type := .int, accessFlags := 25, slot := 15, constantValue := 0 }, { name := "T_SHORT", type := .int, accessFlags := 25, slot := 16, constantValue := 0 }, { name := "T_INT", type := .int, accessFlags := 25, slot := 17, constantValue := 0 }, { name := "T_LONG", type := .int, accessFlags := 25, slot := 18, constantValue := 0 }, { name := "JLA", type := (.object "jdk/internal/access/JavaLangAccess"), accessFlags := 26, slot := 19, constantValue := 0 }, { name := "SOFT_MAX_ARRAY_LENGTH", type := .int, accessFlags := 25, slot := 20, constantValue := 0 }]
  methods := #[k13m0]
  instanceTypes := #[]
  staticTypes := #[(.object "jdk/internal/misc/Unsafe"), .boolean, .int, .int, .int, .int, .int, .int, .int, .int, .int, .int, .int, .int, .int, .int, .int, .int, .int, (.object "jdk/internal/access/JavaLangAccess"), .int]
  resolved := Array.replicate 378 none
  statics := none }

def pool14 : Array CpInfo := pool [(1, u "java/lang/Cloneable"), (0, .class_ 1), (0, u "java/lang/Object"), (0, .class_ 3)] 3

/-- java/lang/Cloneable -/
def k14 : Class := { plain "java/lang/Cloneable" (some 0) with
  accessFlags := 1537
  interfaces := #[]
  cf := some (fileOf pool14 2 #[] #[] 1537 4 #[] #[])
  fields := #[]
  methods := #[]
  instanceTypes := #[]
  staticTypes := #[]
  resolved := Array.replicate 8 none
  statics := none }

/-- the primitive byte -/
def k15 : Class := { plain "byte" none with kind := .primitive 'B', accessFlags := 0x411 }
/-- [B -/
def k16 : Class := { plain "[B" (some 0) with kind := .array 15 .byte, interfaces := #[14, 2], accessFlags := 1041 }

/-- the primitive char -/
def k17 : Class := { plain "char" none with kind := .primitive 'C', accessFlags := 0x411 }
/-- [C -/
def k18 : Class := { plain "[C" (some 0) with kind := .array 17 .char, interfaces := #[14, 2], accessFlags := 1041 }

/-- the primitive int -/
def k19 : Class := { plain "int" none with kind := .primitive 'I', accessFlags := 0x411 }
/-- [I -/
def k20 : Class := { plain "[I" (some 0) with kind := .array 19 .int, interfaces := #[14, 2], accessFlags := 1041 }

def heap : Heap := #[{ cls := 7, slots := #[.long 0, .int 1, .null, .int 0, .null, .int 0, .int 0], vm := .statics 7 },
  { cls := 12, slots := #[.null, .null, .null], vm := .statics 12 }]
def classes : Array Class := #[k0, k1, k2, k3, k4, k5, k6, k7, k8, k9, k10, k11, k12, k13, k14, k15, k16, k17, k18, k19, k20]
def interned : List (Array UInt16 × Addr) := []
def slotsUsed : Nat := 10
def theMethod : MethodId := ⟨1, 1⟩
def args0 : Array Value := #[.int 5, .int 3, .int 1, .int 2, .int 1]
def aboutOver (below : List Frame) : State where
  vm := { classes := classes, interned := interned.toArray }
  heap := heap
  slotsUsed := slotsUsed
  threads := #[{ frames := .invoking theMethod args0 :: below }]
def below0 : List Frame := [.native { method := ⟨0, 0⟩, args := #[] }]
def about1 : State := aboutOver below0
def p0 : Program := .bare "" "" ""
def e0 : Env := launch0.env 0 0 0
theorem w_frames : about1.frames = Frame.invoking theMethod args0 :: below0 := rfl
set_option maxRecDepth 65536 in
theorem w_args : argsFit about1.vm theMethod args0 = true := by decide +kernel
set_option maxRecDepth 65536 in
theorem w_heap : heapFits about1 = true := by decide +kernel
set_option maxRecDepth 65536 in
theorem w_runnable : about1.curStatus? = some .runnable := by decide +kernel
set_option maxRecDepth 65536 in
theorem w_alone : about1.alone = true := by decide +kernel
set_option maxRecDepth 65536 in
theorem w_named : about1.methodNamed? x = some theMethod := by decide +kernel
set_option maxRecDepth 65536 in
theorem w_hears : about1.hears theMethod below0 = true := by decide +kernel
set_option maxRecDepth 65536 in
theorem w_ripe : about1.ripe theMethod args0 below0 = true := by decide +kernel
theorem w_running : about1.status = .running := rfl
set_option maxRecDepth 65536 in
theorem w_room : about1.hasRoom e0.platform room_1 = true :=
  launch0.hasRoom_least _ room_1 (by decide +kernel) (by decide +kernel) (by decide +kernel) (by decide +kernel) (by decide +kernel) (by decide +kernel)
theorem allAtoms_all (ts : List Jvm.Cond) (a : Array Jvm.Value) (st : Jvm.State) : (allAtoms ts).before a st = ts.all (fun c => c.before a st) := by
  induction ts with
  | nil => rfl
  | cons c t ih =>
    show (Jvm.Cond.and c (allAtoms t)).before a st = _
    rw [Jvm.Cond.before_and, ih, List.all_cons]
def words1 : List Jvm.Cond := Jvm.Cond.code x code maxLocals ret :: tables_1
/-- a 'code' word, met by the world's own term for the bytes: nothing is compared byte by byte -/
theorem code_word {y : MethodName} {bytes : ByteArray} {mx : Nat} {rt : Option FieldType} {a : Array Value} {s : State} {m : MethodId} {meth : Method} {c : Code} (h1 : s.methodNamed? y = some m) (h2 : s.vm.method? m = some meth) (h3 : meth.code = some c) (h4 : c.code = bytes)
    (h5 : (c.maxLocals == mx && c.exceptionTable.isEmpty && decide (c.maxStack ≤ mostOperands) && decide (meth.sig.returnType = rt) && !meth.locks && decide (parseMethodDescriptor y.desc = some meth.sig)) = true) : (Jvm.Cond.code y bytes mx rt).before a s = true := by
  simp only [Bool.and_eq_true, beq_iff_eq, Bool.not_eq_true', decide_eq_true_eq] at h5
  obtain ⟨⟨⟨⟨⟨g1, g2⟩, g3⟩, g4⟩, g5⟩, g6⟩ := h5
  simp [Cond.before, Cond.holds, Cond.value, h1, h2, h3, h4, g1, g2, g3, g4, g5, g6]
def isCode : Jvm.Cond → Bool
  | .code _ _ _ _ => true
  | _ => false
theorem all_split {L : List Jvm.Cond} {P : Jvm.Cond → Bool} (h1 : L.all (fun c => isCode c || P c) = true) (h2 : ∀ c ∈ L.filter isCode, P c = true) : L.all P = true := by
  refine List.all_eq_true.mpr fun c hc => ?_
  have h := List.all_eq_true.mp h1 c hc
  rcases Bool.eq_false_or_eq_true (isCode c) with hi | hi
  · exact h2 c (List.mem_filter.mpr ⟨hc, hi⟩)
  · simpa [hi] using h
set_option maxRecDepth 65536 in
theorem w_c0 : (Jvm.Cond.code x code maxLocals ret).before args0 about1 = true := code_word (m := ⟨1, 1⟩) (meth := k1m1) (c := k1c1) (by decide +kernel) rfl rfl rfl (by decide +kernel)
set_option maxRecDepth 65536 in
theorem w_c1 : (Jvm.Cond.code ({ cls := "java/lang/String", name := "<init>", desc := "([C)V" } : Jvm.MethodName) jdk_42_method_3_code (2 : Nat) (Option.none : Option Jvm.ClassFile.FieldType)).before args0 about1 = true := code_word (m := ⟨7, 1⟩) (meth := k7m1) (c := k7c1) (by decide +kernel) rfl rfl rfl (by decide +kernel)
set_option maxRecDepth 65536 in
theorem w_c2 : (Jvm.Cond.code ({ cls := "java/lang/String", name := "<init>", desc := "([CIILjava/lang/Void;)V" } : Jvm.MethodName) jdk_42_method_149_code (6 : Nat) (Option.none : Option Jvm.ClassFile.FieldType)).before args0 about1 = true := code_word (m := ⟨7, 4⟩) (meth := k7m4) (c := k7c4) (by decide +kernel) rfl rfl rfl (by decide +kernel)
set_option maxRecDepth 65536 in
theorem w_c3 : (Jvm.Cond.code ({ cls := "java/lang/Object", name := "<init>", desc := "()V" } : Jvm.MethodName) object_method_1_code (1 : Nat) (Option.none : Option Jvm.ClassFile.FieldType)).before args0 about1 = true := code_word (m := ⟨0, 0⟩) (meth := k0m0) (c := k0c0) (by decide +kernel) rfl rfl rfl (by decide +kernel)
set_option maxRecDepth 65536 in
theorem w_c4 : (Jvm.Cond.code ({ cls := "java/lang/StringUTF16", name := "compress", desc := "([CII)[B" } : Jvm.MethodName) jdk_52_method_16_code (6 : Nat) (Option.some (Jvm.ClassFile.FieldType.array Jvm.ClassFile.FieldType.byte))).before args0 about1 = true := code_word (m := ⟨8, 2⟩) (meth := k8m2) (c := k8c2) (by decide +kernel) rfl rfl rfl (by decide +kernel)
set_option maxRecDepth 65536 in
theorem w_c5 : (Jvm.Cond.code ({ cls := "java/lang/StringUTF16", name := "compress", desc := "([CI[BII)I" } : Jvm.MethodName) jdk_52_method_21_code (7 : Nat) (Option.some Jvm.ClassFile.FieldType.int)).before args0 about1 = true := code_word (m := ⟨8, 3⟩) (meth := k8m3) (c := k8c3) (by decide +kernel) rfl rfl rfl (by decide +kernel)
set_option maxRecDepth 65536 in
theorem w_c6 : (Jvm.Cond.code ({ cls := "java/lang/StringUTF16", name := "coderFromArrayLen", desc := "([BI)B" } : Jvm.MethodName) jdk_52_method_15_code (2 : Nat) (Option.some Jvm.ClassFile.FieldType.byte)).before args0 about1 = true := code_word (m := ⟨8, 1⟩) (meth := k8m1) (c := k8c1) (by decide +kernel) rfl rfl rfl (by decide +kernel)
set_option maxRecDepth 65536 in
theorem w_c7 : (Jvm.Cond.code ({ cls := "com/example/tightrope/tightrope/logic/Predicate", name := "<init>", desc := "(Ljava/lang/String;I)V" } : Jvm.MethodName) prog_8_method_1_code (3 : Nat) (Option.none : Option Jvm.ClassFile.FieldType)).before args0 about1 = true := code_word (m := ⟨9, 0⟩) (meth := k9m0) (c := k9c0) (by decide +kernel) rfl rfl rfl (by decide +kernel)
set_option maxRecDepth 65536 in
theorem w_c8 : (Jvm.Cond.code ({ cls := "java/util/Objects", name := "requireNonNull", desc := "(Ljava/lang/Object;Ljava/lang/String;)Ljava/lang/Object;" } : Jvm.MethodName) jdk_31_method_11_code (2 : Nat) (Option.some (Jvm.ClassFile.FieldType.object "java/lang/Object"))).before args0 about1 = true := code_word (m := ⟨10, 1⟩) (meth := k10m1) (c := k10c1) (by decide +kernel) rfl rfl rfl (by decide +kernel)
set_option maxRecDepth 65536 in
theorem w_c9 : (Jvm.Cond.code ({ cls := "java/lang/String", name := "isEmpty", desc := "()Z" } : Jvm.MethodName) jdk_42_method_55_code (1 : Nat) (Option.some Jvm.ClassFile.FieldType.boolean)).before args0 about1 = true := code_word (m := ⟨7, 2⟩) (meth := k7m2) (c := k7c2) (by decide +kernel) rfl rfl rfl (by decide +kernel)
set_option maxRecDepth 65536 in
theorem w_c10 : (Jvm.Cond.code ({ cls := "com/example/tightrope/tightrope/logic/Predicate", name := "equals", desc := "(Ljava/lang/Object;)Z" } : Jvm.MethodName) prog_8_method_7_code (3 : Nat) (Option.some Jvm.ClassFile.FieldType.boolean)).before args0 about1 = true := code_word (m := ⟨9, 1⟩) (meth := k9m1) (c := k9c1) (by decide +kernel) rfl rfl rfl (by decide +kernel)
set_option maxRecDepth 65536 in
theorem w_c11 : (Jvm.Cond.code ({ cls := "java/lang/String", name := "equals", desc := "(Ljava/lang/Object;)Z" } : Jvm.MethodName) jdk_42_method_66_code (3 : Nat) (Option.some Jvm.ClassFile.FieldType.boolean)).before args0 about1 = true := code_word (m := ⟨7, 3⟩) (meth := k7m3) (c := k7c3) (by decide +kernel) rfl rfl rfl (by decide +kernel)
set_option maxRecDepth 65536 in
theorem w_c12 : (Jvm.Cond.code ({ cls := "java/lang/StringLatin1", name := "equals", desc := "([B[B)Z" } : Jvm.MethodName) jdk_43_method_13_code (3 : Nat) (Option.some Jvm.ClassFile.FieldType.boolean)).before args0 about1 = true := code_word (m := ⟨11, 1⟩) (meth := k11m1) (c := k11c1) (by decide +kernel) rfl rfl rfl (by decide +kernel)
def codes1 : List Jvm.Cond := [Jvm.Cond.code x code maxLocals ret, Jvm.Cond.code ({ cls := "java/lang/String", name := "<init>", desc := "([C)V" } : Jvm.MethodName) jdk_42_method_3_code (2 : Nat) (Option.none : Option Jvm.ClassFile.FieldType), Jvm.Cond.code ({ cls := "java/lang/String", name := "<init>", desc := "([CIILjava/lang/Void;)V" } : Jvm.MethodName) jdk_42_method_149_code (6 : Nat) (Option.none : Option Jvm.ClassFile.FieldType), Jvm.Cond.code ({ cls := "java/lang/Object", name := "<init>", desc := "()V" } : Jvm.MethodName) object_method_1_code (1 : Nat) (Option.none : Option Jvm.ClassFile.FieldType), Jvm.Cond.code ({ cls := "java/lang/StringUTF16", name := "compress", desc := "([CII)[B" } : Jvm.MethodName) jdk_52_method_16_code (6 : Nat) (Option.some (Jvm.ClassFile.FieldType.array Jvm.ClassFile.FieldType.byte)), Jvm.Cond.code ({ cls := "java/lang/StringUTF16", name := "compress", desc := "([CI[BII)I" } : Jvm.MethodName) jdk_52_method_21_code (7 : Nat) (Option.some Jvm.ClassFile.FieldType.int), Jvm.Cond.code ({ cls := "java/lang/StringUTF16", name := "coderFromArrayLen", desc := "([BI)B" } : Jvm.MethodName) jdk_52_method_15_code (2 : Nat) (Option.some Jvm.ClassFile.FieldType.byte), Jvm.Cond.code ({ cls := "com/example/tightrope/tightrope/logic/Predicate", name := "<init>", desc := "(Ljava/lang/String;I)V" } : Jvm.MethodName) prog_8_method_1_code (3 : Nat) (Option.none : Option Jvm.ClassFile.FieldType), Jvm.Cond.code ({ cls := "java/util/Objects", name := "requireNonNull", desc := "(Ljava/lang/Object;Ljava/lang/String;)Ljava/lang/Object;" } : Jvm.MethodName) jdk_31_method_11_code (2 : Nat) (Option.some (Jvm.ClassFile.FieldType.object "java/lang/Object")), Jvm.Cond.code ({ cls := "java/lang/String", name := "isEmpty", desc := "()Z" } : Jvm.MethodName) jdk_42_method_55_code (1 : Nat) (Option.some Jvm.ClassFile.FieldType.boolean), Jvm.Cond.code ({ cls := "com/example/tightrope/tightrope/logic/Predicate", name := "equals", desc := "(Ljava/lang/Object;)Z" } : Jvm.MethodName) prog_8_method_7_code (3 : Nat) (Option.some Jvm.ClassFile.FieldType.boolean), Jvm.Cond.code ({ cls := "java/lang/String", name := "equals", desc := "(Ljava/lang/Object;)Z" } : Jvm.MethodName) jdk_42_method_66_code (3 : Nat) (Option.some Jvm.ClassFile.FieldType.boolean), Jvm.Cond.code ({ cls := "java/lang/StringLatin1", name := "equals", desc := "([B[B)Z" } : Jvm.MethodName) jdk_43_method_13_code (3 : Nat) (Option.some Jvm.ClassFile.FieldType.boolean)]
set_option maxRecDepth 65536 in
theorem codes_eq : words1.filter isCode = codes1 := rfl
theorem w_codes : ∀ c ∈ words1.filter isCode, c.before args0 about1 = true := by
  rw [codes_eq]
  intro c hc
  simp only [codes1, List.mem_cons, List.not_mem_nil, or_false] at hc
  rcases hc with rfl | rfl | rfl | rfl | rfl | rfl | rfl | rfl | rfl | rfl | rfl | rfl | rfl
  · exact w_c0
  · exact w_c1
  · exact w_c2
  · exact w_c3
  · exact w_c4
  · exact w_c5
  · exact w_c6
  · exact w_c7
  · exact w_c8
  · exact w_c9
  · exact w_c10
  · exact w_c11
  · exact w_c12
set_option maxRecDepth 65536 in
theorem w_t1 : (words1.take 24).all (fun c => isCode c || c.before args0 about1) = true := by decide +kernel
set_option maxRecDepth 65536 in
theorem w_t2 : ((words1.drop 24).take 24).all (fun c => isCode c || c.before args0 about1) = true := by decide +kernel
set_option maxRecDepth 65536 in
theorem w_t3 : (((words1.drop 24).drop 24).take 24).all (fun c => isCode c || c.before args0 about1) = true := by decide +kernel
set_option maxRecDepth 65536 in
theorem w_t4 : (((words1.drop 24).drop 24).drop 24).all (fun c => isCode c || c.before args0 about1) = true := by decide +kernel
theorem w_tables : (allAtoms (Jvm.Cond.code x code maxLocals ret :: tables_1)).before args0 about1 = true := by
  rw [allAtoms_all]
  show words1.all (fun c => c.before args0 about1) = true
  refine all_split ?_ w_codes
  rw [← List.take_append_drop 24 words1, List.all_append, w_t1, ← List.take_append_drop 24 (words1.drop 24), List.all_append, w_t2, ← List.take_append_drop 24 ((words1.drop 24).drop 24), List.all_append, w_t3, w_t4]
  rfl
set_option maxRecDepth 65536 in
theorem w_rest : rest_1_c.before args0 about1 = true := by decide +kernel
set_option maxRecDepth 65536 in
theorem w_case : (Jvm.Cond.and given_1 narrow_1).before args0 about1 = true := by decide +kernel
theorem w_applies : (headSpec (Jvm.Cond.code x code maxLocals ret :: tables_1) room_1).applies x e0.platform about1 = true :=
  (Spec.applies_iff w_frames).mpr ⟨w_running, w_runnable, w_alone, w_named, w_hears, w_ripe, w_room, w_tables⟩
theorem atStart : AtStart classFile x code maxLocals ret World_1 tables_1 room_1 Calls_1 rest_1 Pre_1 launch0 p0 e0 about1 theMethod args0 below0 :=
  ⟨lists_1, trivial, launch0.admits_env _ _ _, launch0.least_env, fairChoices_fair.cas, fairChoices_fair.clock, w_frames, w_args, w_heap, w_applies, trivial, w_rest, w_case⟩
end start1
theorem witness_1 : WitnessClaimed_1 := ⟨start1.p0, start1.e0, start1.about1, start1.theMethod, start1.args0, start1.below0, start1.atStart⟩
end Jvm.Pilot.@@N@@
