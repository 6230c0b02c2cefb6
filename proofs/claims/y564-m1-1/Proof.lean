import JvmDerived
import JvmDerived.Pilot.@@N@@Statement
import JvmDerived.Pilot.@@N@@Code
set_option linter.unusedVariables false
set_option linter.unusedSimpArgs false
@@BLOCK:NumsL.lean.txt@@
namespace Jvm.RoadKit
open Sem ClassFile Op Lib Jvm.Stand Jvm.Free Jvm.LawKit
section Own
variable {p : Program} {l : Launch} {e : Env} {R : Room} {s : State} {m : MethodId} {args : Array Value} {below : List Frame} {meth : Method} {c : Code} {T T' : State} {locs : List Loc} {cells slots : Nat} {K : State → Outcome → Prop} {g g' : JFrame} {A A' : Array Slot} {S : List Value} {q : Nat} {x y : Int32} {v w : Value} {Z : State} {a0 : Array Value} {h : Heap}
theorem own_mask255 (x : Int32) : (x &&& 255).toInt = x.toInt % 256 := Jvm.Kit.i32_mask x 255 (k := 8) (by decide) (by decide)
/-- from T with the frame g the body comes to an end of which K is true -/
def own_G (p : Program) (e : Env) (below : List Frame) (K : State → Outcome → Prop) (T : State) (g : JFrame) : Prop := ∃ s₂ o, Steps p.tables e below (T.setTop g) s₂ ∧ s₂.status = .running ∧ Ended s₂ below o ∧ K s₂ o
def own_E (s : State) (Q : Option Value → Heap → List Loc → Prop) (C N : Nat) (t : State) (o : Outcome) : Prop := ∃ v L, o = .returned v ∧ Q v t.heap L ∧ FrameEnd s o t L C N
theorem own_st (h : ∀ t, Steps p.tables e below (T'.setTop g') t → Steps p.tables e below (T.setTop g) t) (k : own_G p e below K T' g') : own_G p e below K T g := by
  obtain ⟨a, b, c, d⟩ := k; exact ⟨a, b, h _ c, d⟩
theorem own_tr (h : Steps p.tables e below (T.setTop g) (T'.setTop g')) (k : own_G p e below K T' g') : own_G p e below K T g := by
  obtain ⟨a, b, c, d⟩ := k; exact ⟨a, b, h.trans c, d⟩
theorem own_up {C N : Nat} (X : Stand p l e R s m args below meth c T locs cells slots) (h1 : cells ≤ C) (h2 : slots ≤ N) : Stand p l e R s m args below meth c T locs C N := { X with same := X.same.mono h1 h2 }
theorem own_iload (X : Stand p l e R s m args below meth c T locs cells slots) (hx : p.tables.exec = Jvm.exec) {k : Nat} (hd : decode c.code q = .ok (.iload k, 2)) (hl : A[k]? = some (.val (.int x))) (kk : own_G p e below K T (mkF m (q + 2) A (.int x :: S))) : own_G p e below K T (mkF m q A S) := own_st (fun _ z => XS.iload X.here hx rfl hd hl z) kk
theorem own_iloadN (X : Stand p l e R s m args below meth c T locs cells slots) (hx : p.tables.exec = Jvm.exec) {k : Fin 4} (hd : decode c.code q = .ok (.iload_n k, 1)) (hl : A[k.val]? = some (.val (.int x))) (kk : own_G p e below K T (mkF m (q + 1) A (.int x :: S))) : own_G p e below K T (mkF m q A S) := own_st (fun _ z => XS.iloadN X.here hx rfl hd hl z) kk
theorem own_aload (X : Stand p l e R s m args below meth c T locs cells slots) (hx : p.tables.exec = Jvm.exec) {k : Nat} (hd : decode c.code q = .ok (.aload k, 2)) (hl : A[k]? = some (.val v)) (hv : v.isRef = true) (kk : own_G p e below K T (mkF m (q + 2) A (v :: S))) : own_G p e below K T (mkF m q A S) := own_st (fun _ z => XS.aload X.here hx rfl hd hl hv z) kk
theorem own_aloadN (X : Stand p l e R s m args below meth c T locs cells slots) (hx : p.tables.exec = Jvm.exec) {k : Fin 4} (hd : decode c.code q = .ok (.aload_n k, 1)) (hl : A[k.val]? = some (.val v)) (hv : v.isRef = true) (kk : own_G p e below K T (mkF m (q + 1) A (v :: S))) : own_G p e below K T (mkF m q A S) := own_st (fun _ z => XS.aloadN X.here hx rfl hd hl hv z) kk
theorem own_istore (X : Stand p l e R s m args below meth c T locs cells slots) (hx : p.tables.exec = Jvm.exec) {k : Nat} (hd : decode c.code q = .ok (.istore k, 2)) (hl : storeLocals A k (.int x) = some A') (kk : own_G p e below K T (mkF m (q + 2) A' S)) : own_G p e below K T (mkF m q A (.int x :: S)) := own_st (fun _ z => XS.istore X.here hx rfl hd rfl hl z) kk
theorem own_istoreN (X : Stand p l e R s m args below meth c T locs cells slots) (hx : p.tables.exec = Jvm.exec) {k : Fin 4} (hd : decode c.code q = .ok (.istore_n k, 1)) (hl : storeLocals A k.val (.int x) = some A') (kk : own_G p e below K T (mkF m (q + 1) A' S)) : own_G p e below K T (mkF m q A (.int x :: S)) := own_st (fun _ z => XS.istoreN X.here hx rfl hd rfl hl z) kk
theorem own_astore (X : Stand p l e R s m args below meth c T locs cells slots) (hx : p.tables.exec = Jvm.exec) {k : Nat} (hd : decode c.code q = .ok (.astore k, 2)) (hv : v.isRef = true) (hl : storeLocals A k v = some A') (kk : own_G p e below K T (mkF m (q + 2) A' S)) : own_G p e below K T (mkF m q A (v :: S)) := own_st (fun _ z => XS.astore X.here hx rfl hd rfl hv hl z) kk
theorem own_astoreN (X : Stand p l e R s m args below meth c T locs cells slots) (hx : p.tables.exec = Jvm.exec) {k : Fin 4} (hd : decode c.code q = .ok (.astore_n k, 1)) (hv : v.isRef = true) (hl : storeLocals A k.val v = some A') (kk : own_G p e below K T (mkF m (q + 1) A' S)) : own_G p e below K T (mkF m q A (v :: S)) := own_st (fun _ z => XS.astoreN X.here hx rfl hd rfl hv hl z) kk
theorem own_iconst (X : Stand p l e R s m args below meth c T locs cells slots) (hx : p.tables.exec = Jvm.exec) {i : Int} (hd : decode c.code q = .ok (.iconst i, 1)) (hv : Int32.ofInt i = x) (kk : own_G p e below K T (mkF m (q + 1) A (.int x :: S))) : own_G p e below K T (mkF m q A S) := own_st (fun _ z => XS.iconst X.here hx rfl hd z) (hv ▸ kk)
theorem own_bipush (X : Stand p l e R s m args below meth c T locs cells slots) (hx : p.tables.exec = Jvm.exec) {i : Int} (hd : decode c.code q = .ok (.bipush i, 2)) (hv : (Int8.ofInt i).toInt32 = x) (kk : own_G p e below K T (mkF m (q + 2) A (.int x :: S))) : own_G p e below K T (mkF m q A S) := own_st (fun _ z => XS.bipush X.here hx rfl hd z) (hv ▸ kk)
theorem own_sipush (X : Stand p l e R s m args below meth c T locs cells slots) (hx : p.tables.exec = Jvm.exec) {i : Int} (hd : decode c.code q = .ok (.sipush i, 3)) (hv : (Int16.ofInt i).toInt32 = x) (kk : own_G p e below K T (mkF m (q + 3) A (.int x :: S))) : own_G p e below K T (mkF m q A S) := own_st (fun _ z => XS.sipush X.here hx rfl hd z) (hv ▸ kk)
theorem own_anull (X : Stand p l e R s m args below meth c T locs cells slots) (hx : p.tables.exec = Jvm.exec) (hd : decode c.code q = .ok (.aconst_null, 1)) (kk : own_G p e below K T (mkF m (q + 1) A (.null :: S))) : own_G p e below K T (mkF m q A S) := own_st (fun _ z => XS.aconstNull X.here hx rfl hd z) kk
theorem own_iadd (X : Stand p l e R s m args below meth c T locs cells slots) (hx : p.tables.exec = Jvm.exec) (hd : decode c.code q = .ok (.iadd, 1)) (kk : own_G p e below K T (mkF m (q + 1) A (.int (x + y) :: S))) : own_G p e below K T (mkF m q A (.int y :: .int x :: S)) := own_st (fun _ z => XS.iadd X.here hx rfl hd rfl z) kk
theorem own_isub (X : Stand p l e R s m args below meth c T locs cells slots) (hx : p.tables.exec = Jvm.exec) (hd : decode c.code q = .ok (.isub, 1)) (kk : own_G p e below K T (mkF m (q + 1) A (.int (x - y) :: S))) : own_G p e below K T (mkF m q A (.int y :: .int x :: S)) := own_st (fun _ z => XS.isub X.here hx rfl hd rfl z) kk
theorem own_imul (X : Stand p l e R s m args below meth c T locs cells slots) (hx : p.tables.exec = Jvm.exec) (hd : decode c.code q = .ok (.imul, 1)) (kk : own_G p e below K T (mkF m (q + 1) A (.int (x * y) :: S))) : own_G p e below K T (mkF m q A (.int y :: .int x :: S)) := own_st (fun _ z => XS.imul X.here hx rfl hd rfl z) kk
theorem own_iand (X : Stand p l e R s m args below meth c T locs cells slots) (hx : p.tables.exec = Jvm.exec) (hd : decode c.code q = .ok (.iand, 1)) (kk : own_G p e below K T (mkF m (q + 1) A (.int (x &&& y) :: S))) : own_G p e below K T (mkF m q A (.int y :: .int x :: S)) := own_st (fun _ z => XS.iand X.here hx rfl hd rfl z) kk
theorem own_ior (X : Stand p l e R s m args below meth c T locs cells slots) (hx : p.tables.exec = Jvm.exec) (hd : decode c.code q = .ok (.ior, 1)) (kk : own_G p e below K T (mkF m (q + 1) A (.int (x ||| y) :: S))) : own_G p e below K T (mkF m q A (.int y :: .int x :: S)) := own_st (fun _ z => XT.ior X.here hx rfl hd rfl z) kk
theorem own_ixor (X : Stand p l e R s m args below meth c T locs cells slots) (hx : p.tables.exec = Jvm.exec) (hd : decode c.code q = .ok (.ixor, 1)) (kk : own_G p e below K T (mkF m (q + 1) A (.int (x ^^^ y) :: S))) : own_G p e below K T (mkF m q A (.int y :: .int x :: S)) := own_st (fun _ z => XT.ixor X.here hx rfl hd rfl z) kk
theorem own_irem (X : Stand p l e R s m args below meth c T locs cells slots) (hx : p.tables.exec = Jvm.exec) (hd : decode c.code q = .ok (.irem, 1)) (hy : y ≠ 0) (kk : own_G p e below K T (mkF m (q + 1) A (.int (x % y) :: S))) : own_G p e below K T (mkF m q A (.int y :: .int x :: S)) := own_st (fun _ z => iremM (g := mkF m q A (.int y :: .int x :: S)) X hx rfl hd rfl hy z) kk
theorem own_iushr (X : Stand p l e R s m args below meth c T locs cells slots) (hx : p.tables.exec = Jvm.exec) (hd : decode c.code q = .ok (.iushr, 1)) (kk : own_G p e below K T (mkF m (q + 1) A (.int (XT.ushr x y) :: S))) : own_G p e below K T (mkF m q A (.int y :: .int x :: S)) := own_st (fun _ z => XT.iushr X.here hx rfl hd rfl z) kk
theorem own_ishl (X : Stand p l e R s m args below meth c T locs cells slots) (hx : p.tables.exec = Jvm.exec) (hd : decode c.code q = .ok (.ishl, 1)) (kk : own_G p e below K T (mkF m (q + 1) A (.int (x <<< (y &&& 31)) :: S))) : own_G p e below K T (mkF m q A (.int y :: .int x :: S)) := own_st (fun _ z => XT.ishl X.here hx rfl hd rfl z) kk
theorem own_ishr (X : Stand p l e R s m args below meth c T locs cells slots) (hx : p.tables.exec = Jvm.exec) (hd : decode c.code q = .ok (.ishr, 1)) (kk : own_G p e below K T (mkF m (q + 1) A (.int (x >>> (y &&& 31)) :: S))) : own_G p e below K T (mkF m q A (.int y :: .int x :: S)) := own_st (fun _ z => XT.ishr X.here hx rfl hd rfl z) kk
theorem own_i2b (X : Stand p l e R s m args below meth c T locs cells slots) (hx : p.tables.exec = Jvm.exec) (hd : decode c.code q = .ok (.i2b, 1)) (kk : own_G p e below K T (mkF m (q + 1) A (.int x.toInt8.toInt32 :: S))) : own_G p e below K T (mkF m q A (.int x :: S)) := own_st (fun _ z => XT.i2b X.here hx rfl hd rfl z) kk
theorem own_i2c (X : Stand p l e R s m args below meth c T locs cells slots) (hx : p.tables.exec = Jvm.exec) (hd : decode c.code q = .ok (.i2c, 1)) (kk : own_G p e below K T (mkF m (q + 1) A (.int x.toUInt32.toUInt16.toUInt32.toInt32 :: S))) : own_G p e below K T (mkF m q A (.int x :: S)) := own_st (fun _ z => XT.i2c X.here hx rfl hd rfl z) kk
theorem own_iinc (X : Stand p l e R s m args below meth c T locs cells slots) (hx : p.tables.exec = Jvm.exec) {k : Nat} {cst : Int} (hd : decode c.code q = .ok (.iinc k cst, 3)) (hv : Int32.ofInt cst = y) (hl : A[k]? = some (.val (.int x))) (hs : storeLocals A k (.int (x + y)) = some A') (kk : own_G p e below K T (mkF m (q + 3) A' S)) : own_G p e below K T (mkF m q A S) := own_st (fun _ z => XS.iinc X.here hx rfl hd hl (hv ▸ hs) z) kk
theorem own_dup (X : Stand p l e R s m args below meth c T locs cells slots) (hx : p.tables.exec = Jvm.exec) (hd : decode c.code q = .ok (.dup, 1)) (hc : v.category = 1) (kk : own_G p e below K T (mkF m (q + 1) A (v :: v :: S))) : own_G p e below K T (mkF m q A (v :: S)) := own_st (fun _ z => XS.dup X.here hx rfl hd rfl hc z) kk
theorem own_dupX1 (X : Stand p l e R s m args below meth c T locs cells slots) (hx : p.tables.exec = Jvm.exec) (hd : decode c.code q = .ok (.dup_x1, 1)) (hc : v.category = 1) (hc' : w.category = 1) (kk : own_G p e below K T (mkF m (q + 1) A (v :: w :: v :: S))) : own_G p e below K T (mkF m q A (v :: w :: S)) := own_st (fun _ z => XT.dupX1 X.here hx rfl hd rfl hc hc' z) kk
theorem own_dup2 (X : Stand p l e R s m args below meth c T locs cells slots) (hx : p.tables.exec = Jvm.exec) (hd : decode c.code q = .ok (.dup2, 1)) (hc : v.category = 1) (hc' : w.category = 1) (kk : own_G p e below K T (mkF m (q + 1) A (v :: w :: v :: w :: S))) : own_G p e below K T (mkF m q A (v :: w :: S)) := own_st (fun _ z => XT.dup2 X.here hx rfl hd rfl hc hc' z) kk
theorem own_pop (X : Stand p l e R s m args below meth c T locs cells slots) (hx : p.tables.exec = Jvm.exec) (hd : decode c.code q = .ok (.pop, 1)) (hc : v.category = 1) (kk : own_G p e below K T (mkF m (q + 1) A S)) : own_G p e below K T (mkF m q A (v :: S)) := own_st (fun _ z => XT.pop X.here hx rfl hd rfl hc z) kk
theorem own_goto (X : Stand p l e R s m args below meth c T locs cells slots) (hx : p.tables.exec = Jvm.exec) {o : Int} {t : Nat} (hd : decode c.code q = .ok (.goto o, 3)) (ho : 0 ≤ (q : Int) + o) (ht : ((q : Int) + o).toNat = t) (kk : own_G p e below K T (mkF m t A S)) : own_G p e below K T (mkF m q A S) := own_st (fun _ z => XS.goto X.here hx rfl (pc0 := q) rfl hd ho ht z) kk
theorem own_if (X : Stand p l e R s m args below meth c T locs cells slots) (hx : p.tables.exec = Jvm.exec) {cd : ClassFile.Cond} {o : Int} {t : Nat} (hd : decode c.code q = .ok (.ifCond cd o, 3)) (ho : 0 ≤ (q : Int) + o) (ht : ((q : Int) + o).toNat = t) (kT : ifCond.holds cd x = true → own_G p e below K T (mkF m t A S)) (kF : ifCond.holds cd x = false → own_G p e below K T (mkF m (q + 3) A S)) : own_G p e below K T (mkF m q A (.int x :: S)) := by
  cases hc : ifCond.holds cd x with
  | true => exact own_st (fun _ z => XS.ifYes X.here hx rfl (pc0 := q) rfl hd rfl hc ho ht z) (kT hc)
  | false => exact own_st (fun _ z => XS.ifNo X.here hx rfl hd rfl hc z) (kF hc)
theorem own_icmp (X : Stand p l e R s m args below meth c T locs cells slots) (hx : p.tables.exec = Jvm.exec) {cd : ClassFile.Cond} {o : Int} {t : Nat} (hd : decode c.code q = .ok (.if_icmp cd o, 3)) (ho : 0 ≤ (q : Int) + o) (ht : ((q : Int) + o).toNat = t) (kT : if_icmp.holds cd x y = true → own_G p e below K T (mkF m t A S)) (kF : if_icmp.holds cd x y = false → own_G p e below K T (mkF m (q + 3) A S)) : own_G p e below K T (mkF m q A (.int y :: .int x :: S)) := by
  cases hc : if_icmp.holds cd x y with
  | true => exact own_st (fun _ z => XS.icmpYes X.here hx rfl (pc0 := q) rfl hd rfl hc ho ht z) (kT hc)
  | false => exact own_st (fun _ z => XS.icmpNo X.here hx rfl hd rfl hc z) (kF hc)
theorem own_h_eq : (ifCond.holds .eq x = true → x = 0) ∧ (ifCond.holds .eq x = false → ¬ x = 0) := by simp [ifCond.holds]
theorem own_h_ne : (ifCond.holds .ne x = true → ¬ x = 0) ∧ (ifCond.holds .ne x = false → x = 0) := by simp [ifCond.holds]
theorem own_h_lt : (ifCond.holds .lt x = true → x < 0) ∧ (ifCond.holds .lt x = false → ¬ x < 0) := by simp [ifCond.holds]
theorem own_h_ge : (ifCond.holds .ge x = true → ¬ x < 0) ∧ (ifCond.holds .ge x = false → x < 0) := by simp [ifCond.holds, ← Int32.not_lt]
theorem own_h_gt : (ifCond.holds .gt x = true → 0 < x) ∧ (ifCond.holds .gt x = false → ¬ 0 < x) := by simp [ifCond.holds]
theorem own_h_le : (ifCond.holds .le x = true → ¬ 0 < x) ∧ (ifCond.holds .le x = false → 0 < x) := by simp [ifCond.holds, ← Int32.not_lt]
theorem own_c_eq : (if_icmp.holds .eq x y = true → x = y) ∧ (if_icmp.holds .eq x y = false → ¬ x = y) := by simp [if_icmp.holds]
theorem own_c_ne : (if_icmp.holds .ne x y = true → ¬ x = y) ∧ (if_icmp.holds .ne x y = false → x = y) := by simp [if_icmp.holds]
theorem own_c_lt : (if_icmp.holds .lt x y = true → x < y) ∧ (if_icmp.holds .lt x y = false → ¬ x < y) := by simp [if_icmp.holds]
theorem own_c_ge : (if_icmp.holds .ge x y = true → ¬ x < y) ∧ (if_icmp.holds .ge x y = false → x < y) := by simp [if_icmp.holds, ← Int32.not_lt]
theorem own_c_gt : (if_icmp.holds .gt x y = true → y < x) ∧ (if_icmp.holds .gt x y = false → ¬ y < x) := by simp [if_icmp.holds]
theorem own_c_le : (if_icmp.holds .le x y = true → ¬ y < x) ∧ (if_icmp.holds .le x y = false → y < x) := by simp [if_icmp.holds, ← Int32.not_lt]
theorem own_acmp (X : Stand p l e R s m args below meth c T locs cells slots) (hx : p.tables.exec = Jvm.exec) {cd : ACond} {o : Int} {t : Nat} (h1 : v.isRef = true) (h2 : w.isRef = true) (hd : decode c.code q = .ok (.if_acmp cd o, 3)) (ho : 0 ≤ (q : Int) + o) (ht : ((q : Int) + o).toNat = t) (kY : v = w → own_G p e below K T (mkF m (if acV cd true = true then t else q + 3) A S)) (kN : ¬ v = w → own_G p e below K T (mkF m (if acV cd false = true then t else q + 3) A S)) : own_G p e below K T (mkF m q A (w :: v :: S)) := by
  by_cases hq : v = w
  · exact own_st (fun _ z => acmp (g := mkF m q A (w :: v :: S)) X hx rfl h1 h2 (pc0 := q) rfl hd rfl (decide_eq_true hq) ho (by rw [ht]) z) (kY hq)
  · exact own_st (fun _ z => acmp (g := mkF m q A (w :: v :: S)) X hx rfl h1 h2 (pc0 := q) rfl hd rfl (decide_eq_false hq) ho (by rw [ht]) z) (kN hq)
theorem own_nullY (X : Stand p l e R s m args below meth c T locs cells slots) (hx : p.tables.exec = Jvm.exec) {o : Int} {t : Nat} (hd : decode c.code q = .ok (.ifnull o, 3)) (ho : 0 ≤ (q : Int) + o) (ht : ((q : Int) + o).toNat = t) (kk : own_G p e below K T (mkF m t A S)) : own_G p e below K T (mkF m q A (.null :: S)) := own_st (fun _ z => XS.ifnullYes X.here hx rfl (pc0 := q) rfl hd rfl ho ht z) kk
theorem own_nullN {b : Addr} (X : Stand p l e R s m args below meth c T locs cells slots) (hx : p.tables.exec = Jvm.exec) {o : Int} (hd : decode c.code q = .ok (.ifnull o, 3)) (kk : own_G p e below K T (mkF m (q + 3) A S)) : own_G p e below K T (mkF m q A (.ref b :: S)) := own_st (fun _ z => XS.ifnullNo X.here hx rfl hd rfl z) kk
theorem own_nonnullY {b : Addr} (X : Stand p l e R s m args below meth c T locs cells slots) (hx : p.tables.exec = Jvm.exec) {o : Int} {t : Nat} (hd : decode c.code q = .ok (.ifnonnull o, 3)) (ho : 0 ≤ (q : Int) + o) (ht : ((q : Int) + o).toNat = t) (kk : own_G p e below K T (mkF m t A S)) : own_G p e below K T (mkF m q A (.ref b :: S)) := own_st (fun _ z => XT.ifnonnullYes X.here hx rfl (pc0 := q) rfl hd rfl ho ht z) kk
theorem own_nonnullN (X : Stand p l e R s m args below meth c T locs cells slots) (hx : p.tables.exec = Jvm.exec) {o : Int} (hd : decode c.code q = .ok (.ifnonnull o, 3)) (kk : own_G p e below K T (mkF m (q + 3) A S)) : own_G p e below K T (mkF m q A (.null :: S)) := own_st (fun _ z => XT.ifnonnullNo X.here hx rfl hd rfl z) kk
theorem own_fitR {ty : FieldType} (ht : ty.isReference = true) (hv : v.isRef = true) : fits ty v = true := by
  rcases ref_cases hv with rfl | ⟨a, rfl⟩ <;> cases ty <;> simp_all [fits, FieldType.isReference]
theorem own_chr (x : Int32) : ∃ c : Int32, c = x &&& 255 ∧ (x &&& 255).toUInt32.toUInt16.toUInt32.toInt32 = c ∧ nar .char c = c ∧ ¬ c < 0 ∧ ¬ (255 : Int32) < c := by
  have h1 : (x &&& 255).toInt = x.toInt % 256 := by
    have := Jvm.RoadKit.own_mask255 x
    exact this
  refine ⟨x &&& 255, rfl, i2c_mask x, i2c_mask x, ?_, ?_⟩
  · rw [Int32.lt_iff_toInt_lt, h1]; show ¬ _ < (0 : Int); omega
  · rw [Int32.lt_iff_toInt_lt, h1]; show ¬ (255 : Int) < _; omega
theorem own_join {α : Type} {P : α → Prop} {F : α → JFrame} (X : Stand p l e R s m args below meth c T locs cells slots) (eT : T.heap = h) (kJ : ∀ T', Stand p l e R s m args below meth c T' locs cells slots → T'.heap = h → ∀ a, P a → own_G p e below K T' (F a)) (kB : (∀ T', Stand p l e R s m args below meth c T' locs cells slots → T'.heap = h → ∀ a, P a → own_G p e below K T' (F a)) → own_G p e below K T g) : own_G p e below K T g := kB kJ
theorem own_notInst {C Kn : String} {n : Nat} (w : (Cond.superclass C "java/lang/Object").before a0 Z = true) (w0 : (Cond.noSuperclass "java/lang/Object").before a0 Z = true) (wi : (Cond.instantiable Kn n).before a0 Z = true) (h1 : C ≠ Kn) (h2 : "java/lang/Object" ≠ Kn) : ∃ c t, Z.vm.findClass C = some c ∧ Z.vm.findClass Kn = some t ∧ Z.vm.assignable c t = false := by
  obtain ⟨t, kt, g0, g2, g5, g7, -⟩ := Cond.instantiable_spec wi
  obtain ⟨c, h0⟩ := found_sup w
  obtain ⟨p, k, kp, e1, e2, e3, e4, e5, -, e7⟩ := Cond.superclass_spec h0 w
  obtain ⟨o, ko, o1, o2, o3, -, -⟩ := Cond.noSuperclass_spec w0
  cases o1.symm.trans e1
  have ne := ids_ne h0 g0 h1
  have ne2 := ids_ne o1 g0 h2
  have n3 : ∀ fuel, Z.vm.isSubclassAux fuel c t = false := fun fuel => by
    cases fuel with
    | zero => rfl
    | succ f =>
      cases f with
      | zero => simp [Vm.isSubclassAux, ne, e2, e4]
      | succ f => simp [Vm.isSubclassAux, ne, e2, e4, ne2, o2, o3]
  have g8 : kt.isInterface = false := by
    cases hi : kt.isInterface with
    | false => rfl
    | true => rw [hi] at g7; simp at g7
  refine ⟨c, t, h0, g0, ?_⟩
  show Z.vm.assignableAux (255 + 1) c t = false
  simp [Vm.assignableAux, ne, e2, g2, e5, g5, g8, Vm.isSubclass, n3]
/-! the ends of a body -/
section Ends
variable {Q : Option Value → Heap → List Loc → Prop} {C N : Nat}
theorem own_retN {t : FieldType} (X : Stand p l e R s m args below meth c T locs cells slots) (hx : p.tables.exec = Jvm.exec) (hret : meth.sig.returnType = some t) (hlocks : meth.locks = false) (ht : t = .boolean ∨ t = .byte ∨ t = .char ∨ t = .short) (hd : decode c.code q = .ok (.ireturn, 1)) (hn : nar t x = x) (hc : cells ≤ C) (hs : slots ≤ N) (hQ : Q (some (.int x)) T.heap locs) : own_G p e below (own_E s Q C N) T (mkF m q A (.int x :: S)) := by
  obtain ⟨fs, hr, hrun, hended, hW, hsame⟩ := X.leave (v := some (.int (nar t x))) (fun h => by rw [hret] at h; cases h) hlocks
  refine ⟨_, _, retN X hx hret ht hd hr, hrun, hended, _, _, rfl, ?_, ⟨_, rfl⟩, hW, hsame.mono hc hs⟩
  rw [hn]; exact hQ
theorem own_retI (X : Stand p l e R s m args below meth c T locs cells slots) (hx : p.tables.exec = Jvm.exec) (hret : meth.sig.returnType = some .int) (hlocks : meth.locks = false) (hd : decode c.code q = .ok (.ireturn, 1)) (hc : cells ≤ C) (hs : slots ≤ N) (hQ : Q (some (.int x)) T.heap locs) : own_G p e below (own_E s Q C N) T (mkF m q A (.int x :: S)) := by
  obtain ⟨fs, hr, hrun, hended, hW, hsame⟩ := X.leave (v := some (.int x)) (fun h => by rw [hret] at h; cases h) hlocks
  exact ⟨_, _, retOut X hx hret rfl (Or.inl ⟨rfl, Or.inl rfl, _, rfl⟩) hd hr, hrun, hended, _, _, rfl, hQ, ⟨_, rfl⟩, hW, hsame.mono hc hs⟩
theorem own_retA {t : FieldType} (X : Stand p l e R s m args below meth c T locs cells slots) (hx : p.tables.exec = Jvm.exec) (hret : meth.sig.returnType = some t) (hlocks : meth.locks = false) (ht : t.isReference = true) (hv : v.isRef = true) (hn : narrow t v = v) (hd : decode c.code q = .ok (.areturn, 1)) (hc : cells ≤ C) (hs : slots ≤ N) (hQ : Q (some v) T.heap locs) : own_G p e below (own_E s Q C N) T (mkF m q A (v :: S)) := by
  obtain ⟨fs, hr, hrun, hended, hW, hsame⟩ := X.leave (v := some v) (fun h => by rw [hret] at h; cases h) hlocks
  exact ⟨_, _, retOut X hx hret hn (Or.inr (Or.inr (Or.inr (Or.inr ⟨rfl, ht, hv⟩)))) hd hr, hrun, hended, _, _, rfl, hQ, ⟨_, rfl⟩, hW, hsame.mono hc hs⟩
theorem own_retV (X : Stand p l e R s m args below meth c T locs cells slots) (hx : p.tables.exec = Jvm.exec) (hret : meth.sig.returnType = none) (hlocks : meth.locks = false) (hd : decode c.code q = .ok (.return_, 1)) (hc : cells ≤ C) (hs : slots ≤ N) (hQ : Q none T.heap locs) : own_G p e below (own_E s Q C N) T (mkF m q A []) := by
  obtain ⟨fs, hr, hrun, hended, hW, hsame⟩ := X.leave (v := none) (fun _ => rfl) hlocks
  exact ⟨_, _, X.returnOut hx hret hd hr, hrun, hended, _, _, rfl, hQ, ⟨_, rfl⟩, hW, hsame.mono hc hs⟩
end Ends
/-! calls, by what pays them -/
section Calls
variable {Q : Option Value → Heap → List Loc → Prop} {kc ks W : Nat} {own C : String} {index : Nat} {z y : MethodName} {argsL St : List Value} {b : Addr}
theorem own_static {bytes : ByteArray} {maxL : Nat} {ret : Option FieldType} {y : MethodName} (X : Stand p l e R s m args below meth c T locs cells slots) (hx : p.tables.exec = Jvm.exec) (hZ : Z.Warmed39 s.vm) (hown : s.vm.findClass own = some m.cls) (w1 : (Cond.methodLink own index y).before a0 Z = true) (w2 : (Cond.static y).before a0 Z = true) (w3 : (Cond.initialized y.cls).before a0 Z = true) (w4 : (Cond.code y bytes maxL ret).before a0 Z = true) (hy : y.cls ≠ "java/lang/invoke/MethodHandle" ∧ y.cls ≠ "java/lang/invoke/VarHandle")
    (hK : Back l R p e below s args y 3 W (fun P a => a = argsL.toArray ∧ P.U.heap = h ∧ P.cells + kc ≤ R.cells ∧ P.slots + ks ≤ R.slots) (fun P _ v B => ∃ L, Q v B.U.heap L ∧ B.locs = P.locs ++ L ∧ B.cells = P.cells + kc ∧ B.slots = P.slots + ks))
    (eT : T.heap = h) (hsz : A.size = c.maxLocals) (hlen : ∀ sig, parseMethodDescriptor y.desc = some sig → argsL.length = sig.parameters.length) (hst : St = argsL.reverse ++ S) (hW : (S.map fun v => v.category).sum ≤ W) (hd : decode c.code q = .ok (.invokestatic index, 3)) (hc : cells + kc ≤ R.cells) (hs : slots + ks ≤ R.slots)
    (kk : ∀ T' L v, Stand p l e R s m args below meth c T' (locs ++ L) (cells + kc) (slots + ks) → Q v T'.heap L → own_G p e below K T' (mkF m (q + 3) A (v.toList ++ S))) : own_G p e below K T (mkF m q A St) := by
  subst hst
  obtain ⟨v, _, ⟨T', L', k', n'⟩, -, X', ⟨L, hQ, l1, l2, l3⟩, st⟩ := Jvm.LawKit.callS X hx hown (mvT hZ w1) (mvT hZ w2) (mvT hZ w3) (mvT hZ w4) hy hK (g := mkF m q A (argsL.reverse ++ S)) rfl hsz hlen rfl (by show 2 * 0 + _ ≤ _; omega) hd (fun _ _ => ⟨rfl, eT, hc, hs⟩)
  dsimp only [Pt.U, Pt.locs, Pt.cells, Pt.slots] at X' l1 l2 l3 st hQ
  subst l1 l2 l3
  exact own_st st (kk _ _ _ X' hQ)
theorem own_init {bytes : ByteArray} {maxL : Nat} {y : MethodName} (hy1 : y.name = "<init>") (X : Stand p l e R s m args below meth c T locs cells slots) (hx : p.tables.exec = Jvm.exec) (hZ : Z.Warmed39 s.vm) (hown : s.vm.findClass own = some m.cls) (w1 : (Cond.methodLink own index y).before a0 Z = true) (w2 : (Cond.instanceMethod y).before a0 Z = true) (w4 : (Cond.code y bytes maxL none).before a0 Z = true) (hy : y.cls ≠ "java/lang/invoke/MethodHandle" ∧ y.cls ≠ "java/lang/invoke/VarHandle")
    (hK : Back l R p e below s args y 3 W (fun P a => a = (Value.ref b :: argsL).toArray ∧ P.U.heap = h ∧ P.cells + kc ≤ R.cells ∧ P.slots + ks ≤ R.slots) (fun P _ v B => ∃ L, Q v B.U.heap L ∧ B.locs = P.locs ++ L ∧ B.cells = P.cells + kc ∧ B.slots = P.slots + ks))
    (eT : T.heap = h) (hsz : A.size = c.maxLocals) (hlen : ∀ sig, parseMethodDescriptor y.desc = some sig → argsL.length = sig.parameters.length) (hst : St = argsL.reverse ++ .ref b :: S) (hW : (S.map fun v => v.category).sum ≤ W) (hd : decode c.code q = .ok (.invokespecial index, 3)) (hc : cells + kc ≤ R.cells) (hs : slots + ks ≤ R.slots)
    (kk : ∀ T' L v, Stand p l e R s m args below meth c T' (locs ++ L) (cells + kc) (slots + ks) → Q v T'.heap L → own_G p e below K T' (mkF m (q + 3) A (v.toList ++ S))) : own_G p e below K T (mkF m q A St) := by
  subst hst
  obtain ⟨v, _, ⟨T', L', k', n'⟩, -, X', ⟨L, hQ, l1, l2, l3⟩, st⟩ := X.specialBack hx hy1 hown (mvT hZ w1) (mvT hZ w2) (mvT hZ w4) hy hK (g := mkF m q A (argsL.reverse ++ .ref b :: S)) rfl hsz (Steps.refl _) (a := b) (argsL := argsL) (rest := S) hlen rfl (by show 2 * 0 + _ ≤ _; omega) hd (fun _ _ => ⟨rfl, eT, hc, hs⟩)
  dsimp only [Pt.U, Pt.locs, Pt.cells, Pt.slots] at X' l1 l2 l3 st hQ
  subst l1 l2 l3
  exact own_tr st (kk _ _ _ X' hQ)
theorem own_virtual {y z : MethodName} (X : Stand p l e R s m args below meth c T locs cells slots) (hx : p.tables.exec = Jvm.exec) (hZ : Z.Warmed39 s.vm) (hown : s.vm.findClass own = some m.cls) (w1 : (Cond.methodLink own index y).before a0 Z = true) (w2 : (Cond.declares y).before a0 Z = true) (hnf : NotFace s y) (w3 : (Cond.selects C y z).before a0 Z = true) (w4 : (Cond.instanceMethod z).before a0 Z = true) (hy : y.cls ≠ "java/lang/invoke/MethodHandle" ∧ y.cls ≠ "java/lang/invoke/VarHandle")
    (hK : Back l R p e below s args z 3 W (fun P a => a = (Value.ref b :: argsL).toArray ∧ P.U.heap = h ∧ P.cells + kc ≤ R.cells ∧ P.slots + ks ≤ R.slots) (fun P _ v B => ∃ L, Q v B.U.heap L ∧ B.locs = P.locs ++ L ∧ B.cells = P.cells + kc ∧ B.slots = P.slots + ks))
    (eT : T.heap = h) (E : Exa Z h b C) (hsz : A.size = c.maxLocals) (hlen : ∀ sig, parseMethodDescriptor y.desc = some sig → argsL.length = sig.parameters.length) (hst : St = argsL.reverse ++ .ref b :: S) (hW : (S.map fun v => v.category).sum ≤ W) (hd : decode c.code q = .ok (.invokevirtual index, 3)) (hc : cells + kc ≤ R.cells) (hs : slots + ks ≤ R.slots)
    (kk : ∀ T' L v, Stand p l e R s m args below meth c T' (locs ++ L) (cells + kc) (slots + ks) → Q v T'.heap L → own_G p e below K T' (mkF m (q + 3) A (v.toList ++ S))) : own_G p e below K T (mkF m q A St) := by
  subst hst
  obtain ⟨cq, kq, q1, q2, q3⟩ := isOf hZ eT E
  obtain ⟨v, _, ⟨T', L', k', n'⟩, -, X', ⟨L, hQ, l1, l2, l3⟩, st⟩ := X.virtualBack hx hown (mvT hZ w1) (mvT hZ w2) hnf (mvT hZ w3) (mvT hZ w4) hy hK q1 q3 (g := mkF m q A (argsL.reverse ++ .ref b :: S)) rfl hsz (Steps.refl _) (argsL := argsL) (rest := S) hlen rfl (by show 2 * 0 + _ ≤ _; omega) hd (fun _ _ => ⟨rfl, eT, hc, hs⟩)
  dsimp only [Pt.U, Pt.locs, Pt.cells, Pt.slots] at X' l1 l2 l3 st hQ
  subst l1 l2 l3
  exact own_tr st (kk _ _ _ X' hQ)
end Calls
end Own
end Jvm.RoadKit

/- laws to paste: Road.backV (cut by pick.py; bodies as the Statement names them) -/
namespace Jvm.Pilot.@@N@@
namespace StrChars
open Jvm Sem ClassFile Op Lib Jvm.Stand Jvm.Free.XT Jvm.Free.ALB Jvm.Free.JM Jvm.Free
open Jvm.Lib.Cold (StaticIs)
/-- a char array whose places are chars -/
def Ch (a : Addr) (A : Cell) (U : State) : Prop := Arr .char a A U ∧ Typed .char A
theorem Ch.mv {a : Addr} {A : Cell} {U U' : State} (h : Ch a A U) (hal : U.vm.Alike U'.vm) (hh : U'.heap = U.heap) : Ch a A U' := ⟨h.1.mv hal hh, h.2⟩
theorem Ch.keep {a : Addr} {A : Cell} {U U' : State} (h : Ch a A U) (hal : U.vm.Alike U'.vm) (hk : U'.heap[a]? = some A) : Ch a A U' := ⟨h.1.keep hal hk, h.2⟩
/-- what place i of a char[]'s cell holds -/
def cv (A : Cell) (i : Nat) : Int32 := match A.slots[i]? with | some (.int x) => x | _ => 0
theorem Ch.get {a : Addr} {A : Cell} {U : State} (h : Ch a A U) {i : Nat} (hi : i < A.slots.size) : A.slots[i]? = some (.int (cv A i)) := by
  have e := Array.getElem?_eq_getElem hi
  have f := h.2 i _ e
  unfold cv; rw [e]
  generalize A.slots[i] = v at f
  cases v <;> simp [fits] at f ⊢
/-- the byte that i2b leaves of a char -/
def lo8 (x : Int32) : Int32 := x.toInt8.toInt32
theorem fits_lo8 (y : Int32) : fits .byte (.int (lo8 y)) = true := by
  have h1 := y.toInt8.le_toInt
  have h2 := y.toInt8.toInt_lt
  simp only [lo8, fits, Bool.and_eq_true, decide_eq_true_eq, Int32.le_iff_toInt_le, Int8.toInt_toInt32, show (-128 : Int32).toInt = -128 from by decide, show (127 : Int32).toInt = 127 from by decide]
  omega
/-- A' is A but that each place j of lo .. hi - 1 holds f j -/
def Laid (A A' : Cell) (lo hi : Nat) (f : Nat → Value) : Prop := A'.cls = A.cls ∧ A'.vm = A.vm ∧ A'.slots.size = A.slots.size ∧ ∀ i, A'.slots[i]? = if lo ≤ i ∧ i < hi then some (f i) else A.slots[i]?
theorem Laid.zero (A : Cell) (lo : Nat) (f : Nat → Value) : Laid A A lo (lo + 0) f := ⟨rfl, rfl, rfl, fun i => by rw [if_neg (by omega)]⟩
theorem Laid.step {A Ak : Cell} {lo k : Nat} {f : Nat → Value} {v : Value} (h : Laid A Ak lo k f) (hlo : lo ≤ k) (hk : k < Ak.slots.size) (hv : v = f k) : Laid A (Ak.setSlot k v) lo (k + 1) f := by
  refine ⟨h.1, h.2.1, by simpa [Cell.setSlot] using h.2.2.1, fun i => ?_⟩
  by_cases e : k = i
  · subst e; rw [Cell.slots_setSlot_self v hk, if_pos (by omega), hv]
  · rw [Cell.slots_setSlot_ne v e, h.2.2.2 i]
    by_cases q : lo ≤ i ∧ i < k
    · rw [if_pos q, if_pos (by omega)]
    · rw [if_neg q, if_neg (by omega)]
def U16 : String := "java/lang/StringUTF16"
namespace Cmp5
def yN : MethodName := ⟨"java/lang/StringUTF16", "compress", "([CI[BII)I"⟩
abbrev yB : ByteArray := jdk_52_method_21_code
theorem d0 : decode yB 0 = .ok (.iconst 0, 1) := by decide +kernel
theorem d1 : decode yB 1 = .ok (.istore 5, 2) := by decide +kernel
theorem d3 : decode yB 3 = .ok (.iload 5, 2) := by decide +kernel
theorem d5 : decode yB 5 = .ok (.iload 4, 2) := by decide +kernel
theorem d7 : decode yB 7 = .ok (.if_icmp (.ge) 37, 3) := by decide +kernel
theorem d10 : decode yB 10 = .ok (.aload_n 0, 1) := by decide +kernel
theorem d11 : decode yB 11 = .ok (.iload_n 1, 1) := by decide +kernel
theorem d12 : decode yB 12 = .ok (.caload, 1) := by decide +kernel
theorem d13 : decode yB 13 = .ok (.istore 6, 2) := by decide +kernel
theorem d15 : decode yB 15 = .ok (.iload 6, 2) := by decide +kernel
theorem d17 : decode yB 17 = .ok (.sipush 255, 3) := by decide +kernel
theorem d20 : decode yB 20 = .ok (.if_icmp (.le) 6, 3) := by decide +kernel
theorem d26 : decode yB 26 = .ok (.aload_n 2, 1) := by decide +kernel
theorem d27 : decode yB 27 = .ok (.iload_n 3, 1) := by decide +kernel
theorem d28 : decode yB 28 = .ok (.iload 6, 2) := by decide +kernel
theorem d30 : decode yB 30 = .ok (.i2b, 1) := by decide +kernel
theorem d31 : decode yB 31 = .ok (.bastore, 1) := by decide +kernel
theorem d32 : decode yB 32 = .ok (.iinc 1 1, 3) := by decide +kernel
theorem d35 : decode yB 35 = .ok (.iinc 3 1, 3) := by decide +kernel
theorem d38 : decode yB 38 = .ok (.iinc 5 1, 3) := by decide +kernel
theorem d41 : decode yB 41 = .ok (.goto (-38), 3) := by decide +kernel
theorem d44 : decode yB 44 = .ok (.iload 4, 2) := by decide +kernel
theorem d46 : decode yB 46 = .ok (.ireturn, 1) := by decide +kernel
def site : List Cond := []
def tab : Cond := tabOf yN yB 7 (some .int) site
def P (b : Addr) (A : Cell) (d : Addr) (B : Cell) (o q len : Nat) (args : Array Value) (s : State) : Prop := args = #[.ref b, .int (Int32.ofNat o), .ref d, .int (Int32.ofNat q), .int (Int32.ofNat len)] ∧ Ch b A s ∧ Arr .byte d B s ∧ b ≠ d ∧ o + len ≤ A.slots.size ∧ q + len ≤ B.slots.size ∧ ∀ i, i < len → ¬ 255 < cv A (o + i)
def E (b : Addr) (A : Cell) (d : Addr) (B : Cell) (o q len : Nat) (r : Option Value) (s u : State) : Prop := r = some (.int (Int32.ofNat len)) ∧ ∃ B', Put d B' s u ∧ Laid B B' q (q + len) (fun j => Value.int (lo8 (cv A (o + (j - q)))))
/-- no char of the range above 255: len; the places written hold each char's low byte -/
theorem law (l : Launch) (b : Addr) (A : Cell) (d : Addr) (B : Cell) (o q len : Nat) : Law l yN 5 5 0 0 yB 7 (some .int) site (P b A d B o q len) (E b A d B o q len) (copyLocs d q len) 0 0 := by
  refine Law.of_walk (plainFor_of_name (by decide +kernel)) (by decide +kernel) (by decide +kernel) (by decide) (fun _ _ h => by rw [h.1]; rfl) (fun _ U U' hal hh h => ⟨h.1, h.2.1.mv hal hh, h.2.2.1.mv hal hh, h.2.2.2⟩) (fun r U U' V V' h1 hal h2 h => ⟨h.1, h.2.elim fun B' q => ⟨B', q.1.mv h1 h2, q.2⟩⟩) ?_
  intro p e s m args below meth c s₁ X0 hexec hbytes hml hret hlk hnm hown hh0 W hP
  obtain ⟨rfl, hA, hB, hne, l1, l2, hp⟩ := hP
  have c1 : Steps p.tables e below (s₁.setTop (entryFrame m #[.ref b, .int (Int32.ofNat o), .ref d, .int (Int32.ofNat q), .int (Int32.ofNat len)] 7)) (s₁.setTop (mkF m 0 #[.val (.ref b), .val (.int (Int32.ofNat o)), .val (.ref d), .val (.int (Int32.ofNat q)), .val (.int (Int32.ofNat len)), .unset, .unset] [])) := entry rfl
  have hA0 := hA.1.mv X0.warmed.alike hh0
  have hB0 := hB.mv X0.warmed.alike hh0
  have a31 := hA.1.2.2.2
  have c2 : Steps p.tables e below (s₁.setTop (entryFrame m #[.ref b, .int (Int32.ofNat o), .ref d, .int (Int32.ofNat q), .int (Int32.ofNat len)] 7)) (s₁.setTop (mkF m 3 #[.val (.ref b), .val (.int (Int32.ofNat o)), .val (.ref d), .val (.int (Int32.ofNat q)), .val (.int (Int32.ofNat len)), .val (.int 0), .unset] [])) := c1.trans (by
    refine iconstV X0.here hexec rfl 0 (hb hbytes d0) (by decide) ?_
    refine XS.istore X0.here hexec rfl (hb hbytes d1) rfl rfl ?_
    exact Steps.refl _)
  have loop : ∀ (r i : Nat), i + r = len → ∀ (z : Slot), (z = .unset ∨ ∃ w, z = .val w ∧ w.category = 1) → ∀ (Tl : State) (Bk : Cell), Stand p l e { frames := 0, locals := 0, cells := 0, slots := 0 } s m #[.ref b, .int (Int32.ofNat o), .ref d, .int (Int32.ofNat q), .int (Int32.ofNat len)] below meth c Tl ([] ++ copyLocs d q i) 0 0 → Put d Bk s₁ Tl → Laid B Bk q (q + i) (fun j => Value.int (lo8 (cv A (o + (j - q))))) →
      Steps p.tables e below (s₁.setTop (entryFrame m #[.ref b, .int (Int32.ofNat o), .ref d, .int (Int32.ofNat q), .int (Int32.ofNat len)] 7)) (Tl.setTop (mkF m 3 #[.val (.ref b), .val (.int (Int32.ofNat (o + i))), .val (.ref d), .val (.int (Int32.ofNat (q + i))), .val (.int (Int32.ofNat len)), .val (.int (Int32.ofNat i)), z] [])) → ∃ (T' : State) (B' : Cell) (z' : Slot), Stand p l e { frames := 0, locals := 0, cells := 0, slots := 0 } s m #[.ref b, .int (Int32.ofNat o), .ref d, .int (Int32.ofNat q), .int (Int32.ofNat len)] below meth c T' ([] ++ copyLocs d q len) 0 0 ∧ Put d B' s₁ T' ∧ Laid B B' q (q + len) (fun j => Value.int (lo8 (cv A (o + (j - q))))) ∧
      Steps p.tables e below (s₁.setTop (entryFrame m #[.ref b, .int (Int32.ofNat o), .ref d, .int (Int32.ofNat q), .int (Int32.ofNat len)] 7)) (T'.setTop (mkF m 3 #[.val (.ref b), .val (.int (Int32.ofNat (o + len))), .val (.ref d), .val (.int (Int32.ofNat (q + len))), .val (.int (Int32.ofNat len)), .val (.int (Int32.ofNat len)), z'] [])) := by
    intro r
    induction r with
    | zero =>
      intro i hi z hz Tl Bk Xl pl fl cl
      have hil : i = len := by omega
      rw [hil] at Xl fl cl
      exact ⟨Tl, Bk, z, Xl, pl, fl, cl⟩
    | succ r ih =>
      intro i hi z hz Tl Bk Xl pl fl cl
      have all := X0.warmed.alike.symm.trans Xl.warmed.alike
      have hAl := hA0.keep all (pl.other hne hA0.1)
      have hBk := hB0.like all pl.1 fl.1 fl.2.1 fl.2.2.1
      have hlt : q + i < Bk.slots.size := by rw [fl.2.2.1]; omega
      have c3 : Steps p.tables e below (s₁.setTop (entryFrame m #[.ref b, .int (Int32.ofNat o), .ref d, .int (Int32.ofNat q), .int (Int32.ofNat len)] 7)) (Tl.setTop (mkF m 12 #[.val (.ref b), .val (.int (Int32.ofNat (o + i))), .val (.ref d), .val (.int (Int32.ofNat (q + i))), .val (.int (Int32.ofNat len)), .val (.int (Int32.ofNat i)), z] [.int (Int32.ofNat (o + i)), .ref b])) := cl.trans (by
        refine XS.iload Xl.here hexec rfl (hb hbytes d3) rfl ?_
        refine XS.iload Xl.here hexec rfl (hb hbytes d5) rfl ?_
        refine XS.icmpNo Xl.here hexec rfl (hb hbytes d7) rfl (ii_ge_f (lt32 (by omega) (by omega))) ?_
        refine XS.aloadN Xl.here hexec rfl (hb hbytes d10) rfl rfl ?_
        refine XS.iloadN Xl.here hexec rfl (hb hbytes d11) rfl ?_
        exact Steps.refl _)
      have c4 : Steps p.tables e below (s₁.setTop (entryFrame m #[.ref b, .int (Int32.ofNat o), .ref d, .int (Int32.ofNat q), .int (Int32.ofNat len)] 7)) (Tl.setTop (mkF m 13 #[.val (.ref b), .val (.int (Int32.ofNat (o + i))), .val (.ref d), .val (.int (Int32.ofNat (q + i))), .val (.int (Int32.ofNat len)), .val (.int (Int32.ofNat i)), z] [.int (cv A (o + i))])) := c3.trans (by
        refine Xl.aget hexec hAl rfl (hA.get (i := o + i) (by omega)) rfl rfl (hb hbytes d12) ?_
        exact Steps.refl _)
      have c5 : Steps p.tables e below (s₁.setTop (entryFrame m #[.ref b, .int (Int32.ofNat o), .ref d, .int (Int32.ofNat q), .int (Int32.ofNat len)] 7)) (Tl.setTop (mkF m 15 #[.val (.ref b), .val (.int (Int32.ofNat (o + i))), .val (.ref d), .val (.int (Int32.ofNat (q + i))), .val (.int (Int32.ofNat len)), .val (.int (Int32.ofNat i)), .val (.int (cv A (o + i)))] [])) := c4.trans (by
        refine XS.istoreS Xl.here hexec rfl (hb hbytes d13) rfl rfl hz ?_
        exact Steps.refl _)
      have c6 : Steps p.tables e below (s₁.setTop (entryFrame m #[.ref b, .int (Int32.ofNat o), .ref d, .int (Int32.ofNat q), .int (Int32.ofNat len)] 7)) (Tl.setTop (mkF m 31 #[.val (.ref b), .val (.int (Int32.ofNat (o + i))), .val (.ref d), .val (.int (Int32.ofNat (q + i))), .val (.int (Int32.ofNat len)), .val (.int (Int32.ofNat i)), .val (.int (cv A (o + i)))] [.int (lo8 (cv A (o + i))), .int (Int32.ofNat (q + i)), .ref d])) := c5.trans (by
        refine XS.iload Xl.here hexec rfl (hb hbytes d15) rfl ?_
        refine sipushV Xl.here hexec rfl 255 (hb hbytes d17) (by decide) ?_
        refine XS.icmpYes Xl.here hexec rfl (pc0 := 20) rfl (hb hbytes d20) rfl (ii_le_t (hp i (by omega))) (by decide) rfl ?_
        refine XS.aloadN Xl.here hexec rfl (hb hbytes d26) rfl rfl ?_
        refine XS.iloadN Xl.here hexec rfl (hb hbytes d27) rfl ?_
        refine XS.iload Xl.here hexec rfl (hb hbytes d28) rfl ?_
        refine i2b Xl.here hexec rfl (hb hbytes d30) rfl ?_
        exact Steps.refl _)
      obtain ⟨T7, X7, p7, st7⟩ := Xl.aput hexec hBk rfl hlt rfl (fits_lo8 (cv A (o + i))) (g := (mkF m 31 #[.val (.ref b), .val (.int (Int32.ofNat (o + i))), .val (.ref d), .val (.int (Int32.ofNat (q + i))), .val (.int (Int32.ofNat len)), .val (.int (Int32.ofNat i)), .val (.int (cv A (o + i)))] [.int (lo8 (cv A (o + i))), .int (Int32.ofNat (q + i)), .ref d])) rfl (rest := []) rfl (hb hbytes d31)
      have c8 : Steps p.tables e below (s₁.setTop (entryFrame m #[.ref b, .int (Int32.ofNat o), .ref d, .int (Int32.ofNat q), .int (Int32.ofNat len)] 7)) (T7.setTop (mkF m 32 #[.val (.ref b), .val (.int (Int32.ofNat (o + i))), .val (.ref d), .val (.int (Int32.ofNat (q + i))), .val (.int (Int32.ofNat len)), .val (.int (Int32.ofNat i)), .val (.int (cv A (o + i)))] [])) := c6.trans (st7 _ (Steps.refl _))
      have c9 : Steps p.tables e below (s₁.setTop (entryFrame m #[.ref b, .int (Int32.ofNat o), .ref d, .int (Int32.ofNat q), .int (Int32.ofNat len)] 7)) (T7.setTop (mkF m 3 #[.val (.ref b), .val (.int (Int32.ofNat (o + i) + 1)), .val (.ref d), .val (.int (Int32.ofNat (q + i) + 1)), .val (.int (Int32.ofNat len)), .val (.int (Int32.ofNat i + 1)), .val (.int (cv A (o + i)))] [])) := c8.trans (by
        refine iincV X7.here hexec rfl 1 (hb hbytes d32) (by decide) rfl rfl ?_
        refine iincV X7.here hexec rfl 1 (hb hbytes d35) (by decide) rfl rfl ?_
        refine iincV X7.here hexec rfl 1 (hb hbytes d38) (by decide) rfl rfl ?_
        refine XS.goto X7.here hexec rfl (pc0 := 41) rfl (hb hbytes d41) (by decide) rfl ?_
        exact Steps.refl _)
      have c10 : Steps p.tables e below (s₁.setTop (entryFrame m #[.ref b, .int (Int32.ofNat o), .ref d, .int (Int32.ofNat q), .int (Int32.ofNat len)] 7)) (T7.setTop (mkF m 3 #[.val (.ref b), .val (.int (Int32.ofNat (o + (i + 1)))), .val (.ref d), .val (.int (Int32.ofNat (q + (i + 1)))), .val (.int (Int32.ofNat len)), .val (.int (Int32.ofNat (i + 1))), .val (.int (cv A (o + i)))] [])) := by
        have := c9
        rw [succ32, succ32, succ32] at this
        exact this
      exact ih (i + 1) (by omega) _ (Or.inr ⟨_, rfl, rfl⟩) T7 _ (by rw [copyLocs_step, ← List.append_assoc]; exact X7) (pl.trans p7) (fl.step (by omega) hlt (by simp)) c10
  obtain ⟨T9, B9, z9, X9, p9, f9, g9⟩ := loop len 0 (by omega) .unset (Or.inl rfl) s₁ B (by simpa [copyLocs] using X0) ⟨hB0.1, fun _ _ => rfl, rfl⟩ (Laid.zero _ _ _) c2
  have c11 : Steps p.tables e below (s₁.setTop (entryFrame m #[.ref b, .int (Int32.ofNat o), .ref d, .int (Int32.ofNat q), .int (Int32.ofNat len)] 7)) (T9.setTop (mkF m 46 #[.val (.ref b), .val (.int (Int32.ofNat (o + len))), .val (.ref d), .val (.int (Int32.ofNat (q + len))), .val (.int (Int32.ofNat len)), .val (.int (Int32.ofNat len)), z9] [.int (Int32.ofNat len)])) := g9.trans (by
    refine XS.iload X9.here hexec rfl (hb hbytes d3) rfl ?_
    refine XS.iload X9.here hexec rfl (hb hbytes d5) rfl ?_
    refine XS.icmpYes X9.here hexec rfl (pc0 := 7) rfl (hb hbytes d7) rfl (ii_ge_t (nlt32 (by omega) (Nat.le_refl _))) (by decide) rfl ?_
    refine XS.iload X9.here hexec rfl (hb hbytes d44) rfl ?_
    exact Steps.refl _)
  exact ⟨T9, some (.int (Int32.ofNat len)), _, _, _, X9, by simp, rfl, rfl, (fun h => by cases h), ⟨rfl, B9, p9.from hh0, f9⟩, fun fs hl => c11.trans (X9.ireturnOut hexec hret rfl (Or.inl rfl) (hb hbytes d46) hl)⟩
end Cmp5
namespace Cmp3
def yN : MethodName := ⟨"java/lang/StringUTF16", "compress", "([CII)[B"⟩
abbrev yB : ByteArray := jdk_52_method_16_code
theorem d0 : decode yB 0 = .ok (.iload_n 2, 1) := by decide +kernel
theorem d1 : decode yB 1 = .ok (.newarray .byte, 2) := by decide +kernel
theorem d3 : decode yB 3 = .ok (.astore_n 3, 1) := by decide +kernel
theorem d4 : decode yB 4 = .ok (.aload_n 0, 1) := by decide +kernel
theorem d5 : decode yB 5 = .ok (.iload_n 1, 1) := by decide +kernel
theorem d6 : decode yB 6 = .ok (.aload_n 3, 1) := by decide +kernel
theorem d7 : decode yB 7 = .ok (.iconst 0, 1) := by decide +kernel
theorem d8 : decode yB 8 = .ok (.iload_n 2, 1) := by decide +kernel
theorem d9 : decode yB 9 = .ok (.invokestatic 115, 3) := by decide +kernel
theorem d12 : decode yB 12 = .ok (.istore 4, 2) := by decide +kernel
theorem d14 : decode yB 14 = .ok (.iload 4, 2) := by decide +kernel
theorem d16 : decode yB 16 = .ok (.iload_n 2, 1) := by decide +kernel
theorem d17 : decode yB 17 = .ok (.if_icmp (.eq) 40, 3) := by decide +kernel
theorem d57 : decode yB 57 = .ok (.aload_n 3, 1) := by decide +kernel
theorem d58 : decode yB 58 = .ok (.areturn, 1) := by decide +kernel
def site : List Cond := [.arrayClass .byte, Cmp5.tab] ++ staticW U16 115 Cmp5.yN
def tab : Cond := tabOf yN yB 6 (some (.array .byte)) site
def P (b : Addr) (A : Cell) (o len : Nat) (args : Array Value) (s : State) : Prop := args = #[.ref b, .int (Int32.ofNat o), .int (Int32.ofNat len)] ∧ Ch b A s ∧ o + len ≤ A.slots.size ∧ len ≤ 536870912 ∧ ∀ i, i < len → ¬ 255 < cv A (o + i)
def E (b : Addr) (A : Cell) (o len : Nat) (r : Option Value) (s u : State) : Prop := NewArr .byte "[B" len (fun j => .int (lo8 (cv A (o + j)))) r s u ∧ u.heap.size = s.heap.size + 1
/-- no char of the range above 255: a new byte[] of their low bytes -/
theorem law (l : Launch) (b : Addr) (A : Cell) (o len : Nat) : Law l yN 3 3 1 18 yB 6 (some (.array .byte)) site (P b A o len) (E b A o len) [] 1 len := by
  refine Law.of_walk (plainFor_of_name (by decide +kernel)) (by decide +kernel) (by decide +kernel) (by decide) (fun _ _ h => by rw [h.1]; rfl) (fun _ U U' hal hh h => ⟨h.1, h.2.1.mv hal hh, h.2.2⟩) (fun r U U' V V' h1 hal h2 h => ⟨NewArr.mv r U U' V V' h1 hal h2 h.1, by rw [h1, h2]; exact h.2⟩) ?_
  intro p e s m args below meth c s₁ X0 hexec hbytes hml hret hlk hnm hown hh0 W hP
  obtain ⟨rfl, hA, l1, l2, hp⟩ := hP
  have a31 := hA.1.2.2.2
  have c1 : Steps p.tables e below (s₁.setTop (entryFrame m #[.ref b, .int (Int32.ofNat o), .int (Int32.ofNat len)] 6)) (s₁.setTop (mkF m 0 #[.val (.ref b), .val (.int (Int32.ofNat o)), .val (.int (Int32.ofNat len)), .unset, .unset, .unset] [])) := entry rfl
  have c2 : Steps p.tables e below (s₁.setTop (entryFrame m #[.ref b, .int (Int32.ofNat o), .int (Int32.ofNat len)] 6)) (s₁.setTop (mkF m 1 #[.val (.ref b), .val (.int (Int32.ofNat o)), .val (.int (Int32.ofNat len)), .unset, .unset, .unset] [.int (Int32.ofNat len)])) := c1.trans (by
    refine XS.iloadN X0.here hexec rfl (hb hbytes d0) rfl ?_
    exact Steps.refl _)
  obtain ⟨T3, B3, X3, ba3, bs3, bv3, bh3, bf3, st3⟩ := X0.anew hexec (atype := .byte) (wk W (.arrayClass .byte)) rfl (by show len * 1 ≤ _; omega) (by omega) (g := (mkF m 1 #[.val (.ref b), .val (.int (Int32.ofNat o)), .val (.int (Int32.ofNat len)), .unset, .unset, .unset] [.int (Int32.ofNat len)])) rfl (hb hbytes d1) (rest := []) rfl (Nat.le_refl _) (by show 0 + len ≤ len; omega)
  rw [hh0] at ba3 st3
  have kp3 : XT.Kept s T3 := (XT.Kept.of_eq hh0).push bh3
  have hA3 := hA.keep X3.warmed.alike (kp3 _ _ hA.1.1)
  have hne : b ≠ s.heap.size := hA.1.ne
  have c4 : Steps p.tables e below (s₁.setTop (entryFrame m #[.ref b, .int (Int32.ofNat o), .int (Int32.ofNat len)] 6)) (T3.setTop (mkF m 3 #[.val (.ref b), .val (.int (Int32.ofNat o)), .val (.int (Int32.ofNat len)), .unset, .unset, .unset] [.ref s.heap.size])) := c2.trans (st3 _ (Steps.refl _))
  have c5 : Steps p.tables e below (s₁.setTop (entryFrame m #[.ref b, .int (Int32.ofNat o), .int (Int32.ofNat len)] 6)) (T3.setTop (mkF m 9 #[.val (.ref b), .val (.int (Int32.ofNat o)), .val (.int (Int32.ofNat len)), .val (.ref s.heap.size), .unset, .unset] [.int (Int32.ofNat len), .int 0, .ref s.heap.size, .int (Int32.ofNat o), .ref b])) := c4.trans (by
    refine XS.astoreN X3.here hexec rfl (hb hbytes d3) rfl rfl rfl ?_
    refine XS.aloadN X3.here hexec rfl (hb hbytes d4) rfl rfl ?_
    refine XS.iloadN X3.here hexec rfl (hb hbytes d5) rfl ?_
    refine XS.aloadN X3.here hexec rfl (hb hbytes d6) rfl rfl ?_
    refine iconstV X3.here hexec rfl 0 (hb hbytes d7) (by decide) ?_
    refine XS.iloadN X3.here hexec rfl (hb hbytes d8) rfl ?_
    exact Steps.refl _)
  obtain ⟨v6, T6, X6, E6, g6⟩ := X3.callS hexec (Cmp5.law l b A s.heap.size B3 o 0 len) hown (wks W (staticW U16 115 Cmp5.yN)) (wk W Cmp5.tab) (W := 0) (Nat.le_of_ble_eq_true rfl) (Nat.le_of_ble_eq_true rfl) (Nat.le_refl _) (by show 0 + len + 0 ≤ len; omega) (g := (mkF m 9 #[.val (.ref b), .val (.int (Int32.ofNat o)), .val (.int (Int32.ofNat len)), .val (.ref s.heap.size), .unset, .unset] [.int (Int32.ofNat len), .int (Int32.ofNat 0), .ref s.heap.size, .int (Int32.ofNat o), .ref b])) rfl (by rw [hml]; rfl) c5 (argsL := [.ref b, .int (Int32.ofNat o), .ref s.heap.size, .int (Int32.ofNat 0), .int (Int32.ofNat len)]) (rest := []) rfl rfl (by show 2 * 0 + 0 ≤ _; decide) (hb hbytes d9) (⟨rfl, hA3, ba3, hne, l1, by rw [bs3]; simp, hp⟩)
  obtain ⟨rfl, B6, p6, f6⟩ := E6
  have c7 : Steps p.tables e below (s₁.setTop (entryFrame m #[.ref b, .int (Int32.ofNat o), .int (Int32.ofNat len)] 6)) (T6.setTop (mkF m 12 #[.val (.ref b), .val (.int (Int32.ofNat o)), .val (.int (Int32.ofNat len)), .val (.ref s.heap.size), .unset, .unset] [.int (Int32.ofNat len)])) := g6
  have c8 : Steps p.tables e below (s₁.setTop (entryFrame m #[.ref b, .int (Int32.ofNat o), .int (Int32.ofNat len)] 6)) (T6.setTop (mkF m 58 #[.val (.ref b), .val (.int (Int32.ofNat o)), .val (.int (Int32.ofNat len)), .val (.ref s.heap.size), .val (.int (Int32.ofNat len)), .unset] [.ref s.heap.size])) := c7.trans (by
    refine XS.istore X6.here hexec rfl (hb hbytes d12) rfl rfl ?_
    refine XS.iload X6.here hexec rfl (hb hbytes d14) rfl ?_
    refine XS.iloadN X6.here hexec rfl (hb hbytes d16) rfl ?_
    refine XS.icmpYes X6.here hexec rfl (pc0 := 17) rfl (hb hbytes d17) rfl (ii_eq_t rfl) (by decide) rfl ?_
    refine XS.aloadN X6.here hexec rfl (hb hbytes d57) rfl rfl ?_
    exact Steps.refl _)
  have X8 := X6.wide (L' := []) (cells' := 1) (slots' := len) (fun x hx hlt => by
    simp only [List.nil_append, copyLocs, List.mem_map, List.mem_range] at hx
    obtain ⟨i, -, rfl⟩ := hx
    exact absurd hlt (Nat.lt_irrefl _)) (Nat.le_refl _) (by omega)
  exact ⟨T6, some (.ref s.heap.size), _, _, _, X8, rfl, rfl, rfl, (fun h => by cases h), ⟨⟨rfl, B6, ba3.like (X3.warmed.alike.symm.trans X6.warmed.alike) p6.1 f6.1 f6.2.1 f6.2.2.1, f6.2.1.trans bv3, by rw [X6.warmed.alike.findClass, f6.1]; exact bf3, by rw [f6.2.2.1, bs3]; simp, fun j hj => by rw [f6.2.2.2 j, if_pos (by omega)]; rfl, kp3.put p6 (Nat.le_refl _)⟩, by rw [p6.2.2, bh3, hh0]; simp⟩, fun fs hl => c8.trans (X8.areturnOut hexec rfl hret rfl (hb hbytes d58) hl)⟩
end Cmp3
namespace CodL
def yN : MethodName := ⟨"java/lang/StringUTF16", "coderFromArrayLen", "([BI)B"⟩
abbrev yB : ByteArray := jdk_52_method_15_code
theorem d0 : decode yB 0 = .ok (.iload_n 1, 1) := by decide +kernel
theorem d1 : decode yB 1 = .ok (.aload_n 0, 1) := by decide +kernel
theorem d2 : decode yB 2 = .ok (.arraylength, 1) := by decide +kernel
theorem d3 : decode yB 3 = .ok (.isub, 1) := by decide +kernel
theorem d4 : decode yB 4 = .ok (.bipush 31, 2) := by decide +kernel
theorem d6 : decode yB 6 = .ok (.iushr, 1) := by decide +kernel
theorem d7 : decode yB 7 = .ok (.i2b, 1) := by decide +kernel
theorem d8 : decode yB 8 = .ok (.ireturn, 1) := by decide +kernel
def site : List Cond := []
def tab : Cond := tabOf yN yB 2 (some .byte) site
def P (d : Addr) (B : Cell) (args : Array Value) (s : State) : Prop := args = #[.ref d, .int (Int32.ofNat B.slots.size)] ∧ Arr .byte d B s
def E (r : Option Value) (s u : State) : Prop := XT.PureE (some (.int 0)) r s u
/-- an array as long as the number of chars: LATIN1 -/
theorem law (l : Launch) (d : Addr) (B : Cell) : Law l yN 2 2 0 0 yB 2 (some .byte) site (P d B) E [] 0 0 := by
  refine Law.of_walk (plainFor_of_name (by decide +kernel)) (by decide +kernel) (by decide +kernel) (by decide) (fun _ _ h => by rw [h.1]; rfl) (fun _ U U' hal hh h => ⟨h.1, h.2.mv hal hh⟩) (fun r U U' V V' h1 hal h2 h => XT.PureE.mv r U U' V V' h1 hal h2 h) ?_
  intro p e s m args below meth c s₁ X0 hexec hbytes hml hret hlk hnm hown hh0 W hP
  obtain ⟨rfl, hB⟩ := hP
  have hB0 := hB.mv X0.warmed.alike hh0
  have c1 : Steps p.tables e below (s₁.setTop (entryFrame m #[.ref d, .int (Int32.ofNat B.slots.size)] 2)) (s₁.setTop (mkF m 0 #[.val (.ref d), .val (.int (Int32.ofNat B.slots.size))] [])) := entry rfl
  have c2 : Steps p.tables e below (s₁.setTop (entryFrame m #[.ref d, .int (Int32.ofNat B.slots.size)] 2)) (s₁.setTop (mkF m 2 #[.val (.ref d), .val (.int (Int32.ofNat B.slots.size))] [.ref d, .int (Int32.ofNat B.slots.size)])) := c1.trans (by
    refine XS.iloadN X0.here hexec rfl (hb hbytes d0) rfl ?_
    refine XS.aloadN X0.here hexec rfl (hb hbytes d1) rfl rfl ?_
    exact Steps.refl _)
  have c3 : Steps p.tables e below (s₁.setTop (entryFrame m #[.ref d, .int (Int32.ofNat B.slots.size)] 2)) (s₁.setTop (mkF m 8 #[.val (.ref d), .val (.int (Int32.ofNat B.slots.size))] [.int (lo8 (ushr (Int32.ofNat B.slots.size - Int32.ofNat B.slots.size) 31))])) := c2.trans (by
    refine X0.alen hexec hB0 rfl rfl (hb hbytes d2) ?_
    refine XS.isub X0.here hexec rfl (hb hbytes d3) rfl ?_
    refine bipushV X0.here hexec rfl 31 (hb hbytes d4) (by decide) ?_
    refine iushr X0.here hexec rfl (hb hbytes d6) rfl ?_
    refine i2b X0.here hexec rfl (hb hbytes d7) rfl ?_
    exact Steps.refl _)
  have e0 : lo8 (ushr (Int32.ofNat B.slots.size - Int32.ofNat B.slots.size) 31) = 0 := by rw [Int32.sub_self]; decide
  rw [e0] at c3
  exact ⟨s₁, some (.int 0), _, _, _, X0, rfl, rfl, rfl, (fun h => by cases h), ⟨rfl, hh0⟩, fun fs hl => c3.trans (X0.ireturnOut hexec hret rfl (Or.inr (Or.inr (Or.inl rfl))) (hb hbytes d8) hl)⟩
end CodL
/-- the String at a is Latin-1 over a new byte[] (the heap's one new cell): the low bytes of the len chars of A from o on; every cell but a is kept -/
def Got (a : Addr) (D : Cell) (fV fC : Field) (A : Cell) (o len : Nat) (r : Option Value) (s u : State) : Prop := r = none ∧ ∃ D' V : Cell, Blank "java/lang/String" a D' u ∧ Same D D' [fV.slot, fC.slot] ∧ D'.slots[fV.slot]? = some (.ref s.heap.size) ∧ D'.slots[fC.slot]? = some (.int 0) ∧ Arr .byte s.heap.size V u ∧ V.vm = .none ∧ u.vm.findClass "[B" = some V.cls ∧ V.slots.size = len ∧ (∀ j, j < len → V.slots[j]? = some (.int (lo8 (cv A (o + j))))) ∧ (∀ (y : Addr) (c : Cell), y ≠ a → s.heap[y]? = some c → u.heap[y]? = some c) ∧ u.heap.size = s.heap.size + 1
theorem Got.mv {a : Addr} {D A : Cell} {fV fC : Field} {o len : Nat} : ∀ r (U U' V V' : State), U'.heap = U.heap → V.vm.Alike V'.vm → V'.heap = V.heap → Got a D fV fC A o len r U V → Got a D fV fC A o len r U' V' :=
  fun r U U' V V' h1 hal h2 ⟨e0, D', X, a1, a2, a3, a4, a5, a6, a7, a8, a9, a10, a11⟩ => ⟨e0, D', X, a1.mv hal h2, a2, by rw [h1]; exact a3, a4, by rw [h1]; exact a5.mv hal h2, a6, by rw [hal.findClass]; exact a7, a8, a9, by rw [h1, h2]; exact a10, by rw [h1, h2]; exact a11⟩
namespace New4
def yN : MethodName := ⟨"java/lang/String", "<init>", "([CIILjava/lang/Void;)V"⟩
abbrev yB : ByteArray := jdk_42_method_149_code
theorem d0 : decode yB 0 = .ok (.aload_n 0, 1) := by decide +kernel
theorem d1 : decode yB 1 = .ok (.invokespecial 1, 3) := by decide +kernel
theorem d4 : decode yB 4 = .ok (.iload_n 3, 1) := by decide +kernel
theorem d5 : decode yB 5 = .ok (.ifCond (.ne) 22, 3) := by decide +kernel
theorem d27 : decode yB 27 = .ok (.getstatic 38, 3) := by decide +kernel
theorem d30 : decode yB 30 = .ok (.ifCond (.eq) 28, 3) := by decide +kernel
theorem d33 : decode yB 33 = .ok (.aload_n 1, 1) := by decide +kernel
theorem d34 : decode yB 34 = .ok (.iload_n 2, 1) := by decide +kernel
theorem d35 : decode yB 35 = .ok (.iload_n 3, 1) := by decide +kernel
theorem d36 : decode yB 36 = .ok (.invokestatic 177, 3) := by decide +kernel
theorem d39 : decode yB 39 = .ok (.astore 5, 2) := by decide +kernel
theorem d41 : decode yB 41 = .ok (.aload_n 0, 1) := by decide +kernel
theorem d42 : decode yB 42 = .ok (.aload 5, 2) := by decide +kernel
theorem d44 : decode yB 44 = .ok (.iload_n 3, 1) := by decide +kernel
theorem d45 : decode yB 45 = .ok (.invokestatic 47, 3) := by decide +kernel
theorem d48 : decode yB 48 = .ok (.putfield 15, 3) := by decide +kernel
theorem d51 : decode yB 51 = .ok (.aload_n 0, 1) := by decide +kernel
theorem d52 : decode yB 52 = .ok (.aload 5, 2) := by decide +kernel
theorem d54 : decode yB 54 = .ok (.putfield 9, 3) := by decide +kernel
theorem d57 : decode yB 57 = .ok (.return_, 1) := by decide +kernel
def site : List Cond := [.fieldLink "java/lang/String" 38 "java/lang/String" "COMPACT_STRINGS" "Z", Cmp3.tab, CodL.tab, .laysFinal "java/lang/String" "java/lang/String" "value" "[B", .fieldLink "java/lang/String" 9 "java/lang/String" "value" "[B", .laysFinal "java/lang/String" "java/lang/String" "coder" "B", .fieldLink "java/lang/String" 15 "java/lang/String" "coder" "B"] ++ objW "java/lang/String" 1 ++ staticW "java/lang/String" 177 Cmp3.yN ++ staticW "java/lang/String" 47 CodL.yN
def tab : Cond := tabOf yN yB 6 none site
def P (a : Addr) (D : Cell) (fV fC : Field) (b : Addr) (A : Cell) (z : Int32) (o len : Nat) (args : Array Value) (s : State) : Prop := args = #[.ref a, .ref b, .int (Int32.ofNat o), .int (Int32.ofNat len), .null] ∧ Blank "java/lang/String" a D s ∧ Found "java/lang/String" "value" "[B" fV s ∧ Found "java/lang/String" "coder" "B" fC s ∧ Ch b A s ∧ StaticIs s "java/lang/String" "COMPACT_STRINGS" "Z" (.int z) ∧ ¬ z = 0 ∧ 0 < len ∧ o + len ≤ A.slots.size ∧ len ≤ 536870912 ∧ ∀ i, i < len → ¬ 255 < cv A (o + i)
def E (a : Addr) (D : Cell) (fV fC : Field) (A : Cell) (o len : Nat) (r : Option Value) (s u : State) : Prop := Got a D fV fC A o len r s u
/-- len > 0, no char of the range above 255: a Latin-1 String of their low bytes -/
theorem law (l : Launch) (a : Addr) (D : Cell) (fV fC : Field) (b : Addr) (A : Cell) (z : Int32) (o len : Nat) : Law l yN 5 4 2 35 yB 6 none site (P a D fV fC b A z o len) (E a D fV fC A o len) [⟨a, fC.slot⟩, ⟨a, fV.slot⟩] 1 len := by
  refine Law.of_walk (plainFor_of_name (by decide +kernel)) (by decide +kernel) (by decide +kernel) (by decide) (fun _ _ h => by rw [h.1]; rfl) (fun _ U U' hal hh h => ⟨h.1, h.2.1.mv hal hh, h.2.2.1.al hal, h.2.2.2.1.al hal, h.2.2.2.2.1.mv hal hh, h.2.2.2.2.2.1.there hal hh, h.2.2.2.2.2.2⟩) (fun r U U' V V' h1 hal h2 h => Got.mv r U U' V V' h1 hal h2 h) ?_
  intro p e s m args below meth c s₁ X0 hexec hbytes hml hret hlk hnm hown hh0 W hP
  obtain ⟨rfl, hB, f1, f2, hA, s1, hz, l0, l1, l2, hp⟩ := hP
  have a31 := hA.1.2.2.2
  have c1 : Steps p.tables e below (s₁.setTop (entryFrame m #[.ref a, .ref b, .int (Int32.ofNat o), .int (Int32.ofNat len), .null] 6)) (s₁.setTop (mkF m 0 #[.val (.ref a), .val (.ref b), .val (.int (Int32.ofNat o)), .val (.int (Int32.ofNat len)), .val .null, .unset] [])) := entry rfl
  have c2 : Steps p.tables e below (s₁.setTop (entryFrame m #[.ref a, .ref b, .int (Int32.ofNat o), .int (Int32.ofNat len), .null] 6)) (s₁.setTop (mkF m 1 #[.val (.ref a), .val (.ref b), .val (.int (Int32.ofNat o)), .val (.int (Int32.ofNat len)), .val .null, .unset] [.ref a])) := c1.trans (by
    refine XS.aloadN X0.here hexec rfl (hb hbytes d0) rfl rfl ?_
    exact Steps.refl _)
  obtain ⟨T3, X3, q3, st3⟩ := X0.oinit hexec hown (wks W (objW "java/lang/String" 1)) (g := (mkF m 1 #[.val (.ref a), .val (.ref b), .val (.int (Int32.ofNat o)), .val (.int (Int32.ofNat len)), .val .null, .unset] [.ref a])) rfl (by rw [hml]; rfl) (rest := []) rfl (hb hbytes d1) (W := 0) (by show 2 * 0 + 0 ≤ _; decide) (Nat.le_of_ble_eq_true rfl) (Nat.le_of_ble_eq_true rfl)
  have hh3 := q3.trans hh0
  have c4 : Steps p.tables e below (s₁.setTop (entryFrame m #[.ref a, .ref b, .int (Int32.ofNat o), .int (Int32.ofNat len), .null] 6)) (T3.setTop (mkF m 27 #[.val (.ref a), .val (.ref b), .val (.int (Int32.ofNat o)), .val (.int (Int32.ofNat len)), .val .null, .unset] [])) := (c2.trans (st3 _ (Steps.refl _))).trans (by
    refine XS.iloadN X3.here hexec rfl (hb hbytes d4) rfl ?_
    refine XS.ifYes X3.here hexec rfl (pc0 := 5) rfl (hb hbytes d5) rfl (i0_ne_t (nz32 (by omega) l0)) (by decide) rfl ?_
    exact Steps.refl _)
  obtain ⟨T5, X5, q5, st5⟩ := X3.sget hexec hown (wk W (.fieldLink "java/lang/String" 38 "java/lang/String" "COMPACT_STRINGS" "Z")) s1 (fun _ _ h => by rw [hh3]; exact h) (g := (mkF m 27 #[.val (.ref a), .val (.ref b), .val (.int (Int32.ofNat o)), .val (.int (Int32.ofNat len)), .val .null, .unset] [])) rfl (hb hbytes d27)
  have hh5 := q5.trans hh3
  have c6 : Steps p.tables e below (s₁.setTop (entryFrame m #[.ref a, .ref b, .int (Int32.ofNat o), .int (Int32.ofNat len), .null] 6)) (T5.setTop (mkF m 30 #[.val (.ref a), .val (.ref b), .val (.int (Int32.ofNat o)), .val (.int (Int32.ofNat len)), .val .null, .unset] [.int z])) := c4.trans (st5 _ (Steps.refl _))
  have c7 : Steps p.tables e below (s₁.setTop (entryFrame m #[.ref a, .ref b, .int (Int32.ofNat o), .int (Int32.ofNat len), .null] 6)) (T5.setTop (mkF m 36 #[.val (.ref a), .val (.ref b), .val (.int (Int32.ofNat o)), .val (.int (Int32.ofNat len)), .val .null, .unset] [.int (Int32.ofNat len), .int (Int32.ofNat o), .ref b])) := c6.trans (by
    refine XS.ifNo X5.here hexec rfl (hb hbytes d30) rfl (i0_eq_f hz) ?_
    refine XS.aloadN X5.here hexec rfl (hb hbytes d33) rfl rfl ?_
    refine XS.iloadN X5.here hexec rfl (hb hbytes d34) rfl ?_
    refine XS.iloadN X5.here hexec rfl (hb hbytes d35) rfl ?_
    exact Steps.refl _)
  obtain ⟨v8, T8, X8, E8, g8⟩ := X5.callS hexec (Cmp3.law l b A o len) hown (wks W (staticW "java/lang/String" 177 Cmp3.yN)) (wk W Cmp3.tab) (W := 0) (Nat.le_of_ble_eq_true rfl) (Nat.le_of_ble_eq_true rfl) (Nat.le_refl _) (by show 0 + len ≤ len; omega) (g := (mkF m 36 #[.val (.ref a), .val (.ref b), .val (.int (Int32.ofNat o)), .val (.int (Int32.ofNat len)), .val .null, .unset] [.int (Int32.ofNat len), .int (Int32.ofNat o), .ref b])) rfl (by rw [hml]; rfl) c7 (argsL := [.ref b, .int (Int32.ofNat o), .int (Int32.ofNat len)]) (rest := []) rfl rfl (by show 2 * 0 + 0 ≤ _; decide) (hb hbytes d36) (⟨rfl, hA.mv X5.warmed.alike hh5, l1, l2, hp⟩)
  obtain ⟨e8, z8⟩ := E8
  obtain ⟨rfl, N, n1, n2, n3, n4, n5, n6⟩ := NewArr.mv _ T5 s _ _ hh5.symm (Vm.Alike.refl _) rfl e8
  rw [hh5] at z8
  have hB1 := hB.keep X8.warmed.alike (n6 _ _ hB.1)
  have hne : s.heap.size ≠ a := (Nat.ne_of_lt (Array.getElem?_eq_some_iff.mp hB.1).1).symm
  have c9 : Steps p.tables e below (s₁.setTop (entryFrame m #[.ref a, .ref b, .int (Int32.ofNat o), .int (Int32.ofNat len), .null] 6)) (T8.setTop (mkF m 39 #[.val (.ref a), .val (.ref b), .val (.int (Int32.ofNat o)), .val (.int (Int32.ofNat len)), .val .null, .unset] [.ref s.heap.size])) := g8
  have c10 : Steps p.tables e below (s₁.setTop (entryFrame m #[.ref a, .ref b, .int (Int32.ofNat o), .int (Int32.ofNat len), .null] 6)) (T8.setTop (mkF m 45 #[.val (.ref a), .val (.ref b), .val (.int (Int32.ofNat o)), .val (.int (Int32.ofNat len)), .val .null, .val (.ref s.heap.size)] [.int (Int32.ofNat N.slots.size), .ref s.heap.size, .ref a])) := by
    have hc : Steps p.tables e below (s₁.setTop (entryFrame m #[.ref a, .ref b, .int (Int32.ofNat o), .int (Int32.ofNat len), .null] 6)) (T8.setTop (mkF m 45 #[.val (.ref a), .val (.ref b), .val (.int (Int32.ofNat o)), .val (.int (Int32.ofNat len)), .val .null, .val (.ref s.heap.size)] [.int (Int32.ofNat len), .ref s.heap.size, .ref a])) := c9.trans (by
      refine XS.astore X8.here hexec rfl (hb hbytes d39) rfl rfl rfl ?_
      refine XS.aloadN X8.here hexec rfl (hb hbytes d41) rfl rfl ?_
      refine XS.aload X8.here hexec rfl (hb hbytes d42) rfl rfl ?_
      refine XS.iloadN X8.here hexec rfl (hb hbytes d44) rfl ?_
      exact Steps.refl _)
    rw [n4]; exact hc
  obtain ⟨v11, T11, X11, E11, g11⟩ := X8.callS hexec (CodL.law l s.heap.size N) hown (wks W (staticW "java/lang/String" 47 CodL.yN)) (wk W CodL.tab) (W := 1) (Nat.le_of_ble_eq_true rfl) (Nat.le_of_ble_eq_true rfl) (Nat.le_refl _) (by show 0 + len + 0 ≤ len; omega) (g := (mkF m 45 #[.val (.ref a), .val (.ref b), .val (.int (Int32.ofNat o)), .val (.int (Int32.ofNat len)), .val .null, .val (.ref s.heap.size)] [.int (Int32.ofNat N.slots.size), .ref s.heap.size, .ref a])) rfl (by rw [hml]; rfl) c10 (argsL := [.ref s.heap.size, .int (Int32.ofNat N.slots.size)]) (rest := [.ref a]) rfl rfl (by show 2 * 0 + (1 + 0) ≤ _; decide) (hb hbytes d45) (⟨rfl, n1⟩)
  obtain ⟨rfl, q11⟩ := E11
  have hB11 := hB1.mv (X8.warmed.alike.symm.trans X11.warmed.alike) q11
  have c12 : Steps p.tables e below (s₁.setTop (entryFrame m #[.ref a, .ref b, .int (Int32.ofNat o), .int (Int32.ofNat len), .null] 6)) (T11.setTop (mkF m 48 #[.val (.ref a), .val (.ref b), .val (.int (Int32.ofNat o)), .val (.int (Int32.ofNat len)), .val .null, .val (.ref s.heap.size)] [.int 0, .ref a])) := g11
  obtain ⟨T13, X13, p13, bl13, sl13, st13⟩ := X11.finit hexec hown (wk W (.fieldLink "java/lang/String" 15 "java/lang/String" "coder" "B")) (Or.inr ⟨_, (wk W (.laysFinal "java/lang/String" "java/lang/String" "coder" "B"))⟩) (Or.inl ⟨rfl, hnm⟩) f2 (Or.inl rfl) hB11 (t := .byte) (by decide +kernel) rfl (g := (mkF m 48 #[.val (.ref a), .val (.ref b), .val (.int (Int32.ofNat o)), .val (.int (Int32.ofNat len)), .val .null, .val (.ref s.heap.size)] [.int 0, .ref a])) rfl (rest := []) rfl (hb hbytes d48)
  have c14 : Steps p.tables e below (s₁.setTop (entryFrame m #[.ref a, .ref b, .int (Int32.ofNat o), .int (Int32.ofNat len), .null] 6)) (T13.setTop (mkF m 54 #[.val (.ref a), .val (.ref b), .val (.int (Int32.ofNat o)), .val (.int (Int32.ofNat len)), .val .null, .val (.ref s.heap.size)] [.ref s.heap.size, .ref a])) := (c12.trans (st13 _ (Steps.refl _))).trans (by
    refine XS.aloadN X13.here hexec rfl (hb hbytes d51) rfl rfl ?_
    refine XS.aload X13.here hexec rfl (hb hbytes d52) rfl rfl ?_
    exact Steps.refl _)
  obtain ⟨T15, X15, p15, bl15, sl15, st15⟩ := X13.finit hexec hown (wk W (.fieldLink "java/lang/String" 9 "java/lang/String" "value" "[B")) (Or.inr ⟨_, (wk W (.laysFinal "java/lang/String" "java/lang/String" "value" "[B"))⟩) (Or.inl ⟨rfl, hnm⟩) f1 (Or.inl rfl) bl13 (t := (.array .byte)) (by decide +kernel) rfl (g := (mkF m 54 #[.val (.ref a), .val (.ref b), .val (.int (Int32.ofNat o)), .val (.int (Int32.ofNat len)), .val .null, .val (.ref s.heap.size)] [.ref s.heap.size, .ref a])) rfl (rest := []) rfl (hb hbytes d54)
  have c16 : Steps p.tables e below (s₁.setTop (entryFrame m #[.ref a, .ref b, .int (Int32.ofNat o), .int (Int32.ofNat len), .null] 6)) (T15.setTop (mkF m 57 #[.val (.ref a), .val (.ref b), .val (.int (Int32.ofNat o)), .val (.int (Int32.ofNat len)), .val .null, .val (.ref s.heap.size)] [])) := c14.trans (st15 _ (Steps.refl _))
  have ap := apart (Or.inr ⟨_, (wk W (.laysFinal "java/lang/String" "java/lang/String" "value" "[B"))⟩) (Or.inr ⟨_, (wk W (.laysFinal "java/lang/String" "java/lang/String" "coder" "B"))⟩) f1 f2 (t₁ := .array .byte) (t₂ := .byte) (by decide +kernel) (by decide +kernel) (by decide)
  have al := X8.warmed.alike.symm.trans X15.warmed.alike
  have n7 : T11.heap[s.heap.size]? = some N := by rw [q11]; exact n1.1
  exact ⟨T15, none, _, _, _, X15, by simp, rfl, by omega, (fun _ => rfl), ⟨rfl, _, N, bl15, ((Same.refl D _).set _ (by simp)).set _ (by simp), sl15, (Cell.slots_setSlot_ne _ ap).trans sl13, n1.keep al (p15.other hne (p13.other hne n7)), n2, by rw [al.findClass]; exact n3, n4, n5, fun y c h1 h2 => p15.other h1 (p13.other h1 (by rw [q11]; exact n6 y c h2)), by rw [p15.2.2, p13.2.2, q11]; exact z8⟩, fun fs hl => c16.trans (X15.returnOut hexec hret (hb hbytes d57) hl)⟩
end New4
namespace New1
def yN : MethodName := ⟨"java/lang/String", "<init>", "([C)V"⟩
abbrev yB : ByteArray := jdk_42_method_3_code
theorem d0 : decode yB 0 = .ok (.aload_n 0, 1) := by decide +kernel
theorem d1 : decode yB 1 = .ok (.aload_n 1, 1) := by decide +kernel
theorem d2 : decode yB 2 = .ok (.iconst 0, 1) := by decide +kernel
theorem d3 : decode yB 3 = .ok (.aload_n 1, 1) := by decide +kernel
theorem d4 : decode yB 4 = .ok (.arraylength, 1) := by decide +kernel
theorem d5 : decode yB 5 = .ok (.aconst_null, 1) := by decide +kernel
theorem d6 : decode yB 6 = .ok (.invokespecial 27, 3) := by decide +kernel
theorem d9 : decode yB 9 = .ok (.return_, 1) := by decide +kernel
def site : List Cond := [New4.tab] ++ initW "java/lang/String" 27 New4.yN
def tab : Cond := tabOf yN yB 2 none site
def P (a : Addr) (D : Cell) (fV fC : Field) (b : Addr) (A : Cell) (z : Int32) (args : Array Value) (s : State) : Prop := args = #[.ref a, .ref b] ∧ Blank "java/lang/String" a D s ∧ Found "java/lang/String" "value" "[B" fV s ∧ Found "java/lang/String" "coder" "B" fC s ∧ Ch b A s ∧ StaticIs s "java/lang/String" "COMPACT_STRINGS" "Z" (.int z) ∧ ¬ z = 0 ∧ 0 < A.slots.size ∧ A.slots.size ≤ 536870912 ∧ ∀ i, i < A.slots.size → ¬ 255 < cv A i
def E (a : Addr) (D : Cell) (fV fC : Field) (A : Cell) (r : Option Value) (s u : State) : Prop := Got a D fV fC A 0 A.slots.size r s u
/-- new String(chars), not empty, no char above 255: a Latin-1 String of their low bytes -/
theorem law (l : Launch) (a : Addr) (D : Cell) (fV fC : Field) (b : Addr) (A : Cell) (z : Int32) : Law l yN 2 1 3 52 yB 2 none site (P a D fV fC b A z) (E a D fV fC A) [⟨a, fC.slot⟩, ⟨a, fV.slot⟩] 1 A.slots.size := by
  refine Law.of_walk (plainFor_of_name (by decide +kernel)) (by decide +kernel) (by decide +kernel) (by decide) (fun _ _ h => by rw [h.1]; rfl) (fun _ U U' hal hh h => ⟨h.1, h.2.1.mv hal hh, h.2.2.1.al hal, h.2.2.2.1.al hal, h.2.2.2.2.1.mv hal hh, h.2.2.2.2.2.1.there hal hh, h.2.2.2.2.2.2⟩) (fun r U U' V V' h1 hal h2 h => Got.mv r U U' V V' h1 hal h2 h) ?_
  intro p e s m args below meth c s₁ X0 hexec hbytes hml hret hlk hnm hown hh0 W hP
  obtain ⟨rfl, hB, f1, f2, hA, s1, hz, l0, l2, hp⟩ := hP
  have c1 : Steps p.tables e below (s₁.setTop (entryFrame m #[.ref a, .ref b] 2)) (s₁.setTop (mkF m 0 #[.val (.ref a), .val (.ref b)] [])) := entry rfl
  have c2 : Steps p.tables e below (s₁.setTop (entryFrame m #[.ref a, .ref b] 2)) (s₁.setTop (mkF m 6 #[.val (.ref a), .val (.ref b)] [.null, .int (Int32.ofNat A.slots.size), .int 0, .ref b, .ref a])) := c1.trans (by
    refine XS.aloadN X0.here hexec rfl (hb hbytes d0) rfl rfl ?_
    refine XS.aloadN X0.here hexec rfl (hb hbytes d1) rfl rfl ?_
    refine iconstV X0.here hexec rfl 0 (hb hbytes d2) (by decide) ?_
    refine XS.aloadN X0.here hexec rfl (hb hbytes d3) rfl rfl ?_
    refine X0.alen hexec (hA.1.mv X0.warmed.alike hh0) rfl rfl (hb hbytes d4) ?_
    refine XS.aconstNull X0.here hexec rfl (hb hbytes d5) ?_
    exact Steps.refl _)
  obtain ⟨v3, T3, X3, E3, g3⟩ := X0.callN hexec (New4.law l a D fV fC b A z 0 A.slots.size) rfl hown (wks W (initW "java/lang/String" 27 New4.yN)) (W New4.tab (by simp only [site, List.mem_cons, List.mem_append, true_or, or_true])) (W := 0) (Nat.le_of_ble_eq_true rfl) (Nat.le_of_ble_eq_true rfl) (Nat.le_refl _) (by show 0 + A.slots.size ≤ A.slots.size; omega) (g := (mkF m 6 #[.val (.ref a), .val (.ref b)] [.null, .int (Int32.ofNat A.slots.size), .int (Int32.ofNat 0), .ref b, .ref a])) rfl (by rw [hml]; rfl) c2 (argsL := [.ref b, .int (Int32.ofNat 0), .int (Int32.ofNat A.slots.size), .null]) (rest := []) rfl rfl (by show 2 * 0 + 0 ≤ _; decide) (hb hbytes d6) (⟨rfl, hB.mv X0.warmed.alike hh0, f1.al X0.warmed.alike, f2.al X0.warmed.alike, hA.mv X0.warmed.alike hh0, s1.there X0.warmed.alike hh0, hz, l0, by omega, l2, fun i hi => by rw [Nat.zero_add]; exact hp i hi⟩)
  have e0 := Got.mv _ s₁ s _ _ hh0.symm (Vm.Alike.refl _) rfl E3
  obtain rfl := e0.1
  have c4 : Steps p.tables e below (s₁.setTop (entryFrame m #[.ref a, .ref b] 2)) (T3.setTop (mkF m 9 #[.val (.ref a), .val (.ref b)] [])) := g3
  exact ⟨T3, none, _, _, _, X3, by simp, rfl, by omega, (fun _ => rfl), e0, fun fs hl => c4.trans (X3.returnOut hexec hret (hb hbytes d9) hl)⟩
theorem pays {l : Launch} {R : Room} {p : Program} {e : Env} {below : List Frame} {s : State} {sargs : Array Value} {len W : Nat} (a : Addr) (D : Cell) (fV fC : Field) (b : Addr) (A : Cell) (z : Int32) (htab : tab.before sargs s = true) (hfr : 4 ≤ R.frames) (hlo : W + 65 ≤ R.locals) :
    Back l R p e below s sargs yN len W (fun A₁ a₁ => A₁.cells + 1 ≤ R.cells ∧ A₁.slots + A.slots.size ≤ R.slots ∧ P a D fV fC b A z a₁ A₁.U) (fun A₁ _ v₁ B₁ => E a D fV fC A v₁ A₁.U B₁.U ∧ B₁.locs = A₁.locs ++ [⟨a, fC.slot⟩, ⟨a, fV.slot⟩] ∧ B₁.cells = A₁.cells + 1 ∧ B₁.slots = A₁.slots + A.slots.size) :=
  (law l a D fV fC b A z).pays htab hfr (by omega)
end New1
end StrChars
namespace StrChars.Road
open Jvm Sem ClassFile Op Lib Jvm.Stand Jvm.Free Jvm.Free.XT
open Jvm.Lib.Cold (StaticIs)
abbrev ST : String := "java/lang/String"
/-- every table word that New1's law asks, flat -/
abbrev words : List Jvm.Cond := [.code New1.yN New1.yB 2 none, .initialized ST, .methodLink ST 27 New4.yN, .instanceMethod New4.yN,
  .code New4.yN New4.yB 6 none, .fieldLink ST 38 ST "COMPACT_STRINGS" "Z", .laysFinal ST ST "value" "[B", .fieldLink ST 9 ST "value" "[B", .laysFinal ST ST "coder" "B", .fieldLink ST 15 ST "coder" "B",
  .methodLink ST 1 Lib.objectInit, .instanceMethod Lib.objectInit, .code Lib.objectInit ⟨#[0xb1]⟩ 1 none, .methodLink ST 177 Cmp3.yN, .static Cmp3.yN, .methodLink ST 47 CodL.yN, .static CodL.yN,
  .code Cmp3.yN Cmp3.yB 6 (some (.array .byte)), .initialized U16, .arrayClass .byte, .methodLink U16 115 Cmp5.yN, .static Cmp5.yN, .code Cmp5.yN Cmp5.yB 7 (some .int), .code CodL.yN CodL.yB 2 (some .byte)]
theorem tab_of {a : Array Value} {s : State} (h : ∀ w ∈ words, w.before a s = true) : New1.tab.before a s = true := by
  have h5 : Cmp5.tab.before a s = true := unparts (wk h (.code Cmp5.yN Cmp5.yB 7 (some .int))) (wks h (.initialized Cmp5.yN.cls :: Cmp5.site))
  have hc : CodL.tab.before a s = true := unparts (wk h (.code CodL.yN CodL.yB 2 (some .byte))) (wks h (.initialized CodL.yN.cls :: CodL.site))
  have q5 : ∀ w ∈ Cmp5.tab :: words, w.before a s = true := fun w hw => (List.mem_cons.mp hw).elim (fun e => e ▸ h5) (h w)
  have h3 : Cmp3.tab.before a s = true := unparts (wk q5 (.code Cmp3.yN Cmp3.yB 6 (some (.array .byte)))) (wks q5 (.initialized Cmp3.yN.cls :: Cmp3.site))
  have q3 : ∀ w ∈ Cmp3.tab :: CodL.tab :: words, w.before a s = true := fun w hw => (List.mem_cons.mp hw).elim (fun e => e ▸ h3) fun hw => (List.mem_cons.mp hw).elim (fun e => e ▸ hc) (h w)
  have h4 : New4.tab.before a s = true := unparts (wk q3 (.code New4.yN New4.yB 6 none)) (wks q3 (.initialized New4.yN.cls :: New4.site))
  have q4 : ∀ w ∈ New4.tab :: words, w.before a s = true := fun w hw => (List.mem_cons.mp hw).elim (fun e => e ▸ h4) (h w)
  exact unparts (wk q4 (.code New1.yN New1.yB 2 none)) (wks q4 (.initialized New1.yN.cls :: New1.site))
/-- the words ride from the start Z to the walk's own state -/
theorem moved {Z s : State} {a0 args : Array Value} (hZ : Z.Warmed39 s.vm) (hw : ∀ d ∈ words, d.before a0 Z = true) : ∀ d ∈ words, d.before args s = true := fun d hd => by
  have q := hw d hd
  have t : ∀ d ∈ words, d = .arrayClass .byte ∨ (d.onTables && d.keepsFace) = true := by decide +kernel
  rcases t d hd with rfl | t
  · exact RoadKit.mvA hZ q
  · exact RoadKit.mv hZ q t
/-- WHAT COMES BACK, over the tables of the start Z: h the heap at the call, h' behind it -/
def Q (Z : State) (x : Addr) (A : Cell) (h : Heap) (v : Option Value) (h' : Heap) (L : List Loc) : Prop := v = none ∧ (∀ y ∈ L, y.base = x) ∧ RoadKit.Keep h h' [x] ∧ h'.size = h.size + 1 ∧ RoadKit.Exa Z h' x ST ∧ RoadKit.Fld Z h' x ST "value" "[B" (.ref h.size) ∧ RoadKit.Fld Z h' x ST "coder" "B" (.int 0) ∧
  (∃ V : Cell, RoadKit.Arr Z h' h.size V .byte ∧ V.vm = .none ∧ Z.vm.findClass "[B" = some V.cls ∧ V.slots.size = A.slots.size ∧ ∀ j, j < A.slots.size → V.slots[j]? = some (.int (lo8 (cv A j)))) ∧
  ∀ (O n d : String) (w : Value), RoadKit.Fld Z h x O n d w → RoadKit.slotOf Z O n d ≠ RoadKit.slotOf Z ST "value" "[B" → RoadKit.slotOf Z O n d ≠ RoadKit.slotOf Z ST "coder" "B" → RoadKit.Fld Z h' x O n d w
/-- **new String(chars) AT A CALL, IN THE ROAD'S FORM**: for specialBack behind newO: x the fresh String, b the char[] with the cell A -/
theorem back {p : Program} {l : Launch} {e : Env} {R : Room} {s : State} {args : Array Value} {below : List Frame} {len W : Nat} {Z : State} {a0 : Array Value} {h : Heap} (hZ : Z.Warmed39 s.vm) (hw : ∀ d ∈ words, d.before a0 Z = true) {kI : Nat} (wi : (Jvm.Cond.instantiable ST kI).before a0 Z = true)
    {x b : Addr} {A : Cell} {z : Int32} {v0 c0 : Value} (E : RoadKit.Exa Z h x ST) (V : RoadKit.Fld Z h x ST "value" "[B" v0) (C : RoadKit.Fld Z h x ST "coder" "B" c0) (K : RoadKit.Arr Z h b A .char) (hty : Typed .char A) (S : RoadKit.Sta Z h ST "COMPACT_STRINGS" "Z" (.int z)) (hz : ¬ z = 0)
    (l0 : 0 < A.slots.size) (l2 : A.slots.size ≤ 536870912) (hp : ∀ i, i < A.slots.size → ¬ 255 < cv A i) (hfr : 4 ≤ R.frames) (hlo : W + 65 ≤ R.locals) :
    Back l R p e below s args New1.yN len W (fun P a => a = #[.ref x, .ref b] ∧ P.U.heap = h ∧ P.cells + 1 ≤ R.cells ∧ P.slots + A.slots.size ≤ R.slots)
      (fun P _ v B => ∃ L, Q Z x A h v B.U.heap L ∧ B.locs = P.locs ++ L ∧ B.cells = P.cells + 1 ∧ B.slots = P.slots + A.slots.size) := by
  intro m meth c P g ig mk a X hg hsize hdg hW hn hp'
  obtain ⟨rfl, rfl, r1, r2⟩ := hp'
  have al : Z.vm.Alike P.U.vm := hZ.alike.trans X.warmed.alike
  obtain ⟨D, cfV, kV, iV, fV, hD, gV, stV, knV, obV, asV, slV⟩ := id V
  obtain ⟨D', cfC, kC, iC, fC, hD', gC, stC, -, -, asC, slC⟩ := id C
  cases hD.symm.trans hD'
  obtain ⟨D2, kD, e1, e2, e3, e4, e5⟩ := id E
  cases hD.symm.trans e1
  obtain ⟨c2, k2, i1, i2, i3, -⟩ := Cond.instantiable_spec wi
  cases e2.symm.trans i1
  cases e3.symm.trans i2
  obtain ⟨kU, u1, u2⟩ := al.2.2 _ _ e3
  have hB : Blank ST x D P.U := ⟨hD, ⟨knV, fun q hq => by rw [hq] at obV; cases obV⟩, by rw [al.findClass]; exact e2, kU, u1, by rw [u2]; exact i3, by rw [u2]; exact e5 i3⟩
  have F1 : Found ST "value" "[B" fV P.U := ⟨SBG.found_only al ⟨cfV, kV, iV, gV⟩, stV⟩
  have F2 : Found ST "coder" "B" fC P.U := ⟨SBG.found_only al ⟨cfC, kC, iC, gC⟩, stC⟩
  have hA : Ch b A P.U := ⟨⟨K.1, State.isArrayOf_alike al K.2.1, K.2.2, by omega⟩, hty⟩
  have hS : StaticIs P.U ST "COMPACT_STRINGS" "Z" (.int z) := by
    obtain ⟨cfS, iS, kS, fS, st, cS, t1, t2, t3, t4, t5, t6, t7⟩ := S
    exact StaticIs.there (s := { Z with heap := P.U.heap }) ⟨cfS, iS, kS, fS, st, cS, t1, t2, t3, t4, t5, (fun q => by rw [q] at t6; cases t6), t7⟩ al rfl
  obtain ⟨v, B, X', ⟨⟨hv, E', V', q1, q2, q3, q4, q5, q6, q7, q8, q9, q10, q11⟩, hl, hc, hs⟩, st⟩ := New1.pays x D fV fC b A z (tab_of (moved hZ hw)) hfr hlo m meth c P g ig mk _ X hg hsize hdg hW hn ⟨r1, r2, rfl, hB, F1, F2, hA, hS, hz, l0, l2, hp⟩
  have al' : Z.vm.Alike B.U.vm := hZ.alike.trans X'.warmed.alike
  have hsz : E'.slots.size = D.slots.size := by
    obtain ⟨-, -, -, kB, w1, w2, w3⟩ := q1
    obtain ⟨kB', y1, y2⟩ := al'.2.2 _ _ e3
    rw [q2.2.1] at w1
    cases w1.symm.trans y1
    rw [w3, e5 i3, y2]
  refine ⟨v, B, X', ⟨_, ⟨hv, ?_, ⟨by omega, fun y cy hy hn' => q10 y cy (by simpa using hn') hy, fun y cy hy => ?_⟩, q11, ⟨E', _, q1.1, by rw [q2.2.1]; exact e2, by rw [q2.2.1]; exact e3, by rw [q2.1]; exact obV, fun _ => by rw [hsz]; exact e5 i3⟩,
    ⟨E', cfV, kV, iV, fV, q1.1, gV, stV, by rw [q2.1]; exact knV, by rw [q2.1]; exact obV, by rw [q2.2.1]; exact asV, q3⟩, ⟨E', cfC, kC, iC, fC, q1.1, gC, stC, by rw [q2.1]; exact knV, by rw [q2.1]; exact obV, by rw [q2.2.1]; exact asC, q4⟩,
    ⟨V', ⟨q5.1, State.isArrayOf_alike al'.symm q5.2.1, q5.2.2.1⟩, q6, by rw [← al'.findClass]; exact q7, q8, fun j hj => by have := q9 j hj; rwa [Nat.zero_add] at this⟩, fun O n d w F n1 n2 => ?_⟩, hl, hc, hs⟩, st⟩
  · intro y hy
    simp only [List.mem_cons, List.not_mem_nil, or_false] at hy
    rcases hy with rfl | rfl <;> rfl
  · by_cases q : y = x
    · subst q
      cases hD.symm.trans hy
      exact ⟨E', q1.1, q2.2.1, q2.1, hsz⟩
    · exact ⟨cy, q10 y cy q hy, rfl, rfl, rfl⟩
  · obtain ⟨D3, cf, k, i, f, g1, g2, g3, g4, g5, g6, g7⟩ := F
    cases hD.symm.trans g1
    simp only [RoadKit.slotOf, g2, gV, gC, Option.map_some, Option.getD_some] at n1 n2
    exact ⟨E', cf, k, i, f, q1.1, g2, g3, by rw [q2.1]; exact g4, by rw [q2.1]; exact g5, by rw [q2.2.1]; exact g6, by rw [q2.2.2 f.slot (by simp [n1, n2])]; exact g7⟩
end StrChars.Road
namespace StrChars.Road
open Jvm Sem ClassFile Op Lib Jvm.Stand Jvm.Free Jvm.Free.XT
/-- WHAT COMES BACK, the byte[] as a list of values -/
def QA (Z : State) (x : Addr) (zn : Int32) (cs : List Int32) (h : Heap) (v : Option Value) (h' : Heap) (L : List Loc) : Prop := v = none ∧ (∀ y ∈ L, y.base = x) ∧ RoadKit.Keep h h' [x] ∧ h'.size = h.size + 1 ∧ RoadKit.Exa Z h' x ST ∧ RoadKit.Fld Z h' x ST "value" "[B" (.ref h.size) ∧ RoadKit.Fld Z h' x ST "coder" "B" (.int 0) ∧
  (∃ kb, Z.vm.findClass "[B" = some kb ∧ RoadKit.Arv Z h' h.size kb .byte zn (cs.map fun c => .int (lo8 c)) (.int 0)) ∧
  ∀ (O n d : String) (w : Value), RoadKit.Fld Z h x O n d w → RoadKit.slotOf Z O n d ≠ RoadKit.slotOf Z ST "value" "[B" → RoadKit.slotOf Z O n d ≠ RoadKit.slotOf Z ST "coder" "B" → RoadKit.Fld Z h' x O n d w
/-- **new String(chars) AT A CALL, THE ARRAYS AS LISTS**: the char[] at b holds cs, not empty, no char above 255 -/
theorem backArv {p : Program} {l : Launch} {e : Env} {R : Room} {s : State} {args : Array Value} {below : List Frame} {len W : Nat} {Z : State} {a0 : Array Value} {h : Heap} (hZ : Z.Warmed39 s.vm) (hw : ∀ d ∈ words, d.before a0 Z = true) {kI : Nat} (wi : (Jvm.Cond.instantiable ST kI).before a0 Z = true)
    {x b : Addr} {k : ClassId} {zn z : Int32} {cs : List Int32} {dv v0 c0 : Value} (E : RoadKit.Exa Z h x ST) (V : RoadKit.Fld Z h x ST "value" "[B" v0) (C : RoadKit.Fld Z h x ST "coder" "B" c0) (K : RoadKit.Arv Z h b k .char zn (cs.map Value.int) dv) (S : RoadKit.Sta Z h ST "COMPACT_STRINGS" "Z" (.int z)) (hz : ¬ z = 0)
    (hlen : zn.toNatClampNeg = cs.length) (h0 : 0 < cs.length) (hbig : cs.length ≤ 536870912) (hall : ∀ c ∈ cs, ¬ 255 < c) (hfr : 4 ≤ R.frames) (hlo : W + 65 ≤ R.locals) :
    Back l R p e below s args New1.yN len W (fun P a => a = #[.ref x, .ref b] ∧ P.U.heap = h ∧ P.cells + 1 ≤ R.cells ∧ P.slots + cs.length ≤ R.slots)
      (fun P _ v B => ∃ L, QA Z x zn cs h v B.U.heap L ∧ B.locs = P.locs ++ L ∧ B.cells = P.cells + 1 ∧ B.slots = P.slots + cs.length) := by
  obtain ⟨A, K1, K2, K3, K4, K5, K6⟩ := K
  have e : A.slots.size = cs.length := K3.trans hlen
  have hat : ∀ (i : Nat) (hi : i < cs.length), A.slots[i]? = some (.int cs[i]) := fun i hi => by rw [K5 i (by omega)]; simp [List.getD_eq_getElem?_getD, hi]
  have hcv : ∀ (i : Nat) (hi : i < cs.length), cv A i = cs[i] := fun i hi => by unfold cv; rw [hat i hi]
  have hty : Typed .char A := fun i v hv => by
    have hi : i < A.slots.size := (Array.getElem?_eq_some_iff.mp hv).1
    have q := K5 i hi
    rw [hv] at q
    rw [Option.some.inj q]
    exact K6 i hi
  refine Back.mono (back hZ hw wi E V C K1 hty S hz (by omega) (by omega) (fun i hi => by rw [hcv i (by omega)]; exact hall _ (List.getElem_mem _)) hfr hlo) (fun P a hp => ⟨hp.1, hp.2.1, hp.2.2.1, by rw [e]; exact hp.2.2.2⟩) (fun P a v B hp hq => ?_)
  obtain ⟨L, ⟨q1, q2, q3, q4, q5, q6, q7, ⟨V', v1, v2, v3, v4, v5⟩, q9⟩, hl, hc, hs⟩ := hq
  refine ⟨L, ⟨q1, q2, q3, q4, q5, q6, q7, ⟨V'.cls, v3, V', v1, rfl, by rw [v4, e, hlen], K4, fun i hi => ?_, fun i hi => ?_⟩, q9⟩, hl, hc, by rw [hs, e]⟩
  · have hi' : i < cs.length := by omega
    rw [v5 i (by omega), hcv i hi']; simp [List.getD_eq_getElem?_getD, hi']
  · have hi' : i < cs.length := by omega
    simp only [List.getD_eq_getElem?_getD, List.getElem?_map, List.getElem?_eq_getElem hi', Option.map_some, Option.getD_some]
    exact fits_lo8 _
end StrChars.Road
namespace StrChars.Road
open Jvm Sem ClassFile Op Lib Jvm.Stand Jvm.Free Jvm.Free.XT
/-- WHAT COMES BACK, in the writer's own shape -/
def QV (Z : State) (x : Addr) (N : Int32) (bs : List Int32) (h : Heap) (n0 : Nat) (v : Option Value) (h' : Heap) (L : List Loc) : Prop := v = none ∧ RoadKit.Fr n0 L ∧ RoadKit.Keep h h' [x] ∧ RoadKit.Exa Z h' x ST ∧ RoadKit.Fld Z h' x ST "coder" "B" (.int 0) ∧
  ∃ (t : Addr) (kb : ClassId), n0 ≤ t ∧ h.size ≤ t ∧ ¬ t = x ∧ RoadKit.Fld Z h' x ST "value" "[B" (.ref t) ∧ RoadKit.Arv Z h' t kb .byte N (bs.map Value.int) (.int 0)
/-- **new String(chars) AT A CALL, FOR THE WRITER**: a char[] of n known ints, each 0 to 255 -/
theorem backV {p : Program} {l : Launch} {e : Env} {R : Room} {s : State} {args : Array Value} {below : List Frame} {len W : Nat} {Z : State} {a0 : Array Value} {h : Heap} (hZ : Z.Warmed39 s.vm) (hw : ∀ d ∈ words, d.before a0 Z = true) {kI : Nat} (wi : (Jvm.Cond.instantiable ST kI).before a0 Z = true)
    {x b : Addr} {kC : ClassId} {cs bs : List Int32} {d v0 c0 : Value} {z N : Int32} {n n0 : Nat} (hx0 : n0 ≤ x) (hh0 : n0 ≤ h.size) (E : RoadKit.Exa Z h x ST) (V : RoadKit.Fld Z h x ST "value" "[B" v0) (C : RoadKit.Fld Z h x ST "coder" "B" c0) (K : RoadKit.Arv Z h b kC .char N (cs.map Value.int) d) (S : RoadKit.Sta Z h ST "COMPACT_STRINGS" "Z" (.int z)) (hz : ¬ z = 0)
    (hn : cs.length = n) (hN : N = Int32.ofNat n) (l0 : 0 < n) (l2 : n ≤ 4000) (hp : ∀ c ∈ cs, ¬ c < 0 ∧ ¬ (255 : Int32) < c) (hb : bs = cs.map (fun c => c.toInt8.toInt32)) (hfr : 4 ≤ R.frames) (hlo : W + 65 ≤ R.locals) :
    Back l R p e below s args (⟨"java/lang/String", "<init>", "([C)V"⟩ : MethodName) len W (fun P a => a = #[.ref x, .ref b] ∧ P.U.heap = h ∧ P.cells + 1 ≤ R.cells ∧ P.slots + n ≤ R.slots)
      (fun P _ v B => ∃ L, QV Z x N bs h n0 v B.U.heap L ∧ B.locs = P.locs ++ L ∧ B.cells = P.cells + 1 ∧ B.slots = P.slots + n) := by
  subst hn hN hb
  refine Back.mono (backArv hZ hw wi E V C K S hz (n32 (by omega)) l0 (by omega) (fun c hc => (hp c hc).2) hfr hlo) (fun P a hp => hp) (fun P a v B hp hq => ?_)
  obtain ⟨L, ⟨q1, q2, q3, q4, q5, q6, q7, ⟨kb, v1, v2⟩, q9⟩, hl, hc, hs⟩ := hq
  exact ⟨L, ⟨q1, fun y hy => by rw [q2 y hy]; exact hx0, q3, q5, q7, h.size, kb, hh0, Nat.le_refl _, Nat.ne_of_gt E.lt, q6, by rw [List.map_map]; exact v2⟩, hl, hc, hs⟩
end StrChars.Road
end Jvm.Pilot.@@N@@

namespace Jvm.Pilot.@@N@@
open Jvm Jvm.ClassFile Sem Op Lib Jvm.Free Jvm.Stand Jvm.LawKit Jvm.RoadKit Bundle Jvm.Pilot.@@N@@.Jvm.D

/-! a String that spells the chars cs (each 0 to 255), its bytes at t -/
def own_Str (Z : State) (h : Heap) (x t : Addr) (cs : List Int32) : Prop := Exa Z h x "java/lang/String" ∧ Fld Z h x "java/lang/String" "coder" "B" (.int 0) ∧ Fld Z h x "java/lang/String" "value" "[B" (.ref t) ∧ (∃ kb, Arv Z h t kb .byte (Int32.ofNat cs.length) ((cs.map fun c => c.toInt8.toInt32).map Value.int) (.int 0)) ∧ (∀ c ∈ cs, ¬ c < 0 ∧ ¬ (255 : Int32) < c) ∧ cs.length ≤ 4000
def own_QP (r : Option Value) (h : Heap) (v : Option Value) (h' : Heap) (L : List Loc) : Prop := v = r ∧ L = [] ∧ h' = h
def own_QN (Z : State) (x : Addr) (cs : List Int32) (h : Heap) (n0 : Nat) (v : Option Value) (h' : Heap) (L : List Loc) : Prop := v = none ∧ Fr n0 L ∧ Keep h h' [x] ∧ ∃ t, n0 ≤ t ∧ h.size ≤ t ∧ ¬ t = x ∧ own_Str Z h' x t cs
section OwnStr
variable {p : Program} {l : Launch} {e : Env} {R : Room} {s : State} {args : Array Value} {below : List Frame} {W n0 : Nat} {Z : State} {a0 : Array Value} {h h' : Heap} {x t y u a : Addr} {cs ds : List Int32} {ws : List Addr} {sl : Nat} {v : Value}
theorem own_Str.ext (E : Ext h h') (F : own_Str Z h x t cs) : own_Str Z h' x t cs := by
  obtain ⟨f1, f2, f3, ⟨kb, f4⟩, f5⟩ := F; exact ⟨f1.ext E, f2.ext E, f3.ext E, ⟨kb, f4.ext E⟩, f5⟩
theorem own_Str.other (F : own_Str Z h x t cs) (Wq : Wr h h' a sl v) (q1 : x ≠ a) (q2 : t ≠ a) : own_Str Z h' x t cs := by
  obtain ⟨f1, f2, f3, ⟨kb, f4⟩, f5⟩ := F; exact ⟨f1.wr Wq, f2.other Wq (Or.inl q1), f3.other Wq (Or.inl q1), ⟨kb, f4.other Wq q2⟩, f5⟩
theorem own_Str.keep (F : own_Str Z h x t cs) (K : Keep h h' ws) (q1 : x ∉ ws) (q2 : t ∉ ws) : own_Str Z h' x t cs := by
  obtain ⟨f1, f2, f3, ⟨kb, f4⟩, f5⟩ := F; exact ⟨f1.keep K, f2.keep K q1, f3.keep K q1, ⟨kb, f4.keep K q2⟩, f5⟩
theorem own_Str.lt (F : own_Str Z h x t cs) : x < h.size := F.1.lt
theorem own_Str.lt2 (F : own_Str Z h x t cs) : t < h.size := by obtain ⟨_, _, _, ⟨_, f4⟩, _⟩ := F; exact f4.lt
theorem own_up16 (h : ∀ c ∈ cs, ¬ c < 0 ∧ ¬ (255 : Int32) < c) : ∀ c ∈ cs, ¬ c < 0 ∧ ¬ (65535 : Int32) < c := fun c hc => ⟨(h c hc).1, fun q => (h c hc).2 (by
  rw [Int32.lt_iff_toInt_lt] at q ⊢
  have e1 : (65535 : Int32).toInt = 65535 := rfl
  have e2 : (255 : Int32).toInt = 255 := rfl
  omega)⟩
theorem own_cs0 : ∀ c ∈ ([] : List Int32), ¬ c < 0 ∧ ¬ (255 : Int32) < c := fun _ h => nomatch h
theorem own_csS {a : Int32} {L : List Int32} (h1 : ¬ a < 0 ∧ ¬ (255 : Int32) < a) (h2 : ∀ c ∈ L, ¬ c < 0 ∧ ¬ (255 : Int32) < c) : ∀ c ∈ a :: L, ¬ c < 0 ∧ ¬ (255 : Int32) < c := fun c hc => (List.mem_cons.mp hc).elim (fun e => e ▸ h1) (h2 c)
theorem own_strw : ∀ d ∈ StrChars.Road.words, d ∈ tables_1 := by decide +kernel
theorem own_newB {b : Addr} {kC : ClassId} {d v0 c0 : Value} {z N : Int32} {n : Nat} (hZ : Z.Warmed39 s.vm) (hw : ∀ d ∈ tables_1, d.before a0 Z = true) (wi : (Jvm.Cond.instantiable "java/lang/String" 4).before a0 Z = true) (O : Old Z n0 h) (hx0 : n0 ≤ x) (E : Exa Z h x "java/lang/String") (V : Fld Z h x "java/lang/String" "value" "[B" v0) (C : Fld Z h x "java/lang/String" "coder" "B" c0) (K : Arv Z h b kC .char N (cs.map Value.int) d) (S : Sta Z Z.heap "java/lang/String" "COMPACT_STRINGS" "Z" (.int z)) (hz : ¬ z = 0)
    (hn : cs.length = n) (hN : N = Int32.ofNat n) (l0 : 0 < n) (l2 : n ≤ 4000) (hp : ∀ c ∈ cs, ¬ c < 0 ∧ ¬ (255 : Int32) < c) (hfr : 4 ≤ R.frames) (hlo : W + 65 ≤ R.locals) :
    Back l R p e below s args (⟨"java/lang/String", "<init>", "([C)V"⟩ : MethodName) 3 W (fun P a => a = #[.ref x, .ref b] ∧ P.U.heap = h ∧ P.cells + 1 ≤ R.cells ∧ P.slots + n ≤ R.slots)
      (fun P _ v B => ∃ L, own_QN Z x cs h n0 v B.U.heap L ∧ B.locs = P.locs ++ L ∧ B.cells = P.cells + 1 ∧ B.slots = P.slots + n) := by
  have hh0 : n0 ≤ h.size := by rw [← O.1]; exact O.2.1
  refine Back.mono (StrChars.Road.backV hZ (fun d hd => hw d (own_strw d hd)) wi hx0 hh0 E V C K (Sta.ext O.2 S) hz hn hN l0 l2 hp rfl hfr hlo) (fun P a hz => hz) (fun P a v B _ hq => ?_)
  obtain ⟨L, ⟨q1, q2, q3, q4, q5, t, kb, q6, q7, q8, q9, q10⟩, r⟩ := hq
  subst hn hN
  exact ⟨L, ⟨q1, q2, q3, t, q6, q7, q8, q4, q5, q9, ⟨kb, q10⟩, hp, l2⟩, r⟩
end OwnStr
theorem own_not_zero {t : Term} {z : Int32} {args : Array Value} {Z : State} (h : (Jvm.Cond.not (.eq t (.int 0))).value args Z none Z [] = some true) (e : t.eval args Z none [] Z = some (.int z)) : ¬ z = 0 := fun q => by
  have h1 := not_v h
  subst q
  simp [Jvm.Cond.value, e, Term.eval] at h1
theorem own_pn_0 : plainName "java/lang/Record" = true := by first | (simp [plainName, overriddenIn]; done) | decide +kernel
theorem own_d_jdk_30_method_1_code_0 : decode jdk_30_method_1_code 0 = .ok (.aload_n 0, 1) := by decide +kernel
theorem own_d_jdk_30_method_1_code_1 : decode jdk_30_method_1_code 1 = .ok (.invokespecial 1, 3) := by decide +kernel
theorem own_d_jdk_30_method_1_code_4 : decode jdk_30_method_1_code 4 = .ok (.return_, 1) := by decide +kernel
theorem own_pn_1 : plainName site_104.cls = true := by first | (simp [plainName, overriddenIn]; done) | decide +kernel
theorem own_d_prog_25_method_1_code_0 : decode prog_25_method_1_code 0 = .ok (.aload_n 0, 1) := by decide +kernel
theorem own_d_prog_25_method_1_code_1 : decode prog_25_method_1_code 1 = .ok (.invokespecial 1, 3) := by decide +kernel
theorem own_pd__28_29V : parseMethodDescriptor "()V" = some ⟨[], none⟩ := by decide +kernel
theorem own_d_prog_25_method_1_code_4 : decode prog_25_method_1_code 4 = .ok (.aload_n 0, 1) := by decide +kernel
theorem own_d_prog_25_method_1_code_5 : decode prog_25_method_1_code 5 = .ok (.aload_n 1, 1) := by decide +kernel
theorem own_d_prog_25_method_1_code_6 : decode prog_25_method_1_code 6 = .ok (.putfield 7, 3) := by decide +kernel
theorem own_d_prog_25_method_1_code_9 : decode prog_25_method_1_code 9 = .ok (.aload_n 0, 1) := by decide +kernel
theorem own_d_prog_25_method_1_code_10 : decode prog_25_method_1_code 10 = .ok (.aload_n 2, 1) := by decide +kernel
theorem own_d_prog_25_method_1_code_11 : decode prog_25_method_1_code 11 = .ok (.putfield 13, 3) := by decide +kernel
theorem own_d_prog_25_method_1_code_14 : decode prog_25_method_1_code 14 = .ok (.return_, 1) := by decide +kernel
theorem own_d_prog_25_method_2_code_0 : decode prog_25_method_2_code 0 = .ok (.aload_n 0, 1) := by decide +kernel
theorem own_d_prog_25_method_2_code_1 : decode prog_25_method_2_code 1 = .ok (.getfield 13, 3) := by decide +kernel
theorem own_d_prog_25_method_2_code_4 : decode prog_25_method_2_code 4 = .ok (.ifnonnull 7, 3) := by decide +kernel
theorem own_d_prog_25_method_2_code_7 : decode prog_25_method_2_code 7 = .ok (.iconst 1, 1) := by decide +kernel
theorem own_d_prog_25_method_2_code_8 : decode prog_25_method_2_code 8 = .ok (.goto 4, 3) := by decide +kernel
theorem own_d_prog_25_method_2_code_12 : decode prog_25_method_2_code 12 = .ok (.ireturn, 1) := by decide +kernel
theorem own_d_prog_25_method_2_code_11 : decode prog_25_method_2_code 11 = .ok (.iconst 0, 1) := by decide +kernel
theorem own_pn_2 : plainName "com/example/scholion/scholion/store/StoredAnnotationDeletedPinLaw" = true := by first | (simp [plainName, overriddenIn]; done) | decide +kernel
theorem own_pd__28Ljava_2flang_2fString_3b_5bB_29V : parseMethodDescriptor "(Ljava/lang/String;[B)V" = some ⟨[(.object "java/lang/String"), (.array .byte)], none⟩ := by decide +kernel
theorem own_pd__28_29Z : parseMethodDescriptor "()Z" = some ⟨[], some .boolean⟩ := by decide +kernel
theorem own_pd__28_5bC_29V : parseMethodDescriptor "([C)V" = some ⟨[(.array .char)], none⟩ := by decide +kernel
theorem own_ef1 (m : MethodId) (x0 : Addr) : entryFrame m #[(.ref x0)] 1 = mkF m 0 #[.val (.ref x0)] [] := by first | (simp [entryFrame, mkF, argsToLocals, Value.category]; done) | rfl
def Q1 (Z : State) (b : Addr) (h0 : Heap) (n0 : Nat) (v : Option Value) (h : Heap) (L : List Loc) : Prop := v = none ∧ Fr n0 L ∧ h = h0
set_option maxRecDepth 65536 in
set_option maxHeartbeats 40000000 in
theorem rm1 (l : Launch) (Z : State) (a0 : Array Value) (hw : ∀ d ∈ tables_1, d.before a0 Z = true) (ws : List Jvm.Cond) (b : Addr) (h0 : Heap) (n0 : Nat) (O0 : Old Z n0 h0) :
    MetFree l (⟨"java/lang/Record", "<init>", "()V"⟩ : MethodName) (head1 (Jvm.Cond.code (⟨"java/lang/Record", "<init>", "()V"⟩ : MethodName) jdk_30_method_1_code 1 none :: ws) ({ frames := 1, cells := 0, slots := 0, locals := 12 } : Room)) (fun a U => a = #[(.ref b)] ∧ Z.Warmed39 U.vm ∧ U.heap = h0) (fun _ _ _ _ _ => True) (fun _ U o U' => ∃ v L, o = .returned v ∧ (Q1 Z b h0 n0) v U'.heap L ∧ FrameEnd U o U' L ({ frames := 1, cells := 0, slots := 0, locals := 12 } : Room).cells ({ frames := 1, cells := 0, slots := 0, locals := 12 } : Room).slots) := by
  refine MetFree.of_bodySF (plainFor_of_name own_pn_0) hisR ?_
  intro p e s m args below meth c s₁ Bd hml0 hP hK
  obtain ⟨rfl, hZ, hh⟩ := hP
  have hx := Bd.exec
  have hby := Bd.bytes
  have hml : c.maxLocals = 1 := hml0
  have hown0 := findClass_of_methodNamed Bd.named
  have hown : s.vm.findClass "java/lang/Record" = some m.cls := hown0
  have hnm := (name_of_methodNamed Bd.named Bd.method).1
  have hlk : meth.locks = false := BodyLoose.notSynchronized Bd
  have X0 : Stand p l e ({ frames := 1, cells := 0, slots := 0, locals := 12 } : Room) s m #[(.ref b)] below meth c s₁ [] 0 0 := Stand.of_body Bd
  have e0 : s₁.heap = h0 := by rw [← hh, Bd.state]; rfl
  have N0 := Fr.nil n0
  show own_G p e below (own_E s (Q1 Z b h0 n0) ({ frames := 1, cells := 0, slots := 0, locals := 12 } : Room).cells ({ frames := 1, cells := 0, slots := 0, locals := 12 } : Room).slots) s₁ (entryFrame m #[(.ref b)] 1)
  rw [own_ef1]
  refine own_aloadN (q := 0) X0 hx (hb hby own_d_jdk_30_method_1_code_0) rfl rfl ?_
  obtain ⟨T1, X1, e1, st1⟩ := initO X0 hx hZ hown (hw _ (List.mem_of_getElem? (i := 42) rfl)) (hw _ (List.mem_of_getElem? (i := 13) rfl)) (hw _ (List.mem_of_getElem? (i := 14) rfl)) e0 (g := (mkF m 1 #[.val (.ref b)] [(.ref b)])) rfl (by rw [hml]; rfl) rfl (hb hby own_d_jdk_30_method_1_code_1) (by decide) (W := 0) (by show 2 * 0 + _ ≤ _; exact Nat.le_of_eq rfl) (by decide)
  refine own_st st1 ?_
  show own_G p e below _ T1 (mkF m 4 #[.val (.ref b)] [])
  exact own_retV (q := 4) X1 hx Bd.returns hlk (hb hby own_d_jdk_30_method_1_code_4) (by decide) (by decide) (by show Q1 Z b h0 n0 _ T1.heap _; rw [e1]; exact ⟨rfl, N0, rfl⟩)
theorem own_ef2 (m : MethodId) (x0 : Addr) (x1 : Value) (x2 : Value) (hx1 : x1.isRef = true) (hx2 : x2.isRef = true) : entryFrame m #[(.ref x0), x1, x2] 3 = mkF m 0 #[.val (.ref x0), .val x1, .val x2] [] := by rcases ref_cases hx1 with rfl | ⟨_, rfl⟩ <;> rcases ref_cases hx2 with rfl | ⟨_, rfl⟩ <;> first | (simp [entryFrame, mkF, argsToLocals, Value.category]; done) | rfl
def Q2 (Z : State) (b : Addr) (v1 : Value) (v2 : Value) (h0 : Heap) (n0 : Nat) (v : Option Value) (h : Heap) (L : List Loc) : Prop := v = none ∧ Fr n0 L ∧ Keep h0 h [b] ∧ Exa Z h b site_104.cls ∧ Fld Z h b site_104.cls "json" "[B" v2
set_option maxRecDepth 65536 in
set_option maxHeartbeats 40000000 in
theorem rm2 (l : Launch) (Z : State) (a0 : Array Value) (hw : ∀ d ∈ tables_1, d.before a0 Z = true) (ws : List Jvm.Cond) (b : Addr) (v1 : Value) (v2 : Value) (h0 : Heap) (n0 : Nat) (O0 : Old Z n0 h0) (hv1 : v1.isRef = true) (hv2 : v2.isRef = true) (E_b : Exa Z h0 b site_104.cls) (F_n : Fld Z h0 b site_104.cls "name" "Ljava/lang/String;" .null) (F_j : Fld Z h0 b site_104.cls "json" "[B" .null) (g_b : n0 ≤ b) :
    MetFree l (⟨site_104.cls, "<init>", "(Ljava/lang/String;[B)V"⟩ : MethodName) (head1 (Jvm.Cond.code (⟨site_104.cls, "<init>", "(Ljava/lang/String;[B)V"⟩ : MethodName) prog_25_method_1_code 3 none :: ws) ({ frames := 2, cells := 0, slots := 0, locals := 24 } : Room)) (fun a U => a = #[(.ref b), v1, v2] ∧ Z.Warmed39 U.vm ∧ U.heap = h0) (fun _ _ _ _ _ => True) (fun _ U o U' => ∃ v L, o = .returned v ∧ (Q2 Z b v1 v2 h0 n0) v U'.heap L ∧ FrameEnd U o U' L ({ frames := 2, cells := 0, slots := 0, locals := 24 } : Room).cells ({ frames := 2, cells := 0, slots := 0, locals := 24 } : Room).slots) := by
  refine MetFree.of_bodySF (plainFor_of_name own_pn_1) hisR ?_
  intro p e s m args below meth c s₁ Bd hml0 hP hK
  obtain ⟨rfl, hZ, hh⟩ := hP
  have hx := Bd.exec
  have hby := Bd.bytes
  have hml : c.maxLocals = 3 := hml0
  have hown0 := findClass_of_methodNamed Bd.named
  have hown : s.vm.findClass site_104.cls = some m.cls := hown0
  have hnm := (name_of_methodNamed Bd.named Bd.method).1
  have hlk : meth.locks = false := BodyLoose.notSynchronized Bd
  have X0 : Stand p l e ({ frames := 2, cells := 0, slots := 0, locals := 24 } : Room) s m #[(.ref b), v1, v2] below meth c s₁ [] 0 0 := Stand.of_body Bd
  have e0 : s₁.heap = h0 := by rw [← hh, Bd.state]; rfl
  have N0 := Fr.nil n0
  show own_G p e below (own_E s (Q2 Z b v1 v2 h0 n0) ({ frames := 2, cells := 0, slots := 0, locals := 24 } : Room).cells ({ frames := 2, cells := 0, slots := 0, locals := 24 } : Room).slots) s₁ (entryFrame m #[(.ref b), v1, v2] 3)
  rw [own_ef2 _ b v1 v2 hv1 hv2]
  refine own_aloadN (q := 0) X0 hx (hb hby own_d_prog_25_method_1_code_0) rfl rfl ?_
  refine own_init (q := 1) (y := (⟨"java/lang/Record", "<init>", "()V"⟩ : MethodName)) (b := b) (argsL := []) (S := []) (W := 0) rfl X0 hx hZ hown (hw _ (List.mem_of_getElem? (i := 37) rfl)) (hw _ (List.mem_of_getElem? (i := 38) rfl)) (hw _ (List.mem_of_getElem? (i := 41) rfl)) (by decide) (backOf (W := 0) (rm1 l Z a0 hw [] b h0 n0 O0) hZ (hw _ (List.mem_of_getElem? (i := 41) rfl)) (hw _ (List.mem_of_getElem? (i := 40) rfl)) (by decide) (by decide)) e0 (by rw [hml]; rfl) (lenOf own_pd__28_29V rfl) rfl (Nat.le_of_eq rfl) (hb hby own_d_prog_25_method_1_code_1) (by decide) (by decide) (fun T1 L1 v1 X1 hQ1 => ?_)
  obtain ⟨rfl, N1q, hh1⟩ := hQ1
  have N1 := Fr.app N0 N1q
  show own_G p e below _ T1 (mkF m 4 #[.val (.ref b), .val v1, .val v2] [])
  refine own_aloadN (q := 4) X1 hx (hb hby own_d_prog_25_method_1_code_4) rfl rfl ?_
  refine own_aloadN (q := 5) X1 hx (hb hby own_d_prog_25_method_1_code_5) rfl hv1 ?_
  obtain ⟨T2, h2, X2, e2, W2, st2⟩ := putF X1 hx hZ hown (host := "") (Or.inl (hw _ (List.mem_of_getElem? (i := 43) rfl))) Via.refl hh1 F_n E_b (Or.inr ⟨(hw _ (List.mem_of_getElem? (i := 44) rfl)), rfl, hnm⟩) (hw _ (List.mem_of_getElem? (i := 32) rfl)) (ty := (.object "java/lang/String")) (by decide) rfl (own_fitR rfl hv1) (g := (mkF m 6 #[.val (.ref b), .val v1, .val v2] [v1, (.ref b)])) rfl rfl (hb hby own_d_prog_25_method_1_code_6)
  refine own_st st2 ?_
  have F2 := Fld.same W2 F_n
  have N2 := Fr.snoc X2 N1 g_b
  have O2 := Old.wr O0 W2 g_b
  show own_G p e below _ T2 (mkF m 9 #[.val (.ref b), .val v1, .val v2] [])
  refine own_aloadN (q := 9) X2 hx (hb hby own_d_prog_25_method_1_code_9) rfl rfl ?_
  refine own_aloadN (q := 10) X2 hx (hb hby own_d_prog_25_method_1_code_10) rfl hv2 ?_
  have c3 := (Exa.wr W2 E_b)
  have c4 := (Fld.other W2 F_j (Or.inr (slot_ne (Or.inr (hw _ (List.mem_of_getElem? (i := 46) rfl))) (Or.inr (hw _ (List.mem_of_getElem? (i := 44) rfl))) (by decide) (t := (.array .byte)) (t' := (.object "java/lang/String")) (by decide) (by decide))))
  obtain ⟨T5, h5, X5, e5, W5, st5⟩ := putF X2 hx hZ hown (host := "") (Or.inl (hw _ (List.mem_of_getElem? (i := 45) rfl))) Via.refl e2 c4 c3 (Or.inr ⟨(hw _ (List.mem_of_getElem? (i := 46) rfl)), rfl, hnm⟩) (hw _ (List.mem_of_getElem? (i := 32) rfl)) (ty := (.array .byte)) (by decide) rfl (own_fitR rfl hv2) (g := (mkF m 11 #[.val (.ref b), .val v1, .val v2] [v2, (.ref b)])) rfl rfl (hb hby own_d_prog_25_method_1_code_11)
  refine own_st st5 ?_
  have F5 := Fld.same W5 c4
  have N5 := Fr.snoc X5 N2 g_b
  have O5 := Old.wr O2 W5 g_b
  show own_G p e below _ T5 (mkF m 14 #[.val (.ref b), .val v1, .val v2] [])
  have kp6 := Keep.wr (Keep.refl h0 [b]) W2 (Or.inl (List.mem_of_getElem? (i := 0) rfl))
  have kp7 := Keep.wr kp6 W5 (Or.inl (List.mem_of_getElem? (i := 0) rfl))
  have c8 := (Exa.wr W5 c3)
  exact own_retV (q := 14) X5 hx Bd.returns hlk (hb hby own_d_prog_25_method_1_code_14) (by decide) (by decide) (by show Q2 Z b v1 v2 h0 n0 _ T5.heap _; rw [e5]; exact ⟨rfl, N5, kp7, c8, F5⟩)
theorem own_ef3n (m : MethodId) (x0 : Addr) : entryFrame m #[(.ref x0)] 1 = mkF m 0 #[.val (.ref x0)] [] := by first | (simp [entryFrame, mkF, argsToLocals, Value.category]; done) | rfl
def Q3n (Z : State) (b : Addr) (h0 : Heap) (n0 : Nat) (v : Option Value) (h : Heap) (L : List Loc) : Prop := v = some (.int 1) ∧ Fr n0 L ∧ h = h0
set_option maxRecDepth 65536 in
set_option maxHeartbeats 40000000 in
theorem rm3n (l : Launch) (Z : State) (a0 : Array Value) (hw : ∀ d ∈ tables_1, d.before a0 Z = true) (ws : List Jvm.Cond) (b : Addr) (h0 : Heap) (n0 : Nat) (O0 : Old Z n0 h0) (F_j : Fld Z h0 b site_104.cls "json" "[B" .null) :
    MetFree l (⟨site_104.cls, "deleted", "()Z"⟩ : MethodName) (head1 (Jvm.Cond.code (⟨site_104.cls, "deleted", "()Z"⟩ : MethodName) prog_25_method_2_code 1 (some .boolean) :: ws) ({ frames := 0, cells := 0, slots := 0, locals := 0 } : Room)) (fun a U => a = #[(.ref b)] ∧ Z.Warmed39 U.vm ∧ U.heap = h0) (fun _ _ _ _ _ => True) (fun _ U o U' => ∃ v L, o = .returned v ∧ (Q3n Z b h0 n0) v U'.heap L ∧ FrameEnd U o U' L ({ frames := 0, cells := 0, slots := 0, locals := 0 } : Room).cells ({ frames := 0, cells := 0, slots := 0, locals := 0 } : Room).slots) := by
  refine MetFree.of_bodySF (plainFor_of_name own_pn_1) hisR ?_
  intro p e s m args below meth c s₁ Bd hml0 hP hK
  obtain ⟨rfl, hZ, hh⟩ := hP
  have hx := Bd.exec
  have hby := Bd.bytes
  have hml : c.maxLocals = 1 := hml0
  have hown0 := findClass_of_methodNamed Bd.named
  have hown : s.vm.findClass site_104.cls = some m.cls := hown0
  have hnm := (name_of_methodNamed Bd.named Bd.method).1
  have hlk : meth.locks = false := BodyLoose.notSynchronized Bd
  have X0 : Stand p l e ({ frames := 0, cells := 0, slots := 0, locals := 0 } : Room) s m #[(.ref b)] below meth c s₁ [] 0 0 := Stand.of_body Bd
  have e0 : s₁.heap = h0 := by rw [← hh, Bd.state]; rfl
  have N0 := Fr.nil n0
  show own_G p e below (own_E s (Q3n Z b h0 n0) ({ frames := 0, cells := 0, slots := 0, locals := 0 } : Room).cells ({ frames := 0, cells := 0, slots := 0, locals := 0 } : Room).slots) s₁ (entryFrame m #[(.ref b)] 1)
  rw [own_ef3n]
  refine own_aloadN (q := 0) X0 hx (hb hby own_d_prog_25_method_2_code_0) rfl rfl ?_
  obtain ⟨T1, X1, e1, st1⟩ := getF X0 hx hZ hown (host := "") (Or.inl (hw _ (List.mem_of_getElem? (i := 45) rfl))) Via.refl e0 F_j (g := (mkF m 1 #[.val (.ref b)] [(.ref b)])) rfl rfl (hb hby own_d_prog_25_method_2_code_1)
  refine own_st st1 ?_
  show own_G p e below _ T1 (mkF m 4 #[.val (.ref b)] [.null])
  refine own_nonnullN (q := 4) X1 hx (hb hby own_d_prog_25_method_2_code_4) ?_
  refine own_iconst (q := 7) X1 hx (hb hby own_d_prog_25_method_2_code_7) (x := (1 : Int32)) rfl ?_
  refine own_goto (t := 12) (q := 8) X1 hx (hb hby own_d_prog_25_method_2_code_8) (by decide) (by decide) ?_
  exact own_retN (q := 12) X1 hx (t := .boolean) Bd.returns hlk (by simp) (hb hby own_d_prog_25_method_2_code_12) rfl (by decide) (by decide) (by show Q3n Z b h0 n0 _ T1.heap _; rw [e1]; exact ⟨rfl, N0, rfl⟩)
theorem own_ef3r (m : MethodId) (x0 : Addr) : entryFrame m #[(.ref x0)] 1 = mkF m 0 #[.val (.ref x0)] [] := by first | (simp [entryFrame, mkF, argsToLocals, Value.category]; done) | rfl
def Q3r (Z : State) (b : Addr) (j : Addr) (h0 : Heap) (n0 : Nat) (v : Option Value) (h : Heap) (L : List Loc) : Prop := v = some (.int 0) ∧ Fr n0 L ∧ h = h0
set_option maxRecDepth 65536 in
set_option maxHeartbeats 40000000 in
theorem rm3r (l : Launch) (Z : State) (a0 : Array Value) (hw : ∀ d ∈ tables_1, d.before a0 Z = true) (ws : List Jvm.Cond) (b : Addr) (j : Addr) (h0 : Heap) (n0 : Nat) (O0 : Old Z n0 h0) (F_j : Fld Z h0 b site_104.cls "json" "[B" (.ref j)) :
    MetFree l (⟨site_104.cls, "deleted", "()Z"⟩ : MethodName) (head1 (Jvm.Cond.code (⟨site_104.cls, "deleted", "()Z"⟩ : MethodName) prog_25_method_2_code 1 (some .boolean) :: ws) ({ frames := 0, cells := 0, slots := 0, locals := 0 } : Room)) (fun a U => a = #[(.ref b)] ∧ Z.Warmed39 U.vm ∧ U.heap = h0) (fun _ _ _ _ _ => True) (fun _ U o U' => ∃ v L, o = .returned v ∧ (Q3r Z b j h0 n0) v U'.heap L ∧ FrameEnd U o U' L ({ frames := 0, cells := 0, slots := 0, locals := 0 } : Room).cells ({ frames := 0, cells := 0, slots := 0, locals := 0 } : Room).slots) := by
  refine MetFree.of_bodySF (plainFor_of_name own_pn_1) hisR ?_
  intro p e s m args below meth c s₁ Bd hml0 hP hK
  obtain ⟨rfl, hZ, hh⟩ := hP
  have hx := Bd.exec
  have hby := Bd.bytes
  have hml : c.maxLocals = 1 := hml0
  have hown0 := findClass_of_methodNamed Bd.named
  have hown : s.vm.findClass site_104.cls = some m.cls := hown0
  have hnm := (name_of_methodNamed Bd.named Bd.method).1
  have hlk : meth.locks = false := BodyLoose.notSynchronized Bd
  have X0 : Stand p l e ({ frames := 0, cells := 0, slots := 0, locals := 0 } : Room) s m #[(.ref b)] below meth c s₁ [] 0 0 := Stand.of_body Bd
  have e0 : s₁.heap = h0 := by rw [← hh, Bd.state]; rfl
  have N0 := Fr.nil n0
  show own_G p e below (own_E s (Q3r Z b j h0 n0) ({ frames := 0, cells := 0, slots := 0, locals := 0 } : Room).cells ({ frames := 0, cells := 0, slots := 0, locals := 0 } : Room).slots) s₁ (entryFrame m #[(.ref b)] 1)
  rw [own_ef3r]
  refine own_aloadN (q := 0) X0 hx (hb hby own_d_prog_25_method_2_code_0) rfl rfl ?_
  obtain ⟨T1, X1, e1, st1⟩ := getF X0 hx hZ hown (host := "") (Or.inl (hw _ (List.mem_of_getElem? (i := 45) rfl))) Via.refl e0 F_j (g := (mkF m 1 #[.val (.ref b)] [(.ref b)])) rfl rfl (hb hby own_d_prog_25_method_2_code_1)
  refine own_st st1 ?_
  show own_G p e below _ T1 (mkF m 4 #[.val (.ref b)] [(.ref j)])
  refine own_nonnullY (t := 11) (q := 4) X1 hx (hb hby own_d_prog_25_method_2_code_4) (by decide) (by decide) ?_
  refine own_iconst (q := 11) X1 hx (hb hby own_d_prog_25_method_2_code_11) (x := (0 : Int32)) rfl ?_
  exact own_retN (q := 12) X1 hx (t := .boolean) Bd.returns hlk (by simp) (hb hby own_d_prog_25_method_2_code_12) rfl (by decide) (by decide) (by show Q3r Z b j h0 n0 _ T1.heap _; rw [e1]; exact ⟨rfl, N0, rfl⟩)
theorem own_ef0 (m : MethodId) (x0 : Int32) (x1 : Int32) (x2 : Int32) (x3 : Int32) : entryFrame m #[(.int x0), (.int x1), (.int x2), (.int x3)] maxLocals = mkF m 0 #[.val (.int x0), .val (.int x1), .val (.int x2), .val (.int x3), .unset, .unset, .unset, .unset, .unset, .unset, .unset, .unset] [] := by first | (simp [entryFrame, mkF, argsToLocals, Value.category, maxLocals]; done) | rfl
def Q0 (Z : State) (kind : Int32) (nk : Int32) (by0 : Int32) (by1 : Int32) (zCOMPACT : Int32) (h0 : Heap) (n0 : Nat) (v : Option Value) (h : Heap) (L : List Loc) : Prop := v = some (.int 1) ∧ Fr n0 L
set_option maxRecDepth 65536 in
set_option maxHeartbeats 40000000 in
theorem rm0 (l : Launch) (Z : State) (a0 : Array Value) (hw : ∀ d ∈ tables_1, d.before a0 Z = true) (ws : List Jvm.Cond) (kind : Int32) (nk : Int32) (by0 : Int32) (by1 : Int32) (zCOMPACT : Int32) (h0 : Heap) (n0 : Nat) (O0 : Old Z n0 h0) (SCOMPACT : Sta Z Z.heap "java/lang/String" "COMPACT_STRINGS" "Z" (.int zCOMPACT)) (hCOMPACT : ¬ zCOMPACT = 0) :
    MetFree l x (head1 (Jvm.Cond.code x code maxLocals ret :: ws) room_1) (fun a U => a = #[(.int kind), (.int nk), (.int by0), (.int by1)] ∧ Z.Warmed39 U.vm ∧ U.heap = h0) (fun _ _ _ _ _ => True) (fun _ U o U' => ∃ v L, o = .returned v ∧ (Q0 Z kind nk by0 by1 zCOMPACT h0 n0) v U'.heap L ∧ FrameEnd U o U' L room_1.cells room_1.slots) := by
  refine MetFree.of_bodySF (plainFor_of_name own_pn_2) hisR ?_
  intro p e s m args below meth c s₁ Bd hml0 hP hK
  obtain ⟨rfl, hZ, hh⟩ := hP
  have hx := Bd.exec
  have hby := Bd.bytes
  have hml : c.maxLocals = 12 := hml0
  have hown0 := findClass_of_methodNamed Bd.named
  have hown : s.vm.findClass "com/example/scholion/scholion/store/StoredAnnotationDeletedPinLaw" = some m.cls := hown0
  have hnm := (name_of_methodNamed Bd.named Bd.method).1
  have hlk : meth.locks = false := BodyLoose.notSynchronized Bd
  have X0 : Stand p l e room_1 s m #[(.int kind), (.int nk), (.int by0), (.int by1)] below meth c s₁ [] 0 0 := Stand.of_body Bd
  have e0 : s₁.heap = h0 := by rw [← hh, Bd.state]; rfl
  have N0 := Fr.nil n0
  show own_G p e below (own_E s (Q0 Z kind nk by0 by1 zCOMPACT h0 n0) room_1.cells room_1.slots) s₁ (entryFrame m #[(.int kind), (.int nk), (.int by0), (.int by1)] maxLocals)
  rw [own_ef0]
  refine own_iconst (q := 0) X0 hx (hb hby at_0) (x := (0 : Int32)) rfl ?_
  obtain ⟨T1, h1, k1, X1, e1, E1, A1, st1⟩ := newP X0 hx hZ (hw _ (List.mem_of_getElem? (i := 0) rfl)) e0 (g := (mkF m 1 #[.val (.int kind), .val (.int nk), .val (.int by0), .val (.int by1), .unset, .unset, .unset, .unset, .unset, .unset, .unset, .unset] [(.int (0 : Int32))])) rfl (hb hby at_1) rfl (by decide) (cap := 0) (by decide) (by decide) (by decide) (by decide)
  obtain ⟨b1, gg1⟩ : ∃ z, z = h0.size := ⟨_, rfl⟩
  rw [← gg1] at A1 st1
  refine own_st st1 ?_
  have g_b1 : n0 ≤ b1 := by rw [gg1, ← O0.1]; exact O0.2.1
  have O1 := Old.ext O0 E1
  have V1 : Arv Z h1 b1 k1 .byte (0 : Int32) [] (.int (0 : Int32)) := Arv.new A1 (by decide)
  show own_G p e below _ T1 (mkF m 3 #[.val (.int kind), .val (.int nk), .val (.int by0), .val (.int by1), .unset, .unset, .unset, .unset, .unset, .unset, .unset, .unset] [(.ref b1)])
  refine own_astore (q := 3) X1 hx (hb hby at_3) rfl (A' := #[.val (.int kind), .val (.int nk), .val (.int by0), .val (.int by1), .val (.ref b1), .unset, .unset, .unset, .unset, .unset, .unset, .unset]) rfl ?_
  refine own_iconst (q := 5) X1 hx (hb hby at_5) (x := (2 : Int32)) rfl ?_
  obtain ⟨T2, h2, k2, X2, e2, E2, A2, st2⟩ := newP X1 hx hZ (hw _ (List.mem_of_getElem? (i := 0) rfl)) e1 (g := (mkF m 6 #[.val (.int kind), .val (.int nk), .val (.int by0), .val (.int by1), .val (.ref b1), .unset, .unset, .unset, .unset, .unset, .unset, .unset] [(.int (2 : Int32))])) rfl (hb hby at_6) rfl (by decide) (cap := 2) (by decide) (by decide) (by decide) (by decide)
  obtain ⟨b2, gg2⟩ : ∃ z, z = h1.size := ⟨_, rfl⟩
  rw [← gg2] at A2 st2
  refine own_st st2 ?_
  have g_b2 : n0 ≤ b2 := by rw [gg2, ← O1.1]; exact O1.2.1
  have O2 := Old.ext O1 E2
  have V2 : Arv Z h2 b2 k2 .byte (2 : Int32) [(.int (0 : Int32)), (.int (0 : Int32))] (.int (0 : Int32)) := (Arv.new A2 (by decide)).pad (pad_rep [] (.int (0 : Int32)) 2)
  show own_G p e below _ T2 (mkF m 8 #[.val (.int kind), .val (.int nk), .val (.int by0), .val (.int by1), .val (.ref b1), .unset, .unset, .unset, .unset, .unset, .unset, .unset] [(.ref b2)])
  refine own_astore (q := 8) X2 hx (hb hby at_8) rfl (A' := #[.val (.int kind), .val (.int nk), .val (.int by0), .val (.int by1), .val (.ref b1), .val (.ref b2), .unset, .unset, .unset, .unset, .unset, .unset]) rfl ?_
  refine own_aload (q := 10) X2 hx (hb hby at_10) rfl rfl ?_
  refine own_iconst (q := 12) X2 hx (hb hby at_12) (x := (0 : Int32)) rfl ?_
  refine own_iloadN (q := 13) X2 hx (hb hby at_13) rfl ?_
  refine own_i2b (q := 14) X2 hx (hb hby at_14) ?_
  obtain ⟨cl3, Ar3, Aq3, As3, An3, Ah3, Ag3⟩ := V2
  obtain ⟨T4, h4, X4, e4, W4, st4⟩ := stB X2 hx hZ e2 Ar3 (j := (0 : Int32)) (inb_of As3 ⟨by decide, by decide⟩) (g := (mkF m 15 #[.val (.int kind), .val (.int nk), .val (.int by0), .val (.int by1), .val (.ref b1), .val (.ref b2), .unset, .unset, .unset, .unset, .unset, .unset] [(.int ((by0).toInt8.toInt32)), (.int (0 : Int32)), (.ref b2)])) rfl rfl (hb hby at_15)
  refine own_st st4 ?_
  have V4 : Arv Z h4 b2 k2 .byte (2 : Int32) [(.int (nar .byte ((by0).toInt8.toInt32))), (.int (0 : Int32))] (.int (0 : Int32)) := Arv.set Ar3 Aq3 As3 An3 Ah3 Ag3 (fits_nar_byte _) W4 0 rfl (Nat.le_of_ble_eq_true rfl)
  have N4 := Fr.snoc X4 N0 g_b2
  have O4 := Old.wr O2 W4 g_b2
  show own_G p e below _ T4 (mkF m 16 #[.val (.int kind), .val (.int nk), .val (.int by0), .val (.int by1), .val (.ref b1), .val (.ref b2), .unset, .unset, .unset, .unset, .unset, .unset] [])
  refine own_aload (q := 16) X4 hx (hb hby at_16) rfl rfl ?_
  refine own_iconst (q := 18) X4 hx (hb hby at_18) (x := (1 : Int32)) rfl ?_
  refine own_iloadN (q := 19) X4 hx (hb hby at_19) rfl ?_
  refine own_i2b (q := 20) X4 hx (hb hby at_20) ?_
  obtain ⟨cl5, Ar5, Aq5, As5, An5, Ah5, Ag5⟩ := V4
  obtain ⟨T6, h6, X6, e6, W6, st6⟩ := stB X4 hx hZ e4 Ar5 (j := (1 : Int32)) (inb_of As5 ⟨by decide, by decide⟩) (g := (mkF m 21 #[.val (.int kind), .val (.int nk), .val (.int by0), .val (.int by1), .val (.ref b1), .val (.ref b2), .unset, .unset, .unset, .unset, .unset, .unset] [(.int ((by1).toInt8.toInt32)), (.int (1 : Int32)), (.ref b2)])) rfl rfl (hb hby at_21)
  refine own_st st6 ?_
  have V6 : Arv Z h6 b2 k2 .byte (2 : Int32) [(.int (nar .byte ((by0).toInt8.toInt32))), (.int (nar .byte ((by1).toInt8.toInt32)))] (.int (0 : Int32)) := Arv.set Ar5 Aq5 As5 An5 Ah5 Ag5 (fits_nar_byte _) W6 1 rfl (Nat.le_of_ble_eq_true rfl)
  have N6 := Fr.snoc X6 N4 g_b2
  have O6 := Old.wr O4 W6 g_b2
  show own_G p e below _ T6 (mkF m 22 #[.val (.int kind), .val (.int nk), .val (.int by0), .val (.int by1), .val (.ref b1), .val (.ref b2), .unset, .unset, .unset, .unset, .unset, .unset] [])
  refine own_iconst (q := 22) X6 hx (hb hby at_22) (x := (1 : Int32)) rfl ?_
  obtain ⟨T7, h7, k7, X7, e7, E7, A7, st7⟩ := newP X6 hx hZ (hw _ (List.mem_of_getElem? (i := 1) rfl)) e6 (g := (mkF m 23 #[.val (.int kind), .val (.int nk), .val (.int by0), .val (.int by1), .val (.ref b1), .val (.ref b2), .unset, .unset, .unset, .unset, .unset, .unset] [(.int (1 : Int32))])) rfl (hb hby at_23) rfl (by decide) (cap := 1) (by decide) (by decide) (by decide) (by decide)
  obtain ⟨b7, gg7⟩ : ∃ z, z = h6.size := ⟨_, rfl⟩
  rw [← gg7] at A7 st7
  refine own_st st7 ?_
  have g_b7 : n0 ≤ b7 := by rw [gg7, ← O6.1]; exact O6.2.1
  have O7 := Old.ext O6 E7
  have V7 : Arv Z h7 b7 k7 .char (1 : Int32) [(.int (0 : Int32))] (.int (0 : Int32)) := (Arv.new A7 (by decide)).pad (pad_rep [] (.int (0 : Int32)) 1)
  show own_G p e below _ T7 (mkF m 25 #[.val (.int kind), .val (.int nk), .val (.int by0), .val (.int by1), .val (.ref b1), .val (.ref b2), .unset, .unset, .unset, .unset, .unset, .unset] [(.ref b7)])
  refine own_astore (q := 25) X7 hx (hb hby at_25) rfl (A' := #[.val (.int kind), .val (.int nk), .val (.int by0), .val (.int by1), .val (.ref b1), .val (.ref b2), .val (.ref b7), .unset, .unset, .unset, .unset, .unset]) rfl ?_
  refine own_aload (q := 27) X7 hx (hb hby at_27) rfl rfl ?_
  refine own_iconst (q := 29) X7 hx (hb hby at_29) (x := (0 : Int32)) rfl ?_
  refine own_iloadN (q := 30) X7 hx (hb hby at_30) rfl ?_
  refine own_iconst (q := 31) X7 hx (hb hby at_31) (x := (1 : Int32)) rfl ?_
  refine own_iushr (q := 32) X7 hx (hb hby at_32) ?_
  refine own_sipush (q := 33) X7 hx (hb hby at_33) (x := (255 : Int32)) rfl ?_
  refine own_iand (q := 36) X7 hx (hb hby at_36) ?_
  refine own_i2c (q := 37) X7 hx (hb hby at_37) ?_
  obtain ⟨c0, e_c0, f_c0, n_c0, l_c0, u_c0⟩ := own_chr (XT.ushr nk (1 : Int32))
  rw [f_c0]
  obtain ⟨cl8, Ar8, Aq8, As8, An8, Ah8, Ag8⟩ := V7
  obtain ⟨T9, h9, X9, e9, W9, st9⟩ := stC X7 hx hZ e7 Ar8 (j := (0 : Int32)) (inb_of As8 ⟨by decide, by decide⟩) (g := (mkF m 38 #[.val (.int kind), .val (.int nk), .val (.int by0), .val (.int by1), .val (.ref b1), .val (.ref b2), .val (.ref b7), .unset, .unset, .unset, .unset, .unset] [(.int c0), (.int (0 : Int32)), (.ref b7)])) rfl rfl (hb hby at_38)
  refine own_st st9 ?_
  have V9 : Arv Z h9 b7 k7 .char (1 : Int32) [(.int (nar .char c0))] (.int (0 : Int32)) := Arv.set Ar8 Aq8 As8 An8 Ah8 Ag8 (fits_nar_char _) W9 0 rfl (Nat.le_of_ble_eq_true rfl)
  rw [n_c0] at V9
  have N9 := Fr.snoc X9 N6 g_b7
  have O9 := Old.wr O7 W9 g_b7
  show own_G p e below _ T9 (mkF m 39 #[.val (.int kind), .val (.int nk), .val (.int by0), .val (.int by1), .val (.ref b1), .val (.ref b2), .val (.ref b7), .unset, .unset, .unset, .unset, .unset] [])
  refine own_iloadN (q := 39) X9 hx (hb hby at_39) rfl ?_
  refine own_iconst (q := 40) X9 hx (hb hby at_40) (x := (1 : Int32)) rfl ?_
  refine own_iand (q := 41) X9 hx (hb hby at_41) ?_
  refine own_if (t := 57) (q := 42) X9 hx (hb hby at_42) (by decide) (by decide) (fun hq => ?_) (fun hq => ?_)
  · have hc42 := own_h_eq.1 hq
    refine own_anull (q := 57) X9 hx (hb hby at_57) ?_
    refine own_astore (q := 58) X9 hx (hb hby at_58) rfl (A' := #[.val (.int kind), .val (.int nk), .val (.int by0), .val (.int by1), .val (.ref b1), .val (.ref b2), .val (.ref b7), .val .null, .unset, .unset, .unset, .unset]) rfl ?_
    refine own_iloadN (q := 60) X9 hx (hb hby at_60) rfl ?_
    refine own_st (g' := (mkF m 63 #[.val (.int kind), .val (.int nk), .val (.int by0), .val (.int by1), .val (.ref b1), .val (.ref b2), .val (.ref b7), .val .null, .unset, .unset, .unset, .unset] (.int (2147483647 : Int32) :: [(.int kind)]))) (fun _ z => X9.ldcI hx hown (mvT hZ (hw _ (List.mem_of_getElem? (i := 30) rfl))) (g := (mkF m 61 #[.val (.int kind), .val (.int nk), .val (.int by0), .val (.int by1), .val (.ref b1), .val (.ref b2), .val (.ref b7), .val .null, .unset, .unset, .unset, .unset] [(.int kind)])) rfl (hb hby at_61) z) ?_
    refine own_iand (q := 63) X9 hx (hb hby at_63) ?_
    refine own_iconst (q := 64) X9 hx (hb hby at_64) (x := (3 : Int32)) rfl ?_
    refine own_irem (q := 65) X9 hx (hb hby at_65) (by decide) ?_
    generalize (kind &&& (2147483647 : Int32)) % (3 : Int32) = k
    refine own_istore (q := 66) X9 hx (hb hby at_66) (A' := #[.val (.int kind), .val (.int nk), .val (.int by0), .val (.int by1), .val (.ref b1), .val (.ref b2), .val (.ref b7), .val .null, .val (.int k), .unset, .unset, .unset]) rfl ?_
    refine own_iload (q := 68) X9 hx (hb hby at_68) rfl ?_
    refine own_if (t := 79) (q := 70) X9 hx (hb hby at_70) (by decide) (by decide) (fun hq => ?_) (fun hq => ?_)
    · have hc70 := own_h_ne.1 hq
      refine own_iload (q := 79) X9 hx (hb hby at_79) rfl ?_
      refine own_iconst (q := 81) X9 hx (hb hby at_81) (x := (1 : Int32)) rfl ?_
      refine own_icmp (t := 92) (q := 82) X9 hx (hb hby at_82) (by decide) (by decide) (fun hq => ?_) (fun hq => ?_)
      · have hc82 := own_c_ne.1 hq
        refine own_aload (q := 92) X9 hx (hb hby at_92) rfl rfl ?_
        refine own_astore (q := 94) X9 hx (hb hby at_94) rfl (A' := #[.val (.int kind), .val (.int nk), .val (.int by0), .val (.int by1), .val (.ref b1), .val (.ref b2), .val (.ref b7), .val .null, .val (.int k), .val (.ref b2), .unset, .unset]) rfl ?_
        obtain ⟨T10, h10, X10, e10, E10, A10, D10, -, st10⟩ := newO X9 hx hZ hown (hw _ (List.mem_of_getElem? (i := 31) rfl)) (hw _ (List.mem_of_getElem? (i := 32) rfl)) (hw _ (List.mem_of_getElem? (i := 33) rfl)) e9 (g := (mkF m 96 #[.val (.int kind), .val (.int nk), .val (.int by0), .val (.int by1), .val (.ref b1), .val (.ref b2), .val (.ref b7), .val .null, .val (.int k), .val (.ref b2), .unset, .unset] [])) rfl (hb hby at_96) (by decide) (by decide)
        obtain ⟨b10, gg10⟩ : ∃ z, z = h9.size := ⟨_, rfl⟩
        rw [← gg10] at A10 D10 st10
        refine own_st st10 ?_
        have g_b10 : n0 ≤ b10 := by rw [gg10, ← O9.1]; exact O9.2.1
        have O10 := Old.ext O9 E10
        have F10_name : Fld Z h10 b10 site_104.cls "name" "Ljava/lang/String;" .null := D10 (Or.inr (hw _ (List.mem_of_getElem? (i := 44) rfl))) (ty := (.object "java/lang/String")) (by decide)
        have F10_json : Fld Z h10 b10 site_104.cls "json" "[B" .null := D10 (Or.inr (hw _ (List.mem_of_getElem? (i := 46) rfl))) (ty := (.array .byte)) (by decide)
        show own_G p e below _ T10 (mkF m 99 #[.val (.int kind), .val (.int nk), .val (.int by0), .val (.int by1), .val (.ref b1), .val (.ref b2), .val (.ref b7), .val .null, .val (.int k), .val (.ref b2), .unset, .unset] [(.ref b10)])
        refine own_dup (q := 99) X10 hx (hb hby at_99) rfl ?_
        refine own_aload (q := 100) X10 hx (hb hby at_100) rfl rfl ?_
        refine own_aload (q := 102) X10 hx (hb hby at_102) rfl rfl ?_
        refine own_init (q := 104) (y := (⟨site_104.cls, "<init>", "(Ljava/lang/String;[B)V"⟩ : MethodName)) (b := b10) (argsL := [.null, (.ref b2)]) (S := [(.ref b10)]) (W := 1) rfl X10 hx hZ hown (hw _ (List.mem_of_getElem? (i := 34) rfl)) (hw _ (List.mem_of_getElem? (i := 35) rfl)) (hw _ (List.mem_of_getElem? (i := 36) rfl)) (by decide) (backOf (W := 1) (rm2 l Z a0 hw [] b10 .null (.ref b2) h10 n0 O10 rfl rfl A10 F10_name F10_json g_b10) hZ (hw _ (List.mem_of_getElem? (i := 36) rfl)) (hw _ (List.mem_of_getElem? (i := 33) rfl)) (by decide) (by decide)) e10 (by rw [hml]; rfl) (lenOf own_pd__28Ljava_2flang_2fString_3b_5bB_29V rfl) rfl (Nat.le_of_eq rfl) (hb hby at_104) (by decide) (by decide) (fun T11 L11 v11 X11 hQ11 => ?_)
        obtain ⟨rfl, N11q, Kp11, Ex11, Fj11⟩ := hQ11
        have N11 := Fr.app N9 N11q
        have O12 := Old.keep O10 Kp11 (allS g_b10 all0)
        show own_G p e below _ T11 (mkF m 107 #[.val (.int kind), .val (.int nk), .val (.int by0), .val (.int by1), .val (.ref b1), .val (.ref b2), .val (.ref b7), .val .null, .val (.int k), .val (.ref b2), .unset, .unset] [(.ref b10)])
        refine own_astore (q := 107) X11 hx (hb hby at_107) rfl (A' := #[.val (.int kind), .val (.int nk), .val (.int by0), .val (.int by1), .val (.ref b1), .val (.ref b2), .val (.ref b7), .val .null, .val (.int k), .val (.ref b2), .val (.ref b10), .unset]) rfl ?_
        refine own_iload (q := 109) X11 hx (hb hby at_109) rfl ?_
        refine own_if (t := 118) (q := 111) X11 hx (hb hby at_111) (by decide) (by decide) (fun hq => ?_) (fun hq => ?_)
        · have hc111 := own_h_ne.1 hq
          refine own_iconst (q := 118) X11 hx (hb hby at_118) (x := (0 : Int32)) rfl ?_
          refine own_istore (q := 119) X11 hx (hb hby at_119) (A' := #[.val (.int kind), .val (.int nk), .val (.int by0), .val (.int by1), .val (.ref b1), .val (.ref b2), .val (.ref b7), .val .null, .val (.int k), .val (.ref b2), .val (.ref b10), .val (.int (0 : Int32))]) rfl ?_
          refine own_aload (q := 121) X11 hx (hb hby at_121) rfl rfl ?_
          refine own_virtual (q := 123) (y := (⟨site_104.cls, "deleted", "()Z"⟩ : MethodName)) (z := (⟨site_104.cls, "deleted", "()Z"⟩ : MethodName)) (b := b10) (argsL := []) (S := []) (W := 0) X11 hx hZ hown (hw _ (List.mem_of_getElem? (i := 47) rfl)) (hw _ (List.mem_of_getElem? (i := 48) rfl)) (notFace_of_selects (args := #[]) (mvT hZ (hw _ (List.mem_of_getElem? (i := 50) rfl)))) (hw _ (List.mem_of_getElem? (i := 50) rfl)) (hw _ (List.mem_of_getElem? (i := 49) rfl)) (by decide) (backOf (W := 0) (rm3r l Z a0 hw [] b10 b2 T11.heap n0 O12 Fj11) hZ (hw _ (List.mem_of_getElem? (i := 51) rfl)) (hw _ (List.mem_of_getElem? (i := 33) rfl)) (by decide) (by decide)) rfl Ex11 (by rw [hml]; rfl) (lenOf own_pd__28_29Z rfl) rfl (Nat.le_of_eq rfl) (hb hby at_123) (by decide) (by decide) (fun T13 L13 v13 X13 hQ13 => ?_)
          obtain ⟨rfl, N13q, hh13⟩ := hQ13
          have N13 := Fr.app N11 N13q
          show own_G p e below _ T13 (mkF m 126 #[.val (.int kind), .val (.int nk), .val (.int by0), .val (.int by1), .val (.ref b1), .val (.ref b2), .val (.ref b7), .val .null, .val (.int k), .val (.ref b2), .val (.ref b10), .val (.int (0 : Int32))] [(.int (0 : Int32))])
          refine own_iload (q := 126) X13 hx (hb hby at_126) rfl ?_
          refine own_icmp (t := 135) (q := 128) X13 hx (hb hby at_128) (by decide) (by decide) (fun hq => ?_) (fun hq => ?_)
          · have hc128 := own_c_ne.1 hq
            exact absurd rfl hc128
          · have hc128 := own_c_ne.2 hq
            refine own_iconst (q := 131) X13 hx (hb hby at_131) (x := (1 : Int32)) rfl ?_
            refine own_goto (t := 136) (q := 132) X13 hx (hb hby at_132) (by decide) (by decide) ?_
            exact own_retN (q := 136) X13 hx (t := .boolean) Bd.returns hlk (by simp) (hb hby at_136) rfl (by decide) (by decide) (by show Q0 Z kind nk by0 by1 zCOMPACT h0 n0 _ _ _; exact ⟨rfl, N13⟩)
        · have hc111 := own_h_ne.2 hq
          exact absurd hc111 hc70
      · have hc82 := own_c_ne.2 hq
        refine own_aload (q := 85) X9 hx (hb hby at_85) rfl rfl ?_
        refine own_astore (q := 87) X9 hx (hb hby at_87) rfl (A' := #[.val (.int kind), .val (.int nk), .val (.int by0), .val (.int by1), .val (.ref b1), .val (.ref b2), .val (.ref b7), .val .null, .val (.int k), .val (.ref b1), .unset, .unset]) rfl ?_
        refine own_goto (t := 96) (q := 89) X9 hx (hb hby at_89) (by decide) (by decide) ?_
        obtain ⟨T14, h14, X14, e14, E14, A14, D14, -, st14⟩ := newO X9 hx hZ hown (hw _ (List.mem_of_getElem? (i := 31) rfl)) (hw _ (List.mem_of_getElem? (i := 32) rfl)) (hw _ (List.mem_of_getElem? (i := 33) rfl)) e9 (g := (mkF m 96 #[.val (.int kind), .val (.int nk), .val (.int by0), .val (.int by1), .val (.ref b1), .val (.ref b2), .val (.ref b7), .val .null, .val (.int k), .val (.ref b1), .unset, .unset] [])) rfl (hb hby at_96) (by decide) (by decide)
        obtain ⟨b14, gg14⟩ : ∃ z, z = h9.size := ⟨_, rfl⟩
        rw [← gg14] at A14 D14 st14
        refine own_st st14 ?_
        have g_b14 : n0 ≤ b14 := by rw [gg14, ← O9.1]; exact O9.2.1
        have O14 := Old.ext O9 E14
        have F14_name : Fld Z h14 b14 site_104.cls "name" "Ljava/lang/String;" .null := D14 (Or.inr (hw _ (List.mem_of_getElem? (i := 44) rfl))) (ty := (.object "java/lang/String")) (by decide)
        have F14_json : Fld Z h14 b14 site_104.cls "json" "[B" .null := D14 (Or.inr (hw _ (List.mem_of_getElem? (i := 46) rfl))) (ty := (.array .byte)) (by decide)
        show own_G p e below _ T14 (mkF m 99 #[.val (.int kind), .val (.int nk), .val (.int by0), .val (.int by1), .val (.ref b1), .val (.ref b2), .val (.ref b7), .val .null, .val (.int k), .val (.ref b1), .unset, .unset] [(.ref b14)])
        refine own_dup (q := 99) X14 hx (hb hby at_99) rfl ?_
        refine own_aload (q := 100) X14 hx (hb hby at_100) rfl rfl ?_
        refine own_aload (q := 102) X14 hx (hb hby at_102) rfl rfl ?_
        refine own_init (q := 104) (y := (⟨site_104.cls, "<init>", "(Ljava/lang/String;[B)V"⟩ : MethodName)) (b := b14) (argsL := [.null, (.ref b1)]) (S := [(.ref b14)]) (W := 1) rfl X14 hx hZ hown (hw _ (List.mem_of_getElem? (i := 34) rfl)) (hw _ (List.mem_of_getElem? (i := 35) rfl)) (hw _ (List.mem_of_getElem? (i := 36) rfl)) (by decide) (backOf (W := 1) (rm2 l Z a0 hw [] b14 .null (.ref b1) h14 n0 O14 rfl rfl A14 F14_name F14_json g_b14) hZ (hw _ (List.mem_of_getElem? (i := 36) rfl)) (hw _ (List.mem_of_getElem? (i := 33) rfl)) (by decide) (by decide)) e14 (by rw [hml]; rfl) (lenOf own_pd__28Ljava_2flang_2fString_3b_5bB_29V rfl) rfl (Nat.le_of_eq rfl) (hb hby at_104) (by decide) (by decide) (fun T15 L15 v15 X15 hQ15 => ?_)
        obtain ⟨rfl, N15q, Kp15, Ex15, Fj15⟩ := hQ15
        have N15 := Fr.app N9 N15q
        have O16 := Old.keep O14 Kp15 (allS g_b14 all0)
        show own_G p e below _ T15 (mkF m 107 #[.val (.int kind), .val (.int nk), .val (.int by0), .val (.int by1), .val (.ref b1), .val (.ref b2), .val (.ref b7), .val .null, .val (.int k), .val (.ref b1), .unset, .unset] [(.ref b14)])
        refine own_astore (q := 107) X15 hx (hb hby at_107) rfl (A' := #[.val (.int kind), .val (.int nk), .val (.int by0), .val (.int by1), .val (.ref b1), .val (.ref b2), .val (.ref b7), .val .null, .val (.int k), .val (.ref b1), .val (.ref b14), .unset]) rfl ?_
        refine own_iload (q := 109) X15 hx (hb hby at_109) rfl ?_
        refine own_if (t := 118) (q := 111) X15 hx (hb hby at_111) (by decide) (by decide) (fun hq => ?_) (fun hq => ?_)
        · have hc111 := own_h_ne.1 hq
          refine own_iconst (q := 118) X15 hx (hb hby at_118) (x := (0 : Int32)) rfl ?_
          refine own_istore (q := 119) X15 hx (hb hby at_119) (A' := #[.val (.int kind), .val (.int nk), .val (.int by0), .val (.int by1), .val (.ref b1), .val (.ref b2), .val (.ref b7), .val .null, .val (.int k), .val (.ref b1), .val (.ref b14), .val (.int (0 : Int32))]) rfl ?_
          refine own_aload (q := 121) X15 hx (hb hby at_121) rfl rfl ?_
          refine own_virtual (q := 123) (y := (⟨site_104.cls, "deleted", "()Z"⟩ : MethodName)) (z := (⟨site_104.cls, "deleted", "()Z"⟩ : MethodName)) (b := b14) (argsL := []) (S := []) (W := 0) X15 hx hZ hown (hw _ (List.mem_of_getElem? (i := 47) rfl)) (hw _ (List.mem_of_getElem? (i := 48) rfl)) (notFace_of_selects (args := #[]) (mvT hZ (hw _ (List.mem_of_getElem? (i := 50) rfl)))) (hw _ (List.mem_of_getElem? (i := 50) rfl)) (hw _ (List.mem_of_getElem? (i := 49) rfl)) (by decide) (backOf (W := 0) (rm3r l Z a0 hw [] b14 b1 T15.heap n0 O16 Fj15) hZ (hw _ (List.mem_of_getElem? (i := 51) rfl)) (hw _ (List.mem_of_getElem? (i := 33) rfl)) (by decide) (by decide)) rfl Ex15 (by rw [hml]; rfl) (lenOf own_pd__28_29Z rfl) rfl (Nat.le_of_eq rfl) (hb hby at_123) (by decide) (by decide) (fun T17 L17 v17 X17 hQ17 => ?_)
          obtain ⟨rfl, N17q, hh17⟩ := hQ17
          have N17 := Fr.app N15 N17q
          show own_G p e below _ T17 (mkF m 126 #[.val (.int kind), .val (.int nk), .val (.int by0), .val (.int by1), .val (.ref b1), .val (.ref b2), .val (.ref b7), .val .null, .val (.int k), .val (.ref b1), .val (.ref b14), .val (.int (0 : Int32))] [(.int (0 : Int32))])
          refine own_iload (q := 126) X17 hx (hb hby at_126) rfl ?_
          refine own_icmp (t := 135) (q := 128) X17 hx (hb hby at_128) (by decide) (by decide) (fun hq => ?_) (fun hq => ?_)
          · have hc128 := own_c_ne.1 hq
            exact absurd rfl hc128
          · have hc128 := own_c_ne.2 hq
            refine own_iconst (q := 131) X17 hx (hb hby at_131) (x := (1 : Int32)) rfl ?_
            refine own_goto (t := 136) (q := 132) X17 hx (hb hby at_132) (by decide) (by decide) ?_
            exact own_retN (q := 136) X17 hx (t := .boolean) Bd.returns hlk (by simp) (hb hby at_136) rfl (by decide) (by decide) (by show Q0 Z kind nk by0 by1 zCOMPACT h0 n0 _ _ _; exact ⟨rfl, N17⟩)
        · have hc111 := own_h_ne.2 hq
          exact absurd hc111 hc70
    · have hc70 := own_h_ne.2 hq
      refine own_anull (q := 73) X9 hx (hb hby at_73) ?_
      refine own_astore (q := 74) X9 hx (hb hby at_74) rfl (A' := #[.val (.int kind), .val (.int nk), .val (.int by0), .val (.int by1), .val (.ref b1), .val (.ref b2), .val (.ref b7), .val .null, .val (.int k), .val .null, .unset, .unset]) rfl ?_
      refine own_goto (t := 96) (q := 76) X9 hx (hb hby at_76) (by decide) (by decide) ?_
      obtain ⟨T18, h18, X18, e18, E18, A18, D18, -, st18⟩ := newO X9 hx hZ hown (hw _ (List.mem_of_getElem? (i := 31) rfl)) (hw _ (List.mem_of_getElem? (i := 32) rfl)) (hw _ (List.mem_of_getElem? (i := 33) rfl)) e9 (g := (mkF m 96 #[.val (.int kind), .val (.int nk), .val (.int by0), .val (.int by1), .val (.ref b1), .val (.ref b2), .val (.ref b7), .val .null, .val (.int k), .val .null, .unset, .unset] [])) rfl (hb hby at_96) (by decide) (by decide)
      obtain ⟨b18, gg18⟩ : ∃ z, z = h9.size := ⟨_, rfl⟩
      rw [← gg18] at A18 D18 st18
      refine own_st st18 ?_
      have g_b18 : n0 ≤ b18 := by rw [gg18, ← O9.1]; exact O9.2.1
      have O18 := Old.ext O9 E18
      have F18_name : Fld Z h18 b18 site_104.cls "name" "Ljava/lang/String;" .null := D18 (Or.inr (hw _ (List.mem_of_getElem? (i := 44) rfl))) (ty := (.object "java/lang/String")) (by decide)
      have F18_json : Fld Z h18 b18 site_104.cls "json" "[B" .null := D18 (Or.inr (hw _ (List.mem_of_getElem? (i := 46) rfl))) (ty := (.array .byte)) (by decide)
      show own_G p e below _ T18 (mkF m 99 #[.val (.int kind), .val (.int nk), .val (.int by0), .val (.int by1), .val (.ref b1), .val (.ref b2), .val (.ref b7), .val .null, .val (.int k), .val .null, .unset, .unset] [(.ref b18)])
      refine own_dup (q := 99) X18 hx (hb hby at_99) rfl ?_
      refine own_aload (q := 100) X18 hx (hb hby at_100) rfl rfl ?_
      refine own_aload (q := 102) X18 hx (hb hby at_102) rfl rfl ?_
      refine own_init (q := 104) (y := (⟨site_104.cls, "<init>", "(Ljava/lang/String;[B)V"⟩ : MethodName)) (b := b18) (argsL := [.null, .null]) (S := [(.ref b18)]) (W := 1) rfl X18 hx hZ hown (hw _ (List.mem_of_getElem? (i := 34) rfl)) (hw _ (List.mem_of_getElem? (i := 35) rfl)) (hw _ (List.mem_of_getElem? (i := 36) rfl)) (by decide) (backOf (W := 1) (rm2 l Z a0 hw [] b18 .null .null h18 n0 O18 rfl rfl A18 F18_name F18_json g_b18) hZ (hw _ (List.mem_of_getElem? (i := 36) rfl)) (hw _ (List.mem_of_getElem? (i := 33) rfl)) (by decide) (by decide)) e18 (by rw [hml]; rfl) (lenOf own_pd__28Ljava_2flang_2fString_3b_5bB_29V rfl) rfl (Nat.le_of_eq rfl) (hb hby at_104) (by decide) (by decide) (fun T19 L19 v19 X19 hQ19 => ?_)
      obtain ⟨rfl, N19q, Kp19, Ex19, Fj19⟩ := hQ19
      have N19 := Fr.app N9 N19q
      have O20 := Old.keep O18 Kp19 (allS g_b18 all0)
      show own_G p e below _ T19 (mkF m 107 #[.val (.int kind), .val (.int nk), .val (.int by0), .val (.int by1), .val (.ref b1), .val (.ref b2), .val (.ref b7), .val .null, .val (.int k), .val .null, .unset, .unset] [(.ref b18)])
      refine own_astore (q := 107) X19 hx (hb hby at_107) rfl (A' := #[.val (.int kind), .val (.int nk), .val (.int by0), .val (.int by1), .val (.ref b1), .val (.ref b2), .val (.ref b7), .val .null, .val (.int k), .val .null, .val (.ref b18), .unset]) rfl ?_
      refine own_iload (q := 109) X19 hx (hb hby at_109) rfl ?_
      refine own_if (t := 118) (q := 111) X19 hx (hb hby at_111) (by decide) (by decide) (fun hq => ?_) (fun hq => ?_)
      · have hc111 := own_h_ne.1 hq
        exact absurd hc70 hc111
      · have hc111 := own_h_ne.2 hq
        refine own_iconst (q := 114) X19 hx (hb hby at_114) (x := (1 : Int32)) rfl ?_
        refine own_goto (t := 119) (q := 115) X19 hx (hb hby at_115) (by decide) (by decide) ?_
        refine own_istore (q := 119) X19 hx (hb hby at_119) (A' := #[.val (.int kind), .val (.int nk), .val (.int by0), .val (.int by1), .val (.ref b1), .val (.ref b2), .val (.ref b7), .val .null, .val (.int k), .val .null, .val (.ref b18), .val (.int (1 : Int32))]) rfl ?_
        refine own_aload (q := 121) X19 hx (hb hby at_121) rfl rfl ?_
        refine own_virtual (q := 123) (y := (⟨site_104.cls, "deleted", "()Z"⟩ : MethodName)) (z := (⟨site_104.cls, "deleted", "()Z"⟩ : MethodName)) (b := b18) (argsL := []) (S := []) (W := 0) X19 hx hZ hown (hw _ (List.mem_of_getElem? (i := 47) rfl)) (hw _ (List.mem_of_getElem? (i := 48) rfl)) (notFace_of_selects (args := #[]) (mvT hZ (hw _ (List.mem_of_getElem? (i := 50) rfl)))) (hw _ (List.mem_of_getElem? (i := 50) rfl)) (hw _ (List.mem_of_getElem? (i := 49) rfl)) (by decide) (backOf (W := 0) (rm3n l Z a0 hw [] b18 T19.heap n0 O20 Fj19) hZ (hw _ (List.mem_of_getElem? (i := 51) rfl)) (hw _ (List.mem_of_getElem? (i := 33) rfl)) (by decide) (by decide)) rfl Ex19 (by rw [hml]; rfl) (lenOf own_pd__28_29Z rfl) rfl (Nat.le_of_eq rfl) (hb hby at_123) (by decide) (by decide) (fun T21 L21 v21 X21 hQ21 => ?_)
        obtain ⟨rfl, N21q, hh21⟩ := hQ21
        have N21 := Fr.app N19 N21q
        show own_G p e below _ T21 (mkF m 126 #[.val (.int kind), .val (.int nk), .val (.int by0), .val (.int by1), .val (.ref b1), .val (.ref b2), .val (.ref b7), .val .null, .val (.int k), .val .null, .val (.ref b18), .val (.int (1 : Int32))] [(.int (1 : Int32))])
        refine own_iload (q := 126) X21 hx (hb hby at_126) rfl ?_
        refine own_icmp (t := 135) (q := 128) X21 hx (hb hby at_128) (by decide) (by decide) (fun hq => ?_) (fun hq => ?_)
        · have hc128 := own_c_ne.1 hq
          exact absurd rfl hc128
        · have hc128 := own_c_ne.2 hq
          refine own_iconst (q := 131) X21 hx (hb hby at_131) (x := (1 : Int32)) rfl ?_
          refine own_goto (t := 136) (q := 132) X21 hx (hb hby at_132) (by decide) (by decide) ?_
          exact own_retN (q := 136) X21 hx (t := .boolean) Bd.returns hlk (by simp) (hb hby at_136) rfl (by decide) (by decide) (by show Q0 Z kind nk by0 by1 zCOMPACT h0 n0 _ _ _; exact ⟨rfl, N21⟩)
  · have hc42 := own_h_eq.2 hq
    obtain ⟨T22, h22, X22, e22, E22, A22, D22, -, st22⟩ := newO X9 hx hZ hown (hw _ (List.mem_of_getElem? (i := 2) rfl)) (hw _ (List.mem_of_getElem? (i := 3) rfl)) (hw _ (List.mem_of_getElem? (i := 4) rfl)) e9 (g := (mkF m 45 #[.val (.int kind), .val (.int nk), .val (.int by0), .val (.int by1), .val (.ref b1), .val (.ref b2), .val (.ref b7), .unset, .unset, .unset, .unset, .unset] [])) rfl (hb hby at_45) (by decide) (by decide)
    obtain ⟨b22, gg22⟩ : ∃ z, z = h9.size := ⟨_, rfl⟩
    rw [← gg22] at A22 D22 st22
    refine own_st st22 ?_
    have g_b22 : n0 ≤ b22 := by rw [gg22, ← O9.1]; exact O9.2.1
    have O22 := Old.ext O9 E22
    have F22_coder : Fld Z h22 b22 "java/lang/String" "coder" "B" (.int (0 : Int32)) := D22 (Or.inr (hw _ (List.mem_of_getElem? (i := 27) rfl))) (ty := .byte) (by decide)
    have F22_value : Fld Z h22 b22 "java/lang/String" "value" "[B" .null := D22 (Or.inr (hw _ (List.mem_of_getElem? (i := 29) rfl))) (ty := (.array .byte)) (by decide)
    show own_G p e below _ T22 (mkF m 48 #[.val (.int kind), .val (.int nk), .val (.int by0), .val (.int by1), .val (.ref b1), .val (.ref b2), .val (.ref b7), .unset, .unset, .unset, .unset, .unset] [(.ref b22)])
    refine own_dup (q := 48) X22 hx (hb hby at_48) rfl ?_
    refine own_aload (q := 49) X22 hx (hb hby at_49) rfl rfl ?_
    have c23 := (Arv.ext V9 E22)
    refine own_init (q := 51) (y := (⟨"java/lang/String", "<init>", "([C)V"⟩ : MethodName)) (b := b22) (argsL := [(.ref b7)]) (S := [(.ref b22)]) (W := 1) rfl X22 hx hZ hown (hw _ (List.mem_of_getElem? (i := 5) rfl)) (hw _ (List.mem_of_getElem? (i := 6) rfl)) (hw _ (List.mem_of_getElem? (i := 7) rfl)) (by decide) (own_newB (W := 1) (cs := ([c0] : List Int32)) (n := 1) hZ hw (hw _ (List.mem_of_getElem? (i := 3) rfl)) O22 g_b22 A22 F22_value F22_coder c23 SCOMPACT hCOMPACT rfl rfl (by decide) (by decide) (own_csS ⟨l_c0, u_c0⟩ own_cs0) (by decide) (by decide)) e22 (by rw [hml]; rfl) (lenOf own_pd__28_5bC_29V rfl) rfl (Nat.le_of_eq rfl) (hb hby at_51) (by decide) (by decide) (fun T24 L24 v24 X24 hQ24 => ?_)
    obtain ⟨rfl, Nq24, Kp24, t24, g_t24, ht24, hne24, Sf24⟩ := hQ24
    have N24 := Fr.app N9 Nq24
    have O25 := Old.keep O22 Kp24 (allS g_b22 all0)
    show own_G p e below _ T24 (mkF m 54 #[.val (.int kind), .val (.int nk), .val (.int by0), .val (.int by1), .val (.ref b1), .val (.ref b2), .val (.ref b7), .unset, .unset, .unset, .unset, .unset] [(.ref b22)])
    refine own_goto (t := 58) (q := 54) X24 hx (hb hby at_54) (by decide) (by decide) ?_
    refine own_astore (q := 58) X24 hx (hb hby at_58) rfl (A' := #[.val (.int kind), .val (.int nk), .val (.int by0), .val (.int by1), .val (.ref b1), .val (.ref b2), .val (.ref b7), .val (.ref b22), .unset, .unset, .unset, .unset]) rfl ?_
    refine own_iloadN (q := 60) X24 hx (hb hby at_60) rfl ?_
    refine own_st (g' := (mkF m 63 #[.val (.int kind), .val (.int nk), .val (.int by0), .val (.int by1), .val (.ref b1), .val (.ref b2), .val (.ref b7), .val (.ref b22), .unset, .unset, .unset, .unset] (.int (2147483647 : Int32) :: [(.int kind)]))) (fun _ z => X24.ldcI hx hown (mvT hZ (hw _ (List.mem_of_getElem? (i := 30) rfl))) (g := (mkF m 61 #[.val (.int kind), .val (.int nk), .val (.int by0), .val (.int by1), .val (.ref b1), .val (.ref b2), .val (.ref b7), .val (.ref b22), .unset, .unset, .unset, .unset] [(.int kind)])) rfl (hb hby at_61) z) ?_
    refine own_iand (q := 63) X24 hx (hb hby at_63) ?_
    refine own_iconst (q := 64) X24 hx (hb hby at_64) (x := (3 : Int32)) rfl ?_
    refine own_irem (q := 65) X24 hx (hb hby at_65) (by decide) ?_
    generalize (kind &&& (2147483647 : Int32)) % (3 : Int32) = k
    refine own_istore (q := 66) X24 hx (hb hby at_66) (A' := #[.val (.int kind), .val (.int nk), .val (.int by0), .val (.int by1), .val (.ref b1), .val (.ref b2), .val (.ref b7), .val (.ref b22), .val (.int k), .unset, .unset, .unset]) rfl ?_
    refine own_iload (q := 68) X24 hx (hb hby at_68) rfl ?_
    refine own_if (t := 79) (q := 70) X24 hx (hb hby at_70) (by decide) (by decide) (fun hq => ?_) (fun hq => ?_)
    · have hc70 := own_h_ne.1 hq
      refine own_iload (q := 79) X24 hx (hb hby at_79) rfl ?_
      refine own_iconst (q := 81) X24 hx (hb hby at_81) (x := (1 : Int32)) rfl ?_
      refine own_icmp (t := 92) (q := 82) X24 hx (hb hby at_82) (by decide) (by decide) (fun hq => ?_) (fun hq => ?_)
      · have hc82 := own_c_ne.1 hq
        refine own_aload (q := 92) X24 hx (hb hby at_92) rfl rfl ?_
        refine own_astore (q := 94) X24 hx (hb hby at_94) rfl (A' := #[.val (.int kind), .val (.int nk), .val (.int by0), .val (.int by1), .val (.ref b1), .val (.ref b2), .val (.ref b7), .val (.ref b22), .val (.int k), .val (.ref b2), .unset, .unset]) rfl ?_
        obtain ⟨T26, h26, X26, e26, E26, A26, D26, -, st26⟩ := newO X24 hx hZ hown (hw _ (List.mem_of_getElem? (i := 31) rfl)) (hw _ (List.mem_of_getElem? (i := 32) rfl)) (hw _ (List.mem_of_getElem? (i := 33) rfl)) rfl (g := (mkF m 96 #[.val (.int kind), .val (.int nk), .val (.int by0), .val (.int by1), .val (.ref b1), .val (.ref b2), .val (.ref b7), .val (.ref b22), .val (.int k), .val (.ref b2), .unset, .unset] [])) rfl (hb hby at_96) (by decide) (by decide)
        obtain ⟨b26, gg26⟩ : ∃ z, z = T24.heap.size := ⟨_, rfl⟩
        rw [← gg26] at A26 D26 st26
        refine own_st st26 ?_
        have g_b26 : n0 ≤ b26 := by rw [gg26, ← O25.1]; exact O25.2.1
        have O26 := Old.ext O25 E26
        have F26_name : Fld Z h26 b26 site_104.cls "name" "Ljava/lang/String;" .null := D26 (Or.inr (hw _ (List.mem_of_getElem? (i := 44) rfl))) (ty := (.object "java/lang/String")) (by decide)
        have F26_json : Fld Z h26 b26 site_104.cls "json" "[B" .null := D26 (Or.inr (hw _ (List.mem_of_getElem? (i := 46) rfl))) (ty := (.array .byte)) (by decide)
        show own_G p e below _ T26 (mkF m 99 #[.val (.int kind), .val (.int nk), .val (.int by0), .val (.int by1), .val (.ref b1), .val (.ref b2), .val (.ref b7), .val (.ref b22), .val (.int k), .val (.ref b2), .unset, .unset] [(.ref b26)])
        refine own_dup (q := 99) X26 hx (hb hby at_99) rfl ?_
        refine own_aload (q := 100) X26 hx (hb hby at_100) rfl rfl ?_
        refine own_aload (q := 102) X26 hx (hb hby at_102) rfl rfl ?_
        refine own_init (q := 104) (y := (⟨site_104.cls, "<init>", "(Ljava/lang/String;[B)V"⟩ : MethodName)) (b := b26) (argsL := [(.ref b22), (.ref b2)]) (S := [(.ref b26)]) (W := 1) rfl X26 hx hZ hown (hw _ (List.mem_of_getElem? (i := 34) rfl)) (hw _ (List.mem_of_getElem? (i := 35) rfl)) (hw _ (List.mem_of_getElem? (i := 36) rfl)) (by decide) (backOf (W := 1) (rm2 l Z a0 hw [] b26 (.ref b22) (.ref b2) h26 n0 O26 rfl rfl A26 F26_name F26_json g_b26) hZ (hw _ (List.mem_of_getElem? (i := 36) rfl)) (hw _ (List.mem_of_getElem? (i := 33) rfl)) (by decide) (by decide)) e26 (by rw [hml]; rfl) (lenOf own_pd__28Ljava_2flang_2fString_3b_5bB_29V rfl) rfl (Nat.le_of_eq rfl) (hb hby at_104) (by decide) (by decide) (fun T27 L27 v27 X27 hQ27 => ?_)
        obtain ⟨rfl, N27q, Kp27, Ex27, Fj27⟩ := hQ27
        have N27 := Fr.app N24 N27q
        have O28 := Old.keep O26 Kp27 (allS g_b26 all0)
        show own_G p e below _ T27 (mkF m 107 #[.val (.int kind), .val (.int nk), .val (.int by0), .val (.int by1), .val (.ref b1), .val (.ref b2), .val (.ref b7), .val (.ref b22), .val (.int k), .val (.ref b2), .unset, .unset] [(.ref b26)])
        refine own_astore (q := 107) X27 hx (hb hby at_107) rfl (A' := #[.val (.int kind), .val (.int nk), .val (.int by0), .val (.int by1), .val (.ref b1), .val (.ref b2), .val (.ref b7), .val (.ref b22), .val (.int k), .val (.ref b2), .val (.ref b26), .unset]) rfl ?_
        refine own_iload (q := 109) X27 hx (hb hby at_109) rfl ?_
        refine own_if (t := 118) (q := 111) X27 hx (hb hby at_111) (by decide) (by decide) (fun hq => ?_) (fun hq => ?_)
        · have hc111 := own_h_ne.1 hq
          refine own_iconst (q := 118) X27 hx (hb hby at_118) (x := (0 : Int32)) rfl ?_
          refine own_istore (q := 119) X27 hx (hb hby at_119) (A' := #[.val (.int kind), .val (.int nk), .val (.int by0), .val (.int by1), .val (.ref b1), .val (.ref b2), .val (.ref b7), .val (.ref b22), .val (.int k), .val (.ref b2), .val (.ref b26), .val (.int (0 : Int32))]) rfl ?_
          refine own_aload (q := 121) X27 hx (hb hby at_121) rfl rfl ?_
          refine own_virtual (q := 123) (y := (⟨site_104.cls, "deleted", "()Z"⟩ : MethodName)) (z := (⟨site_104.cls, "deleted", "()Z"⟩ : MethodName)) (b := b26) (argsL := []) (S := []) (W := 0) X27 hx hZ hown (hw _ (List.mem_of_getElem? (i := 47) rfl)) (hw _ (List.mem_of_getElem? (i := 48) rfl)) (notFace_of_selects (args := #[]) (mvT hZ (hw _ (List.mem_of_getElem? (i := 50) rfl)))) (hw _ (List.mem_of_getElem? (i := 50) rfl)) (hw _ (List.mem_of_getElem? (i := 49) rfl)) (by decide) (backOf (W := 0) (rm3r l Z a0 hw [] b26 b2 T27.heap n0 O28 Fj27) hZ (hw _ (List.mem_of_getElem? (i := 51) rfl)) (hw _ (List.mem_of_getElem? (i := 33) rfl)) (by decide) (by decide)) rfl Ex27 (by rw [hml]; rfl) (lenOf own_pd__28_29Z rfl) rfl (Nat.le_of_eq rfl) (hb hby at_123) (by decide) (by decide) (fun T29 L29 v29 X29 hQ29 => ?_)
          obtain ⟨rfl, N29q, hh29⟩ := hQ29
          have N29 := Fr.app N27 N29q
          show own_G p e below _ T29 (mkF m 126 #[.val (.int kind), .val (.int nk), .val (.int by0), .val (.int by1), .val (.ref b1), .val (.ref b2), .val (.ref b7), .val (.ref b22), .val (.int k), .val (.ref b2), .val (.ref b26), .val (.int (0 : Int32))] [(.int (0 : Int32))])
          refine own_iload (q := 126) X29 hx (hb hby at_126) rfl ?_
          refine own_icmp (t := 135) (q := 128) X29 hx (hb hby at_128) (by decide) (by decide) (fun hq => ?_) (fun hq => ?_)
          · have hc128 := own_c_ne.1 hq
            exact absurd rfl hc128
          · have hc128 := own_c_ne.2 hq
            refine own_iconst (q := 131) X29 hx (hb hby at_131) (x := (1 : Int32)) rfl ?_
            refine own_goto (t := 136) (q := 132) X29 hx (hb hby at_132) (by decide) (by decide) ?_
            exact own_retN (q := 136) X29 hx (t := .boolean) Bd.returns hlk (by simp) (hb hby at_136) rfl (by decide) (by decide) (by show Q0 Z kind nk by0 by1 zCOMPACT h0 n0 _ _ _; exact ⟨rfl, N29⟩)
        · have hc111 := own_h_ne.2 hq
          exact absurd hc111 hc70
      · have hc82 := own_c_ne.2 hq
        refine own_aload (q := 85) X24 hx (hb hby at_85) rfl rfl ?_
        refine own_astore (q := 87) X24 hx (hb hby at_87) rfl (A' := #[.val (.int kind), .val (.int nk), .val (.int by0), .val (.int by1), .val (.ref b1), .val (.ref b2), .val (.ref b7), .val (.ref b22), .val (.int k), .val (.ref b1), .unset, .unset]) rfl ?_
        refine own_goto (t := 96) (q := 89) X24 hx (hb hby at_89) (by decide) (by decide) ?_
        obtain ⟨T30, h30, X30, e30, E30, A30, D30, -, st30⟩ := newO X24 hx hZ hown (hw _ (List.mem_of_getElem? (i := 31) rfl)) (hw _ (List.mem_of_getElem? (i := 32) rfl)) (hw _ (List.mem_of_getElem? (i := 33) rfl)) rfl (g := (mkF m 96 #[.val (.int kind), .val (.int nk), .val (.int by0), .val (.int by1), .val (.ref b1), .val (.ref b2), .val (.ref b7), .val (.ref b22), .val (.int k), .val (.ref b1), .unset, .unset] [])) rfl (hb hby at_96) (by decide) (by decide)
        obtain ⟨b30, gg30⟩ : ∃ z, z = T24.heap.size := ⟨_, rfl⟩
        rw [← gg30] at A30 D30 st30
        refine own_st st30 ?_
        have g_b30 : n0 ≤ b30 := by rw [gg30, ← O25.1]; exact O25.2.1
        have O30 := Old.ext O25 E30
        have F30_name : Fld Z h30 b30 site_104.cls "name" "Ljava/lang/String;" .null := D30 (Or.inr (hw _ (List.mem_of_getElem? (i := 44) rfl))) (ty := (.object "java/lang/String")) (by decide)
        have F30_json : Fld Z h30 b30 site_104.cls "json" "[B" .null := D30 (Or.inr (hw _ (List.mem_of_getElem? (i := 46) rfl))) (ty := (.array .byte)) (by decide)
        show own_G p e below _ T30 (mkF m 99 #[.val (.int kind), .val (.int nk), .val (.int by0), .val (.int by1), .val (.ref b1), .val (.ref b2), .val (.ref b7), .val (.ref b22), .val (.int k), .val (.ref b1), .unset, .unset] [(.ref b30)])
        refine own_dup (q := 99) X30 hx (hb hby at_99) rfl ?_
        refine own_aload (q := 100) X30 hx (hb hby at_100) rfl rfl ?_
        refine own_aload (q := 102) X30 hx (hb hby at_102) rfl rfl ?_
        refine own_init (q := 104) (y := (⟨site_104.cls, "<init>", "(Ljava/lang/String;[B)V"⟩ : MethodName)) (b := b30) (argsL := [(.ref b22), (.ref b1)]) (S := [(.ref b30)]) (W := 1) rfl X30 hx hZ hown (hw _ (List.mem_of_getElem? (i := 34) rfl)) (hw _ (List.mem_of_getElem? (i := 35) rfl)) (hw _ (List.mem_of_getElem? (i := 36) rfl)) (by decide) (backOf (W := 1) (rm2 l Z a0 hw [] b30 (.ref b22) (.ref b1) h30 n0 O30 rfl rfl A30 F30_name F30_json g_b30) hZ (hw _ (List.mem_of_getElem? (i := 36) rfl)) (hw _ (List.mem_of_getElem? (i := 33) rfl)) (by decide) (by decide)) e30 (by rw [hml]; rfl) (lenOf own_pd__28Ljava_2flang_2fString_3b_5bB_29V rfl) rfl (Nat.le_of_eq rfl) (hb hby at_104) (by decide) (by decide) (fun T31 L31 v31 X31 hQ31 => ?_)
        obtain ⟨rfl, N31q, Kp31, Ex31, Fj31⟩ := hQ31
        have N31 := Fr.app N24 N31q
        have O32 := Old.keep O30 Kp31 (allS g_b30 all0)
        show own_G p e below _ T31 (mkF m 107 #[.val (.int kind), .val (.int nk), .val (.int by0), .val (.int by1), .val (.ref b1), .val (.ref b2), .val (.ref b7), .val (.ref b22), .val (.int k), .val (.ref b1), .unset, .unset] [(.ref b30)])
        refine own_astore (q := 107) X31 hx (hb hby at_107) rfl (A' := #[.val (.int kind), .val (.int nk), .val (.int by0), .val (.int by1), .val (.ref b1), .val (.ref b2), .val (.ref b7), .val (.ref b22), .val (.int k), .val (.ref b1), .val (.ref b30), .unset]) rfl ?_
        refine own_iload (q := 109) X31 hx (hb hby at_109) rfl ?_
        refine own_if (t := 118) (q := 111) X31 hx (hb hby at_111) (by decide) (by decide) (fun hq => ?_) (fun hq => ?_)
        · have hc111 := own_h_ne.1 hq
          refine own_iconst (q := 118) X31 hx (hb hby at_118) (x := (0 : Int32)) rfl ?_
          refine own_istore (q := 119) X31 hx (hb hby at_119) (A' := #[.val (.int kind), .val (.int nk), .val (.int by0), .val (.int by1), .val (.ref b1), .val (.ref b2), .val (.ref b7), .val (.ref b22), .val (.int k), .val (.ref b1), .val (.ref b30), .val (.int (0 : Int32))]) rfl ?_
          refine own_aload (q := 121) X31 hx (hb hby at_121) rfl rfl ?_
          refine own_virtual (q := 123) (y := (⟨site_104.cls, "deleted", "()Z"⟩ : MethodName)) (z := (⟨site_104.cls, "deleted", "()Z"⟩ : MethodName)) (b := b30) (argsL := []) (S := []) (W := 0) X31 hx hZ hown (hw _ (List.mem_of_getElem? (i := 47) rfl)) (hw _ (List.mem_of_getElem? (i := 48) rfl)) (notFace_of_selects (args := #[]) (mvT hZ (hw _ (List.mem_of_getElem? (i := 50) rfl)))) (hw _ (List.mem_of_getElem? (i := 50) rfl)) (hw _ (List.mem_of_getElem? (i := 49) rfl)) (by decide) (backOf (W := 0) (rm3r l Z a0 hw [] b30 b1 T31.heap n0 O32 Fj31) hZ (hw _ (List.mem_of_getElem? (i := 51) rfl)) (hw _ (List.mem_of_getElem? (i := 33) rfl)) (by decide) (by decide)) rfl Ex31 (by rw [hml]; rfl) (lenOf own_pd__28_29Z rfl) rfl (Nat.le_of_eq rfl) (hb hby at_123) (by decide) (by decide) (fun T33 L33 v33 X33 hQ33 => ?_)
          obtain ⟨rfl, N33q, hh33⟩ := hQ33
          have N33 := Fr.app N31 N33q
          show own_G p e below _ T33 (mkF m 126 #[.val (.int kind), .val (.int nk), .val (.int by0), .val (.int by1), .val (.ref b1), .val (.ref b2), .val (.ref b7), .val (.ref b22), .val (.int k), .val (.ref b1), .val (.ref b30), .val (.int (0 : Int32))] [(.int (0 : Int32))])
          refine own_iload (q := 126) X33 hx (hb hby at_126) rfl ?_
          refine own_icmp (t := 135) (q := 128) X33 hx (hb hby at_128) (by decide) (by decide) (fun hq => ?_) (fun hq => ?_)
          · have hc128 := own_c_ne.1 hq
            exact absurd rfl hc128
          · have hc128 := own_c_ne.2 hq
            refine own_iconst (q := 131) X33 hx (hb hby at_131) (x := (1 : Int32)) rfl ?_
            refine own_goto (t := 136) (q := 132) X33 hx (hb hby at_132) (by decide) (by decide) ?_
            exact own_retN (q := 136) X33 hx (t := .boolean) Bd.returns hlk (by simp) (hb hby at_136) rfl (by decide) (by decide) (by show Q0 Z kind nk by0 by1 zCOMPACT h0 n0 _ _ _; exact ⟨rfl, N33⟩)
        · have hc111 := own_h_ne.2 hq
          exact absurd hc111 hc70
    · have hc70 := own_h_ne.2 hq
      refine own_anull (q := 73) X24 hx (hb hby at_73) ?_
      refine own_astore (q := 74) X24 hx (hb hby at_74) rfl (A' := #[.val (.int kind), .val (.int nk), .val (.int by0), .val (.int by1), .val (.ref b1), .val (.ref b2), .val (.ref b7), .val (.ref b22), .val (.int k), .val .null, .unset, .unset]) rfl ?_
      refine own_goto (t := 96) (q := 76) X24 hx (hb hby at_76) (by decide) (by decide) ?_
      obtain ⟨T34, h34, X34, e34, E34, A34, D34, -, st34⟩ := newO X24 hx hZ hown (hw _ (List.mem_of_getElem? (i := 31) rfl)) (hw _ (List.mem_of_getElem? (i := 32) rfl)) (hw _ (List.mem_of_getElem? (i := 33) rfl)) rfl (g := (mkF m 96 #[.val (.int kind), .val (.int nk), .val (.int by0), .val (.int by1), .val (.ref b1), .val (.ref b2), .val (.ref b7), .val (.ref b22), .val (.int k), .val .null, .unset, .unset] [])) rfl (hb hby at_96) (by decide) (by decide)
      obtain ⟨b34, gg34⟩ : ∃ z, z = T24.heap.size := ⟨_, rfl⟩
      rw [← gg34] at A34 D34 st34
      refine own_st st34 ?_
      have g_b34 : n0 ≤ b34 := by rw [gg34, ← O25.1]; exact O25.2.1
      have O34 := Old.ext O25 E34
      have F34_name : Fld Z h34 b34 site_104.cls "name" "Ljava/lang/String;" .null := D34 (Or.inr (hw _ (List.mem_of_getElem? (i := 44) rfl))) (ty := (.object "java/lang/String")) (by decide)
      have F34_json : Fld Z h34 b34 site_104.cls "json" "[B" .null := D34 (Or.inr (hw _ (List.mem_of_getElem? (i := 46) rfl))) (ty := (.array .byte)) (by decide)
      show own_G p e below _ T34 (mkF m 99 #[.val (.int kind), .val (.int nk), .val (.int by0), .val (.int by1), .val (.ref b1), .val (.ref b2), .val (.ref b7), .val (.ref b22), .val (.int k), .val .null, .unset, .unset] [(.ref b34)])
      refine own_dup (q := 99) X34 hx (hb hby at_99) rfl ?_
      refine own_aload (q := 100) X34 hx (hb hby at_100) rfl rfl ?_
      refine own_aload (q := 102) X34 hx (hb hby at_102) rfl rfl ?_
      refine own_init (q := 104) (y := (⟨site_104.cls, "<init>", "(Ljava/lang/String;[B)V"⟩ : MethodName)) (b := b34) (argsL := [(.ref b22), .null]) (S := [(.ref b34)]) (W := 1) rfl X34 hx hZ hown (hw _ (List.mem_of_getElem? (i := 34) rfl)) (hw _ (List.mem_of_getElem? (i := 35) rfl)) (hw _ (List.mem_of_getElem? (i := 36) rfl)) (by decide) (backOf (W := 1) (rm2 l Z a0 hw [] b34 (.ref b22) .null h34 n0 O34 rfl rfl A34 F34_name F34_json g_b34) hZ (hw _ (List.mem_of_getElem? (i := 36) rfl)) (hw _ (List.mem_of_getElem? (i := 33) rfl)) (by decide) (by decide)) e34 (by rw [hml]; rfl) (lenOf own_pd__28Ljava_2flang_2fString_3b_5bB_29V rfl) rfl (Nat.le_of_eq rfl) (hb hby at_104) (by decide) (by decide) (fun T35 L35 v35 X35 hQ35 => ?_)
      obtain ⟨rfl, N35q, Kp35, Ex35, Fj35⟩ := hQ35
      have N35 := Fr.app N24 N35q
      have O36 := Old.keep O34 Kp35 (allS g_b34 all0)
      show own_G p e below _ T35 (mkF m 107 #[.val (.int kind), .val (.int nk), .val (.int by0), .val (.int by1), .val (.ref b1), .val (.ref b2), .val (.ref b7), .val (.ref b22), .val (.int k), .val .null, .unset, .unset] [(.ref b34)])
      refine own_astore (q := 107) X35 hx (hb hby at_107) rfl (A' := #[.val (.int kind), .val (.int nk), .val (.int by0), .val (.int by1), .val (.ref b1), .val (.ref b2), .val (.ref b7), .val (.ref b22), .val (.int k), .val .null, .val (.ref b34), .unset]) rfl ?_
      refine own_iload (q := 109) X35 hx (hb hby at_109) rfl ?_
      refine own_if (t := 118) (q := 111) X35 hx (hb hby at_111) (by decide) (by decide) (fun hq => ?_) (fun hq => ?_)
      · have hc111 := own_h_ne.1 hq
        exact absurd hc70 hc111
      · have hc111 := own_h_ne.2 hq
        refine own_iconst (q := 114) X35 hx (hb hby at_114) (x := (1 : Int32)) rfl ?_
        refine own_goto (t := 119) (q := 115) X35 hx (hb hby at_115) (by decide) (by decide) ?_
        refine own_istore (q := 119) X35 hx (hb hby at_119) (A' := #[.val (.int kind), .val (.int nk), .val (.int by0), .val (.int by1), .val (.ref b1), .val (.ref b2), .val (.ref b7), .val (.ref b22), .val (.int k), .val .null, .val (.ref b34), .val (.int (1 : Int32))]) rfl ?_
        refine own_aload (q := 121) X35 hx (hb hby at_121) rfl rfl ?_
        refine own_virtual (q := 123) (y := (⟨site_104.cls, "deleted", "()Z"⟩ : MethodName)) (z := (⟨site_104.cls, "deleted", "()Z"⟩ : MethodName)) (b := b34) (argsL := []) (S := []) (W := 0) X35 hx hZ hown (hw _ (List.mem_of_getElem? (i := 47) rfl)) (hw _ (List.mem_of_getElem? (i := 48) rfl)) (notFace_of_selects (args := #[]) (mvT hZ (hw _ (List.mem_of_getElem? (i := 50) rfl)))) (hw _ (List.mem_of_getElem? (i := 50) rfl)) (hw _ (List.mem_of_getElem? (i := 49) rfl)) (by decide) (backOf (W := 0) (rm3n l Z a0 hw [] b34 T35.heap n0 O36 Fj35) hZ (hw _ (List.mem_of_getElem? (i := 51) rfl)) (hw _ (List.mem_of_getElem? (i := 33) rfl)) (by decide) (by decide)) rfl Ex35 (by rw [hml]; rfl) (lenOf own_pd__28_29Z rfl) rfl (Nat.le_of_eq rfl) (hb hby at_123) (by decide) (by decide) (fun T37 L37 v37 X37 hQ37 => ?_)
        obtain ⟨rfl, N37q, hh37⟩ := hQ37
        have N37 := Fr.app N35 N37q
        show own_G p e below _ T37 (mkF m 126 #[.val (.int kind), .val (.int nk), .val (.int by0), .val (.int by1), .val (.ref b1), .val (.ref b2), .val (.ref b7), .val (.ref b22), .val (.int k), .val .null, .val (.ref b34), .val (.int (1 : Int32))] [(.int (1 : Int32))])
        refine own_iload (q := 126) X37 hx (hb hby at_126) rfl ?_
        refine own_icmp (t := 135) (q := 128) X37 hx (hb hby at_128) (by decide) (by decide) (fun hq => ?_) (fun hq => ?_)
        · have hc128 := own_c_ne.1 hq
          exact absurd rfl hc128
        · have hc128 := own_c_ne.2 hq
          refine own_iconst (q := 131) X37 hx (hb hby at_131) (x := (1 : Int32)) rfl ?_
          refine own_goto (t := 136) (q := 132) X37 hx (hb hby at_132) (by decide) (by decide) ?_
          exact own_retN (q := 136) X37 hx (t := .boolean) Bd.returns hlk (by simp) (hb hby at_136) rfl (by decide) (by decide) (by show Q0 Z kind nk by0 by1 zCOMPACT h0 n0 _ _ _; exact ⟨rfl, N37⟩)
set_option maxRecDepth 65536 in
set_option maxHeartbeats 40000000 in
theorem comes_1 {Post : Tables → Env → Array Value → State → Outcome → State → Prop} (hpost : ∀ tb e args s v u, (limb_1_1.after args s (.returned v) u = true ∧ limb_1_2.after args s (.returned v) u = true) → FrameEnd s (.returned v) u (Jvm.fieldLocs frame_1_writes args s ++ Jvm.arrayLocs frame_1_arrays args s ++ Jvm.staticLocs frame_1_statics s) 24 128 → Post tb e args s (.returned v) u) :
    ArmFor flags0 classFile x code maxLocals ret World_1 tables_1 room_1 Calls_1 rest_1 Pre_1 Post := by
  intro l hfl _ _ p e ha hc hk s m args below hf hA hF happ hP
  obtain ⟨hcalls, hrest, hpre⟩ := hP
  obtain ⟨-, -, -, hnamed, -, -, -, hat⟩ := (Spec.applies_iff hf).mp happ
  obtain ⟨hg, hn⟩ := and_e (Cond.before_iff.mp (show (Jvm.Cond.and given_1 narrow_1).before args s = true from hpre))
  obtain ⟨hg0, hgr0⟩ := and_e hg
  obtain ⟨hg1, hgr1⟩ := and_e hgr0
  obtain ⟨hg2, hgr2⟩ := and_e hgr1
  obtain ⟨hg3, hgr3⟩ := and_e hgr2
  have hg4 := hgr3
  obtain ⟨w0, w1, w2, w3, rfl⟩ : ∃ w0 w1 w2 w3 : Value, args = #[w0, w1, w2, w3] := by
    have hs : args.size = 4 := by simpa [Cond.value, given_1] using hg0
    obtain ⟨L⟩ := args
    match L, hs with
    | [w0, w1, w2, w3], _ => exact ⟨w0, w1, w2, w3, rfl⟩
  have hw := fun d (hd : d ∈ tables_1) => atoms_spec (ws := Jvm.Cond.code x code maxLocals ret :: tables_1) hat d (List.mem_cons_of_mem _ hd)
  obtain ⟨hsets, hown0⟩ := atoms_of _ (rest_1_c_eq ▸ (show rest_1_c.before _ s = true from hrest))
  obtain ⟨i0, ei0⟩ := is_v hg1
  obtain rfl : w0 = (.int i0) := Option.some.inj ei0
  obtain ⟨i1, ei1⟩ := is_v hg2
  obtain rfl : w1 = (.int i1) := Option.some.inj ei1
  obtain ⟨i2, ei2⟩ := is_v hg3
  obtain rfl : w2 = (.int i2) := Option.some.inj ei2
  obtain ⟨i3, ei3⟩ := is_v hg4
  obtain rfl : w3 = (.int i3) := Option.some.inj ei3
  have hn0 := hn
  obtain ⟨zCOMPACT, eCOMPACT⟩ := is_v (Cond.before_iff.mp (hsets _ (List.mem_of_getElem? (i := 1) rfl)))
  have SCOMPACT := Sta.start eCOMPACT (Or.inl (hsets _ (List.mem_of_getElem? (i := 0) rfl)))
  have hCOMPACT : ¬ zCOMPACT = 0 := own_not_zero (Cond.before_iff.mp (hsets _ (List.mem_of_getElem? (i := 2) rfl))) eCOMPACT
  obtain ⟨n, o, h1, h2, h3, _, L, rfl, ⟨rfl, N⟩, hq⟩ := rm0 l s _ hw tables_1 i0 i1 i2 i3 zCOMPACT s.heap s.heap.size (Old.start s) SCOMPACT hCOMPACT p e ha hc hk s m _ below hf ((Spec.applies_iff_loose hf).mp happ).1 ⟨rfl, State.Warmed39.refl s, rfl⟩ trivial
  refine ⟨n, _, h1, h2, h3, hpost _ _ _ _ _ _ ⟨Cond.after_iff.mpr rfl, Cond.after_iff.mpr (eq_i res_at (Term.int_eval (1)) rfl)⟩ ⟨hq.1, hq.2.1, (hq.2.2.sift fun y hy => Or.inr (N y hy)).mono (by decide) (by decide)⟩⟩
theorem main_1_1 : Claimed_1_1 := comes_1 fun _ _ _ _ _ _ h hF => ⟨h.1, hF⟩
theorem main_1_2 : Claimed_1_2 := comes_1 fun _ _ _ _ _ _ h hF => ⟨h.2, hF⟩
end Jvm.Pilot.@@N@@
namespace Jvm.Pilot.@@N@@
open Jvm Jvm.ClassFile Sem Op Lib Jvm.Free Jvm.Stand Jvm.Pilot.@@N@@.Jvm.D
/-! MADE BY PROGRAM (witnessworld.py) out of the Statement's table words and the real class files: 21 classes; the members and pool entries that the words name. The judged class is class 1, her method 1. -/
namespace start1
open Jvm.ClassFile
def u (s : String) : CpInfo := .utf8 (stringToUtf16 s)
/-- a pool by its gaps: so many unusable entries, then the entry; so many at the end -/
def gap : Nat → List CpInfo → List CpInfo
  | 0, r => r
  | n + 1, r => .unusable :: gap n r
def poolList (es : List (Nat × CpInfo)) (last : Nat) : List CpInfo := es.foldr (fun e r => gap e.1 (e.2 :: r)) (gap last [])
def pool (es : List (Nat × CpInfo)) (last : Nat) : Array CpInfo := ⟨poolList es last⟩
def fileOf (pool : Array CpInfo) (this : Nat) (attrs : Array Attribute := #[]) (ms : Array MethodInfo := #[]) (fl : Nat := 33) (sup : Nat := 0) (ifs : Array Nat := #[]) (fds : Array FieldInfo := #[]) : ClassFile where
  minorVersion := 0
  majorVersion := 65
  constantPool := pool
  accessFlags := fl
  thisClass := this
  superClass := sup
  interfaces := ifs
  fields := fds
  methods := ms
  attributes := attrs
def plain (name : String) (sup : Option ClassId) : Class where
  name := name
  kind := .ordinary
  loader := none
  accessFlags := 33
  super := sup
  interfaces := #[]
  cf := none
  fields := #[]
  methods := #[]
  instanceTypes := #[]
  staticTypes := #[]
  resolved := #[]
  callSites := []
  init := .initialized
  statics := none
  mirror := none

def pool0 : Array CpInfo := pool [(5, u "<init>"), (0, u "()V"), (1, .class_ 10), (1, u "java/lang/Object")] 113

def k0c0 : Code := { maxStack := 0, maxLocals := 1, code := object_method_1_code, exceptionTable := #[], attributes := #[] }
def k0m0 : Method := { name := "<init>", desc := "()V", sig := { parameters := [], returnType := none }, accessFlags := 1, code := some k0c0 }
/-- java/lang/Object -/
def k0 : Class := { plain "java/lang/Object" none with
  accessFlags := 33
  interfaces := #[]
  cf := some (fileOf pool0 8 #[] #[{ accessFlags := 1, nameIndex := 5, descriptorIndex := 6, attributes := #[] }] 33 0 #[] #[])
  fields := #[]
  methods := #[k0m0]
  instanceTypes := #[]
  staticTypes := #[]
  resolved := Array.replicate 124 none
  statics := none }

def pool1 : Array CpInfo := pool [(2, .class_ 4), (1, u "java/lang/Object"), (0, u "<init>"), (0, u "()V"), (0, .class_ 8), (0, u "java/lang/String"), (0, .methodref 7 10), (0, .nameAndType 5 11), (0, u "([C)V"), (0, .integer 2147483647), (0, .class_ 14), (0, u site_104.cls), (0, .methodref 13 16), (0, .nameAndType 5 17), (0, u "(Ljava/lang/String;[B)V"), (0, .methodref 13 19), (0, .nameAndType 20 21), (0, u "deleted"), (0, u "()Z"), (0, .class_ 23), (0, u "com/example/scholion/scholion/store/StoredAnnotationDeletedPinLaw"), (2, u "law"), (0, u "(IIII)Z")] 7

def k1m0 : Method := { name := "<init>", desc := "()V", sig := { parameters := [], returnType := none }, accessFlags := 1, code := none }
def k1c1 : Code := { maxStack := 4, maxLocals := 12, code := code, exceptionTable := #[], attributes := #[] }
def k1m1 : Method := { name := "law", desc := "(IIII)Z", sig := { parameters := [.int, .int, .int, .int], returnType := some .boolean }, accessFlags := 9, code := some k1c1 }
/-- com/example/scholion/scholion/store/StoredAnnotationDeletedPinLaw -/
def k1 : Class := { plain "com/example/scholion/scholion/store/StoredAnnotationDeletedPinLaw" (some 0) with
  accessFlags := 49
  interfaces := #[]
  cf := some (fileOf pool1 22 #[] #[{ accessFlags := 1, nameIndex := 5, descriptorIndex := 6, attributes := #[] }, { accessFlags := 9, nameIndex := 26, descriptorIndex := 27, attributes := #[] }] 49 2 #[] #[])
  fields := #[]
  methods := #[k1m0, k1m1]
  instanceTypes := #[]
  staticTypes := #[]
  resolved := Array.replicate 35 none
  statics := none }

def pool2 : Array CpInfo := pool [(1, .class_ 2), (0, u "java/io/Serializable"), (0, .class_ 4), (0, u "java/lang/Object")] 2

/-- java/io/Serializable -/
def k2 : Class := { plain "java/io/Serializable" (some 0) with
  accessFlags := 1537
  interfaces := #[]
  cf := some (fileOf pool2 1 #[] #[] 1537 3 #[] #[])
  fields := #[]
  methods := #[]
  instanceTypes := #[]
  staticTypes := #[]
  resolved := Array.replicate 7 none
  statics := none }

def pool3 : Array CpInfo := pool [(1, .class_ 2), (0, u "java/lang/Comparable"), (0, .class_ 4), (0, u "java/lang/Object")] 7

/-- java/lang/Comparable -/
def k3 : Class := { plain "java/lang/Comparable" (some 0) with
  accessFlags := 1537
  interfaces := #[]
  cf := some (fileOf pool3 1 #[] #[] 1537 3 #[] #[])
  fields := #[]
  methods := #[]
  instanceTypes := #[]
  staticTypes := #[]
  resolved := Array.replicate 12 none
  statics := none }

def pool4 : Array CpInfo := pool [(2, .class_ 4), (1, u "java/lang/CharSequence"), (42, .class_ 48), (0, u "java/lang/CharSequence$1CodePointIterator"), (10, .class_ 60), (0, u "java/lang/CharSequence$1CharIterator"), (5, .class_ 67), (0, u "java/lang/Object")] 63

/-- java/lang/CharSequence -/
def k4 : Class := { plain "java/lang/CharSequence" (some 0) with
  accessFlags := 1537
  interfaces := #[]
  cf := some (fileOf pool4 2 #[.nestMembers #[47, 59]] #[] 1537 66 #[] #[])
  fields := #[]
  methods := #[]
  instanceTypes := #[]
  staticTypes := #[]
  resolved := Array.replicate 131 none
  statics := none }

def pool5 : Array CpInfo := pool [(1, .class_ 2), (0, u "java/lang/constant/Constable"), (0, .class_ 4), (0, u "java/lang/Object")] 6

/-- java/lang/constant/Constable -/
def k5 : Class := { plain "java/lang/constant/Constable" (some 0) with
  accessFlags := 1537
  interfaces := #[]
  cf := some (fileOf pool5 1 #[] #[] 1537 3 #[] #[])
  fields := #[]
  methods := #[]
  instanceTypes := #[]
  staticTypes := #[]
  resolved := Array.replicate 11 none
  statics := none }

def pool6 : Array CpInfo := pool [(1, .class_ 2), (0, u "java/lang/constant/ConstantDesc"), (0, .class_ 4), (0, u "java/lang/Object")] 32

/-- java/lang/constant/ConstantDesc -/
def k6 : Class := { plain "java/lang/constant/ConstantDesc" (some 0) with
  accessFlags := 1537
  interfaces := #[]
  cf := some (fileOf pool6 1 #[] #[] 1537 3 #[] #[])
  fields := #[]
  methods := #[]
  instanceTypes := #[]
  staticTypes := #[]
  resolved := Array.replicate 37 none
  statics := none }

def pool7 : Array CpInfo := pool [(1, .methodref 2 3), (0, .class_ 4), (0, .nameAndType 5 6), (0, u "java/lang/Object"), (0, u "<init>"), (0, u "()V"), (2, .fieldref 10 11), (0, .class_ 12), (0, .nameAndType 13 14), (0, u "java/lang/String"), (0, u "value"), (0, u "[B"), (0, .fieldref 10 16), (0, .nameAndType 17 18), (0, u "coder"), (0, u "B"), (2, u "hash"), (0, u "I"), (2, u "hashIsZero"), (0, u "Z"), (0, .methodref 10 28), (0, .nameAndType 5 29), (0, u "([CIILjava/lang/Void;)V"), (8, .fieldref 10 39), (0, .nameAndType 40 26), (0, u "COMPACT_STRINGS"), (1, .class_ 44), (1, u "java/lang/StringUTF16"), (0, u "compress"), (1, .methodref 42 48), (0, .nameAndType 49 50), (0, u "coderFromArrayLen"), (0, u "([BI)B"), (126, .methodref 42 178), (0, .nameAndType 45 179), (0, u "([CII)[B"), (395, .class_ 576), (0, u "java/lang/CharSequence"), (22, u "CASE_INSENSITIVE_ORDER"), (0, u "Ljava/util/Comparator;"), (409, u "([C)V"), (90, u "serialPersistentFields"), (0, u "[Ljava/io/ObjectStreamField;"), (0, .class_ 1104), (0, u "java/lang/String$CaseInsensitiveComparator"), (1, .class_ 1107), (0, u "java/io/Serializable"), (0, .class_ 1109), (0, u "java/lang/Comparable"), (0, .class_ 1111), (0, u "java/lang/constant/Constable"), (0, .class_ 1113), (0, u "java/lang/constant/ConstantDesc"), (2, u "serialVersionUID"), (0, u "J"), (3, u "REPL"), (0, u "C"), (2, u "LATIN1"), (1, u "UTF16")] 323

def k7m0 : Method := { name := "<init>", desc := "()V", sig := { parameters := [], returnType := none }, accessFlags := 1, code := none }
def k7c1 : Code := { maxStack := 5, maxLocals := 2, code := jdk_42_method_3_code, exceptionTable := #[], attributes := #[] }
def k7m1 : Method := { name := "<init>", desc := "([C)V", sig := { parameters := [(.array .char)], returnType := none }, accessFlags := 1, code := some k7c1 }
def k7c2 : Code := { maxStack := 4, maxLocals := 6, code := jdk_42_method_149_code, exceptionTable := #[], attributes := #[] }
def k7m2 : Method := { name := "<init>", desc := "([CIILjava/lang/Void;)V", sig := { parameters := [(.array .char), .int, .int, (.object "java/lang/Void")], returnType := none }, accessFlags := 2, code := some k7c2 }
/-- java/lang/String -/
def k7 : Class := { plain "java/lang/String" (some 0) with
  accessFlags := 49
  interfaces := #[2, 3, 4, 5, 6]
  cf := some (fileOf pool7 10 #[.nestMembers #[1103]] #[{ accessFlags := 1, nameIndex := 5, descriptorIndex := 6, attributes := #[] }, { accessFlags := 1, nameIndex := 5, descriptorIndex := 1010, attributes := #[] }, { accessFlags := 2, nameIndex := 5, descriptorIndex := 29, attributes := #[] }] 49 2 #[1106, 1108, 575, 1110, 1112] #[{ accessFlags := 18, nameIndex := 13, descriptorIndex := 14, attributes := #[] }, { accessFlags := 18, nameIndex := 17, descriptorIndex := 18, attributes := #[] }, { accessFlags := 2, nameIndex := 21, descriptorIndex := 22, attributes := #[] }, { accessFlags := 2, nameIndex := 25, descriptorIndex := 26, attributes := #[] }, { accessFlags := 26, nameIndex := 1116, descriptorIndex := 1117, attributes := #[] }, { accessFlags := 24, nameIndex := 40, descriptorIndex := 26, attributes := #[] }, { accessFlags := 26, nameIndex := 1101, descriptorIndex := 1102, attributes := #[] }, { accessFlags := 26, nameIndex := 1121, descriptorIndex := 1122, attributes := #[] }, { accessFlags := 25, nameIndex := 599, descriptorIndex := 600, attributes := #[] }, { accessFlags := 24, nameIndex := 1125, descriptorIndex := 18, attributes := #[] }, { accessFlags := 24, nameIndex := 1127, descriptorIndex := 18, attributes := #[] }])
  fields := #[{ name := "value", type := (.array .byte), accessFlags := 18, slot := 0, constantValue := 0 }, { name := "coder", type := .byte, accessFlags := 18, slot := 1, constantValue := 0 }, { name := "hash", type := .int, accessFlags := 2, slot := 2, constantValue := 0 }, { name := "hashIsZero", type := .boolean, accessFlags := 2, slot := 3, constantValue := 0 }, { name := "serialVersionUID", type := .long, accessFlags := 26, slot := 0, constantValue := 0 }, { name := "COMPACT_STRINGS", type := .boolean, accessFlags := 24, slot := 1, constantValue := 0 }, { name := "serialPersistentFields", type := (.array (.object "java/io/ObjectStreamField")), accessFlags := 26, slot := 2, constantValue := 0 }, { name := "REPL", type := .char, accessFlags := 26, slot := 3, constantValue := 0 }, { name := "CASE_INSENSITIVE_ORDER", type := (.object "java/util/Comparator"), accessFlags := 25, slot := 4, constantValue := 0 }, { name := "LATIN1", type := .byte, accessFlags := 24, slot := 5, constantValue := 0 }, { name := "UTF16", type := .byte, accessFlags := 24, slot := 6, constantValue := 0 }]
  methods := #[k7m0, k7m1, k7m2]
  instanceTypes := #[(.array .byte), .byte, .int, .boolean]
  staticTypes := #[.long, .boolean, (.array (.object "java/io/ObjectStreamField")), .char, (.object "java/util/Comparator"), .byte, .byte]
  resolved := Array.replicate 1451 none
  statics := some 0 }

def pool8 : Array CpInfo := pool [(6, .class_ 8), (1, u "java/lang/Object"), (0, u "<init>"), (0, u "()V"), (1, .class_ 14), (1, u "java/lang/StringUTF16"), (31, u "$assertionsDisabled"), (0, u "Z"), (13, u "HI_BYTE_SHIFT"), (0, u "I"), (2, u "LO_BYTE_SHIFT"), (49, .methodref 12 116), (0, .nameAndType 117 118), (0, u "compress"), (0, u "([CI[BII)I"), (3, u "([CII)[B"), (138, u "coderFromArrayLen"), (0, u "([BI)B"), (106, .class_ 371), (1, u "java/lang/StringUTF16$LinesSpliterator"), (58, u "MAX_LENGTH"), (196, .class_ 628), (0, u "java/lang/StringUTF16$CodePointsSpliterator"), (0, .class_ 630), (0, u "java/lang/StringUTF16$CharsSpliterator")] 4

def k8m0 : Method := { name := "<init>", desc := "()V", sig := { parameters := [], returnType := none }, accessFlags := 0, code := none }
def k8c1 : Code := { maxStack := 2, maxLocals := 2, code := jdk_52_method_15_code, exceptionTable := #[], attributes := #[] }
def k8m1 : Method := { name := "coderFromArrayLen", desc := "([BI)B", sig := { parameters := [(.array .byte), .int], returnType := some .byte }, accessFlags := 8, code := some k8c1 }
def k8c2 : Code := { maxStack := 5, maxLocals := 6, code := jdk_52_method_16_code, exceptionTable := #[], attributes := #[] }
def k8m2 : Method := { name := "compress", desc := "([CII)[B", sig := { parameters := [(.array .char), .int, .int], returnType := some (.array .byte) }, accessFlags := 9, code := some k8c2 }
def k8c3 : Code := { maxStack := 3, maxLocals := 7, code := jdk_52_method_21_code, exceptionTable := #[], attributes := #[] }
def k8m3 : Method := { name := "compress", desc := "([CI[BII)I", sig := { parameters := [(.array .char), .int, (.array .byte), .int, .int], returnType := some .int }, accessFlags := 9, code := some k8c3 }
/-- java/lang/StringUTF16 -/
def k8 : Class := { plain "java/lang/StringUTF16" (some 0) with
  accessFlags := 48
  interfaces := #[]
  cf := some (fileOf pool8 12 #[.nestMembers #[627, 629, 369]] #[{ accessFlags := 0, nameIndex := 9, descriptorIndex := 10, attributes := #[] }, { accessFlags := 8, nameIndex := 261, descriptorIndex := 262, attributes := #[] }, { accessFlags := 9, nameIndex := 117, descriptorIndex := 122, attributes := #[] }, { accessFlags := 9, nameIndex := 117, descriptorIndex := 118, attributes := #[] }] 48 6 #[] #[{ accessFlags := 26, nameIndex := 61, descriptorIndex := 62, attributes := #[] }, { accessFlags := 26, nameIndex := 65, descriptorIndex := 62, attributes := #[] }, { accessFlags := 24, nameIndex := 430, descriptorIndex := 62, attributes := #[] }, { accessFlags := 4120, nameIndex := 46, descriptorIndex := 47, attributes := #[] }])
  fields := #[{ name := "HI_BYTE_SHIFT", type := .int, accessFlags := 26, slot := 0, constantValue := 0 }, { name := "LO_BYTE_SHIFT", type := .int, accessFlags := 26, slot := 1, constantValue := 0 }, { name := "MAX_LENGTH", type := .int, accessFlags := 24, slot := 2, constantValue := 0 }, { name := "$assertionsDisabled", type := .boolean, accessFlags := 4120, slot := 3, constantValue := 0 }]
  methods := #[k8m0, k8m1, k8m2, k8m3]
  instanceTypes := #[]
  staticTypes := #[.int, .int, .int, .boolean]
  resolved := Array.replicate 635 none
  statics := none }

def pool9 : Array CpInfo := pool [(1, .methodref 2 3), (0, .class_ 4), (0, .nameAndType 5 6), (0, u "java/lang/Object"), (0, u "<init>"), (0, u "()V"), (0, .class_ 8), (0, u "java/lang/Record")] 13

def k9c0 : Code := { maxStack := 1, maxLocals := 1, code := jdk_30_method_1_code, exceptionTable := #[], attributes := #[] }
def k9m0 : Method := { name := "<init>", desc := "()V", sig := { parameters := [], returnType := none }, accessFlags := 4, code := some k9c0 }
/-- java/lang/Record -/
def k9 : Class := { plain "java/lang/Record" (some 0) with
  accessFlags := 1057
  interfaces := #[]
  cf := some (fileOf pool9 7 #[] #[{ accessFlags := 4, nameIndex := 5, descriptorIndex := 6, attributes := #[] }] 1057 2 #[] #[])
  fields := #[]
  methods := #[k9m0]
  instanceTypes := #[]
  staticTypes := #[]
  resolved := Array.replicate 22 none
  statics := none }

def pool10 : Array CpInfo := pool [(1, .methodref 2 3), (0, .class_ 4), (0, .nameAndType 5 6), (0, u "java/lang/Record"), (0, u "<init>"), (0, u "()V"), (0, .fieldref 8 9), (0, .class_ 10), (0, .nameAndType 11 12), (0, u site_104.cls), (0, u "name"), (0, u "Ljava/lang/String;"), (0, .fieldref 8 14), (0, .nameAndType 15 16), (0, u "json"), (0, u "[B"), (12, u "(Ljava/lang/String;[B)V"), (3, u "deleted"), (0, u "()Z")] 26

def k10c0 : Code := { maxStack := 2, maxLocals := 3, code := prog_25_method_1_code, exceptionTable := #[], attributes := #[] }
def k10m0 : Method := { name := "<init>", desc := "(Ljava/lang/String;[B)V", sig := { parameters := [(.object "java/lang/String"), (.array .byte)], returnType := none }, accessFlags := 1, code := some k10c0 }
def k10c1 : Code := { maxStack := 1, maxLocals := 1, code := prog_25_method_2_code, exceptionTable := #[], attributes := #[] }
def k10m1 : Method := { name := "deleted", desc := "()Z", sig := { parameters := [], returnType := some .boolean }, accessFlags := 1, code := some k10c1 }
/-- the class of site_104 -/
def k10 : Class := { plain site_104.cls (some 9) with
  accessFlags := 49
  interfaces := #[]
  cf := some (fileOf pool10 8 #[] #[{ accessFlags := 1, nameIndex := 5, descriptorIndex := 29, attributes := #[] }, { accessFlags := 1, nameIndex := 33, descriptorIndex := 34, attributes := #[] }] 49 2 #[] #[{ accessFlags := 18, nameIndex := 11, descriptorIndex := 12, attributes := #[] }, { accessFlags := 18, nameIndex := 15, descriptorIndex := 16, attributes := #[] }])
  fields := #[{ name := "name", type := (.object "java/lang/String"), accessFlags := 18, slot := 0, constantValue := 0 }, { name := "json", type := (.array .byte), accessFlags := 18, slot := 1, constantValue := 0 }]
  methods := #[k10m0, k10m1]
  instanceTypes := #[(.object "java/lang/String"), (.array .byte)]
  staticTypes := #[]
  resolved := Array.replicate 61 none
  statics := none }

def pool11 : Array CpInfo := pool [(4, .class_ 6), (1, u "java/lang/Object"), (0, u "<init>"), (0, u "()V"), (5, .class_ 16), (1, u "java/lang/StringLatin1"), (104, u "$assertionsDisabled"), (0, u "Z"), (98, .class_ 223), (1, u "java/lang/StringLatin1$LinesSpliterator"), (166, .class_ 391), (0, u "java/lang/StringLatin1$CharsSpliterator")] 3

def k11m0 : Method := { name := "<init>", desc := "()V", sig := { parameters := [], returnType := none }, accessFlags := 0, code := none }
/-- java/lang/StringLatin1 -/
def k11 : Class := { plain "java/lang/StringLatin1" (some 0) with
  accessFlags := 48
  interfaces := #[]
  cf := some (fileOf pool11 14 #[.nestMembers #[390, 221]] #[{ accessFlags := 0, nameIndex := 7, descriptorIndex := 8, attributes := #[] }] 48 4 #[] #[{ accessFlags := 4120, nameIndex := 121, descriptorIndex := 122, attributes := #[] }])
  fields := #[{ name := "$assertionsDisabled", type := .boolean, accessFlags := 4120, slot := 0, constantValue := 0 }]
  methods := #[k11m0]
  instanceTypes := #[]
  staticTypes := #[.boolean]
  resolved := Array.replicate 395 none
  statics := none }

def pool12 : Array CpInfo := pool [(2, .class_ 4), (1, u "java/lang/Object"), (0, u "<init>"), (0, u "()V"), (17, .class_ 26), (1, u "jdk/internal/util/Preconditions"), (28, .class_ 56), (0, u "jdk/internal/util/Preconditions$4"), (57, .class_ 115), (0, u "jdk/internal/util/Preconditions$1"), (7, u "SIOOBE_FORMATTER"), (0, u "Ljava/util/function/BiFunction;"), (0, .class_ 126), (0, u "jdk/internal/util/Preconditions$2"), (3, u "AIOOBE_FORMATTER"), (0, .class_ 132), (0, u "jdk/internal/util/Preconditions$3"), (3, u "IOOBE_FORMATTER")] 57

def k12m0 : Method := { name := "<init>", desc := "()V", sig := { parameters := [], returnType := none }, accessFlags := 1, code := none }
/-- jdk/internal/util/Preconditions -/
def k12 : Class := { plain "jdk/internal/util/Preconditions" (some 0) with
  accessFlags := 33
  interfaces := #[]
  cf := some (fileOf pool12 24 #[.nestMembers #[55, 131, 125, 114]] #[{ accessFlags := 1, nameIndex := 5, descriptorIndex := 6, attributes := #[] }] 33 2 #[] #[{ accessFlags := 25, nameIndex := 123, descriptorIndex := 124, attributes := #[] }, { accessFlags := 25, nameIndex := 130, descriptorIndex := 124, attributes := #[] }, { accessFlags := 25, nameIndex := 136, descriptorIndex := 124, attributes := #[] }])
  fields := #[{ name := "SIOOBE_FORMATTER", type := (.object "java/util/function/BiFunction"), accessFlags := 25, slot := 0, constantValue := 0 }, { name := "AIOOBE_FORMATTER", type := (.object "java/util/function/BiFunction"), accessFlags := 25, slot := 1, constantValue := 0 }, { name := "IOOBE_FORMATTER", type := (.object "java/util/function/BiFunction"), accessFlags := 25, slot := 2, constantValue := 0 }]
  methods := #[k12m0]
  instanceTypes := #[]
  staticTypes := #[(.object "java/util/function/BiFunction"), (.object "java/util/function/BiFunction"), (.object "java/util/function/BiFunction")]
  resolved := Array.replicate 194 none
  statics := some 1 }

def pool13 : Array CpInfo := pool [(9, u "<init>"), (6, .class_ 18), (1, u "java/lang/Object"), (0, u "()V"), (1, .class_ 23), (1, u "jdk/internal/util/ArraysSupport"), (0, u "LOG2_ARRAY_LONG_INDEX_SCALE"), (0, u "I"), (2, u "U"), (0, u "Ljdk/internal/misc/Unsafe;"), (8, u "BIG_ENDIAN"), (0, u "Z"), (8, u "LOG2_BYTE_BIT_SIZE"), (4, u "LOG2_ARRAY_INT_INDEX_SCALE"), (54, u "JLA"), (0, u "Ljdk/internal/access/JavaLangAccess;"), (11, u "LOG2_ARRAY_BOOLEAN_INDEX_SCALE"), (9, u "LOG2_ARRAY_BYTE_INDEX_SCALE"), (5, u "LOG2_ARRAY_CHAR_INDEX_SCALE"), (5, u "LOG2_ARRAY_SHORT_INDEX_SCALE"), (18, u "LOG2_ARRAY_FLOAT_INDEX_SCALE"), (24, u "LOG2_ARRAY_DOUBLE_INDEX_SCALE"), (89, u "T_BOOLEAN"), (2, u "T_CHAR"), (1, u "T_FLOAT"), (1, u "T_DOUBLE"), (1, u "T_BYTE"), (1, u "T_SHORT"), (1, u "T_INT"), (1, u "T_LONG"), (1, u "SOFT_MAX_ARRAY_LENGTH")] 83

def k13m0 : Method := { name := "<init>", desc := "()V", sig := { parameters := [], returnType := none }, accessFlags := 2, code := none }
/-- jdk/internal/util/ArraysSupport -/
def k13 : Class := { plain "jdk/internal/util/ArraysSupport" (some 0) with
  accessFlags := 33
  interfaces := #[]
  cf := some (fileOf pool13 21 #[] #[{ accessFlags := 2, nameIndex := 9, descriptorIndex := 19, attributes := #[] }] 33 16 #[] #[{ accessFlags := 24, nameIndex := 28, descriptorIndex := 29, attributes := #[] }, { accessFlags := 26, nameIndex := 38, descriptorIndex := 39, attributes := #[] }, { accessFlags := 25, nameIndex := 121, descriptorIndex := 25, attributes := #[] }, { accessFlags := 25, nameIndex := 131, descriptorIndex := 25, attributes := #[] }, { accessFlags := 25, nameIndex := 137, descriptorIndex := 25, attributes := #[] }, { accessFlags := 25, nameIndex := 143, descriptorIndex := 25, attributes := #[] }, { accessFlags := 25, nameIndex := 53, descriptorIndex := 25, attributes := #[] }, { accessFlags := 25, nameIndex := 24, descriptorIndex := 25, attributes := #[] }, { accessFlags := 25, nameIndex := 162, descriptorIndex := 25, attributes := #[] }, { accessFlags := 25, nameIndex := 187, descriptorIndex := 25, attributes := #[] }, { accessFlags := 26, nameIndex := 48, descriptorIndex := 25, attributes := #[] }, { accessFlags := 25, nameIndex := 277, descriptorIndex := 25, attributes := #[] }, { accessFlags := 25, nameIndex := 280, descriptorIndex := 25, attributes := #[] }, { accessFlags := 25, nameIndex := 282, descriptorIndex := 25, attributes := #[] }, { accessFlags := 25, nameIndex := 284, descriptorIndex := 25, attributes := #[] }, { accessFlags := 25, nameIndex := 286, descriptorIndex := 25, attributes := #[] }, { accessFlags := 25, nameIndex := 288, descriptorIndex := 25, attributes := #[] }, { accessFlags := 25, nameIndex := 290, descriptorIndex := 25, attributes := #[] }, { accessFlags := 25, nameIndex := 292, descriptorIndex := 25, attributes := #[] }, { accessFlags := 26, nameIndex := 108, descriptorIndex := 109, attributes := #[] }, { accessFlags := 25, nameIndex := 294, descriptorIndex := 25, attributes := #[] }])
  fields := #[{ name := "U", type := (.object "jdk/internal/misc/Unsafe"), accessFlags := 24, slot := 0, constantValue := 0 }, { name := "BIG_ENDIAN", type := .boolean, accessFlags := 26, slot := 1, constantValue := 0 }, { name := "LOG2_ARRAY_BOOLEAN_INDEX_SCALE", type := .int, accessFlags := 25, slot := 2, constantValue := 0 }, { name := "LOG2_ARRAY_BYTE_INDEX_SCALE", type := .int, accessFlags := 25, slot := 3, constantValue := 0 }, { name := "LOG2_ARRAY_CHAR_INDEX_SCALE", type := .int, accessFlags := 25, slot := 4, constantValue := 0 }, { name := "LOG2_ARRAY_SHORT_INDEX_SCALE", type := .int, accessFlags := 25, slot := 5, constantValue := 0 }, { name := "LOG2_ARRAY_INT_INDEX_SCALE", type := .int, accessFlags := 25, slot := 6, constantValue := 0 }, { name := "LOG2_ARRAY_LONG_INDEX_SCALE", type := .int, accessFlags := 25, slot := 7, constantValue := 0 }, { name := "LOG2_ARRAY_FLOAT_INDEX_SCALE", type := .int, accessFlags := 25, slot := 8, constantValue := 0 }, { name := "LOG2_ARRAY_DOUBLE_INDEX_SCALE", type := .int, accessFlags := 25, slot := 9, constantValue := 0 }, { name := "LOG2_BYTE_BIT_SIZE", type := .int, accessFlags := 26, slot := 10, constantValue := 0 }, { name := "T_BOOLEAN", type := .int, accessFlags := 25, slot := 11, constantValue := 0 }, { name := "T_CHAR", type := .int, accessFlags := 25, slot := 12, constantValue := 0 }, { name := "T_FLOAT", type := .int, accessFlags := 25, slot := 13, constantValue := 0 }, { name := "T_DOUBLE", type := .int, accessFlags := 25, slot := 14, constantValue := 0 }, { name := "T_BYTE", type := .int, accessFlags := 25, slot := 15, constantValue := 0 }, { name := "T_SHORT", type := .int, accessFlags := 25, slot := 16, constantValue := 0 }, { name := "T_INT", type := .int, accessFlags := 25, slot := 17, constantValue := 0 }, { name := "T_LONG", type := .int, accessFlags := 25, slot := 18, constantValue := 0 }, { name := "JLA", type := (.object "jdk/internal/access/JavaLangAccess"), accessFlags := 26, slot := 19, constantValue := 0 }, { name := "SOFT_MAX_ARRAY_LENGTH", type := .int, accessFlags := 25, slot := 20, constantValue := 0 }]
  methods := #[k13m0]
  instanceTypes := #[]
  staticTypes := #[(.object "jdk/internal/misc/Unsafe"), .boolean, .int, .int, .int, .int, .int, .int, .int, .int, .int, .int, .int, .int, .int, .int, .int, .int, .int, (.object "jdk/internal/access/JavaLangAccess"), .int]
  resolved := Array.replicate 378 none
  statics := none }

def pool14 : Array CpInfo := pool [(1, u "java/lang/Cloneable"), (0, .class_ 1), (0, u "java/lang/Object"), (0, .class_ 3)] 3

/-- java/lang/Cloneable -/
def k14 : Class := { plain "java/lang/Cloneable" (some 0) with
  accessFlags := 1537
  interfaces := #[]
  cf := some (fileOf pool14 2 #[] #[] 1537 4 #[] #[])
  fields := #[]
  methods := #[]
  instanceTypes := #[]
  staticTypes := #[]
  resolved := Array.replicate 8 none
  statics := none }

/-- the primitive byte -/
def k15 : Class := { plain "byte" none with kind := .primitive 'B', accessFlags := 0x411 }
/-- [B -/
def k16 : Class := { plain "[B" (some 0) with kind := .array 15 .byte, interfaces := #[14, 2], accessFlags := 1041 }

/-- the primitive char -/
def k17 : Class := { plain "char" none with kind := .primitive 'C', accessFlags := 0x411 }
/-- [C -/
def k18 : Class := { plain "[C" (some 0) with kind := .array 17 .char, interfaces := #[14, 2], accessFlags := 1041 }

/-- the primitive int -/
def k19 : Class := { plain "int" none with kind := .primitive 'I', accessFlags := 0x411 }
/-- [I -/
def k20 : Class := { plain "[I" (some 0) with kind := .array 19 .int, interfaces := #[14, 2], accessFlags := 1041 }

def heap : Heap := #[{ cls := 7, slots := #[.long 0, .int 1, .null, .int 0, .null, .int 0, .int 0], vm := .statics 7 },
  { cls := 12, slots := #[.null, .null, .null], vm := .statics 12 }]
def classes : Array Class := #[k0, k1, k2, k3, k4, k5, k6, k7, k8, k9, k10, k11, k12, k13, k14, k15, k16, k17, k18, k19, k20]
def interned : List (Array UInt16 × Addr) := []
def slotsUsed : Nat := 10
def theMethod : MethodId := ⟨1, 1⟩
def args0 : Array Value := #[.int 5, .int 3, .int 1, .int 2]
def aboutOver (below : List Frame) : State where
  vm := { classes := classes, interned := interned.toArray }
  heap := heap
  slotsUsed := slotsUsed
  threads := #[{ frames := .invoking theMethod args0 :: below }]
def below0 : List Frame := [.native { method := ⟨0, 0⟩, args := #[] }]
def about1 : State := aboutOver below0
def p0 : Program := .bare "" "" ""
def e0 : Env := launch0.env 0 0 0
theorem w_frames : about1.frames = Frame.invoking theMethod args0 :: below0 := rfl
set_option maxRecDepth 65536 in
theorem w_args : argsFit about1.vm theMethod args0 = true := by decide +kernel
set_option maxRecDepth 65536 in
theorem w_heap : heapFits about1 = true := by decide +kernel
set_option maxRecDepth 65536 in
theorem w_runnable : about1.curStatus? = some .runnable := by decide +kernel
set_option maxRecDepth 65536 in
theorem w_alone : about1.alone = true := by decide +kernel
set_option maxRecDepth 65536 in
theorem w_named : about1.methodNamed? x = some theMethod := by decide +kernel
set_option maxRecDepth 65536 in
theorem w_hears : about1.hears theMethod below0 = true := by decide +kernel
set_option maxRecDepth 65536 in
theorem w_ripe : about1.ripe theMethod args0 below0 = true := by decide +kernel
theorem w_running : about1.status = .running := rfl
set_option maxRecDepth 65536 in
theorem w_room : about1.hasRoom e0.platform room_1 = true :=
  launch0.hasRoom_least _ room_1 (by decide +kernel) (by decide +kernel) (by decide +kernel) (by decide +kernel) (by decide +kernel) (by decide +kernel)
theorem allAtoms_all (ts : List Jvm.Cond) (a : Array Jvm.Value) (st : Jvm.State) : (allAtoms ts).before a st = ts.all (fun c => c.before a st) := by
  induction ts with
  | nil => rfl
  | cons c t ih =>
    show (Jvm.Cond.and c (allAtoms t)).before a st = _
    rw [Jvm.Cond.before_and, ih, List.all_cons]
def words1 : List Jvm.Cond := Jvm.Cond.code x code maxLocals ret :: tables_1
/-- a 'code' word, met by the world's own term for the bytes: nothing is compared byte by byte -/
theorem code_word {y : MethodName} {bytes : ByteArray} {mx : Nat} {rt : Option FieldType} {a : Array Value} {s : State} {m : MethodId} {meth : Method} {c : Code} (h1 : s.methodNamed? y = some m) (h2 : s.vm.method? m = some meth) (h3 : meth.code = some c) (h4 : c.code = bytes)
    (h5 : (c.maxLocals == mx && c.exceptionTable.isEmpty && decide (c.maxStack ≤ mostOperands) && decide (meth.sig.returnType = rt) && !meth.locks && decide (parseMethodDescriptor y.desc = some meth.sig)) = true) : (Jvm.Cond.code y bytes mx rt).before a s = true := by
  simp only [Bool.and_eq_true, beq_iff_eq, Bool.not_eq_true', decide_eq_true_eq] at h5
  obtain ⟨⟨⟨⟨⟨g1, g2⟩, g3⟩, g4⟩, g5⟩, g6⟩ := h5
  simp [Cond.before, Cond.holds, Cond.value, h1, h2, h3, h4, g1, g2, g3, g4, g5, g6]
def isCode : Jvm.Cond → Bool
  | .code _ _ _ _ => true
  | _ => false
theorem all_split {L : List Jvm.Cond} {P : Jvm.Cond → Bool} (h1 : L.all (fun c => isCode c || P c) = true) (h2 : ∀ c ∈ L.filter isCode, P c = true) : L.all P = true := by
  refine List.all_eq_true.mpr fun c hc => ?_
  have h := List.all_eq_true.mp h1 c hc
  rcases Bool.eq_false_or_eq_true (isCode c) with hi | hi
  · exact h2 c (List.mem_filter.mpr ⟨hc, hi⟩)
  · simpa [hi] using h
set_option maxRecDepth 65536 in
theorem w_c0 : (Jvm.Cond.code x code maxLocals ret).before args0 about1 = true := code_word (m := ⟨1, 1⟩) (meth := k1m1) (c := k1c1) (by decide +kernel) rfl rfl rfl (by decide +kernel)
set_option maxRecDepth 65536 in
theorem w_c1 : (Jvm.Cond.code ({ cls := "java/lang/String", name := "<init>", desc := "([C)V" } : Jvm.MethodName) jdk_42_method_3_code (2 : Nat) (Option.none : Option Jvm.ClassFile.FieldType)).before args0 about1 = true := code_word (m := ⟨7, 1⟩) (meth := k7m1) (c := k7c1) (by decide +kernel) rfl rfl rfl (by decide +kernel)
set_option maxRecDepth 65536 in
theorem w_c2 : (Jvm.Cond.code ({ cls := "java/lang/String", name := "<init>", desc := "([CIILjava/lang/Void;)V" } : Jvm.MethodName) jdk_42_method_149_code (6 : Nat) (Option.none : Option Jvm.ClassFile.FieldType)).before args0 about1 = true := code_word (m := ⟨7, 2⟩) (meth := k7m2) (c := k7c2) (by decide +kernel) rfl rfl rfl (by decide +kernel)
set_option maxRecDepth 65536 in
theorem w_c3 : (Jvm.Cond.code ({ cls := "java/lang/Object", name := "<init>", desc := "()V" } : Jvm.MethodName) object_method_1_code (1 : Nat) (Option.none : Option Jvm.ClassFile.FieldType)).before args0 about1 = true := code_word (m := ⟨0, 0⟩) (meth := k0m0) (c := k0c0) (by decide +kernel) rfl rfl rfl (by decide +kernel)
set_option maxRecDepth 65536 in
theorem w_c4 : (Jvm.Cond.code ({ cls := "java/lang/StringUTF16", name := "compress", desc := "([CII)[B" } : Jvm.MethodName) jdk_52_method_16_code (6 : Nat) (Option.some (Jvm.ClassFile.FieldType.array Jvm.ClassFile.FieldType.byte))).before args0 about1 = true := code_word (m := ⟨8, 2⟩) (meth := k8m2) (c := k8c2) (by decide +kernel) rfl rfl rfl (by decide +kernel)
set_option maxRecDepth 65536 in
theorem w_c5 : (Jvm.Cond.code ({ cls := "java/lang/StringUTF16", name := "compress", desc := "([CI[BII)I" } : Jvm.MethodName) jdk_52_method_21_code (7 : Nat) (Option.some Jvm.ClassFile.FieldType.int)).before args0 about1 = true := code_word (m := ⟨8, 3⟩) (meth := k8m3) (c := k8c3) (by decide +kernel) rfl rfl rfl (by decide +kernel)
set_option maxRecDepth 65536 in
theorem w_c6 : (Jvm.Cond.code ({ cls := "java/lang/StringUTF16", name := "coderFromArrayLen", desc := "([BI)B" } : Jvm.MethodName) jdk_52_method_15_code (2 : Nat) (Option.some Jvm.ClassFile.FieldType.byte)).before args0 about1 = true := code_word (m := ⟨8, 1⟩) (meth := k8m1) (c := k8c1) (by decide +kernel) rfl rfl rfl (by decide +kernel)
set_option maxRecDepth 65536 in
theorem w_c7 : (Jvm.Cond.code ({ cls := site_104.cls, name := "<init>", desc := "(Ljava/lang/String;[B)V" } : Jvm.MethodName) prog_25_method_1_code (3 : Nat) (Option.none : Option Jvm.ClassFile.FieldType)).before args0 about1 = true := code_word (m := ⟨10, 0⟩) (meth := k10m0) (c := k10c0) (by decide +kernel) rfl rfl rfl (by decide +kernel)
set_option maxRecDepth 65536 in
theorem w_c8 : (Jvm.Cond.code ({ cls := "java/lang/Record", name := "<init>", desc := "()V" } : Jvm.MethodName) jdk_30_method_1_code (1 : Nat) (Option.none : Option Jvm.ClassFile.FieldType)).before args0 about1 = true := code_word (m := ⟨9, 0⟩) (meth := k9m0) (c := k9c0) (by decide +kernel) rfl rfl rfl (by decide +kernel)
set_option maxRecDepth 65536 in
theorem w_c9 : (Jvm.Cond.code ({ cls := site_104.cls, name := "deleted", desc := "()Z" } : Jvm.MethodName) prog_25_method_2_code (1 : Nat) (Option.some Jvm.ClassFile.FieldType.boolean)).before args0 about1 = true := code_word (m := ⟨10, 1⟩) (meth := k10m1) (c := k10c1) (by decide +kernel) rfl rfl rfl (by decide +kernel)
def codes1 : List Jvm.Cond := [Jvm.Cond.code x code maxLocals ret, Jvm.Cond.code ({ cls := "java/lang/String", name := "<init>", desc := "([C)V" } : Jvm.MethodName) jdk_42_method_3_code (2 : Nat) (Option.none : Option Jvm.ClassFile.FieldType), Jvm.Cond.code ({ cls := "java/lang/String", name := "<init>", desc := "([CIILjava/lang/Void;)V" } : Jvm.MethodName) jdk_42_method_149_code (6 : Nat) (Option.none : Option Jvm.ClassFile.FieldType), Jvm.Cond.code ({ cls := "java/lang/Object", name := "<init>", desc := "()V" } : Jvm.MethodName) object_method_1_code (1 : Nat) (Option.none : Option Jvm.ClassFile.FieldType), Jvm.Cond.code ({ cls := "java/lang/StringUTF16", name := "compress", desc := "([CII)[B" } : Jvm.MethodName) jdk_52_method_16_code (6 : Nat) (Option.some (Jvm.ClassFile.FieldType.array Jvm.ClassFile.FieldType.byte)), Jvm.Cond.code ({ cls := "java/lang/StringUTF16", name := "compress", desc := "([CI[BII)I" } : Jvm.MethodName) jdk_52_method_21_code (7 : Nat) (Option.some Jvm.ClassFile.FieldType.int), Jvm.Cond.code ({ cls := "java/lang/StringUTF16", name := "coderFromArrayLen", desc := "([BI)B" } : Jvm.MethodName) jdk_52_method_15_code (2 : Nat) (Option.some Jvm.ClassFile.FieldType.byte), Jvm.Cond.code ({ cls := site_104.cls, name := "<init>", desc := "(Ljava/lang/String;[B)V" } : Jvm.MethodName) prog_25_method_1_code (3 : Nat) (Option.none : Option Jvm.ClassFile.FieldType), Jvm.Cond.code ({ cls := "java/lang/Record", name := "<init>", desc := "()V" } : Jvm.MethodName) jdk_30_method_1_code (1 : Nat) (Option.none : Option Jvm.ClassFile.FieldType), Jvm.Cond.code ({ cls := site_104.cls, name := "deleted", desc := "()Z" } : Jvm.MethodName) prog_25_method_2_code (1 : Nat) (Option.some Jvm.ClassFile.FieldType.boolean)]
set_option maxRecDepth 65536 in
theorem codes_eq : words1.filter isCode = codes1 := rfl
theorem w_codes : ∀ c ∈ words1.filter isCode, c.before args0 about1 = true := by
  rw [codes_eq]
  intro c hc
  simp only [codes1, List.mem_cons, List.not_mem_nil, or_false] at hc
  rcases hc with rfl | rfl | rfl | rfl | rfl | rfl | rfl | rfl | rfl | rfl
  · exact w_c0
  · exact w_c1
  · exact w_c2
  · exact w_c3
  · exact w_c4
  · exact w_c5
  · exact w_c6
  · exact w_c7
  · exact w_c8
  · exact w_c9
set_option maxRecDepth 65536 in
theorem w_t1 : (words1.take 24).all (fun c => isCode c || c.before args0 about1) = true := by decide +kernel
set_option maxRecDepth 65536 in
theorem w_t2 : ((words1.drop 24).take 24).all (fun c => isCode c || c.before args0 about1) = true := by decide +kernel
set_option maxRecDepth 65536 in
theorem w_t3 : ((words1.drop 24).drop 24).all (fun c => isCode c || c.before args0 about1) = true := by decide +kernel
theorem w_tables : (allAtoms (Jvm.Cond.code x code maxLocals ret :: tables_1)).before args0 about1 = true := by
  rw [allAtoms_all]
  show words1.all (fun c => c.before args0 about1) = true
  refine all_split ?_ w_codes
  rw [← List.take_append_drop 24 words1, List.all_append, w_t1, ← List.take_append_drop 24 (words1.drop 24), List.all_append, w_t2, w_t3]
  rfl
set_option maxRecDepth 65536 in
theorem w_rest : rest_1_c.before args0 about1 = true := by decide +kernel
set_option maxRecDepth 65536 in
theorem w_case : (Jvm.Cond.and given_1 narrow_1).before args0 about1 = true := by decide +kernel
theorem w_applies : (headSpec (Jvm.Cond.code x code maxLocals ret :: tables_1) room_1).applies x e0.platform about1 = true :=
  (Spec.applies_iff w_frames).mpr ⟨w_running, w_runnable, w_alone, w_named, w_hears, w_ripe, w_room, w_tables⟩
theorem atStart : AtStart classFile x code maxLocals ret World_1 tables_1 room_1 Calls_1 rest_1 Pre_1 launch0 p0 e0 about1 theMethod args0 below0 :=
  ⟨lists_1, trivial, launch0.admits_env _ _ _, launch0.least_env, fairChoices_fair.cas, fairChoices_fair.clock, w_frames, w_args, w_heap, w_applies, trivial, w_rest, w_case⟩
end start1
theorem witness_1 : WitnessClaimed_1 := ⟨start1.p0, start1.e0, start1.about1, start1.theMethod, start1.args0, start1.below0, start1.atStart⟩
end Jvm.Pilot.@@N@@
