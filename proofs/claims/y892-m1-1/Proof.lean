import JvmDerived
import JvmDerived.Pilot.@@N@@Statement
import JvmDerived.Pilot.@@N@@Code
set_option linter.unusedVariables false
set_option linter.unusedSimpArgs false
@@BLOCK:NumsL.lean.txt@@
namespace Jvm.RoadKit
open Sem ClassFile Op Lib Jvm.Stand Jvm.Free Jvm.LawKit
section Own
variable {p : Program} {l : Launch} {e : Env} {R : Room} {s : State} {m : MethodId} {args : Array Value} {below : List Frame} {meth : Method} {c : Code} {T T' : State} {locs : List Loc} {cells slots : Nat} {K : State → Outcome → Prop} {g g' : JFrame} {A A' : Array Slot} {S : List Value} {q : Nat} {x y : Int32} {v w : Value} {Z : State} {a0 : Array Value} {h : Heap}
theorem own_mask255 (x : Int32) : (x &&& 255).toInt = x.toInt % 256 := Jvm.Kit.i32_mask x 255 (k := 8) (by decide) (by decide)
/-- from T with the frame g the body comes to an end of which K is true -/
def own_G (p : Program) (e : Env) (below : List Frame) (K : State → Outcome → Prop) (T : State) (g : JFrame) : Prop := ∃ s₂ o, Steps p.tables e below (T.setTop g) s₂ ∧ s₂.status = .running ∧ Ended s₂ below o ∧ K s₂ o
def own_E (s : State) (Q : Option Value → Heap → List Loc → Prop) (C N : Nat) (t : State) (o : Outcome) : Prop := ∃ v L, o = .returned v ∧ Q v t.heap L ∧ FrameEnd s o t L C N
theorem own_st (h : ∀ t, Steps p.tables e below (T'.setTop g') t → Steps p.tables e below (T.setTop g) t) (k : own_G p e below K T' g') : own_G p e below K T g := by
  obtain ⟨a, b, c, d⟩ := k; exact ⟨a, b, h _ c, d⟩
theorem own_tr (h : Steps p.tables e below (T.setTop g) (T'.setTop g')) (k : own_G p e below K T' g') : own_G p e below K T g := by
  obtain ⟨a, b, c, d⟩ := k; exact ⟨a, b, h.trans c, d⟩
theorem own_up {C N : Nat} (X : Stand p l e R s m args below meth c T locs cells slots) (h1 : cells ≤ C) (h2 : slots ≤ N) : Stand p l e R s m args below meth c T locs C N := { X with same := X.same.mono h1 h2 }
theorem own_iload (X : Stand p l e R s m args below meth c T locs cells slots) (hx : p.tables.exec = Jvm.exec) {k : Nat} (hd : decode c.code q = .ok (.iload k, 2)) (hl : A[k]? = some (.val (.int x))) (kk : own_G p e below K T (mkF m (q + 2) A (.int x :: S))) : own_G p e below K T (mkF m q A S) := own_st (fun _ z => XS.iload X.here hx rfl hd hl z) kk
theorem own_iloadN (X : Stand p l e R s m args below meth c T locs cells slots) (hx : p.tables.exec = Jvm.exec) {k : Fin 4} (hd : decode c.code q = .ok (.iload_n k, 1)) (hl : A[k.val]? = some (.val (.int x))) (kk : own_G p e below K T (mkF m (q + 1) A (.int x :: S))) : own_G p e below K T (mkF m q A S) := own_st (fun _ z => XS.iloadN X.here hx rfl hd hl z) kk
theorem own_aload (X : Stand p l e R s m args below meth c T locs cells slots) (hx : p.tables.exec = Jvm.exec) {k : Nat} (hd : decode c.code q = .ok (.aload k, 2)) (hl : A[k]? = some (.val v)) (hv : v.isRef = true) (kk : own_G p e below K T (mkF m (q + 2) A (v :: S))) : own_G p e below K T (mkF m q A S) := own_st (fun _ z => XS.aload X.here hx rfl hd hl hv z) kk
theorem own_aloadN (X : Stand p l e R s m args below meth c T locs cells slots) (hx : p.tables.exec = Jvm.exec) {k : Fin 4} (hd : decode c.code q = .ok (.aload_n k, 1)) (hl : A[k.val]? = some (.val v)) (hv : v.isRef = true) (kk : own_G p e below K T (mkF m (q + 1) A (v :: S))) : own_G p e below K T (mkF m q A S) := own_st (fun _ z => XS.aloadN X.here hx rfl hd hl hv z) kk
theorem own_istore (X : Stand p l e R s m args below meth c T locs cells slots) (hx : p.tables.exec = Jvm.exec) {k : Nat} (hd : decode c.code q = .ok (.istore k, 2)) (hl : storeLocals A k (.int x) = some A') (kk : own_G p e below K T (mkF m (q + 2) A' S)) : own_G p e below K T (mkF m q A (.int x :: S)) := own_st (fun _ z => XS.istore X.here hx rfl hd rfl hl z) kk
theorem own_istoreN (X : Stand p l e R s m args below meth c T locs cells slots) (hx : p.tables.exec = Jvm.exec) {k : Fin 4} (hd : decode c.code q = .ok (.istore_n k, 1)) (hl : storeLocals A k.val (.int x) = some A') (kk : own_G p e below K T (mkF m (q + 1) A' S)) : own_G p e below K T (mkF m q A (.int x :: S)) := own_st (fun _ z => XS.istoreN X.here hx rfl hd rfl hl z) kk
theorem own_astore (X : Stand p l e R s m args below meth c T locs cells slots) (hx : p.tables.exec = Jvm.exec) {k : Nat} (hd : decode c.code q = .ok (.astore k, 2)) (hv : v.isRef = true) (hl : storeLocals A k v = some A') (kk : own_G p e below K T (mkF m (q + 2) A' S)) : own_G p e below K T (mkF m q A (v :: S)) := own_st (fun _ z => XS.astore X.here hx rfl hd rfl hv hl z) kk
theorem own_astoreN (X : Stand p l e R s m args below meth c T locs cells slots) (hx : p.tables.exec = Jvm.exec) {k : Fin 4} (hd : decode c.code q = .ok (.astore_n k, 1)) (hv : v.isRef = true) (hl : storeLocals A k.val v = some A') (kk : own_G p e below K T (mkF m (q + 1) A' S)) : own_G p e below K T (mkF m q A (v :: S)) := own_st (fun _ z => XS.astoreN X.here hx rfl hd rfl hv hl z) kk
theorem own_iconst (X : Stand p l e R s m args below meth c T locs cells slots) (hx : p.tables.exec = Jvm.exec) {i : Int} (hd : decode c.code q = .ok (.iconst i, 1)) (hv : Int32.ofInt i = x) (kk : own_G p e below K T (mkF m (q + 1) A (.int x :: S))) : own_G p e below K T (mkF m q A S) := own_st (fun _ z => XS.iconst X.here hx rfl hd z) (hv ▸ kk)
theorem own_bipush (X : Stand p l e R s m args below meth c T locs cells slots) (hx : p.tables.exec = Jvm.exec) {i : Int} (hd : decode c.code q = .ok (.bipush i, 2)) (hv : (Int8.ofInt i).toInt32 = x) (kk : own_G p e below K T (mkF m (q + 2) A (.int x :: S))) : own_G p e below K T (mkF m q A S) := own_st (fun _ z => XS.bipush X.here hx rfl hd z) (hv ▸ kk)
theorem own_sipush (X : Stand p l e R s m args below meth c T locs cells slots) (hx : p.tables.exec = Jvm.exec) {i : Int} (hd : decode c.code q = .ok (.sipush i, 3)) (hv : (Int16.ofInt i).toInt32 = x) (kk : own_G p e below K T (mkF m (q + 3) A (.int x :: S))) : own_G p e below K T (mkF m q A S) := own_st (fun _ z => XS.sipush X.here hx rfl hd z) (hv ▸ kk)
theorem own_anull (X : Stand p l e R s m args below meth c T locs cells slots) (hx : p.tables.exec = Jvm.exec) (hd : decode c.code q = .ok (.aconst_null, 1)) (kk : own_G p e below K T (mkF m (q + 1) A (.null :: S))) : own_G p e below K T (mkF m q A S) := own_st (fun _ z => XS.aconstNull X.here hx rfl hd z) kk
theorem own_iadd (X : Stand p l e R s m args below meth c T locs cells slots) (hx : p.tables.exec = Jvm.exec) (hd : decode c.code q = .ok (.iadd, 1)) (kk : own_G p e below K T (mkF m (q + 1) A (.int (x + y) :: S))) : own_G p e below K T (mkF m q A (.int y :: .int x :: S)) := own_st (fun _ z => XS.iadd X.here hx rfl hd rfl z) kk
theorem own_isub (X : Stand p l e R s m args below meth c T locs cells slots) (hx : p.tables.exec = Jvm.exec) (hd : decode c.code q = .ok (.isub, 1)) (kk : own_G p e below K T (mkF m (q + 1) A (.int (x - y) :: S))) : own_G p e below K T (mkF m q A (.int y :: .int x :: S)) := own_st (fun _ z => XS.isub X.here hx rfl hd rfl z) kk
theorem own_imul (X : Stand p l e R s m args below meth c T locs cells slots) (hx : p.tables.exec = Jvm.exec) (hd : decode c.code q = .ok (.imul, 1)) (kk : own_G p e below K T (mkF m (q + 1) A (.int (x * y) :: S))) : own_G p e below K T (mkF m q A (.int y :: .int x :: S)) := own_st (fun _ z => XS.imul X.here hx rfl hd rfl z) kk
theorem own_iand (X : Stand p l e R s m args below meth c T locs cells slots) (hx : p.tables.exec = Jvm.exec) (hd : decode c.code q = .ok (.iand, 1)) (kk : own_G p e below K T (mkF m (q + 1) A (.int (x &&& y) :: S))) : own_G p e below K T (mkF m q A (.int y :: .int x :: S)) := own_st (fun _ z => XS.iand X.here hx rfl hd rfl z) kk
theorem own_ior (X : Stand p l e R s m args below meth c T locs cells slots) (hx : p.tables.exec = Jvm.exec) (hd : decode c.code q = .ok (.ior, 1)) (kk : own_G p e below K T (mkF m (q + 1) A (.int (x ||| y) :: S))) : own_G p e below K T (mkF m q A (.int y :: .int x :: S)) := own_st (fun _ z => XT.ior X.here hx rfl hd rfl z) kk
theorem own_ixor (X : Stand p l e R s m args below meth c T locs cells slots) (hx : p.tables.exec = Jvm.exec) (hd : decode c.code q = .ok (.ixor, 1)) (kk : own_G p e below K T (mkF m (q + 1) A (.int (x ^^^ y) :: S))) : own_G p e below K T (mkF m q A (.int y :: .int x :: S)) := own_st (fun _ z => XT.ixor X.here hx rfl hd rfl z) kk
theorem own_irem (X : Stand p l e R s m args below meth c T locs cells slots) (hx : p.tables.exec = Jvm.exec) (hd : decode c.code q = .ok (.irem, 1)) (hy : y ≠ 0) (kk : own_G p e below K T (mkF m (q + 1) A (.int (x % y) :: S))) : own_G p e below K T (mkF m q A (.int y :: .int x :: S)) := own_st (fun _ z => iremM (g := mkF m q A (.int y :: .int x :: S)) X hx rfl hd rfl hy z) kk
theorem own_iushr (X : Stand p l e R s m args below meth c T locs cells slots) (hx : p.tables.exec = Jvm.exec) (hd : decode c.code q = .ok (.iushr, 1)) (kk : own_G p e below K T (mkF m (q + 1) A (.int (XT.ushr x y) :: S))) : own_G p e below K T (mkF m q A (.int y :: .int x :: S)) := own_st (fun _ z => XT.iushr X.here hx rfl hd rfl z) kk
theorem own_ishl (X : Stand p l e R s m args below meth c T locs cells slots) (hx : p.tables.exec = Jvm.exec) (hd : decode c.code q = .ok (.ishl, 1)) (kk : own_G p e below K T (mkF m (q + 1) A (.int (x <<< (y &&& 31)) :: S))) : own_G p e below K T (mkF m q A (.int y :: .int x :: S)) := own_st (fun _ z => XT.ishl X.here hx rfl hd rfl z) kk
theorem own_ishr (X : Stand p l e R s m args below meth c T locs cells slots) (hx : p.tables.exec = Jvm.exec) (hd : decode c.code q = .ok (.ishr, 1)) (kk : own_G p e below K T (mkF m (q + 1) A (.int (x >>> (y &&& 31)) :: S))) : own_G p e below K T (mkF m q A (.int y :: .int x :: S)) := own_st (fun _ z => XT.ishr X.here hx rfl hd rfl z) kk
theorem own_i2b (X : Stand p l e R s m args below meth c T locs cells slots) (hx : p.tables.exec = Jvm.exec) (hd : decode c.code q = .ok (.i2b, 1)) (kk : own_G p e below K T (mkF m (q + 1) A (.int x.toInt8.toInt32 :: S))) : own_G p e below K T (mkF m q A (.int x :: S)) := own_st (fun _ z => XT.i2b X.here hx rfl hd rfl z) kk
theorem own_i2c (X : Stand p l e R s m args below meth c T locs cells slots) (hx : p.tables.exec = Jvm.exec) (hd : decode c.code q = .ok (.i2c, 1)) (kk : own_G p e below K T (mkF m (q + 1) A (.int x.toUInt32.toUInt16.toUInt32.toInt32 :: S))) : own_G p e below K T (mkF m q A (.int x :: S)) := own_st (fun _ z => XT.i2c X.here hx rfl hd rfl z) kk
theorem own_iinc (X : Stand p l e R s m args below meth c T locs cells slots) (hx : p.tables.exec = Jvm.exec) {k : Nat} {cst : Int} (hd : decode c.code q = .ok (.iinc k cst, 3)) (hv : Int32.ofInt cst = y) (hl : A[k]? = some (.val (.int x))) (hs : storeLocals A k (.int (x + y)) = some A') (kk : own_G p e below K T (mkF m (q + 3) A' S)) : own_G p e below K T (mkF m q A S) := own_st (fun _ z => XS.iinc X.here hx rfl hd hl (hv ▸ hs) z) kk
theorem own_dup (X : Stand p l e R s m args below meth c T locs cells slots) (hx : p.tables.exec = Jvm.exec) (hd : decode c.code q = .ok (.dup, 1)) (hc : v.category = 1) (kk : own_G p e below K T (mkF m (q + 1) A (v :: v :: S))) : own_G p e below K T (mkF m q A (v :: S)) := own_st (fun _ z => XS.dup X.here hx rfl hd rfl hc z) kk
theorem own_dupX1 (X : Stand p l e R s m args below meth c T locs cells slots) (hx : p.tables.exec = Jvm.exec) (hd : decode c.code q = .ok (.dup_x1, 1)) (hc : v.category = 1) (hc' : w.category = 1) (kk : own_G p e below K T (mkF m (q + 1) A (v :: w :: v :: S))) : own_G p e below K T (mkF m q A (v :: w :: S)) := own_st (fun _ z => XT.dupX1 X.here hx rfl hd rfl hc hc' z) kk
theorem own_dup2 (X : Stand p l e R s m args below meth c T locs cells slots) (hx : p.tables.exec = Jvm.exec) (hd : decode c.code q = .ok (.dup2, 1)) (hc : v.category = 1) (hc' : w.category = 1) (kk : own_G p e below K T (mkF m (q + 1) A (v :: w :: v :: w :: S))) : own_G p e below K T (mkF m q A (v :: w :: S)) := own_st (fun _ z => XT.dup2 X.here hx rfl hd rfl hc hc' z) kk
theorem own_pop (X : Stand p l e R s m args below meth c T locs cells slots) (hx : p.tables.exec = Jvm.exec) (hd : decode c.code q = .ok (.pop, 1)) (hc : v.category = 1) (kk : own_G p e below K T (mkF m (q + 1) A S)) : own_G p e below K T (mkF m q A (v :: S)) := own_st (fun _ z => XT.pop X.here hx rfl hd rfl hc z) kk
theorem own_goto (X : Stand p l e R s m args below meth c T locs cells slots) (hx : p.tables.exec = Jvm.exec) {o : Int} {t : Nat} (hd : decode c.code q = .ok (.goto o, 3)) (ho : 0 ≤ (q : Int) + o) (ht : ((q : Int) + o).toNat = t) (kk : own_G p e below K T (mkF m t A S)) : own_G p e below K T (mkF m q A S) := own_st (fun _ z => XS.goto X.here hx rfl (pc0 := q) rfl hd ho ht z) kk
theorem own_if (X : Stand p l e R s m args below meth c T locs cells slots) (hx : p.tables.exec = Jvm.exec) {cd : ClassFile.Cond} {o : Int} {t : Nat} (hd : decode c.code q = .ok (.ifCond cd o, 3)) (ho : 0 ≤ (q : Int) + o) (ht : ((q : Int) + o).toNat = t) (kT : ifCond.holds cd x = true → own_G p e below K T (mkF m t A S)) (kF : ifCond.holds cd x = false → own_G p e below K T (mkF m (q + 3) A S)) : own_G p e below K T (mkF m q A (.int x :: S)) := by
  cases hc : ifCond.holds cd x with
  | true => exact own_st (fun _ z => XS.ifYes X.here hx rfl (pc0 := q) rfl hd rfl hc ho ht z) (kT hc)
  | false => exact own_st (fun _ z => XS.ifNo X.here hx rfl hd rfl hc z) (kF hc)
theorem own_icmp (X : Stand p l e R s m args below meth c T locs cells slots) (hx : p.tables.exec = Jvm.exec) {cd : ClassFile.Cond} {o : Int} {t : Nat} (hd : decode c.code q = .ok (.if_icmp cd o, 3)) (ho : 0 ≤ (q : Int) + o) (ht : ((q : Int) + o).toNat = t) (kT : if_icmp.holds cd x y = true → own_G p e below K T (mkF m t A S)) (kF : if_icmp.holds cd x y = false → own_G p e below K T (mkF m (q + 3) A S)) : own_G p e below K T (mkF m q A (.int y :: .int x :: S)) := by
  cases hc : if_icmp.holds cd x y with
  | true => exact own_st (fun _ z => XS.icmpYes X.here hx rfl (pc0 := q) rfl hd rfl hc ho ht z) (kT hc)
  | false => exact own_st (fun _ z => XS.icmpNo X.here hx rfl hd rfl hc z) (kF hc)
theorem own_h_eq : (ifCond.holds .eq x = true → x = 0) ∧ (ifCond.holds .eq x = false → ¬ x = 0) := by simp [ifCond.holds]
theorem own_h_ne : (ifCond.holds .ne x = true → ¬ x = 0) ∧ (ifCond.holds .ne x = false → x = 0) := by simp [ifCond.holds]
theorem own_h_lt : (ifCond.holds .lt x = true → x < 0) ∧ (ifCond.holds .lt x = false → ¬ x < 0) := by simp [ifCond.holds]
theorem own_h_ge : (ifCond.holds .ge x = true → ¬ x < 0) ∧ (ifCond.holds .ge x = false → x < 0) := by simp [ifCond.holds, ← Int32.not_lt]
theorem own_h_gt : (ifCond.holds .gt x = true → 0 < x) ∧ (ifCond.holds .gt x = false → ¬ 0 < x) := by simp [ifCond.holds]
theorem own_h_le : (ifCond.holds .le x = true → ¬ 0 < x) ∧ (ifCond.holds .le x = false → 0 < x) := by simp [ifCond.holds, ← Int32.not_lt]
theorem own_c_eq : (if_icmp.holds .eq x y = true → x = y) ∧ (if_icmp.holds .eq x y = false → ¬ x = y) := by simp [if_icmp.holds]
theorem own_c_ne : (if_icmp.holds .ne x y = true → ¬ x = y) ∧ (if_icmp.holds .ne x y = false → x = y) := by simp [if_icmp.holds]
theorem own_c_lt : (if_icmp.holds .lt x y = true → x < y) ∧ (if_icmp.holds .lt x y = false → ¬ x < y) := by simp [if_icmp.holds]
theorem own_c_ge : (if_icmp.holds .ge x y = true → ¬ x < y) ∧ (if_icmp.holds .ge x y = false → x < y) := by simp [if_icmp.holds, ← Int32.not_lt]
theorem own_c_gt : (if_icmp.holds .gt x y = true → y < x) ∧ (if_icmp.holds .gt x y = false → ¬ y < x) := by simp [if_icmp.holds]
theorem own_c_le : (if_icmp.holds .le x y = true → ¬ y < x) ∧ (if_icmp.holds .le x y = false → y < x) := by simp [if_icmp.holds, ← Int32.not_lt]
theorem own_acmp (X : Stand p l e R s m args below meth c T locs cells slots) (hx : p.tables.exec = Jvm.exec) {cd : ACond} {o : Int} {t : Nat} (h1 : v.isRef = true) (h2 : w.isRef = true) (hd : decode c.code q = .ok (.if_acmp cd o, 3)) (ho : 0 ≤ (q : Int) + o) (ht : ((q : Int) + o).toNat = t) (kY : v = w → own_G p e below K T (mkF m (if acV cd true = true then t else q + 3) A S)) (kN : ¬ v = w → own_G p e below K T (mkF m (if acV cd false = true then t else q + 3) A S)) : own_G p e below K T (mkF m q A (w :: v :: S)) := by
  by_cases hq : v = w
  · exact own_st (fun _ z => acmp (g := mkF m q A (w :: v :: S)) X hx rfl h1 h2 (pc0 := q) rfl hd rfl (decide_eq_true hq) ho (by rw [ht]) z) (kY hq)
  · exact own_st (fun _ z => acmp (g := mkF m q A (w :: v :: S)) X hx rfl h1 h2 (pc0 := q) rfl hd rfl (decide_eq_false hq) ho (by rw [ht]) z) (kN hq)
theorem own_nullY (X : Stand p l e R s m args below meth c T locs cells slots) (hx : p.tables.exec = Jvm.exec) {o : Int} {t : Nat} (hd : decode c.code q = .ok (.ifnull o, 3)) (ho : 0 ≤ (q : Int) + o) (ht : ((q : Int) + o).toNat = t) (kk : own_G p e below K T (mkF m t A S)) : own_G p e below K T (mkF m q A (.null :: S)) := own_st (fun _ z => XS.ifnullYes X.here hx rfl (pc0 := q) rfl hd rfl ho ht z) kk
theorem own_nullN {b : Addr} (X : Stand p l e R s m args below meth c T locs cells slots) (hx : p.tables.exec = Jvm.exec) {o : Int} (hd : decode c.code q = .ok (.ifnull o, 3)) (kk : own_G p e below K T (mkF m (q + 3) A S)) : own_G p e below K T (mkF m q A (.ref b :: S)) := own_st (fun _ z => XS.ifnullNo X.here hx rfl hd rfl z) kk
theorem own_nonnullY {b : Addr} (X : Stand p l e R s m args below meth c T locs cells slots) (hx : p.tables.exec = Jvm.exec) {o : Int} {t : Nat} (hd : decode c.code q = .ok (.ifnonnull o, 3)) (ho : 0 ≤ (q : Int) + o) (ht : ((q : Int) + o).toNat = t) (kk : own_G p e below K T (mkF m t A S)) : own_G p e below K T (mkF m q A (.ref b :: S)) := own_st (fun _ z => XT.ifnonnullYes X.here hx rfl (pc0 := q) rfl hd rfl ho ht z) kk
theorem own_nonnullN (X : Stand p l e R s m args below meth c T locs cells slots) (hx : p.tables.exec = Jvm.exec) {o : Int} (hd : decode c.code q = .ok (.ifnonnull o, 3)) (kk : own_G p e below K T (mkF m (q + 3) A S)) : own_G p e below K T (mkF m q A (.null :: S)) := own_st (fun _ z => XT.ifnonnullNo X.here hx rfl hd rfl z) kk
theorem own_fitR {ty : FieldType} (ht : ty.isReference = true) (hv : v.isRef = true) : fits ty v = true := by
  rcases ref_cases hv with rfl | ⟨a, rfl⟩ <;> cases ty <;> simp_all [fits, FieldType.isReference]
theorem own_chr (x : Int32) : ∃ c : Int32, c = x &&& 255 ∧ (x &&& 255).toUInt32.toUInt16.toUInt32.toInt32 = c ∧ nar .char c = c ∧ ¬ c < 0 ∧ ¬ (255 : Int32) < c := by
  have h1 : (x &&& 255).toInt = x.toInt % 256 := by
    have := Jvm.RoadKit.own_mask255 x
    exact this
  refine ⟨x &&& 255, rfl, i2c_mask x, i2c_mask x, ?_, ?_⟩
  · rw [Int32.lt_iff_toInt_lt, h1]; show ¬ _ < (0 : Int); omega
  · rw [Int32.lt_iff_toInt_lt, h1]; show ¬ (255 : Int) < _; omega
theorem own_join {α : Type} {P : α → Prop} {F : α → JFrame} (X : Stand p l e R s m args below meth c T locs cells slots) (eT : T.heap = h) (kJ : ∀ T', Stand p l e R s m args below meth c T' locs cells slots → T'.heap = h → ∀ a, P a → own_G p e below K T' (F a)) (kB : (∀ T', Stand p l e R s m args below meth c T' locs cells slots → T'.heap = h → ∀ a, P a → own_G p e below K T' (F a)) → own_G p e below K T g) : own_G p e below K T g := kB kJ
theorem own_notInst {C Kn : String} {n : Nat} (w : (Cond.superclass C "java/lang/Object").before a0 Z = true) (w0 : (Cond.noSuperclass "java/lang/Object").before a0 Z = true) (wi : (Cond.instantiable Kn n).before a0 Z = true) (h1 : C ≠ Kn) (h2 : "java/lang/Object" ≠ Kn) : ∃ c t, Z.vm.findClass C = some c ∧ Z.vm.findClass Kn = some t ∧ Z.vm.assignable c t = false := by
  obtain ⟨t, kt, g0, g2, g5, g7, -⟩ := Cond.instantiable_spec wi
  obtain ⟨c, h0⟩ := found_sup w
  obtain ⟨p, k, kp, e1, e2, e3, e4, e5, -, e7⟩ := Cond.superclass_spec h0 w
  obtain ⟨o, ko, o1, o2, o3, -, -⟩ := Cond.noSuperclass_spec w0
  cases o1.symm.trans e1
  have ne := ids_ne h0 g0 h1
  have ne2 := ids_ne o1 g0 h2
  have n3 : ∀ fuel, Z.vm.isSubclassAux fuel c t = false := fun fuel => by
    cases fuel with
    | zero => rfl
    | succ f =>
      cases f with
      | zero => simp [Vm.isSubclassAux, ne, e2, e4]
      | succ f => simp [Vm.isSubclassAux, ne, e2, e4, ne2, o2, o3]
  have g8 : kt.isInterface = false := by
    cases hi : kt.isInterface with
    | false => rfl
    | true => rw [hi] at g7; simp at g7
  refine ⟨c, t, h0, g0, ?_⟩
  show Z.vm.assignableAux (255 + 1) c t = false
  simp [Vm.assignableAux, ne, e2, g2, e5, g5, g8, Vm.isSubclass, n3]
/-! the ends of a body -/
section Ends
variable {Q : Option Value → Heap → List Loc → Prop} {C N : Nat}
theorem own_retN {t : FieldType} (X : Stand p l e R s m args below meth c T locs cells slots) (hx : p.tables.exec = Jvm.exec) (hret : meth.sig.returnType = some t) (hlocks : meth.locks = false) (ht : t = .boolean ∨ t = .byte ∨ t = .char ∨ t = .short) (hd : decode c.code q = .ok (.ireturn, 1)) (hn : nar t x = x) (hc : cells ≤ C) (hs : slots ≤ N) (hQ : Q (some (.int x)) T.heap locs) : own_G p e below (own_E s Q C N) T (mkF m q A (.int x :: S)) := by
  obtain ⟨fs, hr, hrun, hended, hW, hsame⟩ := X.leave (v := some (.int (nar t x))) (fun h => by rw [hret] at h; cases h) hlocks
  refine ⟨_, _, retN X hx hret ht hd hr, hrun, hended, _, _, rfl, ?_, ⟨_, rfl⟩, hW, hsame.mono hc hs⟩
  rw [hn]; exact hQ
theorem own_retI (X : Stand p l e R s m args below meth c T locs cells slots) (hx : p.tables.exec = Jvm.exec) (hret : meth.sig.returnType = some .int) (hlocks : meth.locks = false) (hd : decode c.code q = .ok (.ireturn, 1)) (hc : cells ≤ C) (hs : slots ≤ N) (hQ : Q (some (.int x)) T.heap locs) : own_G p e below (own_E s Q C N) T (mkF m q A (.int x :: S)) := by
  obtain ⟨fs, hr, hrun, hended, hW, hsame⟩ := X.leave (v := some (.int x)) (fun h => by rw [hret] at h; cases h) hlocks
  exact ⟨_, _, retOut X hx hret rfl (Or.inl ⟨rfl, Or.inl rfl, _, rfl⟩) hd hr, hrun, hended, _, _, rfl, hQ, ⟨_, rfl⟩, hW, hsame.mono hc hs⟩
theorem own_retA {t : FieldType} (X : Stand p l e R s m args below meth c T locs cells slots) (hx : p.tables.exec = Jvm.exec) (hret : meth.sig.returnType = some t) (hlocks : meth.locks = false) (ht : t.isReference = true) (hv : v.isRef = true) (hn : narrow t v = v) (hd : decode c.code q = .ok (.areturn, 1)) (hc : cells ≤ C) (hs : slots ≤ N) (hQ : Q (some v) T.heap locs) : own_G p e below (own_E s Q C N) T (mkF m q A (v :: S)) := by
  obtain ⟨fs, hr, hrun, hended, hW, hsame⟩ := X.leave (v := some v) (fun h => by rw [hret] at h; cases h) hlocks
  exact ⟨_, _, retOut X hx hret hn (Or.inr (Or.inr (Or.inr (Or.inr ⟨rfl, ht, hv⟩)))) hd hr, hrun, hended, _, _, rfl, hQ, ⟨_, rfl⟩, hW, hsame.mono hc hs⟩
theorem own_retV (X : Stand p l e R s m args below meth c T locs cells slots) (hx : p.tables.exec = Jvm.exec) (hret : meth.sig.returnType = none) (hlocks : meth.locks = false) (hd : decode c.code q = .ok (.return_, 1)) (hc : cells ≤ C) (hs : slots ≤ N) (hQ : Q none T.heap locs) : own_G p e below (own_E s Q C N) T (mkF m q A []) := by
  obtain ⟨fs, hr, hrun, hended, hW, hsame⟩ := X.leave (v := none) (fun _ => rfl) hlocks
  exact ⟨_, _, X.returnOut hx hret hd hr, hrun, hended, _, _, rfl, hQ, ⟨_, rfl⟩, hW, hsame.mono hc hs⟩
end Ends
/-! calls, by what pays them -/
section Calls
variable {Q : Option Value → Heap → List Loc → Prop} {kc ks W : Nat} {own C : String} {index : Nat} {z y : MethodName} {argsL St : List Value} {b : Addr}
theorem own_static {bytes : ByteArray} {maxL : Nat} {ret : Option FieldType} {y : MethodName} (X : Stand p l e R s m args below meth c T locs cells slots) (hx : p.tables.exec = Jvm.exec) (hZ : Z.Warmed39 s.vm) (hown : s.vm.findClass own = some m.cls) (w1 : (Cond.methodLink own index y).before a0 Z = true) (w2 : (Cond.static y).before a0 Z = true) (w3 : (Cond.initialized y.cls).before a0 Z = true) (w4 : (Cond.code y bytes maxL ret).before a0 Z = true) (hy : y.cls ≠ "java/lang/invoke/MethodHandle" ∧ y.cls ≠ "java/lang/invoke/VarHandle")
    (hK : Back l R p e below s args y 3 W (fun P a => a = argsL.toArray ∧ P.U.heap = h ∧ P.cells + kc ≤ R.cells ∧ P.slots + ks ≤ R.slots) (fun P _ v B => ∃ L, Q v B.U.heap L ∧ B.locs = P.locs ++ L ∧ B.cells = P.cells + kc ∧ B.slots = P.slots + ks))
    (eT : T.heap = h) (hsz : A.size = c.maxLocals) (hlen : ∀ sig, parseMethodDescriptor y.desc = some sig → argsL.length = sig.parameters.length) (hst : St = argsL.reverse ++ S) (hW : (S.map fun v => v.category).sum ≤ W) (hd : decode c.code q = .ok (.invokestatic index, 3)) (hc : cells + kc ≤ R.cells) (hs : slots + ks ≤ R.slots)
    (kk : ∀ T' L v, Stand p l e R s m args below meth c T' (locs ++ L) (cells + kc) (slots + ks) → Q v T'.heap L → own_G p e below K T' (mkF m (q + 3) A (v.toList ++ S))) : own_G p e below K T (mkF m q A St) := by
  subst hst
  obtain ⟨v, _, ⟨T', L', k', n'⟩, -, X', ⟨L, hQ, l1, l2, l3⟩, st⟩ := Jvm.LawKit.callS X hx hown (mvT hZ w1) (mvT hZ w2) (mvT hZ w3) (mvT hZ w4) hy hK (g := mkF m q A (argsL.reverse ++ S)) rfl hsz hlen rfl (by show 2 * 0 + _ ≤ _; omega) hd (fun _ _ => ⟨rfl, eT, hc, hs⟩)
  dsimp only [Pt.U, Pt.locs, Pt.cells, Pt.slots] at X' l1 l2 l3 st hQ
  subst l1 l2 l3
  exact own_st st (kk _ _ _ X' hQ)
theorem own_init {bytes : ByteArray} {maxL : Nat} {y : MethodName} (hy1 : y.name = "<init>") (X : Stand p l e R s m args below meth c T locs cells slots) (hx : p.tables.exec = Jvm.exec) (hZ : Z.Warmed39 s.vm) (hown : s.vm.findClass own = some m.cls) (w1 : (Cond.methodLink own index y).before a0 Z = true) (w2 : (Cond.instanceMethod y).before a0 Z = true) (w4 : (Cond.code y bytes maxL none).before a0 Z = true) (hy : y.cls ≠ "java/lang/invoke/MethodHandle" ∧ y.cls ≠ "java/lang/invoke/VarHandle")
    (hK : Back l R p e below s args y 3 W (fun P a => a = (Value.ref b :: argsL).toArray ∧ P.U.heap = h ∧ P.cells + kc ≤ R.cells ∧ P.slots + ks ≤ R.slots) (fun P _ v B => ∃ L, Q v B.U.heap L ∧ B.locs = P.locs ++ L ∧ B.cells = P.cells + kc ∧ B.slots = P.slots + ks))
    (eT : T.heap = h) (hsz : A.size = c.maxLocals) (hlen : ∀ sig, parseMethodDescriptor y.desc = some sig → argsL.length = sig.parameters.length) (hst : St = argsL.reverse ++ .ref b :: S) (hW : (S.map fun v => v.category).sum ≤ W) (hd : decode c.code q = .ok (.invokespecial index, 3)) (hc : cells + kc ≤ R.cells) (hs : slots + ks ≤ R.slots)
    (kk : ∀ T' L v, Stand p l e R s m args below meth c T' (locs ++ L) (cells + kc) (slots + ks) → Q v T'.heap L → own_G p e below K T' (mkF m (q + 3) A (v.toList ++ S))) : own_G p e below K T (mkF m q A St) := by
  subst hst
  obtain ⟨v, _, ⟨T', L', k', n'⟩, -, X', ⟨L, hQ, l1, l2, l3⟩, st⟩ := X.specialBack hx hy1 hown (mvT hZ w1) (mvT hZ w2) (mvT hZ w4) hy hK (g := mkF m q A (argsL.reverse ++ .ref b :: S)) rfl hsz (Steps.refl _) (a := b) (argsL := argsL) (rest := S) hlen rfl (by show 2 * 0 + _ ≤ _; omega) hd (fun _ _ => ⟨rfl, eT, hc, hs⟩)
  dsimp only [Pt.U, Pt.locs, Pt.cells, Pt.slots] at X' l1 l2 l3 st hQ
  subst l1 l2 l3
  exact own_tr st (kk _ _ _ X' hQ)
theorem own_virtual {y z : MethodName} (X : Stand p l e R s m args below meth c T locs cells slots) (hx : p.tables.exec = Jvm.exec) (hZ : Z.Warmed39 s.vm) (hown : s.vm.findClass own = some m.cls) (w1 : (Cond.methodLink own index y).before a0 Z = true) (w2 : (Cond.declares y).before a0 Z = true) (hnf : NotFace s y) (w3 : (Cond.selects C y z).before a0 Z = true) (w4 : (Cond.instanceMethod z).before a0 Z = true) (hy : y.cls ≠ "java/lang/invoke/MethodHandle" ∧ y.cls ≠ "java/lang/invoke/VarHandle")
    (hK : Back l R p e below s args z 3 W (fun P a => a = (Value.ref b :: argsL).toArray ∧ P.U.heap = h ∧ P.cells + kc ≤ R.cells ∧ P.slots + ks ≤ R.slots) (fun P _ v B => ∃ L, Q v B.U.heap L ∧ B.locs = P.locs ++ L ∧ B.cells = P.cells + kc ∧ B.slots = P.slots + ks))
    (eT : T.heap = h) (E : Exa Z h b C) (hsz : A.size = c.maxLocals) (hlen : ∀ sig, parseMethodDescriptor y.desc = some sig → argsL.length = sig.parameters.length) (hst : St = argsL.reverse ++ .ref b :: S) (hW : (S.map fun v => v.category).sum ≤ W) (hd : decode c.code q = .ok (.invokevirtual index, 3)) (hc : cells + kc ≤ R.cells) (hs : slots + ks ≤ R.slots)
    (kk : ∀ T' L v, Stand p l e R s m args below meth c T' (locs ++ L) (cells + kc) (slots + ks) → Q v T'.heap L → own_G p e below K T' (mkF m (q + 3) A (v.toList ++ S))) : own_G p e below K T (mkF m q A St) := by
  subst hst
  obtain ⟨cq, kq, q1, q2, q3⟩ := isOf hZ eT E
  obtain ⟨v, _, ⟨T', L', k', n'⟩, -, X', ⟨L, hQ, l1, l2, l3⟩, st⟩ := X.virtualBack hx hown (mvT hZ w1) (mvT hZ w2) hnf (mvT hZ w3) (mvT hZ w4) hy hK q1 q3 (g := mkF m q A (argsL.reverse ++ .ref b :: S)) rfl hsz (Steps.refl _) (argsL := argsL) (rest := S) hlen rfl (by show 2 * 0 + _ ≤ _; omega) hd (fun _ _ => ⟨rfl, eT, hc, hs⟩)
  dsimp only [Pt.U, Pt.locs, Pt.cells, Pt.slots] at X' l1 l2 l3 st hQ
  subst l1 l2 l3
  exact own_tr st (kk _ _ _ X' hQ)
end Calls
end Own
end Jvm.RoadKit

namespace Jvm.Pilot.@@N@@
open Jvm Jvm.ClassFile Sem Op Lib Jvm.Free Jvm.Stand Jvm.LawKit Jvm.RoadKit Bundle Jvm.Pilot.@@N@@.Jvm.D

theorem own_eq_int {t : Term} {k : Int32} {args : Array Value} {Z : State} (h : (Jvm.Cond.eq t (.int k)).value args Z none Z [] = some true) : t.eval args Z none [] Z = some (.int k) := by
  obtain ⟨x, y, h1, h2, h3, -⟩ := cmp_v (Or.inl h)
  have h4 : y = .int k := (Option.some.inj h2).symm
  subst h4
  cases x <;> simp [Kin, Value.isRef] at h3
  rw [h1]
  simp [Jvm.Cond.value, h1, Term.eval] at h
  rw [h]
theorem own_pn_com_example_models_to_machines_modelstomachines_model_StateMachine_State_Kind : plainName "com/example/models_to_machines/modelstomachines/model/StateMachine$State$Kind" = true := by first | (simp [plainName, overriddenIn]; done) | decide +kernel
theorem own_d_prog_84_method_5_code_0 : decode prog_84_method_5_code 0 = .ok (.aload_n 0, 1) := by decide +kernel
theorem own_d_prog_84_method_5_code_1 : decode prog_84_method_5_code 1 = .ok (.getstatic 13, 3) := by decide +kernel
theorem own_d_prog_84_method_5_code_4 : decode prog_84_method_5_code 4 = .ok (.if_acmp .eq 10, 3) := by decide +kernel
theorem own_d_prog_84_method_5_code_14 : decode prog_84_method_5_code 14 = .ok (.iconst 1, 1) := by decide +kernel
theorem own_d_prog_84_method_5_code_15 : decode prog_84_method_5_code 15 = .ok (.goto 4, 3) := by decide +kernel
theorem own_d_prog_84_method_5_code_19 : decode prog_84_method_5_code 19 = .ok (.ireturn, 1) := by decide +kernel
theorem own_d_prog_84_method_5_code_7 : decode prog_84_method_5_code 7 = .ok (.aload_n 0, 1) := by decide +kernel
theorem own_d_prog_84_method_5_code_8 : decode prog_84_method_5_code 8 = .ok (.getstatic 16, 3) := by decide +kernel
theorem own_d_prog_84_method_5_code_11 : decode prog_84_method_5_code 11 = .ok (.if_acmp .ne 7, 3) := by decide +kernel
theorem own_d_prog_84_method_5_code_18 : decode prog_84_method_5_code 18 = .ok (.iconst 0, 1) := by decide +kernel
theorem own_pn_com_example_models_to_machines_modelstomachines_model_KindIsPassedThroughPinLaw : plainName "com/example/models_to_machines/modelstomachines/model/KindIsPassedThroughPinLaw" = true := by first | (simp [plainName, overriddenIn]; done) | decide +kernel
theorem own_pd__28_29Z : parseMethodDescriptor "()Z" = some ⟨[], some .boolean⟩ := by decide +kernel
theorem own_ef1 (m : MethodId) (x0 : Addr) : entryFrame m #[(.ref x0)] 1 = mkF m 0 #[.val (.ref x0)] [] := by first | (simp [entryFrame, mkF, argsToLocals, Value.category]; done) | rfl
def Q1 (Z : State) (b : Addr) (aCHOICE : Addr) (aJUNCTION : Addr) (h0 : Heap) (n0 : Nat) (v : Option Value) (h : Heap) (L : List Loc) : Prop := v = some (.int (if b = aCHOICE ∨ b = aJUNCTION then 1 else 0)) ∧ Fr n0 L ∧ h = h0
set_option maxRecDepth 65536 in
set_option maxHeartbeats 40000000 in
theorem rm1 (l : Launch) (Z : State) (a0 : Array Value) (hw : ∀ d ∈ tables_1, d.before a0 Z = true) (ws : List Jvm.Cond) (b : Addr) (aCHOICE : Addr) (aJUNCTION : Addr) (h0 : Heap) (n0 : Nat) (O0 : Old Z n0 h0) (SCHOICE : Sta Z Z.heap "com/example/models_to_machines/modelstomachines/model/StateMachine$State$Kind" "CHOICE" "Lcom/example/models_to_machines/modelstomachines/model/StateMachine$State$Kind;" (.ref aCHOICE)) (SJUNCTION : Sta Z Z.heap "com/example/models_to_machines/modelstomachines/model/StateMachine$State$Kind" "JUNCTION" "Lcom/example/models_to_machines/modelstomachines/model/StateMachine$State$Kind;" (.ref aJUNCTION)) :
    MetFree l (⟨"com/example/models_to_machines/modelstomachines/model/StateMachine$State$Kind", "isPassedThrough", "()Z"⟩ : MethodName) (head1 (Jvm.Cond.code (⟨"com/example/models_to_machines/modelstomachines/model/StateMachine$State$Kind", "isPassedThrough", "()Z"⟩ : MethodName) prog_84_method_5_code 1 (some .boolean) :: ws) ({ frames := 0, cells := 0, slots := 0, locals := 0 } : Room)) (fun a U => a = #[(.ref b)] ∧ Z.Warmed39 U.vm ∧ U.heap = h0) (fun _ _ _ _ _ => True) (fun _ U o U' => ∃ v L, o = .returned v ∧ (Q1 Z b aCHOICE aJUNCTION h0 n0) v U'.heap L ∧ FrameEnd U o U' L ({ frames := 0, cells := 0, slots := 0, locals := 0 } : Room).cells ({ frames := 0, cells := 0, slots := 0, locals := 0 } : Room).slots) := by
  refine MetFree.of_bodySF (plainFor_of_name own_pn_com_example_models_to_machines_modelstomachines_model_StateMachine_State_Kind) hisR ?_
  intro p e s m args below meth c s₁ Bd hml0 hP hK
  obtain ⟨rfl, hZ, hh⟩ := hP
  have hx := Bd.exec
  have hby := Bd.bytes
  have hml : c.maxLocals = 1 := hml0
  have hown : s.vm.findClass "com/example/models_to_machines/modelstomachines/model/StateMachine$State$Kind" = some m.cls := findClass_of_methodNamed Bd.named
  have hnm := (name_of_methodNamed Bd.named Bd.method).1
  have hlk : meth.locks = false := BodyLoose.notSynchronized Bd
  have X0 : Stand p l e ({ frames := 0, cells := 0, slots := 0, locals := 0 } : Room) s m #[(.ref b)] below meth c s₁ [] 0 0 := Stand.of_body Bd
  have e0 : s₁.heap = h0 := by rw [← hh, Bd.state]; rfl
  have N0 := Fr.nil n0
  show own_G p e below (own_E s (Q1 Z b aCHOICE aJUNCTION h0 n0) ({ frames := 0, cells := 0, slots := 0, locals := 0 } : Room).cells ({ frames := 0, cells := 0, slots := 0, locals := 0 } : Room).slots) s₁ (entryFrame m #[(.ref b)] 1)
  rw [own_ef1]
  refine own_aloadN (q := 0) X0 hx (hb hby own_d_prog_84_method_5_code_0) rfl rfl ?_
  obtain ⟨T1, X1, e1, st1⟩ := getS2 X0 hx hZ hown (host := "") (Or.inl (hw _ (List.mem_of_getElem? (i := 9) rfl))) Via.refl e0 (Sta.ext O0.2 SCHOICE) (g := (mkF m 1 #[.val (.ref b)] [(.ref b)])) rfl (hb hby own_d_prog_84_method_5_code_1)
  refine own_st st1 ?_
  show own_G p e below _ T1 (mkF m 4 #[.val (.ref b)] [(.ref aCHOICE), (.ref b)])
  refine own_acmp (q := 4) (t := 14) X1 hx rfl rfl (hb hby own_d_prog_84_method_5_code_4) (by decide) (by decide) (fun hq => ?_) (fun hq => ?_)
  · have ha4 : b = aCHOICE := Value.ref.inj hq
    show own_G p e below _ T1 (mkF m 14 #[.val (.ref b)] [])
    refine own_iconst (q := 14) X1 hx (hb hby own_d_prog_84_method_5_code_14) (x := (1 : Int32)) rfl ?_
    refine own_goto (t := 19) (q := 15) X1 hx (hb hby own_d_prog_84_method_5_code_15) (by decide) (by decide) ?_
    exact own_retN (q := 19) X1 hx (t := .boolean) Bd.returns hlk (by simp) (hb hby own_d_prog_84_method_5_code_19) rfl (by decide) (by decide) (by show Q1 Z b aCHOICE aJUNCTION h0 n0 _ T1.heap _; rw [e1]; exact ⟨by simp [ha4], N0, rfl⟩)
  · have ha4 : ¬ b = aCHOICE := fun z => hq (congrArg Value.ref z)
    show own_G p e below _ T1 (mkF m 7 #[.val (.ref b)] [])
    refine own_aloadN (q := 7) X1 hx (hb hby own_d_prog_84_method_5_code_7) rfl rfl ?_
    obtain ⟨T2, X2, e2, st2⟩ := getS2 X1 hx hZ hown (host := "") (Or.inl (hw _ (List.mem_of_getElem? (i := 11) rfl))) Via.refl e1 (Sta.ext O0.2 SJUNCTION) (g := (mkF m 8 #[.val (.ref b)] [(.ref b)])) rfl (hb hby own_d_prog_84_method_5_code_8)
    refine own_st st2 ?_
    show own_G p e below _ T2 (mkF m 11 #[.val (.ref b)] [(.ref aJUNCTION), (.ref b)])
    refine own_acmp (q := 11) (t := 18) X2 hx rfl rfl (hb hby own_d_prog_84_method_5_code_11) (by decide) (by decide) (fun hq => ?_) (fun hq => ?_)
    · have ha11 : b = aJUNCTION := Value.ref.inj hq
      show own_G p e below _ T2 (mkF m 14 #[.val (.ref b)] [])
      refine own_iconst (q := 14) X2 hx (hb hby own_d_prog_84_method_5_code_14) (x := (1 : Int32)) rfl ?_
      refine own_goto (t := 19) (q := 15) X2 hx (hb hby own_d_prog_84_method_5_code_15) (by decide) (by decide) ?_
      exact own_retN (q := 19) X2 hx (t := .boolean) Bd.returns hlk (by simp) (hb hby own_d_prog_84_method_5_code_19) rfl (by decide) (by decide) (by show Q1 Z b aCHOICE aJUNCTION h0 n0 _ T2.heap _; rw [e2]; exact ⟨by simp [ha4, ha11], N0, rfl⟩)
    · have ha11 : ¬ b = aJUNCTION := fun z => hq (congrArg Value.ref z)
      show own_G p e below _ T2 (mkF m 18 #[.val (.ref b)] [])
      refine own_iconst (q := 18) X2 hx (hb hby own_d_prog_84_method_5_code_18) (x := (0 : Int32)) rfl ?_
      exact own_retN (q := 19) X2 hx (t := .boolean) Bd.returns hlk (by simp) (hb hby own_d_prog_84_method_5_code_19) rfl (by decide) (by decide) (by show Q1 Z b aCHOICE aJUNCTION h0 n0 _ T2.heap _; rw [e2]; exact ⟨by simp [ha4, ha11], N0, rfl⟩)
theorem own_ef0 (m : MethodId) (x0 : Int32) : entryFrame m #[(.int x0)] maxLocals = mkF m 0 #[.val (.int x0), .unset, .unset, .unset] [] := by first | (simp [entryFrame, mkF, argsToLocals, Value.category, maxLocals]; done) | rfl
def Q0 (Z : State) (k : Int32) (aORDINARY : Addr) (aINITIAL : Addr) (aFINAL : Addr) (aCHOICE : Addr) (aJUNCTION : Addr) (h0 : Heap) (n0 : Nat) (v : Option Value) (h : Heap) (L : List Loc) : Prop := v = some (.int 1) ∧ Fr n0 L
set_option maxRecDepth 65536 in
set_option maxHeartbeats 40000000 in
theorem rm0 (l : Launch) (Z : State) (a0 : Array Value) (hw : ∀ d ∈ tables_1, d.before a0 Z = true) (ws : List Jvm.Cond) (k : Int32) (aORDINARY : Addr) (aINITIAL : Addr) (aFINAL : Addr) (aCHOICE : Addr) (aJUNCTION : Addr) (h0 : Heap) (n0 : Nat) (O0 : Old Z n0 h0) (SORDINARY : Sta Z Z.heap "com/example/models_to_machines/modelstomachines/model/StateMachine$State$Kind" "ORDINARY" "Lcom/example/models_to_machines/modelstomachines/model/StateMachine$State$Kind;" (.ref aORDINARY)) (SINITIAL : Sta Z Z.heap "com/example/models_to_machines/modelstomachines/model/StateMachine$State$Kind" "INITIAL" "Lcom/example/models_to_machines/modelstomachines/model/StateMachine$State$Kind;" (.ref aINITIAL)) (SFINAL : Sta Z Z.heap "com/example/models_to_machines/modelstomachines/model/StateMachine$State$Kind" "FINAL" "Lcom/example/models_to_machines/modelstomachines/model/StateMachine$State$Kind;" (.ref aFINAL)) (SCHOICE : Sta Z Z.heap "com/example/models_to_machines/modelstomachines/model/StateMachine$State$Kind" "CHOICE" "Lcom/example/models_to_machines/modelstomachines/model/StateMachine$State$Kind;" (.ref aCHOICE)) (SJUNCTION : Sta Z Z.heap "com/example/models_to_machines/modelstomachines/model/StateMachine$State$Kind" "JUNCTION" "Lcom/example/models_to_machines/modelstomachines/model/StateMachine$State$Kind;" (.ref aJUNCTION)) (EORDINARY : Exa Z Z.heap aORDINARY "com/example/models_to_machines/modelstomachines/model/StateMachine$State$Kind") (EINITIAL : Exa Z Z.heap aINITIAL "com/example/models_to_machines/modelstomachines/model/StateMachine$State$Kind") (EFINAL : Exa Z Z.heap aFINAL "com/example/models_to_machines/modelstomachines/model/StateMachine$State$Kind") (ECHOICE : Exa Z Z.heap aCHOICE "com/example/models_to_machines/modelstomachines/model/StateMachine$State$Kind") (EJUNCTION : Exa Z Z.heap aJUNCTION "com/example/models_to_machines/modelstomachines/model/StateMachine$State$Kind") (dORDINARYCHOICE : ¬ aORDINARY = aCHOICE) (dORDINARYJUNCTION : ¬ aORDINARY = aJUNCTION) (dINITIALCHOICE : ¬ aINITIAL = aCHOICE) (dINITIALJUNCTION : ¬ aINITIAL = aJUNCTION) (dFINALCHOICE : ¬ aFINAL = aCHOICE) (dFINALJUNCTION : ¬ aFINAL = aJUNCTION) :
    MetFree l x (head1 (Jvm.Cond.code x code maxLocals ret :: ws) room_1) (fun a U => a = #[(.int k)] ∧ Z.Warmed39 U.vm ∧ U.heap = h0) (fun _ _ _ _ _ => True) (fun _ U o U' => ∃ v L, o = .returned v ∧ (Q0 Z k aORDINARY aINITIAL aFINAL aCHOICE aJUNCTION h0 n0) v U'.heap L ∧ FrameEnd U o U' L room_1.cells room_1.slots) := by
  refine MetFree.of_bodySF (plainFor_of_name own_pn_com_example_models_to_machines_modelstomachines_model_KindIsPassedThroughPinLaw) hisR ?_
  intro p e s m args below meth c s₁ Bd hml0 hP hK
  obtain ⟨rfl, hZ, hh⟩ := hP
  have hx := Bd.exec
  have hby := Bd.bytes
  have hml : c.maxLocals = 4 := hml0
  have hown : s.vm.findClass "com/example/models_to_machines/modelstomachines/model/KindIsPassedThroughPinLaw" = some m.cls := findClass_of_methodNamed Bd.named
  have hnm := (name_of_methodNamed Bd.named Bd.method).1
  have hlk : meth.locks = false := BodyLoose.notSynchronized Bd
  have X0 : Stand p l e room_1 s m #[(.int k)] below meth c s₁ [] 0 0 := Stand.of_body Bd
  have e0 : s₁.heap = h0 := by rw [← hh, Bd.state]; rfl
  have N0 := Fr.nil n0
  show own_G p e below (own_E s (Q0 Z k aORDINARY aINITIAL aFINAL aCHOICE aJUNCTION h0 n0) room_1.cells room_1.slots) s₁ (entryFrame m #[(.int k)] maxLocals)
  rw [own_ef0]
  refine own_iloadN (q := 0) X0 hx (hb hby at_0) rfl ?_
  refine own_st (g' := (mkF m 3 #[.val (.int k), .unset, .unset, .unset] (.int (2147483647 : Int32) :: [(.int k)]))) (fun _ z => X0.ldcI hx hown (mvT hZ (hw _ (List.mem_of_getElem? (i := 0) rfl))) (g := (mkF m 1 #[.val (.int k), .unset, .unset, .unset] [(.int k)])) rfl (hb hby at_1) z) ?_
  refine own_iand (q := 3) X0 hx (hb hby at_3) ?_
  refine own_iconst (q := 4) X0 hx (hb hby at_4) (x := (5 : Int32)) rfl ?_
  refine own_irem (q := 5) X0 hx (hb hby at_5) (by decide) ?_
  generalize (k &&& (2147483647 : Int32)) % (5 : Int32) = i
  refine own_istoreN (q := 6) X0 hx (hb hby at_6) (A' := #[.val (.int k), .val (.int i), .unset, .unset]) rfl ?_
  refine own_iloadN (q := 7) X0 hx (hb hby at_7) rfl ?_
  refine own_if (t := 20) (q := 8) X0 hx (hb hby at_8) (by decide) (by decide) (fun hq => ?_) (fun hq => ?_)
  · have hc8 := own_h_ne.1 hq
    refine own_iloadN (q := 20) X0 hx (hb hby at_20) rfl ?_
    refine own_iconst (q := 21) X0 hx (hb hby at_21) (x := (1 : Int32)) rfl ?_
    refine own_icmp (t := 34) (q := 22) X0 hx (hb hby at_22) (by decide) (by decide) (fun hq => ?_) (fun hq => ?_)
    · have hc22 := own_c_ne.1 hq
      refine own_iloadN (q := 34) X0 hx (hb hby at_34) rfl ?_
      refine own_iconst (q := 35) X0 hx (hb hby at_35) (x := (2 : Int32)) rfl ?_
      refine own_icmp (t := 48) (q := 36) X0 hx (hb hby at_36) (by decide) (by decide) (fun hq => ?_) (fun hq => ?_)
      · have hc36 := own_c_ne.1 hq
        refine own_iloadN (q := 48) X0 hx (hb hby at_48) rfl ?_
        refine own_iconst (q := 49) X0 hx (hb hby at_49) (x := (3 : Int32)) rfl ?_
        refine own_icmp (t := 62) (q := 50) X0 hx (hb hby at_50) (by decide) (by decide) (fun hq => ?_) (fun hq => ?_)
        · have hc50 := own_c_ne.1 hq
          obtain ⟨T1, X1, e1, st1⟩ := getS2 X0 hx hZ hown (host := "") (Or.inl (hw _ (List.mem_of_getElem? (i := 16) rfl))) Via.refl e0 (Sta.ext O0.2 SJUNCTION) (g := (mkF m 62 #[.val (.int k), .val (.int i), .unset, .unset] [])) rfl (hb hby at_62)
          refine own_st st1 ?_
          show own_G p e below _ T1 (mkF m 65 #[.val (.int k), .val (.int i), .unset, .unset] [(.ref aJUNCTION)])
          refine own_astoreN (q := 65) X1 hx (hb hby at_65) rfl (A' := #[.val (.int k), .val (.int i), .val (.ref aJUNCTION), .unset]) rfl ?_
          refine own_iconst (q := 66) X1 hx (hb hby at_66) (x := (1 : Int32)) rfl ?_
          refine own_istoreN (q := 67) X1 hx (hb hby at_67) (A' := #[.val (.int k), .val (.int i), .val (.ref aJUNCTION), .val (.int (1 : Int32))]) rfl ?_
          refine own_aloadN (q := 68) X1 hx (hb hby at_68) rfl rfl ?_
          refine own_virtual (q := 69) (y := (⟨"com/example/models_to_machines/modelstomachines/model/StateMachine$State$Kind", "isPassedThrough", "()Z"⟩ : MethodName)) (z := (⟨"com/example/models_to_machines/modelstomachines/model/StateMachine$State$Kind", "isPassedThrough", "()Z"⟩ : MethodName)) (b := aJUNCTION) (argsL := []) (S := []) (W := 0) X1 hx hZ hown (hw _ (List.mem_of_getElem? (i := 4) rfl)) (hw _ (List.mem_of_getElem? (i := 5) rfl)) (notFace_of_selects (args := #[]) (mvT hZ (hw _ (List.mem_of_getElem? (i := 7) rfl)))) (hw _ (List.mem_of_getElem? (i := 7) rfl)) (hw _ (List.mem_of_getElem? (i := 6) rfl)) (by decide) (backOf (W := 0) (rm1 l Z a0 hw [] aJUNCTION aCHOICE aJUNCTION h0 n0 O0 SCHOICE SJUNCTION) hZ (hw _ (List.mem_of_getElem? (i := 8) rfl)) (hw _ (List.mem_of_getElem? (i := 2) rfl)) (by decide) (by decide)) e1 (Exa.ext O0.2 EJUNCTION) (by rw [hml]; rfl) (lenOf own_pd__28_29Z rfl) rfl (by decide) (hb hby at_69) (by decide) (by decide) (fun T2 L2 v2 X2 hQ2 => ?_)
          obtain ⟨rfl, N2q, hh2⟩ := hQ2
          have N2 := Fr.app N0 N2q
          show own_G p e below _ T2 (mkF m 72 #[.val (.int k), .val (.int i), .val (.ref aJUNCTION), .val (.int (1 : Int32))] [(.int (if aJUNCTION = aCHOICE ∨ aJUNCTION = aJUNCTION then 1 else 0 : Int32))])
          refine own_iloadN (q := 72) X2 hx (hb hby at_72) rfl ?_
          refine own_icmp (t := 80) (q := 73) X2 hx (hb hby at_73) (by decide) (by decide) (fun hq => ?_) (fun hq => ?_)
          · have hc73 := own_c_ne.1 hq
            exact absurd (by simp []) hc73
          · have hc73 := own_c_ne.2 hq
            refine own_iconst (q := 76) X2 hx (hb hby at_76) (x := (1 : Int32)) rfl ?_
            refine own_goto (t := 81) (q := 77) X2 hx (hb hby at_77) (by decide) (by decide) ?_
            exact own_retN (q := 81) X2 hx (t := .boolean) Bd.returns hlk (by simp) (hb hby at_81) rfl (by decide) (by decide) (by show Q0 Z k aORDINARY aINITIAL aFINAL aCHOICE aJUNCTION h0 n0 _ _ _; exact ⟨rfl, N2⟩)
        · have hc50 := own_c_ne.2 hq
          obtain ⟨T3, X3, e3, st3⟩ := getS2 X0 hx hZ hown (host := "") (Or.inl (hw _ (List.mem_of_getElem? (i := 13) rfl))) Via.refl e0 (Sta.ext O0.2 SCHOICE) (g := (mkF m 53 #[.val (.int k), .val (.int i), .unset, .unset] [])) rfl (hb hby at_53)
          refine own_st st3 ?_
          show own_G p e below _ T3 (mkF m 56 #[.val (.int k), .val (.int i), .unset, .unset] [(.ref aCHOICE)])
          refine own_astoreN (q := 56) X3 hx (hb hby at_56) rfl (A' := #[.val (.int k), .val (.int i), .val (.ref aCHOICE), .unset]) rfl ?_
          refine own_iconst (q := 57) X3 hx (hb hby at_57) (x := (1 : Int32)) rfl ?_
          refine own_istoreN (q := 58) X3 hx (hb hby at_58) (A' := #[.val (.int k), .val (.int i), .val (.ref aCHOICE), .val (.int (1 : Int32))]) rfl ?_
          refine own_goto (t := 68) (q := 59) X3 hx (hb hby at_59) (by decide) (by decide) ?_
          refine own_aloadN (q := 68) X3 hx (hb hby at_68) rfl rfl ?_
          refine own_virtual (q := 69) (y := (⟨"com/example/models_to_machines/modelstomachines/model/StateMachine$State$Kind", "isPassedThrough", "()Z"⟩ : MethodName)) (z := (⟨"com/example/models_to_machines/modelstomachines/model/StateMachine$State$Kind", "isPassedThrough", "()Z"⟩ : MethodName)) (b := aCHOICE) (argsL := []) (S := []) (W := 0) X3 hx hZ hown (hw _ (List.mem_of_getElem? (i := 4) rfl)) (hw _ (List.mem_of_getElem? (i := 5) rfl)) (notFace_of_selects (args := #[]) (mvT hZ (hw _ (List.mem_of_getElem? (i := 7) rfl)))) (hw _ (List.mem_of_getElem? (i := 7) rfl)) (hw _ (List.mem_of_getElem? (i := 6) rfl)) (by decide) (backOf (W := 0) (rm1 l Z a0 hw [] aCHOICE aCHOICE aJUNCTION h0 n0 O0 SCHOICE SJUNCTION) hZ (hw _ (List.mem_of_getElem? (i := 8) rfl)) (hw _ (List.mem_of_getElem? (i := 2) rfl)) (by decide) (by decide)) e3 (Exa.ext O0.2 ECHOICE) (by rw [hml]; rfl) (lenOf own_pd__28_29Z rfl) rfl (by decide) (hb hby at_69) (by decide) (by decide) (fun T4 L4 v4 X4 hQ4 => ?_)
          obtain ⟨rfl, N4q, hh4⟩ := hQ4
          have N4 := Fr.app N0 N4q
          show own_G p e below _ T4 (mkF m 72 #[.val (.int k), .val (.int i), .val (.ref aCHOICE), .val (.int (1 : Int32))] [(.int (if aCHOICE = aCHOICE ∨ aCHOICE = aJUNCTION then 1 else 0 : Int32))])
          refine own_iloadN (q := 72) X4 hx (hb hby at_72) rfl ?_
          refine own_icmp (t := 80) (q := 73) X4 hx (hb hby at_73) (by decide) (by decide) (fun hq => ?_) (fun hq => ?_)
          · have hc73 := own_c_ne.1 hq
            exact absurd (by simp []) hc73
          · have hc73 := own_c_ne.2 hq
            refine own_iconst (q := 76) X4 hx (hb hby at_76) (x := (1 : Int32)) rfl ?_
            refine own_goto (t := 81) (q := 77) X4 hx (hb hby at_77) (by decide) (by decide) ?_
            exact own_retN (q := 81) X4 hx (t := .boolean) Bd.returns hlk (by simp) (hb hby at_81) rfl (by decide) (by decide) (by show Q0 Z k aORDINARY aINITIAL aFINAL aCHOICE aJUNCTION h0 n0 _ _ _; exact ⟨rfl, N4⟩)
      · have hc36 := own_c_ne.2 hq
        obtain ⟨T5, X5, e5, st5⟩ := getS2 X0 hx hZ hown (host := "") (Or.inl (hw _ (List.mem_of_getElem? (i := 17) rfl))) Via.refl e0 (Sta.ext O0.2 SFINAL) (g := (mkF m 39 #[.val (.int k), .val (.int i), .unset, .unset] [])) rfl (hb hby at_39)
        refine own_st st5 ?_
        show own_G p e below _ T5 (mkF m 42 #[.val (.int k), .val (.int i), .unset, .unset] [(.ref aFINAL)])
        refine own_astoreN (q := 42) X5 hx (hb hby at_42) rfl (A' := #[.val (.int k), .val (.int i), .val (.ref aFINAL), .unset]) rfl ?_
        refine own_iconst (q := 43) X5 hx (hb hby at_43) (x := (0 : Int32)) rfl ?_
        refine own_istoreN (q := 44) X5 hx (hb hby at_44) (A' := #[.val (.int k), .val (.int i), .val (.ref aFINAL), .val (.int (0 : Int32))]) rfl ?_
        refine own_goto (t := 68) (q := 45) X5 hx (hb hby at_45) (by decide) (by decide) ?_
        refine own_aloadN (q := 68) X5 hx (hb hby at_68) rfl rfl ?_
        refine own_virtual (q := 69) (y := (⟨"com/example/models_to_machines/modelstomachines/model/StateMachine$State$Kind", "isPassedThrough", "()Z"⟩ : MethodName)) (z := (⟨"com/example/models_to_machines/modelstomachines/model/StateMachine$State$Kind", "isPassedThrough", "()Z"⟩ : MethodName)) (b := aFINAL) (argsL := []) (S := []) (W := 0) X5 hx hZ hown (hw _ (List.mem_of_getElem? (i := 4) rfl)) (hw _ (List.mem_of_getElem? (i := 5) rfl)) (notFace_of_selects (args := #[]) (mvT hZ (hw _ (List.mem_of_getElem? (i := 7) rfl)))) (hw _ (List.mem_of_getElem? (i := 7) rfl)) (hw _ (List.mem_of_getElem? (i := 6) rfl)) (by decide) (backOf (W := 0) (rm1 l Z a0 hw [] aFINAL aCHOICE aJUNCTION h0 n0 O0 SCHOICE SJUNCTION) hZ (hw _ (List.mem_of_getElem? (i := 8) rfl)) (hw _ (List.mem_of_getElem? (i := 2) rfl)) (by decide) (by decide)) e5 (Exa.ext O0.2 EFINAL) (by rw [hml]; rfl) (lenOf own_pd__28_29Z rfl) rfl (by decide) (hb hby at_69) (by decide) (by decide) (fun T6 L6 v6 X6 hQ6 => ?_)
        obtain ⟨rfl, N6q, hh6⟩ := hQ6
        have N6 := Fr.app N0 N6q
        show own_G p e below _ T6 (mkF m 72 #[.val (.int k), .val (.int i), .val (.ref aFINAL), .val (.int (0 : Int32))] [(.int (if aFINAL = aCHOICE ∨ aFINAL = aJUNCTION then 1 else 0 : Int32))])
        refine own_iloadN (q := 72) X6 hx (hb hby at_72) rfl ?_
        refine own_icmp (t := 80) (q := 73) X6 hx (hb hby at_73) (by decide) (by decide) (fun hq => ?_) (fun hq => ?_)
        · have hc73 := own_c_ne.1 hq
          exact absurd (by simp [dFINALCHOICE, dFINALJUNCTION]) hc73
        · have hc73 := own_c_ne.2 hq
          refine own_iconst (q := 76) X6 hx (hb hby at_76) (x := (1 : Int32)) rfl ?_
          refine own_goto (t := 81) (q := 77) X6 hx (hb hby at_77) (by decide) (by decide) ?_
          exact own_retN (q := 81) X6 hx (t := .boolean) Bd.returns hlk (by simp) (hb hby at_81) rfl (by decide) (by decide) (by show Q0 Z k aORDINARY aINITIAL aFINAL aCHOICE aJUNCTION h0 n0 _ _ _; exact ⟨rfl, N6⟩)
    · have hc22 := own_c_ne.2 hq
      obtain ⟨T7, X7, e7, st7⟩ := getS2 X0 hx hZ hown (host := "") (Or.inl (hw _ (List.mem_of_getElem? (i := 14) rfl))) Via.refl e0 (Sta.ext O0.2 SINITIAL) (g := (mkF m 25 #[.val (.int k), .val (.int i), .unset, .unset] [])) rfl (hb hby at_25)
      refine own_st st7 ?_
      show own_G p e below _ T7 (mkF m 28 #[.val (.int k), .val (.int i), .unset, .unset] [(.ref aINITIAL)])
      refine own_astoreN (q := 28) X7 hx (hb hby at_28) rfl (A' := #[.val (.int k), .val (.int i), .val (.ref aINITIAL), .unset]) rfl ?_
      refine own_iconst (q := 29) X7 hx (hb hby at_29) (x := (0 : Int32)) rfl ?_
      refine own_istoreN (q := 30) X7 hx (hb hby at_30) (A' := #[.val (.int k), .val (.int i), .val (.ref aINITIAL), .val (.int (0 : Int32))]) rfl ?_
      refine own_goto (t := 68) (q := 31) X7 hx (hb hby at_31) (by decide) (by decide) ?_
      refine own_aloadN (q := 68) X7 hx (hb hby at_68) rfl rfl ?_
      refine own_virtual (q := 69) (y := (⟨"com/example/models_to_machines/modelstomachines/model/StateMachine$State$Kind", "isPassedThrough", "()Z"⟩ : MethodName)) (z := (⟨"com/example/models_to_machines/modelstomachines/model/StateMachine$State$Kind", "isPassedThrough", "()Z"⟩ : MethodName)) (b := aINITIAL) (argsL := []) (S := []) (W := 0) X7 hx hZ hown (hw _ (List.mem_of_getElem? (i := 4) rfl)) (hw _ (List.mem_of_getElem? (i := 5) rfl)) (notFace_of_selects (args := #[]) (mvT hZ (hw _ (List.mem_of_getElem? (i := 7) rfl)))) (hw _ (List.mem_of_getElem? (i := 7) rfl)) (hw _ (List.mem_of_getElem? (i := 6) rfl)) (by decide) (backOf (W := 0) (rm1 l Z a0 hw [] aINITIAL aCHOICE aJUNCTION h0 n0 O0 SCHOICE SJUNCTION) hZ (hw _ (List.mem_of_getElem? (i := 8) rfl)) (hw _ (List.mem_of_getElem? (i := 2) rfl)) (by decide) (by decide)) e7 (Exa.ext O0.2 EINITIAL) (by rw [hml]; rfl) (lenOf own_pd__28_29Z rfl) rfl (by decide) (hb hby at_69) (by decide) (by decide) (fun T8 L8 v8 X8 hQ8 => ?_)
      obtain ⟨rfl, N8q, hh8⟩ := hQ8
      have N8 := Fr.app N0 N8q
      show own_G p e below _ T8 (mkF m 72 #[.val (.int k), .val (.int i), .val (.ref aINITIAL), .val (.int (0 : Int32))] [(.int (if aINITIAL = aCHOICE ∨ aINITIAL = aJUNCTION then 1 else 0 : Int32))])
      refine own_iloadN (q := 72) X8 hx (hb hby at_72) rfl ?_
      refine own_icmp (t := 80) (q := 73) X8 hx (hb hby at_73) (by decide) (by decide) (fun hq => ?_) (fun hq => ?_)
      · have hc73 := own_c_ne.1 hq
        exact absurd (by simp [dINITIALCHOICE, dINITIALJUNCTION]) hc73
      · have hc73 := own_c_ne.2 hq
        refine own_iconst (q := 76) X8 hx (hb hby at_76) (x := (1 : Int32)) rfl ?_
        refine own_goto (t := 81) (q := 77) X8 hx (hb hby at_77) (by decide) (by decide) ?_
        exact own_retN (q := 81) X8 hx (t := .boolean) Bd.returns hlk (by simp) (hb hby at_81) rfl (by decide) (by decide) (by show Q0 Z k aORDINARY aINITIAL aFINAL aCHOICE aJUNCTION h0 n0 _ _ _; exact ⟨rfl, N8⟩)
  · have hc8 := own_h_ne.2 hq
    obtain ⟨T9, X9, e9, st9⟩ := getS2 X0 hx hZ hown (host := "") (Or.inl (hw _ (List.mem_of_getElem? (i := 1) rfl))) Via.refl e0 (Sta.ext O0.2 SORDINARY) (g := (mkF m 11 #[.val (.int k), .val (.int i), .unset, .unset] [])) rfl (hb hby at_11)
    refine own_st st9 ?_
    show own_G p e below _ T9 (mkF m 14 #[.val (.int k), .val (.int i), .unset, .unset] [(.ref aORDINARY)])
    refine own_astoreN (q := 14) X9 hx (hb hby at_14) rfl (A' := #[.val (.int k), .val (.int i), .val (.ref aORDINARY), .unset]) rfl ?_
    refine own_iconst (q := 15) X9 hx (hb hby at_15) (x := (0 : Int32)) rfl ?_
    refine own_istoreN (q := 16) X9 hx (hb hby at_16) (A' := #[.val (.int k), .val (.int i), .val (.ref aORDINARY), .val (.int (0 : Int32))]) rfl ?_
    refine own_goto (t := 68) (q := 17) X9 hx (hb hby at_17) (by decide) (by decide) ?_
    refine own_aloadN (q := 68) X9 hx (hb hby at_68) rfl rfl ?_
    refine own_virtual (q := 69) (y := (⟨"com/example/models_to_machines/modelstomachines/model/StateMachine$State$Kind", "isPassedThrough", "()Z"⟩ : MethodName)) (z := (⟨"com/example/models_to_machines/modelstomachines/model/StateMachine$State$Kind", "isPassedThrough", "()Z"⟩ : MethodName)) (b := aORDINARY) (argsL := []) (S := []) (W := 0) X9 hx hZ hown (hw _ (List.mem_of_getElem? (i := 4) rfl)) (hw _ (List.mem_of_getElem? (i := 5) rfl)) (notFace_of_selects (args := #[]) (mvT hZ (hw _ (List.mem_of_getElem? (i := 7) rfl)))) (hw _ (List.mem_of_getElem? (i := 7) rfl)) (hw _ (List.mem_of_getElem? (i := 6) rfl)) (by decide) (backOf (W := 0) (rm1 l Z a0 hw [] aORDINARY aCHOICE aJUNCTION h0 n0 O0 SCHOICE SJUNCTION) hZ (hw _ (List.mem_of_getElem? (i := 8) rfl)) (hw _ (List.mem_of_getElem? (i := 2) rfl)) (by decide) (by decide)) e9 (Exa.ext O0.2 EORDINARY) (by rw [hml]; rfl) (lenOf own_pd__28_29Z rfl) rfl (by decide) (hb hby at_69) (by decide) (by decide) (fun T10 L10 v10 X10 hQ10 => ?_)
    obtain ⟨rfl, N10q, hh10⟩ := hQ10
    have N10 := Fr.app N0 N10q
    show own_G p e below _ T10 (mkF m 72 #[.val (.int k), .val (.int i), .val (.ref aORDINARY), .val (.int (0 : Int32))] [(.int (if aORDINARY = aCHOICE ∨ aORDINARY = aJUNCTION then 1 else 0 : Int32))])
    refine own_iloadN (q := 72) X10 hx (hb hby at_72) rfl ?_
    refine own_icmp (t := 80) (q := 73) X10 hx (hb hby at_73) (by decide) (by decide) (fun hq => ?_) (fun hq => ?_)
    · have hc73 := own_c_ne.1 hq
      exact absurd (by simp [dORDINARYCHOICE, dORDINARYJUNCTION]) hc73
    · have hc73 := own_c_ne.2 hq
      refine own_iconst (q := 76) X10 hx (hb hby at_76) (x := (1 : Int32)) rfl ?_
      refine own_goto (t := 81) (q := 77) X10 hx (hb hby at_77) (by decide) (by decide) ?_
      exact own_retN (q := 81) X10 hx (t := .boolean) Bd.returns hlk (by simp) (hb hby at_81) rfl (by decide) (by decide) (by show Q0 Z k aORDINARY aINITIAL aFINAL aCHOICE aJUNCTION h0 n0 _ _ _; exact ⟨rfl, N10⟩)
set_option maxRecDepth 65536 in
set_option maxHeartbeats 40000000 in
theorem comes_1 {Post : Tables → Env → Array Value → State → Outcome → State → Prop} (hpost : ∀ tb e args s v u, (limb_1_1.after args s (.returned v) u = true ∧ limb_1_2.after args s (.returned v) u = true) → FrameEnd s (.returned v) u (Jvm.fieldLocs frame_1_writes args s ++ Jvm.arrayLocs frame_1_arrays args s ++ Jvm.staticLocs frame_1_statics s) 0 0 → Post tb e args s (.returned v) u) :
    ArmFor flags0 classFile x code maxLocals ret World_1 tables_1 room_1 Calls_1 rest_1 Pre_1 Post := by
  intro l hfl _ _ p e ha hc hk s m args below hf hA hF happ hP
  obtain ⟨hcalls, hrest, hpre⟩ := hP
  obtain ⟨-, -, -, hnamed, -, -, -, hat⟩ := (Spec.applies_iff hf).mp happ
  obtain ⟨hg, hn⟩ := and_e (Cond.before_iff.mp (show (Jvm.Cond.and given_1 narrow_1).before args s = true from hpre))
  obtain ⟨hg0, hgr0⟩ := and_e hg
  have hg1 := hgr0
  obtain ⟨w0, rfl⟩ : ∃ w0 : Value, args = #[w0] := by
    have hs : args.size = 1 := by simpa [Cond.value, given_1] using hg0
    obtain ⟨L⟩ := args
    match L, hs with
    | [w0], _ => exact ⟨w0, rfl⟩
  have hw := fun d (hd : d ∈ tables_1) => atoms_spec (ws := Jvm.Cond.code x code maxLocals ret :: tables_1) hat d (List.mem_cons_of_mem _ hd)
  obtain ⟨i0, ei0⟩ := is_v hg1
  obtain rfl : w0 = (.int i0) := Option.some.inj ei0
  obtain ⟨hn0, hnr0⟩ := and_e hn
  obtain ⟨hn1, hnr1⟩ := and_e hnr0
  obtain ⟨hn2, hnr2⟩ := and_e hnr1
  obtain ⟨hn3, hnr3⟩ := and_e hnr2
  obtain ⟨hn4, hnr4⟩ := and_e hnr3
  obtain ⟨hn5, hnr5⟩ := and_e hnr4
  obtain ⟨hn6, hnr6⟩ := and_e hnr5
  obtain ⟨hn7, hnr7⟩ := and_e hnr6
  obtain ⟨hn8, hnr8⟩ := and_e hnr7
  have hn9 := hnr8
  obtain ⟨aORDINARY, vORDINARY⟩ := exa_v hn0
  have EORDINARY := Exa.start vORDINARY hn0
  have SORDINARY := Sta.start vORDINARY (Or.inr ⟨(hw _ (List.mem_of_getElem? (i := 2) rfl)), (hw _ (List.mem_of_getElem? (i := 3) rfl))⟩)
  obtain ⟨aCHOICE, vCHOICE⟩ := exa_v hn1
  have ECHOICE := Exa.start vCHOICE hn1
  have SCHOICE := Sta.start vCHOICE (Or.inr ⟨(hw _ (List.mem_of_getElem? (i := 2) rfl)), (hw _ (List.mem_of_getElem? (i := 10) rfl))⟩)
  obtain ⟨aJUNCTION, vJUNCTION⟩ := exa_v hn4
  have EJUNCTION := Exa.start vJUNCTION hn4
  have SJUNCTION := Sta.start vJUNCTION (Or.inr ⟨(hw _ (List.mem_of_getElem? (i := 2) rfl)), (hw _ (List.mem_of_getElem? (i := 12) rfl))⟩)
  obtain ⟨aINITIAL, vINITIAL⟩ := exa_v hn6
  have EINITIAL := Exa.start vINITIAL hn6
  have SINITIAL := Sta.start vINITIAL (Or.inr ⟨(hw _ (List.mem_of_getElem? (i := 2) rfl)), (hw _ (List.mem_of_getElem? (i := 15) rfl))⟩)
  obtain ⟨aFINAL, vFINAL⟩ := exa_v hn8
  have EFINAL := Exa.start vFINAL hn8
  have SFINAL := Sta.start vFINAL (Or.inr ⟨(hw _ (List.mem_of_getElem? (i := 2) rfl)), (hw _ (List.mem_of_getElem? (i := 18) rfl))⟩)
  have FORDINARY := Fld.start ((fld_at vORDINARY).symm.trans (own_eq_int hn2))
  have FCHOICE := Fld.start ((fld_at vCHOICE).symm.trans (own_eq_int hn3))
  have FJUNCTION := Fld.start ((fld_at vJUNCTION).symm.trans (own_eq_int hn5))
  have FINITIAL := Fld.start ((fld_at vINITIAL).symm.trans (own_eq_int hn7))
  have FFINAL := Fld.start ((fld_at vFINAL).symm.trans (own_eq_int hn9))
  have dORDINARYCHOICE := Fld.ne FORDINARY FCHOICE (by decide)
  have dORDINARYJUNCTION := Fld.ne FORDINARY FJUNCTION (by decide)
  have dINITIALCHOICE := Fld.ne FINITIAL FCHOICE (by decide)
  have dINITIALJUNCTION := Fld.ne FINITIAL FJUNCTION (by decide)
  have dFINALCHOICE := Fld.ne FFINAL FCHOICE (by decide)
  have dFINALJUNCTION := Fld.ne FFINAL FJUNCTION (by decide)
  obtain ⟨n, o, h1, h2, h3, _, L, rfl, ⟨rfl, N⟩, hq⟩ := rm0 l s _ hw tables_1 i0 aORDINARY aINITIAL aFINAL aCHOICE aJUNCTION s.heap s.heap.size (Old.start s) SORDINARY SINITIAL SFINAL SCHOICE SJUNCTION EORDINARY EINITIAL EFINAL ECHOICE EJUNCTION dORDINARYCHOICE dORDINARYJUNCTION dINITIALCHOICE dINITIALJUNCTION dFINALCHOICE dFINALJUNCTION p e ha hc hk s m _ below hf ((Spec.applies_iff_loose hf).mp happ).1 ⟨rfl, State.Warmed39.refl s, rfl⟩ trivial
  refine ⟨n, _, h1, h2, h3, hpost _ _ _ _ _ _ ⟨Cond.after_iff.mpr rfl, Cond.after_iff.mpr (eq_i res_at (Term.int_eval (1)) rfl)⟩ ⟨hq.1, hq.2.1, (hq.2.2.sift fun y hy => Or.inr (N y hy)).mono (by decide) (by decide)⟩⟩
theorem main_1_1 : Claimed_1_1 := comes_1 fun _ _ _ _ _ _ h hF => ⟨h.1, hF⟩
theorem main_1_2 : Claimed_1_2 := comes_1 fun _ _ _ _ _ _ h hF => ⟨h.2, hF⟩
end Jvm.Pilot.@@N@@
namespace Jvm.Pilot.@@N@@
open Jvm Jvm.ClassFile Sem Op Lib Jvm.Free Jvm.Stand Jvm.Pilot.@@N@@.Jvm.D
/-! MADE BY PROGRAM (witnessworld.py) out of the Statement's table words and the real class files: 12 classes; the members and pool entries that the words name. The judged class is class 1, her method 1. -/
namespace start1
open Jvm.ClassFile
def u (s : String) : CpInfo := .utf8 (stringToUtf16 s)
/-- a pool by its gaps: so many unusable entries, then the entry; so many at the end -/
def gap : Nat → List CpInfo → List CpInfo
  | 0, r => r
  | n + 1, r => .unusable :: gap n r
def poolList (es : List (Nat × CpInfo)) (last : Nat) : List CpInfo := es.foldr (fun e r => gap e.1 (e.2 :: r)) (gap last [])
def pool (es : List (Nat × CpInfo)) (last : Nat) : Array CpInfo := ⟨poolList es last⟩
def fileOf (pool : Array CpInfo) (this : Nat) (attrs : Array Attribute := #[]) (ms : Array MethodInfo := #[]) (fl : Nat := 33) (sup : Nat := 0) (ifs : Array Nat := #[]) (fds : Array FieldInfo := #[]) : ClassFile where
  minorVersion := 0
  majorVersion := 65
  constantPool := pool
  accessFlags := fl
  thisClass := this
  superClass := sup
  interfaces := ifs
  fields := fds
  methods := ms
  attributes := attrs
def plain (name : String) (sup : Option ClassId) : Class where
  name := name
  kind := .ordinary
  loader := none
  accessFlags := 33
  super := sup
  interfaces := #[]
  cf := none
  fields := #[]
  methods := #[]
  instanceTypes := #[]
  staticTypes := #[]
  resolved := #[]
  callSites := []
  init := .initialized
  statics := none
  mirror := none

def pool0 : Array CpInfo := pool [(5, u "<init>"), (0, u "()V"), (1, .class_ 10), (1, u "java/lang/Object")] 113

def k0m0 : Method := { name := "<init>", desc := "()V", sig := { parameters := [], returnType := none }, accessFlags := 1, code := none }
/-- java/lang/Object -/
def k0 : Class := { plain "java/lang/Object" none with
  accessFlags := 33
  interfaces := #[]
  cf := some (fileOf pool0 8 #[] #[{ accessFlags := 1, nameIndex := 5, descriptorIndex := 6, attributes := #[] }] 33 0 #[] #[])
  fields := #[]
  methods := #[k0m0]
  instanceTypes := #[]
  staticTypes := #[]
  resolved := Array.replicate 124 none
  statics := none }

def pool1 : Array CpInfo := pool [(2, .class_ 4), (1, u "java/lang/Object"), (0, u "<init>"), (0, u "()V"), (0, .integer 2147483647), (0, .fieldref 9 10), (0, .class_ 11), (0, .nameAndType 12 13), (0, u "com/example/models_to_machines/modelstomachines/model/StateMachine$State$Kind"), (0, u "ORDINARY"), (0, u "Lcom/example/models_to_machines/modelstomachines/model/StateMachine$State$Kind;"), (0, .fieldref 9 15), (0, .nameAndType 16 13), (0, u "INITIAL"), (0, .fieldref 9 18), (0, .nameAndType 19 13), (0, u "FINAL"), (0, .fieldref 9 21), (0, .nameAndType 22 13), (0, u "CHOICE"), (0, .fieldref 9 24), (0, .nameAndType 25 13), (0, u "JUNCTION"), (0, .methodref 9 27), (0, .nameAndType 28 29), (0, u "isPassedThrough"), (0, u "()Z"), (0, .class_ 31), (0, u "com/example/models_to_machines/modelstomachines/model/KindIsPassedThroughPinLaw"), (2, u "law"), (0, u "(I)Z")] 10

def k1m0 : Method := { name := "<init>", desc := "()V", sig := { parameters := [], returnType := none }, accessFlags := 2, code := none }
def k1c1 : Code := { maxStack := 2, maxLocals := 4, code := code, exceptionTable := #[], attributes := #[] }
def k1m1 : Method := { name := "law", desc := "(I)Z", sig := { parameters := [.int], returnType := some .boolean }, accessFlags := 9, code := some k1c1 }
/-- com/example/models_to_machines/modelstomachines/model/KindIsPassedThroughPinLaw -/
def k1 : Class := { plain "com/example/models_to_machines/modelstomachines/model/KindIsPassedThroughPinLaw" (some 0) with
  accessFlags := 49
  interfaces := #[]
  cf := some (fileOf pool1 30 #[] #[{ accessFlags := 2, nameIndex := 5, descriptorIndex := 6, attributes := #[] }, { accessFlags := 9, nameIndex := 34, descriptorIndex := 35, attributes := #[] }] 49 2 #[] #[])
  fields := #[]
  methods := #[k1m0, k1m1]
  instanceTypes := #[]
  staticTypes := #[]
  resolved := Array.replicate 46 none
  statics := none }

def pool2 : Array CpInfo := pool [(1, .class_ 2), (0, u "java/lang/constant/Constable"), (0, .class_ 4), (0, u "java/lang/Object")] 6

/-- java/lang/constant/Constable -/
def k2 : Class := { plain "java/lang/constant/Constable" (some 0) with
  accessFlags := 1537
  interfaces := #[]
  cf := some (fileOf pool2 1 #[] #[] 1537 3 #[] #[])
  fields := #[]
  methods := #[]
  instanceTypes := #[]
  staticTypes := #[]
  resolved := Array.replicate 11 none
  statics := none }

def pool3 : Array CpInfo := pool [(1, .class_ 2), (0, u "java/lang/Comparable"), (0, .class_ 4), (0, u "java/lang/Object")] 7

/-- java/lang/Comparable -/
def k3 : Class := { plain "java/lang/Comparable" (some 0) with
  accessFlags := 1537
  interfaces := #[]
  cf := some (fileOf pool3 1 #[] #[] 1537 3 #[] #[])
  fields := #[]
  methods := #[]
  instanceTypes := #[]
  staticTypes := #[]
  resolved := Array.replicate 12 none
  statics := none }

def pool4 : Array CpInfo := pool [(1, .class_ 2), (0, u "java/io/Serializable"), (0, .class_ 4), (0, u "java/lang/Object")] 2

/-- java/io/Serializable -/
def k4 : Class := { plain "java/io/Serializable" (some 0) with
  accessFlags := 1537
  interfaces := #[]
  cf := some (fileOf pool4 1 #[] #[] 1537 3 #[] #[])
  fields := #[]
  methods := #[]
  instanceTypes := #[]
  staticTypes := #[]
  resolved := Array.replicate 7 none
  statics := none }

def pool5 : Array CpInfo := pool [(2, .class_ 4), (1, u "java/lang/Enum"), (0, u "name"), (0, u "Ljava/lang/String;"), (2, u "ordinal"), (0, u "I"), (1, .class_ 14), (1, u "java/lang/Object"), (4, u "hash"), (86, .class_ 108), (1, u "java/lang/Enum$EnumDesc"), (2, .class_ 112), (0, u "java/lang/constant/Constable"), (0, .class_ 114), (0, u "java/lang/Comparable"), (0, .class_ 116), (0, u "java/io/Serializable")] 87

/-- java/lang/Enum -/
def k5 : Class := { plain "java/lang/Enum" (some 0) with
  accessFlags := 1057
  interfaces := #[2, 3, 4]
  cf := some (fileOf pool5 2 #[.nestMembers #[106]] #[] 1057 12 #[111, 113, 115] #[{ accessFlags := 18, nameIndex := 5, descriptorIndex := 6, attributes := #[] }, { accessFlags := 18, nameIndex := 9, descriptorIndex := 10, attributes := #[] }, { accessFlags := 2, nameIndex := 19, descriptorIndex := 10, attributes := #[] }])
  fields := #[{ name := "name", type := (.object "java/lang/String"), accessFlags := 18, slot := 0, constantValue := 0 }, { name := "ordinal", type := .int, accessFlags := 18, slot := 1, constantValue := 0 }, { name := "hash", type := .int, accessFlags := 2, slot := 2, constantValue := 0 }]
  methods := #[]
  instanceTypes := #[(.object "java/lang/String"), .int, .int]
  staticTypes := #[]
  resolved := Array.replicate 204 none
  statics := none }

def pool6 : Array CpInfo := pool [(1, .class_ 2), (0, u "com/example/models_to_machines/modelstomachines/model/StateMachine$State$Kind"), (2, u "ORDINARY"), (0, u "Lcom/example/models_to_machines/modelstomachines/model/StateMachine$State$Kind;"), (2, u "INITIAL"), (2, u "FINAL"), (0, .fieldref 1 14), (0, .nameAndType 15 6), (0, u "CHOICE"), (0, .fieldref 1 17), (0, .nameAndType 18 6), (0, u "JUNCTION"), (2, u "$VALUES"), (0, u "[Lcom/example/models_to_machines/modelstomachines/model/StateMachine$State$Kind;"), (6, .class_ 31), (1, u "java/lang/Enum"), (8, u "mark"), (0, u "Ljava/lang/String;"), (30, u "isPassedThrough"), (0, u "()Z"), (7, .class_ 82), (0, u "com/example/models_to_machines/modelstomachines/model/StateMachine")] 5

def k6c0 : Code := { maxStack := 2, maxLocals := 1, code := prog_84_method_5_code, exceptionTable := #[], attributes := #[] }
def k6m0 : Method := { name := "isPassedThrough", desc := "()Z", sig := { parameters := [], returnType := some .boolean }, accessFlags := 1, code := some k6c0 }
/-- com/example/models_to_machines/modelstomachines/model/StateMachine$State$Kind -/
def k6 : Class := { plain "com/example/models_to_machines/modelstomachines/model/StateMachine$State$Kind" (some 5) with
  accessFlags := 16433
  interfaces := #[]
  cf := some (fileOf pool6 1 #[.nestHost 81] #[{ accessFlags := 1, nameIndex := 72, descriptorIndex := 73, attributes := #[] }] 16433 29 #[] #[{ accessFlags := 16409, nameIndex := 5, descriptorIndex := 6, attributes := #[] }, { accessFlags := 16409, nameIndex := 9, descriptorIndex := 6, attributes := #[] }, { accessFlags := 16409, nameIndex := 12, descriptorIndex := 6, attributes := #[] }, { accessFlags := 16409, nameIndex := 15, descriptorIndex := 6, attributes := #[] }, { accessFlags := 16409, nameIndex := 18, descriptorIndex := 6, attributes := #[] }, { accessFlags := 18, nameIndex := 40, descriptorIndex := 41, attributes := #[] }, { accessFlags := 4122, nameIndex := 21, descriptorIndex := 22, attributes := #[] }])
  fields := #[{ name := "ORDINARY", type := (.object "com/example/models_to_machines/modelstomachines/model/StateMachine$State$Kind"), accessFlags := 16409, slot := 0, constantValue := 0 }, { name := "INITIAL", type := (.object "com/example/models_to_machines/modelstomachines/model/StateMachine$State$Kind"), accessFlags := 16409, slot := 1, constantValue := 0 }, { name := "FINAL", type := (.object "com/example/models_to_machines/modelstomachines/model/StateMachine$State$Kind"), accessFlags := 16409, slot := 2, constantValue := 0 }, { name := "CHOICE", type := (.object "com/example/models_to_machines/modelstomachines/model/StateMachine$State$Kind"), accessFlags := 16409, slot := 3, constantValue := 0 }, { name := "JUNCTION", type := (.object "com/example/models_to_machines/modelstomachines/model/StateMachine$State$Kind"), accessFlags := 16409, slot := 4, constantValue := 0 }, { name := "mark", type := (.object "java/lang/String"), accessFlags := 18, slot := 3, constantValue := 0 }, { name := "$VALUES", type := (.array (.object "com/example/models_to_machines/modelstomachines/model/StateMachine$State$Kind")), accessFlags := 4122, slot := 5, constantValue := 0 }]
  methods := #[k6m0]
  instanceTypes := #[(.object "java/lang/String"), .int, .int, (.object "java/lang/String")]
  staticTypes := #[(.object "com/example/models_to_machines/modelstomachines/model/StateMachine$State$Kind"), (.object "com/example/models_to_machines/modelstomachines/model/StateMachine$State$Kind"), (.object "com/example/models_to_machines/modelstomachines/model/StateMachine$State$Kind"), (.object "com/example/models_to_machines/modelstomachines/model/StateMachine$State$Kind"), (.object "com/example/models_to_machines/modelstomachines/model/StateMachine$State$Kind"), (.array (.object "com/example/models_to_machines/modelstomachines/model/StateMachine$State$Kind"))]
  resolved := Array.replicate 88 none
  statics := some 0 }

def pool7 : Array CpInfo := pool [(1, u "java/lang/Cloneable"), (0, .class_ 1), (0, u "java/lang/Object"), (0, .class_ 3)] 3

/-- java/lang/Cloneable -/
def k7 : Class := { plain "java/lang/Cloneable" (some 0) with
  accessFlags := 1537
  interfaces := #[]
  cf := some (fileOf pool7 2 #[] #[] 1537 4 #[] #[])
  fields := #[]
  methods := #[]
  instanceTypes := #[]
  staticTypes := #[]
  resolved := Array.replicate 8 none
  statics := none }

/-- the primitive byte -/
def k8 : Class := { plain "byte" none with kind := .primitive 'B', accessFlags := 0x411 }
/-- [B -/
def k9 : Class := { plain "[B" (some 0) with kind := .array 8 .byte, interfaces := #[7, 4], accessFlags := 1041 }

/-- the primitive int -/
def k10 : Class := { plain "int" none with kind := .primitive 'I', accessFlags := 0x411 }
/-- [I -/
def k11 : Class := { plain "[I" (some 0) with kind := .array 10 .int, interfaces := #[7, 4], accessFlags := 1041 }

def heap : Heap := #[{ cls := 6, slots := #[.ref 1, .ref 2, .ref 3, .ref 4, .ref 5, .null], vm := .statics 6 },
  { cls := 6, slots := #[.null, .int 0, .int 0, .null], vm := .none },
  { cls := 6, slots := #[.null, .int 1, .int 0, .null], vm := .none },
  { cls := 6, slots := #[.null, .int 2, .int 0, .null], vm := .none },
  { cls := 6, slots := #[.null, .int 3, .int 0, .null], vm := .none },
  { cls := 6, slots := #[.null, .int 4, .int 0, .null], vm := .none }]
def classes : Array Class := #[k0, k1, k2, k3, k4, k5, k6, k7, k8, k9, k10, k11]
def interned : List (Array UInt16 × Addr) := []
def slotsUsed : Nat := 26
def theMethod : MethodId := ⟨1, 1⟩
def args0 : Array Value := #[.int 5]
def aboutOver (below : List Frame) : State where
  vm := { classes := classes, interned := interned.toArray }
  heap := heap
  slotsUsed := slotsUsed
  threads := #[{ frames := .invoking theMethod args0 :: below }]
def below0 : List Frame := [.native { method := ⟨0, 0⟩, args := #[] }]
def about1 : State := aboutOver below0
def p0 : Program := .bare "" "" ""
def e0 : Env := launch0.env 0 0 0
theorem w_frames : about1.frames = Frame.invoking theMethod args0 :: below0 := rfl
set_option maxRecDepth 65536 in
theorem w_args : argsFit about1.vm theMethod args0 = true := by decide +kernel
set_option maxRecDepth 65536 in
theorem w_heap : heapFits about1 = true := by decide +kernel
set_option maxRecDepth 65536 in
theorem w_runnable : about1.curStatus? = some .runnable := by decide +kernel
set_option maxRecDepth 65536 in
theorem w_alone : about1.alone = true := by decide +kernel
set_option maxRecDepth 65536 in
theorem w_named : about1.methodNamed? x = some theMethod := by decide +kernel
set_option maxRecDepth 65536 in
theorem w_hears : about1.hears theMethod below0 = true := by decide +kernel
set_option maxRecDepth 65536 in
theorem w_ripe : about1.ripe theMethod args0 below0 = true := by decide +kernel
theorem w_running : about1.status = .running := rfl
set_option maxRecDepth 65536 in
theorem w_room : about1.hasRoom e0.platform room_1 = true :=
  launch0.hasRoom_least _ room_1 (by decide +kernel) (by decide +kernel) (by decide +kernel) (by decide +kernel) (by decide +kernel) (by decide +kernel)
theorem allAtoms_all (ts : List Jvm.Cond) (a : Array Jvm.Value) (st : Jvm.State) : (allAtoms ts).before a st = ts.all (fun c => c.before a st) := by
  induction ts with
  | nil => rfl
  | cons c t ih =>
    show (Jvm.Cond.and c (allAtoms t)).before a st = _
    rw [Jvm.Cond.before_and, ih, List.all_cons]
def words1 : List Jvm.Cond := Jvm.Cond.code x code maxLocals ret :: tables_1
/-- a 'code' word, met by the world's own term for the bytes: nothing is compared byte by byte -/
theorem code_word {y : MethodName} {bytes : ByteArray} {mx : Nat} {rt : Option FieldType} {a : Array Value} {s : State} {m : MethodId} {meth : Method} {c : Code} (h1 : s.methodNamed? y = some m) (h2 : s.vm.method? m = some meth) (h3 : meth.code = some c) (h4 : c.code = bytes)
    (h5 : (c.maxLocals == mx && c.exceptionTable.isEmpty && decide (c.maxStack ≤ mostOperands) && decide (meth.sig.returnType = rt) && !meth.locks && decide (parseMethodDescriptor y.desc = some meth.sig)) = true) : (Jvm.Cond.code y bytes mx rt).before a s = true := by
  simp only [Bool.and_eq_true, beq_iff_eq, Bool.not_eq_true', decide_eq_true_eq] at h5
  obtain ⟨⟨⟨⟨⟨g1, g2⟩, g3⟩, g4⟩, g5⟩, g6⟩ := h5
  simp [Cond.before, Cond.holds, Cond.value, h1, h2, h3, h4, g1, g2, g3, g4, g5, g6]
def isCode : Jvm.Cond → Bool
  | .code _ _ _ _ => true
  | _ => false
theorem all_split {L : List Jvm.Cond} {P : Jvm.Cond → Bool} (h1 : L.all (fun c => isCode c || P c) = true) (h2 : ∀ c ∈ L.filter isCode, P c = true) : L.all P = true := by
  refine List.all_eq_true.mpr fun c hc => ?_
  have h := List.all_eq_true.mp h1 c hc
  rcases Bool.eq_false_or_eq_true (isCode c) with hi | hi
  · exact h2 c (List.mem_filter.mpr ⟨hc, hi⟩)
  · simpa [hi] using h
set_option maxRecDepth 65536 in
theorem w_c0 : (Jvm.Cond.code x code maxLocals ret).before args0 about1 = true := code_word (m := ⟨1, 1⟩) (meth := k1m1) (c := k1c1) (by decide +kernel) rfl rfl rfl (by decide +kernel)
set_option maxRecDepth 65536 in
theorem w_c1 : (Jvm.Cond.code ({ cls := "com/example/models_to_machines/modelstomachines/model/StateMachine$State$Kind", name := "isPassedThrough", desc := "()Z" } : Jvm.MethodName) prog_84_method_5_code (1 : Nat) (Option.some Jvm.ClassFile.FieldType.boolean)).before args0 about1 = true := code_word (m := ⟨6, 0⟩) (meth := k6m0) (c := k6c0) (by decide +kernel) rfl rfl rfl (by decide +kernel)
def codes1 : List Jvm.Cond := [Jvm.Cond.code x code maxLocals ret, Jvm.Cond.code ({ cls := "com/example/models_to_machines/modelstomachines/model/StateMachine$State$Kind", name := "isPassedThrough", desc := "()Z" } : Jvm.MethodName) prog_84_method_5_code (1 : Nat) (Option.some Jvm.ClassFile.FieldType.boolean)]
set_option maxRecDepth 65536 in
theorem codes_eq : words1.filter isCode = codes1 := rfl
theorem w_codes : ∀ c ∈ words1.filter isCode, c.before args0 about1 = true := by
  rw [codes_eq]
  intro c hc
  simp only [codes1, List.mem_cons, List.not_mem_nil, or_false] at hc
  rcases hc with rfl | rfl
  · exact w_c0
  · exact w_c1
set_option maxRecDepth 65536 in
theorem w_t1 : words1.all (fun c => isCode c || c.before args0 about1) = true := by decide +kernel
theorem w_tables : (allAtoms (Jvm.Cond.code x code maxLocals ret :: tables_1)).before args0 about1 = true := by
  rw [allAtoms_all]
  show words1.all (fun c => c.before args0 about1) = true
  refine all_split ?_ w_codes
  rw [w_t1]
set_option maxRecDepth 65536 in
theorem w_case : (Jvm.Cond.and given_1 narrow_1).before args0 about1 = true := by decide +kernel
theorem w_applies : (headSpec (Jvm.Cond.code x code maxLocals ret :: tables_1) room_1).applies x e0.platform about1 = true :=
  (Spec.applies_iff w_frames).mpr ⟨w_running, w_runnable, w_alone, w_named, w_hears, w_ripe, w_room, w_tables⟩
theorem atStart : AtStart classFile x code maxLocals ret World_1 tables_1 room_1 Calls_1 rest_1 Pre_1 launch0 p0 e0 about1 theMethod args0 below0 :=
  ⟨lists_1, trivial, launch0.admits_env _ _ _, launch0.least_env, fairChoices_fair.cas, fairChoices_fair.clock, w_frames, w_args, w_heap, w_applies, trivial, trivial, w_case⟩
end start1
theorem witness_1 : WitnessClaimed_1 := ⟨start1.p0, start1.e0, start1.about1, start1.theMethod, start1.args0, start1.below0, start1.atStart⟩
end Jvm.Pilot.@@N@@
