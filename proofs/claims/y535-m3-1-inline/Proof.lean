import JvmDerived
import JvmDerived.Pilot.@@N@@Statement
import JvmDerived.Pilot.@@N@@Code
set_option linter.unusedVariables false
set_option linter.unusedSimpArgs false
@@BLOCK:NumsL.lean.txt@@
namespace Jvm.RoadKit
open Sem ClassFile Op Lib Jvm.Stand Jvm.Free Jvm.LawKit
section Own
variable {p : Program} {l : Launch} {e : Env} {R : Room} {s : State} {m : MethodId} {args : Array Value} {below : List Frame} {meth : Method} {c : Code} {T T' : State} {locs : List Loc} {cells slots : Nat} {K : State → Outcome → Prop} {g g' : JFrame} {A A' : Array Slot} {S : List Value} {q : Nat} {x y : Int32} {v w : Value} {Z : State} {a0 : Array Value} {h : Heap}
theorem o_mask255 (x : Int32) : (x &&& 255).toInt = x.toInt % 256 := Jvm.Kit.i32_mask x 255 (k := 8) (by decide) (by decide)
/-- from T with the frame g the body comes to an end of which K is true -/
def o_G (p : Program) (e : Env) (below : List Frame) (K : State → Outcome → Prop) (T : State) (g : JFrame) : Prop := ∃ s₂ o, Steps p.tables e below (T.setTop g) s₂ ∧ s₂.status = .running ∧ Ended s₂ below o ∧ K s₂ o
def o_E (s : State) (Q : Option Value → Heap → List Loc → Prop) (C N : Nat) (t : State) (o : Outcome) : Prop := ∃ v L, o = .returned v ∧ Q v t.heap L ∧ FrameEnd s o t L C N
theorem o_st (h : ∀ t, Steps p.tables e below (T'.setTop g') t → Steps p.tables e below (T.setTop g) t) (k : o_G p e below K T' g') : o_G p e below K T g := by
  obtain ⟨a, b, c, d⟩ := k; exact ⟨a, b, h _ c, d⟩
theorem o_tr (h : Steps p.tables e below (T.setTop g) (T'.setTop g')) (k : o_G p e below K T' g') : o_G p e below K T g := by
  obtain ⟨a, b, c, d⟩ := k; exact ⟨a, b, h.trans c, d⟩
theorem o_up {C N : Nat} (X : Stand p l e R s m args below meth c T locs cells slots) (h1 : cells ≤ C) (h2 : slots ≤ N) : Stand p l e R s m args below meth c T locs C N := { X with same := X.same.mono h1 h2 }
theorem o_iload (X : Stand p l e R s m args below meth c T locs cells slots) (hx : p.tables.exec = Jvm.exec) {k : Nat} (hd : decode c.code q = .ok (.iload k, 2)) (hl : A[k]? = some (.val (.int x))) (kk : o_G p e below K T (mkF m (q + 2) A (.int x :: S))) : o_G p e below K T (mkF m q A S) := o_st (fun _ z => XS.iload X.here hx rfl hd hl z) kk
theorem o_iloadN (X : Stand p l e R s m args below meth c T locs cells slots) (hx : p.tables.exec = Jvm.exec) {k : Fin 4} (hd : decode c.code q = .ok (.iload_n k, 1)) (hl : A[k.val]? = some (.val (.int x))) (kk : o_G p e below K T (mkF m (q + 1) A (.int x :: S))) : o_G p e below K T (mkF m q A S) := o_st (fun _ z => XS.iloadN X.here hx rfl hd hl z) kk
theorem o_aload (X : Stand p l e R s m args below meth c T locs cells slots) (hx : p.tables.exec = Jvm.exec) {k : Nat} (hd : decode c.code q = .ok (.aload k, 2)) (hl : A[k]? = some (.val v)) (hv : v.isRef = true) (kk : o_G p e below K T (mkF m (q + 2) A (v :: S))) : o_G p e below K T (mkF m q A S) := o_st (fun _ z => XS.aload X.here hx rfl hd hl hv z) kk
theorem o_aloadN (X : Stand p l e R s m args below meth c T locs cells slots) (hx : p.tables.exec = Jvm.exec) {k : Fin 4} (hd : decode c.code q = .ok (.aload_n k, 1)) (hl : A[k.val]? = some (.val v)) (hv : v.isRef = true) (kk : o_G p e below K T (mkF m (q + 1) A (v :: S))) : o_G p e below K T (mkF m q A S) := o_st (fun _ z => XS.aloadN X.here hx rfl hd hl hv z) kk
theorem o_istore (X : Stand p l e R s m args below meth c T locs cells slots) (hx : p.tables.exec = Jvm.exec) {k : Nat} (hd : decode c.code q = .ok (.istore k, 2)) (hl : storeLocals A k (.int x) = some A') (kk : o_G p e below K T (mkF m (q + 2) A' S)) : o_G p e below K T (mkF m q A (.int x :: S)) := o_st (fun _ z => XS.istore X.here hx rfl hd rfl hl z) kk
theorem o_istoreN (X : Stand p l e R s m args below meth c T locs cells slots) (hx : p.tables.exec = Jvm.exec) {k : Fin 4} (hd : decode c.code q = .ok (.istore_n k, 1)) (hl : storeLocals A k.val (.int x) = some A') (kk : o_G p e below K T (mkF m (q + 1) A' S)) : o_G p e below K T (mkF m q A (.int x :: S)) := o_st (fun _ z => XS.istoreN X.here hx rfl hd rfl hl z) kk
theorem o_astore (X : Stand p l e R s m args below meth c T locs cells slots) (hx : p.tables.exec = Jvm.exec) {k : Nat} (hd : decode c.code q = .ok (.astore k, 2)) (hv : v.isRef = true) (hl : storeLocals A k v = some A') (kk : o_G p e below K T (mkF m (q + 2) A' S)) : o_G p e below K T (mkF m q A (v :: S)) := o_st (fun _ z => XS.astore X.here hx rfl hd rfl hv hl z) kk
theorem o_astoreN (X : Stand p l e R s m args below meth c T locs cells slots) (hx : p.tables.exec = Jvm.exec) {k : Fin 4} (hd : decode c.code q = .ok (.astore_n k, 1)) (hv : v.isRef = true) (hl : storeLocals A k.val v = some A') (kk : o_G p e below K T (mkF m (q + 1) A' S)) : o_G p e below K T (mkF m q A (v :: S)) := o_st (fun _ z => XS.astoreN X.here hx rfl hd rfl hv hl z) kk
theorem o_iconst (X : Stand p l e R s m args below meth c T locs cells slots) (hx : p.tables.exec = Jvm.exec) {i : Int} (hd : decode c.code q = .ok (.iconst i, 1)) (hv : Int32.ofInt i = x) (kk : o_G p e below K T (mkF m (q + 1) A (.int x :: S))) : o_G p e below K T (mkF m q A S) := o_st (fun _ z => XS.iconst X.here hx rfl hd z) (hv ▸ kk)
theorem o_bipush (X : Stand p l e R s m args below meth c T locs cells slots) (hx : p.tables.exec = Jvm.exec) {i : Int} (hd : decode c.code q = .ok (.bipush i, 2)) (hv : (Int8.ofInt i).toInt32 = x) (kk : o_G p e below K T (mkF m (q + 2) A (.int x :: S))) : o_G p e below K T (mkF m q A S) := o_st (fun _ z => XS.bipush X.here hx rfl hd z) (hv ▸ kk)
theorem o_sipush (X : Stand p l e R s m args below meth c T locs cells slots) (hx : p.tables.exec = Jvm.exec) {i : Int} (hd : decode c.code q = .ok (.sipush i, 3)) (hv : (Int16.ofInt i).toInt32 = x) (kk : o_G p e below K T (mkF m (q + 3) A (.int x :: S))) : o_G p e below K T (mkF m q A S) := o_st (fun _ z => XS.sipush X.here hx rfl hd z) (hv ▸ kk)
theorem o_anull (X : Stand p l e R s m args below meth c T locs cells slots) (hx : p.tables.exec = Jvm.exec) (hd : decode c.code q = .ok (.aconst_null, 1)) (kk : o_G p e below K T (mkF m (q + 1) A (.null :: S))) : o_G p e below K T (mkF m q A S) := o_st (fun _ z => XS.aconstNull X.here hx rfl hd z) kk
theorem o_iadd (X : Stand p l e R s m args below meth c T locs cells slots) (hx : p.tables.exec = Jvm.exec) (hd : decode c.code q = .ok (.iadd, 1)) (kk : o_G p e below K T (mkF m (q + 1) A (.int (x + y) :: S))) : o_G p e below K T (mkF m q A (.int y :: .int x :: S)) := o_st (fun _ z => XS.iadd X.here hx rfl hd rfl z) kk
theorem o_isub (X : Stand p l e R s m args below meth c T locs cells slots) (hx : p.tables.exec = Jvm.exec) (hd : decode c.code q = .ok (.isub, 1)) (kk : o_G p e below K T (mkF m (q + 1) A (.int (x - y) :: S))) : o_G p e below K T (mkF m q A (.int y :: .int x :: S)) := o_st (fun _ z => XS.isub X.here hx rfl hd rfl z) kk
theorem o_iand (X : Stand p l e R s m args below meth c T locs cells slots) (hx : p.tables.exec = Jvm.exec) (hd : decode c.code q = .ok (.iand, 1)) (kk : o_G p e below K T (mkF m (q + 1) A (.int (x &&& y) :: S))) : o_G p e below K T (mkF m q A (.int y :: .int x :: S)) := o_st (fun _ z => XS.iand X.here hx rfl hd rfl z) kk
theorem o_ior (X : Stand p l e R s m args below meth c T locs cells slots) (hx : p.tables.exec = Jvm.exec) (hd : decode c.code q = .ok (.ior, 1)) (kk : o_G p e below K T (mkF m (q + 1) A (.int (x ||| y) :: S))) : o_G p e below K T (mkF m q A (.int y :: .int x :: S)) := o_st (fun _ z => XT.ior X.here hx rfl hd rfl z) kk
theorem o_iushr (X : Stand p l e R s m args below meth c T locs cells slots) (hx : p.tables.exec = Jvm.exec) (hd : decode c.code q = .ok (.iushr, 1)) (kk : o_G p e below K T (mkF m (q + 1) A (.int (XT.ushr x y) :: S))) : o_G p e below K T (mkF m q A (.int y :: .int x :: S)) := o_st (fun _ z => XT.iushr X.here hx rfl hd rfl z) kk
theorem o_ishl (X : Stand p l e R s m args below meth c T locs cells slots) (hx : p.tables.exec = Jvm.exec) (hd : decode c.code q = .ok (.ishl, 1)) (kk : o_G p e below K T (mkF m (q + 1) A (.int (x <<< (y &&& 31)) :: S))) : o_G p e below K T (mkF m q A (.int y :: .int x :: S)) := o_st (fun _ z => XT.ishl X.here hx rfl hd rfl z) kk
theorem o_ishr (X : Stand p l e R s m args below meth c T locs cells slots) (hx : p.tables.exec = Jvm.exec) (hd : decode c.code q = .ok (.ishr, 1)) (kk : o_G p e below K T (mkF m (q + 1) A (.int (x >>> (y &&& 31)) :: S))) : o_G p e below K T (mkF m q A (.int y :: .int x :: S)) := o_st (fun _ z => XT.ishr X.here hx rfl hd rfl z) kk
theorem o_i2b (X : Stand p l e R s m args below meth c T locs cells slots) (hx : p.tables.exec = Jvm.exec) (hd : decode c.code q = .ok (.i2b, 1)) (kk : o_G p e below K T (mkF m (q + 1) A (.int x.toInt8.toInt32 :: S))) : o_G p e below K T (mkF m q A (.int x :: S)) := o_st (fun _ z => XT.i2b X.here hx rfl hd rfl z) kk
theorem o_i2c (X : Stand p l e R s m args below meth c T locs cells slots) (hx : p.tables.exec = Jvm.exec) (hd : decode c.code q = .ok (.i2c, 1)) (kk : o_G p e below K T (mkF m (q + 1) A (.int x.toUInt32.toUInt16.toUInt32.toInt32 :: S))) : o_G p e below K T (mkF m q A (.int x :: S)) := o_st (fun _ z => XT.i2c X.here hx rfl hd rfl z) kk
theorem o_iinc (X : Stand p l e R s m args below meth c T locs cells slots) (hx : p.tables.exec = Jvm.exec) {k : Nat} {cst : Int} (hd : decode c.code q = .ok (.iinc k cst, 3)) (hv : Int32.ofInt cst = y) (hl : A[k]? = some (.val (.int x))) (hs : storeLocals A k (.int (x + y)) = some A') (kk : o_G p e below K T (mkF m (q + 3) A' S)) : o_G p e below K T (mkF m q A S) := o_st (fun _ z => XS.iinc X.here hx rfl hd hl (hv ▸ hs) z) kk
theorem o_dup (X : Stand p l e R s m args below meth c T locs cells slots) (hx : p.tables.exec = Jvm.exec) (hd : decode c.code q = .ok (.dup, 1)) (hc : v.category = 1) (kk : o_G p e below K T (mkF m (q + 1) A (v :: v :: S))) : o_G p e below K T (mkF m q A (v :: S)) := o_st (fun _ z => XS.dup X.here hx rfl hd rfl hc z) kk
theorem o_pop (X : Stand p l e R s m args below meth c T locs cells slots) (hx : p.tables.exec = Jvm.exec) (hd : decode c.code q = .ok (.pop, 1)) (hc : v.category = 1) (kk : o_G p e below K T (mkF m (q + 1) A S)) : o_G p e below K T (mkF m q A (v :: S)) := o_st (fun _ z => XT.pop X.here hx rfl hd rfl hc z) kk
theorem o_goto (X : Stand p l e R s m args below meth c T locs cells slots) (hx : p.tables.exec = Jvm.exec) {o : Int} {t : Nat} (hd : decode c.code q = .ok (.goto o, 3)) (ho : 0 ≤ (q : Int) + o) (ht : ((q : Int) + o).toNat = t) (kk : o_G p e below K T (mkF m t A S)) : o_G p e below K T (mkF m q A S) := o_st (fun _ z => XS.goto X.here hx rfl (pc0 := q) rfl hd ho ht z) kk
theorem o_if (X : Stand p l e R s m args below meth c T locs cells slots) (hx : p.tables.exec = Jvm.exec) {cd : ClassFile.Cond} {o : Int} {t : Nat} (hd : decode c.code q = .ok (.ifCond cd o, 3)) (ho : 0 ≤ (q : Int) + o) (ht : ((q : Int) + o).toNat = t) (kT : ifCond.holds cd x = true → o_G p e below K T (mkF m t A S)) (kF : ifCond.holds cd x = false → o_G p e below K T (mkF m (q + 3) A S)) : o_G p e below K T (mkF m q A (.int x :: S)) := by
  cases hc : ifCond.holds cd x with
  | true => exact o_st (fun _ z => XS.ifYes X.here hx rfl (pc0 := q) rfl hd rfl hc ho ht z) (kT hc)
  | false => exact o_st (fun _ z => XS.ifNo X.here hx rfl hd rfl hc z) (kF hc)
theorem o_icmp (X : Stand p l e R s m args below meth c T locs cells slots) (hx : p.tables.exec = Jvm.exec) {cd : ClassFile.Cond} {o : Int} {t : Nat} (hd : decode c.code q = .ok (.if_icmp cd o, 3)) (ho : 0 ≤ (q : Int) + o) (ht : ((q : Int) + o).toNat = t) (kT : if_icmp.holds cd x y = true → o_G p e below K T (mkF m t A S)) (kF : if_icmp.holds cd x y = false → o_G p e below K T (mkF m (q + 3) A S)) : o_G p e below K T (mkF m q A (.int y :: .int x :: S)) := by
  cases hc : if_icmp.holds cd x y with
  | true => exact o_st (fun _ z => XS.icmpYes X.here hx rfl (pc0 := q) rfl hd rfl hc ho ht z) (kT hc)
  | false => exact o_st (fun _ z => XS.icmpNo X.here hx rfl hd rfl hc z) (kF hc)
theorem o_h_eq : (ifCond.holds .eq x = true → x = 0) ∧ (ifCond.holds .eq x = false → ¬ x = 0) := by simp [ifCond.holds]
theorem o_h_ne : (ifCond.holds .ne x = true → ¬ x = 0) ∧ (ifCond.holds .ne x = false → x = 0) := by simp [ifCond.holds]
theorem o_h_lt : (ifCond.holds .lt x = true → x < 0) ∧ (ifCond.holds .lt x = false → ¬ x < 0) := by simp [ifCond.holds]
theorem o_h_ge : (ifCond.holds .ge x = true → ¬ x < 0) ∧ (ifCond.holds .ge x = false → x < 0) := by simp [ifCond.holds, ← Int32.not_lt]
theorem o_h_le : (ifCond.holds .le x = true → ¬ 0 < x) ∧ (ifCond.holds .le x = false → 0 < x) := by simp [ifCond.holds, ← Int32.not_lt]
theorem o_c_eq : (if_icmp.holds .eq x y = true → x = y) ∧ (if_icmp.holds .eq x y = false → ¬ x = y) := by simp [if_icmp.holds]
theorem o_c_ne : (if_icmp.holds .ne x y = true → ¬ x = y) ∧ (if_icmp.holds .ne x y = false → x = y) := by simp [if_icmp.holds]
theorem o_c_lt : (if_icmp.holds .lt x y = true → x < y) ∧ (if_icmp.holds .lt x y = false → ¬ x < y) := by simp [if_icmp.holds]
theorem o_c_ge : (if_icmp.holds .ge x y = true → ¬ x < y) ∧ (if_icmp.holds .ge x y = false → x < y) := by simp [if_icmp.holds, ← Int32.not_lt]
theorem o_c_gt : (if_icmp.holds .gt x y = true → y < x) ∧ (if_icmp.holds .gt x y = false → ¬ y < x) := by simp [if_icmp.holds]
theorem o_c_le : (if_icmp.holds .le x y = true → ¬ y < x) ∧ (if_icmp.holds .le x y = false → y < x) := by simp [if_icmp.holds, ← Int32.not_lt]
theorem o_acmp (X : Stand p l e R s m args below meth c T locs cells slots) (hx : p.tables.exec = Jvm.exec) {cd : ACond} {o : Int} {t : Nat} (h1 : v.isRef = true) (h2 : w.isRef = true) (hd : decode c.code q = .ok (.if_acmp cd o, 3)) (ho : 0 ≤ (q : Int) + o) (ht : ((q : Int) + o).toNat = t) (kY : v = w → o_G p e below K T (mkF m (if acV cd true = true then t else q + 3) A S)) (kN : ¬ v = w → o_G p e below K T (mkF m (if acV cd false = true then t else q + 3) A S)) : o_G p e below K T (mkF m q A (w :: v :: S)) := by
  by_cases hq : v = w
  · exact o_st (fun _ z => acmp (g := mkF m q A (w :: v :: S)) X hx rfl h1 h2 (pc0 := q) rfl hd rfl (decide_eq_true hq) ho (by rw [ht]) z) (kY hq)
  · exact o_st (fun _ z => acmp (g := mkF m q A (w :: v :: S)) X hx rfl h1 h2 (pc0 := q) rfl hd rfl (decide_eq_false hq) ho (by rw [ht]) z) (kN hq)
theorem o_nonnullY {b : Addr} (X : Stand p l e R s m args below meth c T locs cells slots) (hx : p.tables.exec = Jvm.exec) {o : Int} {t : Nat} (hd : decode c.code q = .ok (.ifnonnull o, 3)) (ho : 0 ≤ (q : Int) + o) (ht : ((q : Int) + o).toNat = t) (kk : o_G p e below K T (mkF m t A S)) : o_G p e below K T (mkF m q A (.ref b :: S)) := o_st (fun _ z => XT.ifnonnullYes X.here hx rfl (pc0 := q) rfl hd rfl ho ht z) kk
theorem o_chr (x : Int32) : ∃ c : Int32, c = x &&& 255 ∧ (x &&& 255).toUInt32.toUInt16.toUInt32.toInt32 = c ∧ nar .char c = c ∧ ¬ c < 0 ∧ ¬ (255 : Int32) < c := by
  have h1 : (x &&& 255).toInt = x.toInt % 256 := by
    have := Jvm.RoadKit.o_mask255 x
    exact this
  refine ⟨x &&& 255, rfl, i2c_mask x, i2c_mask x, ?_, ?_⟩
  · rw [Int32.lt_iff_toInt_lt, h1]; show ¬ _ < (0 : Int); omega
  · rw [Int32.lt_iff_toInt_lt, h1]; show ¬ (255 : Int) < _; omega
theorem o_join {α : Type} {P : α → Prop} {F : α → JFrame} (X : Stand p l e R s m args below meth c T locs cells slots) (eT : T.heap = h) (kJ : ∀ T', Stand p l e R s m args below meth c T' locs cells slots → T'.heap = h → ∀ a, P a → o_G p e below K T' (F a)) (kB : (∀ T', Stand p l e R s m args below meth c T' locs cells slots → T'.heap = h → ∀ a, P a → o_G p e below K T' (F a)) → o_G p e below K T g) : o_G p e below K T g := kB kJ
/-! the ends of a body -/
section Ends
variable {Q : Option Value → Heap → List Loc → Prop} {C N : Nat}
theorem o_retN {t : FieldType} (X : Stand p l e R s m args below meth c T locs cells slots) (hx : p.tables.exec = Jvm.exec) (hret : meth.sig.returnType = some t) (hlocks : meth.locks = false) (ht : t = .boolean ∨ t = .byte ∨ t = .char ∨ t = .short) (hd : decode c.code q = .ok (.ireturn, 1)) (hn : nar t x = x) (hc : cells ≤ C) (hs : slots ≤ N) (hQ : Q (some (.int x)) T.heap locs) : o_G p e below (o_E s Q C N) T (mkF m q A (.int x :: S)) := by
  obtain ⟨fs, hr, hrun, hended, hW, hsame⟩ := X.leave (v := some (.int (nar t x))) (fun h => by rw [hret] at h; cases h) hlocks
  refine ⟨_, _, retN X hx hret ht hd hr, hrun, hended, _, _, rfl, ?_, ⟨_, rfl⟩, hW, hsame.mono hc hs⟩
  rw [hn]; exact hQ
theorem o_retI (X : Stand p l e R s m args below meth c T locs cells slots) (hx : p.tables.exec = Jvm.exec) (hret : meth.sig.returnType = some .int) (hlocks : meth.locks = false) (hd : decode c.code q = .ok (.ireturn, 1)) (hc : cells ≤ C) (hs : slots ≤ N) (hQ : Q (some (.int x)) T.heap locs) : o_G p e below (o_E s Q C N) T (mkF m q A (.int x :: S)) := by
  obtain ⟨fs, hr, hrun, hended, hW, hsame⟩ := X.leave (v := some (.int x)) (fun h => by rw [hret] at h; cases h) hlocks
  exact ⟨_, _, retOut X hx hret rfl (Or.inl ⟨rfl, Or.inl rfl, _, rfl⟩) hd hr, hrun, hended, _, _, rfl, hQ, ⟨_, rfl⟩, hW, hsame.mono hc hs⟩
theorem o_retA {t : FieldType} (X : Stand p l e R s m args below meth c T locs cells slots) (hx : p.tables.exec = Jvm.exec) (hret : meth.sig.returnType = some t) (hlocks : meth.locks = false) (ht : t.isReference = true) (hv : v.isRef = true) (hn : narrow t v = v) (hd : decode c.code q = .ok (.areturn, 1)) (hc : cells ≤ C) (hs : slots ≤ N) (hQ : Q (some v) T.heap locs) : o_G p e below (o_E s Q C N) T (mkF m q A (v :: S)) := by
  obtain ⟨fs, hr, hrun, hended, hW, hsame⟩ := X.leave (v := some v) (fun h => by rw [hret] at h; cases h) hlocks
  exact ⟨_, _, retOut X hx hret hn (Or.inr (Or.inr (Or.inr (Or.inr ⟨rfl, ht, hv⟩)))) hd hr, hrun, hended, _, _, rfl, hQ, ⟨_, rfl⟩, hW, hsame.mono hc hs⟩
theorem o_retV (X : Stand p l e R s m args below meth c T locs cells slots) (hx : p.tables.exec = Jvm.exec) (hret : meth.sig.returnType = none) (hlocks : meth.locks = false) (hd : decode c.code q = .ok (.return_, 1)) (hc : cells ≤ C) (hs : slots ≤ N) (hQ : Q none T.heap locs) : o_G p e below (o_E s Q C N) T (mkF m q A []) := by
  obtain ⟨fs, hr, hrun, hended, hW, hsame⟩ := X.leave (v := none) (fun _ => rfl) hlocks
  exact ⟨_, _, X.returnOut hx hret hd hr, hrun, hended, _, _, rfl, hQ, ⟨_, rfl⟩, hW, hsame.mono hc hs⟩
end Ends
/-! calls, by what pays them -/
section Calls
variable {Q : Option Value → Heap → List Loc → Prop} {kc ks W : Nat} {own C : String} {index : Nat} {z y : MethodName} {argsL St : List Value} {b : Addr}
theorem o_static {bytes : ByteArray} {maxL : Nat} {ret : Option FieldType} {y : MethodName} (X : Stand p l e R s m args below meth c T locs cells slots) (hx : p.tables.exec = Jvm.exec) (hZ : Z.Warmed39 s.vm) (hown : s.vm.findClass own = some m.cls) (w1 : (Cond.methodLink own index y).before a0 Z = true) (w2 : (Cond.static y).before a0 Z = true) (w3 : (Cond.initialized y.cls).before a0 Z = true) (w4 : (Cond.code y bytes maxL ret).before a0 Z = true) (hy : y.cls ≠ "java/lang/invoke/MethodHandle" ∧ y.cls ≠ "java/lang/invoke/VarHandle")
    (hK : Back l R p e below s args y 3 W (fun P a => a = argsL.toArray ∧ P.U.heap = h ∧ P.cells + kc ≤ R.cells ∧ P.slots + ks ≤ R.slots) (fun P _ v B => ∃ L, Q v B.U.heap L ∧ B.locs = P.locs ++ L ∧ B.cells = P.cells + kc ∧ B.slots = P.slots + ks))
    (eT : T.heap = h) (hsz : A.size = c.maxLocals) (hlen : ∀ sig, parseMethodDescriptor y.desc = some sig → argsL.length = sig.parameters.length) (hst : St = argsL.reverse ++ S) (hW : (S.map fun v => v.category).sum ≤ W) (hd : decode c.code q = .ok (.invokestatic index, 3)) (hc : cells + kc ≤ R.cells) (hs : slots + ks ≤ R.slots)
    (kk : ∀ T' L v, Stand p l e R s m args below meth c T' (locs ++ L) (cells + kc) (slots + ks) → Q v T'.heap L → o_G p e below K T' (mkF m (q + 3) A (v.toList ++ S))) : o_G p e below K T (mkF m q A St) := by
  subst hst
  obtain ⟨v, _, ⟨T', L', k', n'⟩, -, X', ⟨L, hQ, l1, l2, l3⟩, st⟩ := Jvm.LawKit.callS X hx hown (mvT hZ w1) (mvT hZ w2) (mvT hZ w3) (mvT hZ w4) hy hK (g := mkF m q A (argsL.reverse ++ S)) rfl hsz hlen rfl (by show 2 * 0 + _ ≤ _; omega) hd (fun _ _ => ⟨rfl, eT, hc, hs⟩)
  dsimp only [Pt.U, Pt.locs, Pt.cells, Pt.slots] at X' l1 l2 l3 st hQ
  subst l1 l2 l3
  exact o_st st (kk _ _ _ X' hQ)
theorem o_init {bytes : ByteArray} {maxL : Nat} {y : MethodName} (hy1 : y.name = "<init>") (X : Stand p l e R s m args below meth c T locs cells slots) (hx : p.tables.exec = Jvm.exec) (hZ : Z.Warmed39 s.vm) (hown : s.vm.findClass own = some m.cls) (w1 : (Cond.methodLink own index y).before a0 Z = true) (w2 : (Cond.instanceMethod y).before a0 Z = true) (w4 : (Cond.code y bytes maxL none).before a0 Z = true) (hy : y.cls ≠ "java/lang/invoke/MethodHandle" ∧ y.cls ≠ "java/lang/invoke/VarHandle")
    (hK : Back l R p e below s args y 3 W (fun P a => a = (Value.ref b :: argsL).toArray ∧ P.U.heap = h ∧ P.cells + kc ≤ R.cells ∧ P.slots + ks ≤ R.slots) (fun P _ v B => ∃ L, Q v B.U.heap L ∧ B.locs = P.locs ++ L ∧ B.cells = P.cells + kc ∧ B.slots = P.slots + ks))
    (eT : T.heap = h) (hsz : A.size = c.maxLocals) (hlen : ∀ sig, parseMethodDescriptor y.desc = some sig → argsL.length = sig.parameters.length) (hst : St = argsL.reverse ++ .ref b :: S) (hW : (S.map fun v => v.category).sum ≤ W) (hd : decode c.code q = .ok (.invokespecial index, 3)) (hc : cells + kc ≤ R.cells) (hs : slots + ks ≤ R.slots)
    (kk : ∀ T' L v, Stand p l e R s m args below meth c T' (locs ++ L) (cells + kc) (slots + ks) → Q v T'.heap L → o_G p e below K T' (mkF m (q + 3) A (v.toList ++ S))) : o_G p e below K T (mkF m q A St) := by
  subst hst
  obtain ⟨v, _, ⟨T', L', k', n'⟩, -, X', ⟨L, hQ, l1, l2, l3⟩, st⟩ := X.specialBack hx hy1 hown (mvT hZ w1) (mvT hZ w2) (mvT hZ w4) hy hK (g := mkF m q A (argsL.reverse ++ .ref b :: S)) rfl hsz (Steps.refl _) (a := b) (argsL := argsL) (rest := S) hlen rfl (by show 2 * 0 + _ ≤ _; omega) hd (fun _ _ => ⟨rfl, eT, hc, hs⟩)
  dsimp only [Pt.U, Pt.locs, Pt.cells, Pt.slots] at X' l1 l2 l3 st hQ
  subst l1 l2 l3
  exact o_tr st (kk _ _ _ X' hQ)
theorem o_virtual {y z : MethodName} (X : Stand p l e R s m args below meth c T locs cells slots) (hx : p.tables.exec = Jvm.exec) (hZ : Z.Warmed39 s.vm) (hown : s.vm.findClass own = some m.cls) (w1 : (Cond.methodLink own index y).before a0 Z = true) (w2 : (Cond.declares y).before a0 Z = true) (hnf : NotFace s y) (w3 : (Cond.selects C y z).before a0 Z = true) (w4 : (Cond.instanceMethod z).before a0 Z = true) (hy : y.cls ≠ "java/lang/invoke/MethodHandle" ∧ y.cls ≠ "java/lang/invoke/VarHandle")
    (hK : Back l R p e below s args z 3 W (fun P a => a = (Value.ref b :: argsL).toArray ∧ P.U.heap = h ∧ P.cells + kc ≤ R.cells ∧ P.slots + ks ≤ R.slots) (fun P _ v B => ∃ L, Q v B.U.heap L ∧ B.locs = P.locs ++ L ∧ B.cells = P.cells + kc ∧ B.slots = P.slots + ks))
    (eT : T.heap = h) (E : Exa Z h b C) (hsz : A.size = c.maxLocals) (hlen : ∀ sig, parseMethodDescriptor y.desc = some sig → argsL.length = sig.parameters.length) (hst : St = argsL.reverse ++ .ref b :: S) (hW : (S.map fun v => v.category).sum ≤ W) (hd : decode c.code q = .ok (.invokevirtual index, 3)) (hc : cells + kc ≤ R.cells) (hs : slots + ks ≤ R.slots)
    (kk : ∀ T' L v, Stand p l e R s m args below meth c T' (locs ++ L) (cells + kc) (slots + ks) → Q v T'.heap L → o_G p e below K T' (mkF m (q + 3) A (v.toList ++ S))) : o_G p e below K T (mkF m q A St) := by
  subst hst
  obtain ⟨cq, kq, q1, q2, q3⟩ := isOf hZ eT E
  obtain ⟨v, _, ⟨T', L', k', n'⟩, -, X', ⟨L, hQ, l1, l2, l3⟩, st⟩ := X.virtualBack hx hown (mvT hZ w1) (mvT hZ w2) hnf (mvT hZ w3) (mvT hZ w4) hy hK q1 q3 (g := mkF m q A (argsL.reverse ++ .ref b :: S)) rfl hsz (Steps.refl _) (argsL := argsL) (rest := S) hlen rfl (by show 2 * 0 + _ ≤ _; omega) hd (fun _ _ => ⟨rfl, eT, hc, hs⟩)
  dsimp only [Pt.U, Pt.locs, Pt.cells, Pt.slots] at X' l1 l2 l3 st hQ
  subst l1 l2 l3
  exact o_tr st (kk _ _ _ X' hQ)
end Calls
end Own
end Jvm.RoadKit
namespace Jvm.RoadKit
open Sem ClassFile Op Lib Jvm.Stand Jvm.Free Jvm.LawKit
section OwnW
variable {p : Program} {l : Launch} {e : Env} {R : Room} {s : State} {vm0 : Vm} {m : MethodId} {args : Array Value} {below : List Frame} {meth : Method} {c : Code} {T T' : State} {locs : List Loc} {cells slots : Nat} {K : State → Outcome → Prop} {g g' : JFrame} {A A' : Array Slot} {S : List Value} {q k0 : Nat} {x y : Int32} {v w : Value} {Z : State} {a0 : Array Value} {h : Heap}
def o_EW (s : State) (Q : Option Value → Heap → List Loc → Prop) (C N : Nat) (t : State) (o : Outcome) : Prop := ∃ v L, o = .returned v ∧ Q v t.heap L ∧ ReturnedEndW s o t L C N
section EndsW
variable {Q : Option Value → Heap → List Loc → Prop} {C N : Nat}
theorem o_monoW {o : Outcome} {t : State} {L : List Loc} {k n : Nat} (hh : ReturnedEndW s o t L k n) (hc : k ≤ C) (hs : n ≤ N) : ReturnedEndW s o t L C N := ⟨hh.1, hh.2.1, hh.2.2.1, hh.2.2.2.mono hc hs⟩
theorem o_retNW {t : FieldType} (X : Stand p l e R (s.setVm vm0) m args below meth c T locs cells slots) (hx : p.tables.exec = Jvm.exec) (hS : s.Since vm0 k0) (hk : k0 ≤ T.heap.size) (hret : meth.sig.returnType = some t) (hlocks : meth.locks = false) (ht : t = .boolean ∨ t = .byte ∨ t = .char ∨ t = .short) (hd : decode c.code q = .ok (.ireturn, 1)) (hn : nar t x = x) (hc : cells ≤ C) (hs : slots ≤ N) (hQ : Q (some (.int x)) T.heap locs) : o_G p e below (o_EW s Q C N) T (mkF m q A (.int x :: S)) := by
  obtain ⟨fs, hr, hrun, hended, hW⟩ := X.leaveW hS hk (v := some (.int (nar t x))) (fun h => by rw [hret] at h; cases h) hlocks
  refine ⟨_, _, retN X hx hret ht hd hr, hrun, hended, _, _, rfl, ?_, o_monoW hW hc hs⟩
  rw [hn]; exact hQ
end EndsW
section CallsW
variable {Q : Option Value → Heap → List Loc → Prop} {kc ks W : Nat} {own C : String} {index : Nat} {argsL St : List Value} {b : Addr}
end CallsW
end OwnW
end Jvm.RoadKit
namespace Jvm.RoadKit
open Sem ClassFile Op Lib Jvm.Stand Jvm.Free Jvm.LawKit
section OwnM
variable {p : Program} {l : Launch} {e : Env} {R : Room} {s : State} {m : MethodId} {args : Array Value} {below : List Frame} {meth : Method} {c : Code} {T T' : State} {locs : List Loc} {cells slots : Nat} {K K' : State → Outcome → Prop} {g g' : JFrame} {A A' : Array Slot} {S : List Value} {q : Nat} {x y z : Int32} {v w : Value} {Z : State} {a0 : Array Value} {h : Heap} {a : Addr} {ka : ClassId} {vs : List Value} {dv : Value} {n : Int32}
theorem o_mono (hK : ∀ t o, K t o → K' t o) (k : o_G p e below K T g) : o_G p e below K' T g := by
  obtain ⟨a, b, h1, h2, h3, h4⟩ := k; exact ⟨a, b, h1, h2, h3, hK _ _ h4⟩
theorem o_valE (hz : x = z) (k : o_G p e below K T (mkF m q A (.int z :: S))) : o_G p e below K T (mkF m q A (.int x :: S)) := hz ▸ k
theorem o_ifT (X : Stand p l e R s m args below meth c T locs cells slots) (hx : p.tables.exec = Jvm.exec) {cd : ClassFile.Cond} {o : Int} {t : Nat} (hd : decode c.code q = .ok (.ifCond cd o, 3)) (ho : 0 ≤ (q : Int) + o) (ht : ((q : Int) + o).toNat = t) (hc : ifCond.holds cd x = true) (k : o_G p e below K T (mkF m t A S)) : o_G p e below K T (mkF m q A (.int x :: S)) := o_st (fun _ z => XS.ifYes X.here hx rfl (pc0 := q) rfl hd rfl hc ho ht z) k
theorem o_ifF (X : Stand p l e R s m args below meth c T locs cells slots) (hx : p.tables.exec = Jvm.exec) {cd : ClassFile.Cond} {o : Int} (hd : decode c.code q = .ok (.ifCond cd o, 3)) (hc : ifCond.holds cd x = false) (k : o_G p e below K T (mkF m (q + 3) A S)) : o_G p e below K T (mkF m q A (.int x :: S)) := o_st (fun _ z => XS.ifNo X.here hx rfl hd rfl hc z) k
theorem o_icmpT (X : Stand p l e R s m args below meth c T locs cells slots) (hx : p.tables.exec = Jvm.exec) {cd : ClassFile.Cond} {o : Int} {t : Nat} (hd : decode c.code q = .ok (.if_icmp cd o, 3)) (ho : 0 ≤ (q : Int) + o) (ht : ((q : Int) + o).toNat = t) (hc : if_icmp.holds cd x y = true) (k : o_G p e below K T (mkF m t A S)) : o_G p e below K T (mkF m q A (.int y :: .int x :: S)) := o_st (fun _ z => XS.icmpYes X.here hx rfl (pc0 := q) rfl hd rfl hc ho ht z) k
theorem o_icmpF (X : Stand p l e R s m args below meth c T locs cells slots) (hx : p.tables.exec = Jvm.exec) {cd : ClassFile.Cond} {o : Int} (hd : decode c.code q = .ok (.if_icmp cd o, 3)) (hc : if_icmp.holds cd x y = false) (k : o_G p e below K T (mkF m (q + 3) A S)) : o_G p e below K T (mkF m q A (.int y :: .int x :: S)) := o_st (fun _ z => XS.icmpNo X.here hx rfl hd rfl hc z) k
theorem o_iincK (X : Stand p l e R s m args below meth c T locs cells slots) (hx : p.tables.exec = Jvm.exec) {k : Nat} {cst : Int} (hd : decode c.code q = .ok (.iinc k cst, 3)) (hv : Int32.ofInt cst = y) (hl : A[k]? = some (.val (.int x))) (hz : x + y = z) (hs : storeLocals A k (.int z) = some A') (kk : o_G p e below K T (mkF m (q + 3) A' S)) : o_G p e below K T (mkF m q A S) := o_iinc X hx hd hv hl (hz ▸ hs) kk
theorem o_bload (X : Stand p l e R s m args below meth c T locs cells slots) (hx : p.tables.exec = Jvm.exec) (hZ : Z.Warmed39 s.vm) (eT : T.heap = h) (F : Arv Z h a ka .byte n vs dv) (hd : decode c.code q = .ok (.baload, 1)) (hj : ¬ y < 0 ∧ y < n) (hv : vs.getD y.toNatClampNeg dv = v) (k : o_G p e below K T (mkF m (q + 1) A (v :: S))) : o_G p e below K T (mkF m q A (.int y :: .ref a :: S)) := by
  obtain ⟨cl, F1, F2, F3, F4, F5, F6⟩ := F
  have hin := inb_of F3 hj
  exact o_st (fun t z => X.baloadBytes hx (by rw [eT]; exact F1.1) (State.isArrayOf_alike hZ.alike F1.2.1) F1.2.2 hin (F5.at hin hv) (g := mkF m q A (.int y :: .ref a :: S)) rfl rfl hd t z) k
theorem o_cload (X : Stand p l e R s m args below meth c T locs cells slots) (hx : p.tables.exec = Jvm.exec) (hZ : Z.Warmed39 s.vm) (eT : T.heap = h) (F : Arv Z h a ka .char n vs dv) (hd : decode c.code q = .ok (.caload, 1)) (hj : ¬ y < 0 ∧ y < n) (hv : vs.getD y.toNatClampNeg dv = v) (k : o_G p e below K T (mkF m (q + 1) A (v :: S))) : o_G p e below K T (mkF m q A (.int y :: .ref a :: S)) := by
  obtain ⟨cl, F1, F2, F3, F4, F5, F6⟩ := F
  have hin := inb_of F3 hj
  exact o_st (fun t z => X.caload hx (by rw [eT]; exact F1.1) (State.isArrayOf_alike hZ.alike F1.2.1) F1.2.2 hin (F5.at hin hv) (g := mkF m q A (.int y :: .ref a :: S)) rfl rfl hd t z) k
theorem o_alen {ty : FieldType} (X : Stand p l e R s m args below meth c T locs cells slots) (hx : p.tables.exec = Jvm.exec) (hZ : Z.Warmed39 s.vm) (eT : T.heap = h) (F : Arv Z h a ka ty n vs dv) (hd : decode c.code q = .ok (.arraylength, 1)) (k : o_G p e below K T (mkF m (q + 1) A (.int n :: S))) : o_G p e below K T (mkF m q A (.ref a :: S)) := by
  obtain ⟨cl, F1, F2, F3, F4, F5, F6⟩ := F
  refine o_st (g' := mkF m (q + 1) A (.int cl.slots.size.toInt32 :: S)) (fun t z => X.arraylength hx (by rw [eT]; exact F1.1) (State.isArrayOf_alike hZ.alike F1.2.1) (g := mkF m q A (.ref a :: S)) rfl rfl hd t z) ?_
  rw [len_of F3 F4]; exact k
section CallsM
variable {Q : Option Value → Heap → List Loc → Prop} {kc ks W : Nat} {own C : String} {index cnt : Nat} {argsL St : List Value} {b : Addr}
theorem o_iface {xi y : MethodName} (X : Stand p l e R s m args below meth c T locs cells slots) (hx : p.tables.exec = Jvm.exec) (hZ : Z.Warmed39 s.vm) (hown : s.vm.findClass own = some m.cls) (w1 : (Cond.methodLink own index xi).before a0 Z = true) (w2 : (Cond.declares xi).before a0 Z = true) (w3 : (Cond.interfaceMethod xi.cls xi.cls xi.name xi.desc).before args s = true) (w4 : (Cond.selects C xi y).before a0 Z = true) (w5 : (Cond.instanceMethod y).before a0 Z = true) (w6 : (Cond.publicMethod y).before a0 Z = true) (w7 : (Cond.unhidden C xi.name xi.desc).before a0 Z = true) (w8 : (Cond.castable C xi.cls).before a0 Z = true) (hy : xi.cls ≠ "java/lang/invoke/MethodHandle" ∧ xi.cls ≠ "java/lang/invoke/VarHandle")
    (hK : Back l R p e below s args y 5 W (fun P a => a = (Value.ref b :: argsL).toArray ∧ P.U.heap = h ∧ P.cells + kc ≤ R.cells ∧ P.slots + ks ≤ R.slots) (fun P _ v B => ∃ L, Q v B.U.heap L ∧ B.locs = P.locs ++ L ∧ B.cells = P.cells + kc ∧ B.slots = P.slots + ks))
    (eT : T.heap = h) (E : Exa Z h b C) (hsz : A.size = c.maxLocals) (hlen : ∀ sig, parseMethodDescriptor xi.desc = some sig → argsL.length = sig.parameters.length) (hst : St = argsL.reverse ++ .ref b :: S) (hW : (S.map fun v => v.category).sum ≤ W) (hd : decode c.code q = .ok (.invokeinterface index cnt, 5)) (hc : cells + kc ≤ R.cells) (hs : slots + ks ≤ R.slots)
    (kk : ∀ T' L v, Stand p l e R s m args below meth c T' (locs ++ L) (cells + kc) (slots + ks) → Q v T'.heap L → o_G p e below K T' (mkF m (q + 5) A (v.toList ++ S))) : o_G p e below K T (mkF m q A St) := by
  subst hst
  obtain ⟨cq, kq, q1, q2, q3⟩ := isOf hZ eT E
  obtain ⟨v, _, ⟨T', L', k', n'⟩, -, X', ⟨L, hQ, l1, l2, l3⟩, st⟩ := X.interfaceBack hx hown (mvT hZ w1) (mvT hZ w2) w3 (mvT hZ w4) (mvT hZ w5) (mvT hZ w6) (mvT hZ w7) (mvT hZ w8) hy hK q1 q2 q3 (g := mkF m q A (argsL.reverse ++ .ref b :: S)) rfl hsz (Steps.refl _) (argsL := argsL) (rest := S) hlen rfl (by show 2 * 0 + _ ≤ _; omega) hd (fun _ _ => ⟨rfl, eT, hc, hs⟩)
  dsimp only [Pt.U, Pt.locs, Pt.cells, Pt.slots] at X' l1 l2 l3 st hQ
  subst l1 l2 l3
  exact o_tr st (kk _ _ _ X' hQ)
end CallsM
end OwnM
end Jvm.RoadKit
namespace Jvm.RoadKit
open Sem ClassFile Op Lib Bundle Jvm.Stand Jvm.Free Jvm.LawKit Jvm.Free.SB Jvm.Free.SBG
section OwnH
variable {p : Program} {l : Launch} {e : Env} {R : Room} {s : State} {vm0 : Vm} {m : MethodId} {args : Array Value} {below : List Frame} {meth : Method} {c : Code} {T T' : State} {locs : List Loc} {cells slots : Nat} {K : State → Outcome → Prop} {g g' : JFrame} {A A' : Array Slot} {S : List Value} {q k0 : Nat} {x y : Int32} {v w : Value} {Z : State} {a0 : Array Value} {h h0 : Heap} {EL : List (String × Nat)}
def o_EH (Z : State) (EL : List (String × Nat)) (s : State) (h0 : Heap) (Q : Option Value → Heap → List Loc → Prop) (C N : Nat) (t : State) (o : Outcome) : Prop := ∃ v L, o = .returned v ∧ Q v t.heap L ∧ CHr Z EL s.vm h0 t.vm t.heap ∧ ReturnedEndW s o t L C N
section EndsH
variable {Q : Option Value → Heap → List Loc → Prop} {C N : Nat}
theorem o_retVH (X : Stand p l e R (s.setVm vm0) m args below meth c T locs cells slots) (hx : p.tables.exec = Jvm.exec) (hS : s.Since vm0 k0) (hk : k0 ≤ T.heap.size) (hZ : Z.Warmed39 vm0) (hEL : EW Z a0 EL) (hC : CHr Z EL s.vm h0 vm0 T.heap) (hret : meth.sig.returnType = none) (hlocks : meth.locks = false) (hd : decode c.code q = .ok (.return_, 1)) (hc : cells ≤ C) (hs : slots ≤ N) (hQ : Q none T.heap locs) : o_G p e below (o_EH Z EL s h0 Q C N) T (mkF m q A []) := by
  have hA : CHr Z EL s.vm h0 T.vm T.heap := hC.trans (CHv.at X hZ hEL hC.1)
  obtain ⟨fs, hr, hrun, hended, hW⟩ := X.leaveW hS hk (v := none) (fun _ => rfl) hlocks
  exact ⟨_, _, X.returnOut hx hret hd hr, hrun, hended, _, _, rfl, hQ, hA, o_monoW hW hc hs⟩
theorem o_retAH {t : FieldType} (X : Stand p l e R (s.setVm vm0) m args below meth c T locs cells slots) (hx : p.tables.exec = Jvm.exec) (hS : s.Since vm0 k0) (hk : k0 ≤ T.heap.size) (hZ : Z.Warmed39 vm0) (hEL : EW Z a0 EL) (hC : CHr Z EL s.vm h0 vm0 T.heap) (hret : meth.sig.returnType = some t) (hlocks : meth.locks = false) (ht : t.isReference = true) (hv : v.isRef = true) (hn : narrow t v = v) (hd : decode c.code q = .ok (.areturn, 1)) (hc : cells ≤ C) (hs : slots ≤ N) (hQ : Q (some v) T.heap locs) : o_G p e below (o_EH Z EL s h0 Q C N) T (mkF m q A (v :: S)) := by
  have hA : CHr Z EL s.vm h0 T.vm T.heap := hC.trans (CHv.at X hZ hEL hC.1)
  obtain ⟨fs, hr, hrun, hended, hW⟩ := X.leaveW hS hk (v := some v) (fun h => by rw [hret] at h; cases h) hlocks
  exact ⟨_, _, retOut X hx hret hn (Or.inr (Or.inr (Or.inr (Or.inr ⟨rfl, ht, hv⟩)))) hd hr, hrun, hended, _, _, rfl, hQ, hA, o_monoW hW hc hs⟩
end EndsH
theorem o_ldcH {own text : String} {index n : Nat} {vs : List Value} {z : Int32} (X : Stand p l e R (s.setVm vm0) m args below meth c T locs cells slots) (hx : p.tables.exec = Jvm.exec) (hZ : Z.Warmed39 vm0) (hown : vm0.findClass own = some m.cls) (w : (Cond.stringLink own index text).before a0 Z = true) (wS : ∀ a ∈ Bundle.stringAtoms, a.before a0 Z = true) (eT : T.heap = h) (hS : s.Since vm0 k0) (hk : k0 ≤ h.size) (hEL : EW Z a0 EL) (hmem : (own, index) ∈ EL) (H : CHv Z EL vm0 h)
    (ht : (∀ c ∈ text.toList, c.toNat < 256) ∧ text.toList.map (fun c => Value.int (Jvm.Lit.byteI c.toNat.toUInt16)) = vs) (hz : ¬ z < 0) (hzl : z.toNatClampNeg = vs.length) (hd : decode c.code q = .ok (.ldc index, 2)) (hn : 4 * text.toList.length ≤ n) (hbig : n ≤ 536870912) (hc : cells + 2 ≤ R.cells) (hl : slots + (n + 4) ≤ R.slots)
    (kk : ∀ a b kb T' k1, Stand p l e R (s.setVm T'.vm) m args below meth c T' locs (cells + 2) (slots + (n + 4)) → Ext h T'.heap → s.Since T'.vm k1 → k1 ≤ T'.heap.size → Z.Warmed39 T'.vm → T'.vm.findClass own = some m.cls → Exa Z T'.heap a "java/lang/String" → Fld Z T'.heap a "java/lang/String" "coder" "B" (.int 0) → Fld Z T'.heap a "java/lang/String" "value" "[B" (.ref b) → Arv Z T'.heap b kb .byte z vs (.int 0) → CHr Z EL vm0 h T'.vm T'.heap → Lit (s.setVm T'.vm) own index a → (∀ x, Safe Z EL T'.vm T'.heap x → x ≠ a ∧ x ≠ b) → o_G p e below K T' (mkF m (q + 2) A (.ref a :: S))) : o_G p e below K T (mkF m q A S) := by
  obtain ⟨a, T', h', k1, b, kb, X', e', E, hS', hk', hZ', ho', r1, r2, r3, r4, -, -, r5, r6, r7, st⟩ := ldcCH X hx hZ hown w wS eT hS hk hEL hmem H ht hz hzl (g := mkF m q A S) rfl hd hn hbig hc hl
  subst e'
  exact o_st st (kk a b kb T' k1 X' E hS' hk' hZ' ho' r1 r2 r3 r4 r5 r6 r7)
theorem o_ldcA {own text : String} {index : Nat} {a : Addr} (X : Stand p l e R (s.setVm vm0) m args below meth c T locs cells slots) (hx : p.tables.exec = Jvm.exec) (hZ : Z.Warmed39 vm0) (hown : vm0.findClass own = some m.cls) (w : (Cond.stringLink own index text).before a0 Z = true) (L : Lit (s.setVm vm0) own index a) (hd : decode c.code q = .ok (.ldc index, 2)) (kk : o_G p e below K T (mkF m (q + 2) A (.ref a :: S))) : o_G p e below K T (mkF m q A S) :=
  o_st (fun t z => ldcAgain X hx hZ hown w L (g := mkF m q A S) rfl hd t z) kk
section CallsH
variable {Q : Option Value → Heap → List Loc → Prop} {kc ks W : Nat} {own C : String} {index : Nat} {argsL St : List Value} {b : Addr}
theorem o_initH {bytes : ByteArray} {maxL : Nat} {y : MethodName} (hy1 : y.name = "<init>") (X : Stand p l e R (s.setVm vm0) m args below meth c T locs cells slots) (hx : p.tables.exec = Jvm.exec) (hZ : Z.Warmed39 vm0) (hS : s.Since vm0 k0) (hown : vm0.findClass own = some m.cls) (w1 : (Cond.methodLink own index y).before a0 Z = true) (w2 : (Cond.instanceMethod y).before a0 Z = true) (w4 : (Cond.code y bytes maxL none).before a0 Z = true) (hy : y.cls ≠ "java/lang/invoke/MethodHandle" ∧ y.cls ≠ "java/lang/invoke/VarHandle")
    (hK : BackS l R p e below (s.setVm vm0) args y 3 W (fun P a => a = (Value.ref b :: argsL).toArray ∧ P.U.heap = h ∧ P.cells + kc ≤ R.cells ∧ P.slots + ks ≤ R.slots) (fun P _ v B => ∃ L, Q v B.U.heap L ∧ B.locs = P.locs ++ L ∧ B.cells = P.cells + kc ∧ B.slots = P.slots + ks ∧ CHr Z EL vm0 h B.U.vm B.U.heap))
    (eT : T.heap = h) (hk : k0 ≤ h.size) (hsz : A.size = c.maxLocals) (hlen : ∀ sig, parseMethodDescriptor y.desc = some sig → argsL.length = sig.parameters.length) (hst : St = argsL.reverse ++ .ref b :: S) (hW : (S.map fun v => v.category).sum ≤ W) (hd : decode c.code q = .ok (.invokespecial index, 3)) (hc : cells + kc ≤ R.cells) (hs : slots + ks ≤ R.slots)
    (kk : ∀ T' L v k1, Stand p l e R (s.setVm T'.vm) m args below meth c T' (locs ++ L) (cells + kc) (slots + ks) → s.Since T'.vm k1 → k1 ≤ T'.heap.size → Z.Warmed39 T'.vm → T'.vm.findClass own = some m.cls → Q v T'.heap L → CHr Z EL vm0 h T'.vm T'.heap → o_G p e below K T' (mkF m (q + 3) A (v.toList ++ S))) : o_G p e below K T (mkF m q A St) := by
  subst hst eT
  have hZ1 : Z.Warmed39 (s.setVm vm0).vm := hZ
  obtain ⟨v, _, ⟨T', L', k', n'⟩, -, X', hS', hg', ⟨L, hQ, l1, l2, l3, hC⟩, st⟩ := X.specialBackS hx hy1 (show (s.setVm vm0).vm.findClass own = some m.cls from hown) (mvT hZ1 w1) (mvT hZ1 w2) (mvT hZ1 w4) hy hK (g := mkF m q A (argsL.reverse ++ .ref b :: S)) rfl hsz (Steps.refl _) (a := b) (argsL := argsL) (rest := S) hlen rfl (by show 2 * 0 + _ ≤ _; omega) hd (fun _ _ => ⟨rfl, rfl, hc, hs⟩)
  dsimp only [Pt.U, Pt.locs, Pt.cells, Pt.slots] at X' l1 l2 l3 st hQ hS' hg' hC
  subst l1 l2 l3
  obtain ⟨X2, hS2, hZ2, ho2⟩ := rebS hS hk X' hS' hg' hZ1 (show (s.setVm vm0).vm.findClass own = some m.cls from hown)
  exact o_tr st (kk _ _ _ _ X2 hS2 (Nat.le_refl _) hZ2 ho2 hQ hC)
theorem o_staticH {bytes : ByteArray} {maxL : Nat} {ret : Option FieldType} {y : MethodName} (X : Stand p l e R (s.setVm vm0) m args below meth c T locs cells slots) (hx : p.tables.exec = Jvm.exec) (hZ : Z.Warmed39 vm0) (hS : s.Since vm0 k0) (hown : vm0.findClass own = some m.cls) (w1 : (Cond.methodLink own index y).before a0 Z = true) (w2 : (Cond.static y).before a0 Z = true) (w3 : (Cond.initialized y.cls).before a0 Z = true) (w4 : (Cond.code y bytes maxL ret).before a0 Z = true) (hy : y.cls ≠ "java/lang/invoke/MethodHandle" ∧ y.cls ≠ "java/lang/invoke/VarHandle")
    (hK : BackS l R p e below (s.setVm vm0) args y 3 W (fun P a => a = argsL.toArray ∧ P.U.heap = h ∧ P.cells + kc ≤ R.cells ∧ P.slots + ks ≤ R.slots) (fun P _ v B => ∃ L, Q v B.U.heap L ∧ B.locs = P.locs ++ L ∧ B.cells = P.cells + kc ∧ B.slots = P.slots + ks ∧ CHr Z EL vm0 h B.U.vm B.U.heap))
    (eT : T.heap = h) (hk : k0 ≤ h.size) (hsz : A.size = c.maxLocals) (hlen : ∀ sig, parseMethodDescriptor y.desc = some sig → argsL.length = sig.parameters.length) (hst : St = argsL.reverse ++ S) (hW : (S.map fun v => v.category).sum ≤ W) (hd : decode c.code q = .ok (.invokestatic index, 3)) (hc : cells + kc ≤ R.cells) (hs : slots + ks ≤ R.slots)
    (kk : ∀ T' L v k1, Stand p l e R (s.setVm T'.vm) m args below meth c T' (locs ++ L) (cells + kc) (slots + ks) → s.Since T'.vm k1 → k1 ≤ T'.heap.size → Z.Warmed39 T'.vm → T'.vm.findClass own = some m.cls → Q v T'.heap L → CHr Z EL vm0 h T'.vm T'.heap → o_G p e below K T' (mkF m (q + 3) A (v.toList ++ S))) : o_G p e below K T (mkF m q A St) := by
  subst hst eT
  have hZ1 : Z.Warmed39 (s.setVm vm0).vm := hZ
  obtain ⟨v, _, ⟨T', L', k', n'⟩, -, X', hS', hg', ⟨L, hQ, l1, l2, l3, hC⟩, st⟩ := callSS X hx (show (s.setVm vm0).vm.findClass own = some m.cls from hown) (mvT hZ1 w1) (mvT hZ1 w2) (mvT hZ1 w3) (mvT hZ1 w4) hy hK (g := mkF m q A (argsL.reverse ++ S)) rfl hsz hlen rfl (by show 2 * 0 + _ ≤ _; omega) hd (fun _ _ => ⟨rfl, rfl, hc, hs⟩)
  dsimp only [Pt.U, Pt.locs, Pt.cells, Pt.slots] at X' l1 l2 l3 st hQ hS' hg' hC
  subst l1 l2 l3
  obtain ⟨X2, hS2, hZ2, ho2⟩ := rebS hS hk X' hS' hg' hZ1 (show (s.setVm vm0).vm.findClass own = some m.cls from hown)
  exact o_tr st (kk _ _ _ _ X2 hS2 (Nat.le_refl _) hZ2 ho2 hQ hC)
theorem o_virtualH {y z : MethodName} (X : Stand p l e R (s.setVm vm0) m args below meth c T locs cells slots) (hx : p.tables.exec = Jvm.exec) (hZ : Z.Warmed39 vm0) (hS : s.Since vm0 k0) (hown : vm0.findClass own = some m.cls) (w1 : (Cond.methodLink own index y).before a0 Z = true) (w2 : (Cond.declares y).before a0 Z = true) (hnf : NotFace (s.setVm vm0) y) (w3 : (Cond.selects C y z).before a0 Z = true) (w4 : (Cond.instanceMethod z).before a0 Z = true) (hy : y.cls ≠ "java/lang/invoke/MethodHandle" ∧ y.cls ≠ "java/lang/invoke/VarHandle")
    (hK : BackS l R p e below (s.setVm vm0) args z 3 W (fun P a => a = (Value.ref b :: argsL).toArray ∧ P.U.heap = h ∧ P.cells + kc ≤ R.cells ∧ P.slots + ks ≤ R.slots) (fun P _ v B => ∃ L, Q v B.U.heap L ∧ B.locs = P.locs ++ L ∧ B.cells = P.cells + kc ∧ B.slots = P.slots + ks ∧ CHr Z EL vm0 h B.U.vm B.U.heap))
    (eT : T.heap = h) (hk : k0 ≤ h.size) (E : Exa Z h b C) (hsz : A.size = c.maxLocals) (hlen : ∀ sig, parseMethodDescriptor y.desc = some sig → argsL.length = sig.parameters.length) (hst : St = argsL.reverse ++ .ref b :: S) (hW : (S.map fun v => v.category).sum ≤ W) (hd : decode c.code q = .ok (.invokevirtual index, 3)) (hc : cells + kc ≤ R.cells) (hs : slots + ks ≤ R.slots)
    (kk : ∀ T' L v k1, Stand p l e R (s.setVm T'.vm) m args below meth c T' (locs ++ L) (cells + kc) (slots + ks) → s.Since T'.vm k1 → k1 ≤ T'.heap.size → Z.Warmed39 T'.vm → T'.vm.findClass own = some m.cls → Q v T'.heap L → CHr Z EL vm0 h T'.vm T'.heap → o_G p e below K T' (mkF m (q + 3) A (v.toList ++ S))) : o_G p e below K T (mkF m q A St) := by
  subst hst eT
  have hZ1 : Z.Warmed39 (s.setVm vm0).vm := hZ
  obtain ⟨cq, kq, q1, q2, q3⟩ := isOf (s := s.setVm vm0) hZ1 rfl E
  obtain ⟨v, _, ⟨T', L', k', n'⟩, -, X', hS', hg', ⟨L, hQ, l1, l2, l3, hC⟩, st⟩ := X.virtualBackS hx (show (s.setVm vm0).vm.findClass own = some m.cls from hown) (mvT hZ1 w1) (mvT hZ1 w2) hnf (mvT hZ1 w3) (mvT hZ1 w4) hy hK q1 q3 (g := mkF m q A (argsL.reverse ++ .ref b :: S)) rfl hsz (Steps.refl _) (argsL := argsL) (rest := S) hlen rfl (by show 2 * 0 + _ ≤ _; omega) hd (fun _ _ => ⟨rfl, rfl, hc, hs⟩)
  dsimp only [Pt.U, Pt.locs, Pt.cells, Pt.slots] at X' l1 l2 l3 st hQ hS' hg' hC
  subst l1 l2 l3
  obtain ⟨X2, hS2, hZ2, ho2⟩ := rebS hS hk X' hS' hg' hZ1 (show (s.setVm vm0).vm.findClass own = some m.cls from hown)
  exact o_tr st (kk _ _ _ _ X2 hS2 (Nat.le_refl _) hZ2 ho2 hQ hC)
end CallsH
end OwnH
end Jvm.RoadKit
namespace Jvm.RoadKit
open Sem ClassFile Op Lib Bundle Jvm.Stand Jvm.Free Jvm.LawKit Jvm.Free.SB Jvm.Free.SBG
section OwnH2
variable {p : Program} {l : Launch} {e : Env} {R : Room} {s : State} {vm0 vm : Vm} {m : MethodId} {args : Array Value} {below : List Frame} {meth : Method} {c : Code} {T : State} {locs : List Loc} {cells slots : Nat} {K : State → Outcome → Prop} {g : JFrame} {Z : State} {h : Heap} {EL : List (String × Nat)} {x : Addr} {own : String} {n0 : Nat}
/-- a String whose value is not yet laid is no booked one -/
theorem o_safeN (hal : Z.vm.Alike vm) (E : Exa Z h x "java/lang/String") (F : Fld Z h x "java/lang/String" "value" "[B" .null) : Safe Z EL vm h x := fun B => by
  obtain ⟨p, -, u, a, -, q, -, G, rfl | rfl⟩ := B
  · obtain ⟨cell, cf, k, i, f, h1, h2, h3, h4, h5, h6, h7⟩ := F
    cases (show h[q.sa]? = some q.sC from G.ha).symm.trans h1
    obtain ⟨cS, ⟨⟨-, -, -, ⟨c1, k1, i1, f1, -⟩, -, -, -, v1, -⟩, -⟩, -⟩ := G
    obtain ⟨k3, e3, -⟩ := State.fieldFound?_setVm (s := Z) hal h2
    have e4 := (show (Wst Z vm h).fieldFound? _ _ _ = _ from e3).symm.trans f1
    simp only [Option.some.injEq, Prod.mk.injEq] at e4
    rw [← e4.2.2.2, h7] at v1
    cases v1
  · obtain ⟨cell, k, e1, e2, e3, -, -⟩ := E
    cases (show h[q.sd]? = some q.SA from G.hd).symm.trans e1
    obtain ⟨cS, -, -, f, -⟩ := G
    rw [show (Wst Z vm h).vm = vm from rfl, hal.findClass] at f
    obtain ⟨k1, q1, q2⟩ := Vm.findClass_spec f
    obtain ⟨k2, q3, q4⟩ := Vm.findClass_spec e2
    cases q1.symm.trans q3
    exact absurd (q4.symm.trans q2) (by decide)
end OwnH2
end Jvm.RoadKit
namespace Jvm.RoadKit
open Sem ClassFile Op Lib Bundle Jvm.Stand Jvm.Free Jvm.LawKit Jvm.Free.SB Jvm.Free.SBG
section OwnC
variable {p : Program} {l : Launch} {e : Env} {R : Room} {s : State} {m : MethodId} {args : Array Value} {below : List Frame} {meth : Method} {c : Code} {T T' : State} {locs : List Loc} {cells slots : Nat} {K : State → Outcome → Prop} {A : Array Slot} {S : List Value} {q : Nat} {x y z : Int32} {v w : Value} {Z : State} {a0 : Array Value} {h : Heap} {a : Addr} {own : String} {index : Nat}
theorem o_getS {R0 O n d host : String} (X : Stand p l e R s m args below meth c T locs cells slots) (hx : p.tables.exec = Jvm.exec) (hZ : Z.Warmed39 s.vm) (hown : s.vm.findClass own = some m.cls) (w : (Cond.fieldLink own index R0 n d).before a0 Z = true ∨ (Cond.fieldLinkNest own index R0 n d host).before a0 Z = true) (via : Via Z R0 O n d) (eT : T.heap = h) (F : Sta Z h O n d v) (hd : decode c.code q = .ok (.getstatic index, 3)) (kk : ∀ T', Stand p l e R s m args below meth c T' locs cells slots → T'.heap = h → o_G p e below K T' (mkF m (q + 3) A (v :: S))) : o_G p e below K T (mkF m q A S) := by
  obtain ⟨T', X', e', st⟩ := getS2 X hx hZ hown w via eT F (g := mkF m q A S) rfl hd
  exact o_st st (kk T' X' e')
theorem o_getF {R0 O n d host : String} (X : Stand p l e R s m args below meth c T locs cells slots) (hx : p.tables.exec = Jvm.exec) (hZ : Z.Warmed39 s.vm) (hown : s.vm.findClass own = some m.cls) (w : (Cond.fieldLink own index R0 n d).before a0 Z = true ∨ (Cond.fieldLinkNest own index R0 n d host).before a0 Z = true) (via : Via Z R0 O n d) (eT : T.heap = h) (F : Fld Z h a O n d v) (hd : decode c.code q = .ok (.getfield index, 3)) (kk : ∀ T', Stand p l e R s m args below meth c T' locs cells slots → T'.heap = h → o_G p e below K T' (mkF m (q + 3) A (v :: S))) : o_G p e below K T (mkF m q A (.ref a :: S)) := by
  obtain ⟨T', X', e', st⟩ := getF X hx hZ hown w via eT F (g := mkF m q A (.ref a :: S)) rfl rfl hd
  exact o_st st (kk T' X' e')
theorem o_putF {R0 O n d host C : String} {kk : Nat} {ty : FieldType} {old : Value} (X : Stand p l e R s m args below meth c T locs cells slots) (hx : p.tables.exec = Jvm.exec) (hZ : Z.Warmed39 s.vm) (hown : s.vm.findClass own = some m.cls) (w : (Cond.fieldLink own index R0 n d).before a0 Z = true ∨ (Cond.fieldLinkNest own index R0 n d host).before a0 Z = true) (via : Via Z R0 O n d) (eT : T.heap = h) (F : Fld Z h a O n d old) (E : Exa Z h a C) (L : (Cond.lays C O n d).before a0 Z = true ∨ ((Cond.laysFinal C O n d).before a0 Z = true ∧ own = O ∧ meth.name = "<init>")) (wi : (Cond.instantiable C kk).before a0 Z = true) (hty : parseFieldDescriptor d = some ty) (hn : narrow ty v = v) (hf : fits ty v = true) (hd : decode c.code q = .ok (.putfield index, 3))
    (k : ∀ T' h', Stand p l e R s m args below meth c T' (locs ++ [⟨a, slotOf Z O n d⟩]) cells slots → T'.heap = h' → Wr h h' a (slotOf Z O n d) v → o_G p e below K T' (mkF m (q + 3) A S)) : o_G p e below K T (mkF m q A (v :: .ref a :: S)) := by
  obtain ⟨T', h', X', e', W, st⟩ := putF X hx hZ hown w via eT F E L wi hty hn hf (g := mkF m q A (v :: .ref a :: S)) rfl rfl hd
  exact o_st st (k T' h' X' e' W)
theorem o_putFN {R0 O n d C : String} {kk : Nat} {ty : FieldType} {old v' : Value} (X : Stand p l e R s m args below meth c T locs cells slots) (hx : p.tables.exec = Jvm.exec) (hZ : Z.Warmed39 s.vm) (hown : s.vm.findClass own = some m.cls) (w : (Cond.fieldLink own index R0 n d).before a0 Z = true) (via : Via Z R0 O n d) (eT : T.heap = h) (F : Fld Z h a O n d old) (E : Exa Z h a C) (L : (Cond.lays C O n d).before a0 Z = true ∨ ((Cond.laysFinal C O n d).before a0 Z = true ∧ own = O ∧ meth.name = "<init>")) (wi : (Cond.instantiable C kk).before a0 Z = true) (hty : parseFieldDescriptor d = some ty) (hn : narrow ty v = v') (hf : fits ty v' = true) (hd : decode c.code q = .ok (.putfield index, 3))
    (k : ∀ T' h', Stand p l e R s m args below meth c T' (locs ++ [⟨a, slotOf Z O n d⟩]) cells slots → T'.heap = h' → Wr h h' a (slotOf Z O n d) v' → o_G p e below K T' (mkF m (q + 3) A S)) : o_G p e below K T (mkF m q A (v :: .ref a :: S)) := by
  obtain ⟨T', h', X', e', W, st⟩ := putFN X hx hZ hown w via eT F E L wi hty hn hf (g := mkF m q A (v :: .ref a :: S)) rfl rfl hd
  exact o_st st (k T' h' X' e' W)
theorem o_new {C : String} {n : Nat} (X : Stand p l e R s m args below meth c T locs cells slots) (hx : p.tables.exec = Jvm.exec) (hZ : Z.Warmed39 s.vm) (hown : s.vm.findClass own = some m.cls) (w : (Cond.classLink own index C).before a0 Z = true) (wi : (Cond.instantiable C n).before a0 Z = true) (wz : (Cond.initialized C).before a0 Z = true) (eT : T.heap = h) (hd : decode c.code q = .ok (.new index, 3)) (hc : cells + 1 ≤ R.cells) (hl : slots + n ≤ R.slots)
    (k : ∀ T' h' b, Stand p l e R s m args below meth c T' locs (cells + 1) (slots + n) → T'.heap = h' → b = h.size → Ext h h' → Exa Z h' b C → (∀ {O nm d : String} {ty : FieldType}, Laid Z a0 C O nm d → parseFieldDescriptor d = some ty → Fld Z h' b O nm d (defaultValue ty)) → o_G p e below K T' (mkF m (q + 3) A (.ref b :: S))) : o_G p e below K T (mkF m q A S) := by
  obtain ⟨T', h', X', e', E, E2, D, -, st⟩ := newO X hx hZ hown w wi wz eT (g := mkF m q A S) rfl hd hc hl
  exact o_st st (k T' h' _ X' e' rfl E E2 D)
theorem o_newA {aty : ArrayType} {cap : Nat} (X : Stand p l e R s m args below meth c T locs cells slots) (hx : p.tables.exec = Jvm.exec) (hZ : Z.Warmed39 s.vm) (w : (Cond.arrayClass (newarray.typeOf aty)).before a0 Z = true) (eT : T.heap = h) (hd : decode c.code q = .ok (.newarray aty, 2)) (hn : ¬ x < 0) (hcap : x.toNatClampNeg ≤ cap) (hb : cap * 8 ≤ 536870912) (hc : cells + 1 ≤ R.cells) (hl : slots + cap ≤ R.slots)
    (k : ∀ T' h' ka b, Stand p l e R s m args below meth c T' locs (cells + 1) (slots + cap) → T'.heap = h' → b = h.size → Ext h h' → Arv Z h' b ka (newarray.typeOf aty) x [] (defaultValue (newarray.typeOf aty)) → o_G p e below K T' (mkF m (q + 2) A (.ref b :: S))) : o_G p e below K T (mkF m q A (.int x :: S)) := by
  obtain ⟨T', h', ka, X', e', E, A', st⟩ := newP X hx hZ w eT (g := mkF m q A (.int x :: S)) rfl hd rfl hn hcap hb hc hl
  exact o_st st (k T' h' ka _ X' e' rfl E (Arv.new A' hn))
section Sto
variable {ka : ClassId} {n : Int32} {vs : List Value} {dv : Value} {i : Nat}
theorem o_stC (X : Stand p l e R s m args below meth c T locs cells slots) (hx : p.tables.exec = Jvm.exec) (hZ : Z.Warmed39 s.vm) (eT : T.heap = h) (F : Arv Z h a ka .char n vs dv) (hd : decode c.code q = .ok (.castore, 1)) (hj : ¬ y < 0 ∧ y < n) (hi : y.toNatClampNeg = i) (hl : i < vs.length) (hn : nar .char x = z)
    (k : ∀ T' h', Stand p l e R s m args below meth c T' (locs ++ [⟨a, y.toNatClampNeg⟩]) cells slots → T'.heap = h' → Wr h h' a y.toNatClampNeg (.int z) → Arv Z h' a ka .char n (vs.set i (.int z)) dv → o_G p e below K T' (mkF m (q + 1) A S)) : o_G p e below K T (mkF m q A (.int x :: .int y :: .ref a :: S)) := by
  obtain ⟨cl, F1, F2, F3, F4, F5, F6⟩ := F
  obtain ⟨T', h', X', e', W, st⟩ := stC X hx hZ eT F1 (inb_of F3 hj) (g := mkF m q A (.int x :: .int y :: .ref a :: S)) rfl rfl hd
  have W' := W
  rw [hn] at W'
  have hf := fits_nar_char x
  rw [hn] at hf
  exact o_st st (k T' h' X' e' W' (Arv.set F1 F2 F3 F4 F5 F6 hf W' i hi hl))
theorem o_stB (X : Stand p l e R s m args below meth c T locs cells slots) (hx : p.tables.exec = Jvm.exec) (hZ : Z.Warmed39 s.vm) (eT : T.heap = h) (F : Arv Z h a ka .byte n vs dv) (hd : decode c.code q = .ok (.bastore, 1)) (hj : ¬ y < 0 ∧ y < n) (hi : y.toNatClampNeg = i) (hl : i < vs.length) (hn : nar .byte x = z)
    (k : ∀ T' h', Stand p l e R s m args below meth c T' (locs ++ [⟨a, y.toNatClampNeg⟩]) cells slots → T'.heap = h' → Wr h h' a y.toNatClampNeg (.int z) → Arv Z h' a ka .byte n (vs.set i (.int z)) dv → o_G p e below K T' (mkF m (q + 1) A S)) : o_G p e below K T (mkF m q A (.int x :: .int y :: .ref a :: S)) := by
  obtain ⟨cl, F1, F2, F3, F4, F5, F6⟩ := F
  obtain ⟨T', h', X', e', W, st⟩ := stB X hx hZ eT F1 (inb_of F3 hj) (g := mkF m q A (.int x :: .int y :: .ref a :: S)) rfl rfl hd
  have W' := W
  rw [hn] at W'
  have hf := fits_nar_byte x
  rw [show x.toInt8.toInt32 = z from hn] at hf
  exact o_st st (k T' h' X' e' W' (Arv.set F1 F2 F3 F4 F5 F6 hf W' i hi hl))
end Sto
theorem o_initO {W : Nat} (X : Stand p l e R s m args below meth c T locs cells slots) (hx : p.tables.exec = Jvm.exec) (hZ : Z.Warmed39 s.vm) (hown : s.vm.findClass own = some m.cls) (w1 : (Cond.methodLink own index Lib.objectInit).before a0 Z = true) (w2 : (Cond.instanceMethod Lib.objectInit).before a0 Z = true) (w3 : (Cond.code Lib.objectInit ⟨#[0xb1]⟩ 1 none).before a0 Z = true) (eT : T.heap = h) (hsz : A.size = c.maxLocals) (hd : decode c.code q = .ok (.invokespecial index, 3)) (hf : 1 ≤ R.frames) (hW : (S.map fun v => v.category).sum ≤ W) (hl : W + 12 ≤ R.locals)
    (kk : ∀ T', Stand p l e R s m args below meth c T' locs cells slots → T'.heap = h → o_G p e below K T' (mkF m (q + 3) A S)) : o_G p e below K T (mkF m q A (.ref a :: S)) := by
  obtain ⟨T', X', e', st⟩ := initO X hx hZ hown w1 w2 w3 eT (g := mkF m q A (.ref a :: S)) rfl hsz rfl hd hf (W := W) (by show 2 * 0 + _ ≤ _; omega) hl
  exact o_st st (kk T' X' e')
theorem o_fresh {n0 : Nat} {b : Addr} (O : Old Z n0 h) (g : b = h.size) : n0 ≤ b := by rw [g, ← O.1]; exact O.2.1
theorem o_hQ {Q : Option Value → Heap → List Loc → Prop} {v : Option Value} {T : State} {h : Heap} {L : List Loc} (e : T.heap = h) (hq : Q v h L) : Q v T.heap L := e ▸ hq
theorem o_b {a b : Nat} (h : Nat.ble a b = true) : a ≤ b := Nat.le_of_ble_eq_true h
abbrev vI (x : Int32) : Slot := .val (.int x)
abbrev vR (x : Addr) : Slot := .val (.ref x)
section Autos
variable {Q : Option Value → Heap → List Loc → Prop} {kc ks W : Nat} {C : String} {argsL St : List Value} {b : Addr}
theorem o_vir {ml : Nat} {y : MethodName} (X : Stand p l e R s m args below meth c T locs cells slots) (hx : p.tables.exec = Jvm.exec) (hZ : Z.Warmed39 s.vm) (hown : s.vm.findClass own = some m.cls) (w1 : (Cond.methodLink own index y).before a0 Z = true) (w2 : (Cond.declares y).before a0 Z = true) (w3 : (Cond.selects C y y).before a0 Z = true) (w4 : (Cond.instanceMethod y).before a0 Z = true) (hK : Back l R p e below s args y 3 W (fun P a => a = (Value.ref b :: argsL).toArray ∧ P.U.heap = h ∧ P.cells + kc ≤ R.cells ∧ P.slots + ks ≤ R.slots) (fun P _ v B => ∃ L, Q v B.U.heap L ∧ B.locs = P.locs ++ L ∧ B.cells = P.cells + kc ∧ B.slots = P.slots + ks)) (eT : T.heap = h) (E : Exa Z h b C) (hml : c.maxLocals = ml) (hlen : ∀ sig, parseMethodDescriptor y.desc = some sig → argsL.length = sig.parameters.length) (hd : decode c.code q = .ok (.invokevirtual index, 3))
    (kk : ∀ T' L v, Stand p l e R s m args below meth c T' (locs ++ L) (cells + kc) (slots + ks) → Q v T'.heap L → o_G p e below K T' (mkF m (q + 3) A (v.toList ++ S)))
    (hy : y.cls ≠ "java/lang/invoke/MethodHandle" ∧ y.cls ≠ "java/lang/invoke/VarHandle" := by decide) (hsz : A.size = ml := by rfl) (hst : St = argsL.reverse ++ .ref b :: S := by rfl) (hW : (S.map fun v => v.category).sum ≤ W := by exact Nat.le_of_eq rfl) (hc : cells + kc ≤ R.cells := by decide) (hs : slots + ks ≤ R.slots := by decide) : o_G p e below K T (mkF m q A St) :=
  o_virtual X hx hZ hown w1 w2 (notFace_of_selects (args := #[]) (mvT hZ w3)) w3 w4 hy hK eT E (hsz.trans hml.symm) hlen hst hW hd hc hs kk
theorem o_sta {bytes : ByteArray} {maxL ml : Nat} {ret : Option FieldType} {y : MethodName} (X : Stand p l e R s m args below meth c T locs cells slots) (hx : p.tables.exec = Jvm.exec) (hZ : Z.Warmed39 s.vm) (hown : s.vm.findClass own = some m.cls) (w1 : (Cond.methodLink own index y).before a0 Z = true) (w2 : (Cond.static y).before a0 Z = true) (w3 : (Cond.initialized y.cls).before a0 Z = true) (w4 : (Cond.code y bytes maxL ret).before a0 Z = true) (hK : Back l R p e below s args y 3 W (fun P a => a = argsL.toArray ∧ P.U.heap = h ∧ P.cells + kc ≤ R.cells ∧ P.slots + ks ≤ R.slots) (fun P _ v B => ∃ L, Q v B.U.heap L ∧ B.locs = P.locs ++ L ∧ B.cells = P.cells + kc ∧ B.slots = P.slots + ks)) (eT : T.heap = h) (hml : c.maxLocals = ml) (hlen : ∀ sig, parseMethodDescriptor y.desc = some sig → argsL.length = sig.parameters.length) (hd : decode c.code q = .ok (.invokestatic index, 3))
    (kk : ∀ T' L v, Stand p l e R s m args below meth c T' (locs ++ L) (cells + kc) (slots + ks) → Q v T'.heap L → o_G p e below K T' (mkF m (q + 3) A (v.toList ++ S)))
    (hy : y.cls ≠ "java/lang/invoke/MethodHandle" ∧ y.cls ≠ "java/lang/invoke/VarHandle" := by decide) (hsz : A.size = ml := by rfl) (hst : St = argsL.reverse ++ S := by rfl) (hW : (S.map fun v => v.category).sum ≤ W := by exact Nat.le_of_eq rfl) (hc : cells + kc ≤ R.cells := by decide) (hs : slots + ks ≤ R.slots := by decide) : o_G p e below K T (mkF m q A St) :=
  o_static X hx hZ hown w1 w2 w3 w4 hy hK eT (hsz.trans hml.symm) hlen hst hW hd hc hs kk
theorem o_ini {bytes : ByteArray} {maxL ml : Nat} {y : MethodName} (hy1 : y.name = "<init>") (X : Stand p l e R s m args below meth c T locs cells slots) (hx : p.tables.exec = Jvm.exec) (hZ : Z.Warmed39 s.vm) (hown : s.vm.findClass own = some m.cls) (w1 : (Cond.methodLink own index y).before a0 Z = true) (w2 : (Cond.instanceMethod y).before a0 Z = true) (w4 : (Cond.code y bytes maxL none).before a0 Z = true) (hK : Back l R p e below s args y 3 W (fun P a => a = (Value.ref b :: argsL).toArray ∧ P.U.heap = h ∧ P.cells + kc ≤ R.cells ∧ P.slots + ks ≤ R.slots) (fun P _ v B => ∃ L, Q v B.U.heap L ∧ B.locs = P.locs ++ L ∧ B.cells = P.cells + kc ∧ B.slots = P.slots + ks)) (eT : T.heap = h) (hml : c.maxLocals = ml) (hlen : ∀ sig, parseMethodDescriptor y.desc = some sig → argsL.length = sig.parameters.length) (hd : decode c.code q = .ok (.invokespecial index, 3))
    (kk : ∀ T' L v, Stand p l e R s m args below meth c T' (locs ++ L) (cells + kc) (slots + ks) → Q v T'.heap L → o_G p e below K T' (mkF m (q + 3) A (v.toList ++ S)))
    (hy : y.cls ≠ "java/lang/invoke/MethodHandle" ∧ y.cls ≠ "java/lang/invoke/VarHandle" := by decide) (hsz : A.size = ml := by rfl) (hst : St = argsL.reverse ++ .ref b :: S := by rfl) (hW : (S.map fun v => v.category).sum ≤ W := by exact Nat.le_of_eq rfl) (hc : cells + kc ≤ R.cells := by decide) (hs : slots + ks ≤ R.slots := by decide) : o_G p e below K T (mkF m q A St) :=
  o_init hy1 X hx hZ hown w1 w2 w4 hy hK eT (hsz.trans hml.symm) hlen hst hW hd hc hs kk
theorem o_iF (X : Stand p l e R s m args below meth c T locs cells slots) (hx : p.tables.exec = Jvm.exec) {cd : ClassFile.Cond} {o : Int} {t : Nat} (hd : decode c.code q = .ok (.ifCond cd o, 3)) (kT : ifCond.holds cd x = true → o_G p e below K T (mkF m t A S)) (kF : ifCond.holds cd x = false → o_G p e below K T (mkF m (q + 3) A S)) (ho : 0 ≤ (q : Int) + o := by decide) (ht : ((q : Int) + o).toNat = t := by decide) : o_G p e below K T (mkF m q A (.int x :: S)) := o_if X hx hd ho ht kT kF
theorem o_iFT (X : Stand p l e R s m args below meth c T locs cells slots) (hx : p.tables.exec = Jvm.exec) {cd : ClassFile.Cond} {o : Int} {t : Nat} (hd : decode c.code q = .ok (.ifCond cd o, 3)) (k : o_G p e below K T (mkF m t A S)) (ho : 0 ≤ (q : Int) + o := by decide) (ht : ((q : Int) + o).toNat = t := by decide) (hc : ifCond.holds cd x = true := by decide) : o_G p e below K T (mkF m q A (.int x :: S)) := o_ifT X hx hd ho ht hc k
theorem o_iFF (X : Stand p l e R s m args below meth c T locs cells slots) (hx : p.tables.exec = Jvm.exec) {cd : ClassFile.Cond} {o : Int} (hd : decode c.code q = .ok (.ifCond cd o, 3)) (k : o_G p e below K T (mkF m (q + 3) A S)) (hc : ifCond.holds cd x = false := by decide) : o_G p e below K T (mkF m q A (.int x :: S)) := o_ifF X hx hd hc k
theorem o_iC (X : Stand p l e R s m args below meth c T locs cells slots) (hx : p.tables.exec = Jvm.exec) {cd : ClassFile.Cond} {o : Int} {t : Nat} (hd : decode c.code q = .ok (.if_icmp cd o, 3)) (kT : if_icmp.holds cd x y = true → o_G p e below K T (mkF m t A S)) (kF : if_icmp.holds cd x y = false → o_G p e below K T (mkF m (q + 3) A S)) (ho : 0 ≤ (q : Int) + o := by decide) (ht : ((q : Int) + o).toNat = t := by decide) : o_G p e below K T (mkF m q A (.int y :: .int x :: S)) := o_icmp X hx hd ho ht kT kF
theorem o_iCT (X : Stand p l e R s m args below meth c T locs cells slots) (hx : p.tables.exec = Jvm.exec) {cd : ClassFile.Cond} {o : Int} {t : Nat} (hd : decode c.code q = .ok (.if_icmp cd o, 3)) (k : o_G p e below K T (mkF m t A S)) (ho : 0 ≤ (q : Int) + o := by decide) (ht : ((q : Int) + o).toNat = t := by decide) (hc : if_icmp.holds cd x y = true := by decide) : o_G p e below K T (mkF m q A (.int y :: .int x :: S)) := o_icmpT X hx hd ho ht hc k
theorem o_iCF (X : Stand p l e R s m args below meth c T locs cells slots) (hx : p.tables.exec = Jvm.exec) {cd : ClassFile.Cond} {o : Int} (hd : decode c.code q = .ok (.if_icmp cd o, 3)) (k : o_G p e below K T (mkF m (q + 3) A S)) (hc : if_icmp.holds cd x y = false := by decide) : o_G p e below K T (mkF m q A (.int y :: .int x :: S)) := o_icmpF X hx hd hc k
theorem o_gO (X : Stand p l e R s m args below meth c T locs cells slots) (hx : p.tables.exec = Jvm.exec) {o : Int} {t : Nat} (hd : decode c.code q = .ok (.goto o, 3)) (kk : o_G p e below K T (mkF m t A S)) (ho : 0 ≤ (q : Int) + o := by decide) (ht : ((q : Int) + o).toNat = t := by decide) : o_G p e below K T (mkF m q A S) := o_goto X hx hd ho ht kk
theorem o_ng {a b n : Nat} (h : a < n) (g : b = n) : a ≠ b := by omega
end Autos
end OwnC
section Enter
variable {l : Launch} {Z : State} {h0 : Heap} {y : MethodName} {bytes : ByteArray} {ml : Nat} {ret : Option FieldType} {ws : List Cond} {rm : Room} {as' : Array Value} {Q : Option Value → Heap → List Loc → Prop} {Ls : Array Slot} {EL : List (String × Nat)}
abbrev o_Met (l : Launch) (Z : State) (y : MethodName) (bytes : ByteArray) (ml : Nat) (ret : Option FieldType) (ws : List Cond) (rm : Room) (as' : Array Value) (h0 : Heap) (Q : Option Value → Heap → List Loc → Prop) : Prop := MetFree l y (head1 (Cond.code y bytes ml ret :: ws) rm) (fun a U => a = as' ∧ Z.Warmed39 U.vm ∧ U.heap = h0) (fun _ _ _ _ _ => True) (fun _ U o U' => ∃ v L, o = .returned v ∧ Q v U'.heap L ∧ FrameEnd U o U' L rm.cells rm.slots)
abbrev o_MetH (EL : List (String × Nat)) (l : Launch) (Z : State) (y : MethodName) (bytes : ByteArray) (ml : Nat) (ret : Option FieldType) (ws : List Cond) (rm : Room) (as' : Array Value) (h0 : Heap) (Q : Option Value → Heap → List Loc → Prop) : Prop := MetFree l y (head1 (Cond.code y bytes ml ret :: ws) rm) (fun a U => a = as' ∧ Z.Warmed39 U.vm ∧ U.heap = h0 ∧ CHv Z EL U.vm h0) (fun _ _ _ _ _ => True) (fun _ U o U' => ∃ v L, o = .returned v ∧ Q v U'.heap L ∧ CHr Z EL U.vm U.heap U'.vm U'.heap ∧ ReturnedEndW U o U' L rm.cells rm.slots)
/-- a law's own: the constants are held at its start; of its end only the wide frame is said -/
abbrev o_MetL (EL : List (String × Nat)) (l : Launch) (Z : State) (y : MethodName) (bytes : ByteArray) (ml : Nat) (ret : Option FieldType) (ws : List Cond) (rm : Room) (as' : Array Value) (h0 : Heap) (Q : Option Value → Heap → List Loc → Prop) : Prop := MetFree l y (head1 (Cond.code y bytes ml ret :: ws) rm) (fun a U => a = as' ∧ Z.Warmed39 U.vm ∧ U.heap = h0 ∧ CHv Z EL U.vm h0) (fun _ _ _ _ _ => True) (fun _ U o U' => ∃ v L, o = .returned v ∧ Q v U'.heap L ∧ ReturnedEndW U o U' L rm.cells rm.slots)
theorem o_enterM (hpl : plainFor y = true) (hef : ∀ m, entryFrame m as' ml = mkF m 0 Ls []) (body : ∀ (p : Program) (e : Env) (s : State) (m : MethodId) (below : List Frame) (meth : Method) (c : Code) (s₁ : State), p.tables.exec = Jvm.exec → c.code = bytes → c.maxLocals = ml → Z.Warmed39 s.vm → s.vm.findClass y.cls = some m.cls → meth.name = y.name → meth.locks = false → meth.sig.returnType = ret → Stand p l e rm s m as' below meth c s₁ [] 0 0 → s₁.heap = h0 → o_G p e below (o_E s Q rm.cells rm.slots) s₁ (mkF m 0 Ls [])) : o_Met l Z y bytes ml ret ws rm as' h0 Q := by
  refine MetFree.of_bodySF hpl hisR ?_
  intro p e s m args below meth c s₁ Bd hml hP hK
  obtain ⟨rfl, hZ, hh⟩ := hP
  have hG := body p e s m below meth c s₁ Bd.exec Bd.bytes hml hZ (findClass_of_methodNamed Bd.named) (name_of_methodNamed Bd.named Bd.method).1 (BodyLoose.notSynchronized Bd) Bd.returns (Stand.of_body Bd) (by rw [← hh, Bd.state]; rfl)
  rw [← hef] at hG; exact hG
theorem o_enter (hpl : plainName y.cls = true) (hef : ∀ m, entryFrame m as' ml = mkF m 0 Ls []) (body : ∀ (p : Program) (e : Env) (s : State) (m : MethodId) (below : List Frame) (meth : Method) (c : Code) (s₁ : State), p.tables.exec = Jvm.exec → c.code = bytes → c.maxLocals = ml → Z.Warmed39 s.vm → s.vm.findClass y.cls = some m.cls → meth.name = y.name → meth.locks = false → meth.sig.returnType = ret → Stand p l e rm s m as' below meth c s₁ [] 0 0 → s₁.heap = h0 → o_G p e below (o_E s Q rm.cells rm.slots) s₁ (mkF m 0 Ls [])) : o_Met l Z y bytes ml ret ws rm as' h0 Q := o_enterM (plainFor_of_name hpl) hef body
theorem o_enterH (hpl : plainName y.cls = true) (hef : ∀ m, entryFrame m as' ml = mkF m 0 Ls []) (body : ∀ (p : Program) (e : Env) (s : State) (m : MethodId) (below : List Frame) (meth : Method) (c : Code) (s₁ : State), p.tables.exec = Jvm.exec → c.code = bytes → c.maxLocals = ml → Z.Warmed39 s.vm → s.vm.findClass y.cls = some m.cls → meth.name = y.name → meth.locks = false → meth.sig.returnType = ret → Stand p l e rm (s.setVm s.vm) m as' below meth c s₁ [] 0 0 → s₁.heap = h0 → s.Since s.vm 0 → 0 ≤ h0.size → CHr Z EL s.vm h0 s.vm h0 → o_G p e below (o_EH Z EL s h0 Q rm.cells rm.slots) s₁ (mkF m 0 Ls [])) : o_MetH EL l Z y bytes ml ret ws rm as' h0 Q := by
  refine MetFree.of_bodySF (plainFor_of_name hpl) hisR ?_
  intro p e s m args below meth c s₁ Bd hml hP hK
  obtain ⟨rfl, hZ, hh, hC⟩ := hP
  have hG := body p e s m below meth c s₁ Bd.exec Bd.bytes hml hZ (findClass_of_methodNamed Bd.named) (name_of_methodNamed Bd.named Bd.method).1 (BodyLoose.notSynchronized Bd) Bd.returns (Stand.of_body Bd) (by rw [← hh, Bd.state]; rfl) ((State.WarmedH.refl s).since 0) (Nat.zero_le _) (CHr.refl hC)
  rw [← hef] at hG
  exact o_mono (K := o_EH Z EL s h0 Q rm.cells rm.slots) (fun t o hq => by rw [hh]; exact hq) hG
theorem o_enterL (hpl : plainName y.cls = true) (hef : ∀ m, entryFrame m as' ml = mkF m 0 Ls []) (body : ∀ (p : Program) (e : Env) (s : State) (m : MethodId) (below : List Frame) (meth : Method) (c : Code) (s₁ : State), p.tables.exec = Jvm.exec → c.code = bytes → c.maxLocals = ml → Z.Warmed39 s.vm → s.vm.findClass y.cls = some m.cls → meth.name = y.name → meth.locks = false → meth.sig.returnType = ret → Stand p l e rm (s.setVm s.vm) m as' below meth c s₁ [] 0 0 → s₁.heap = h0 → s.Since s.vm 0 → 0 ≤ h0.size → CHr Z EL s.vm h0 s.vm h0 → o_G p e below (o_EW s Q rm.cells rm.slots) s₁ (mkF m 0 Ls [])) : o_MetL EL l Z y bytes ml ret ws rm as' h0 Q := by
  refine MetFree.of_bodySF (plainFor_of_name hpl) hisR ?_
  intro p e s m args below meth c s₁ Bd hml hP hK
  obtain ⟨rfl, hZ, hh, hC⟩ := hP
  have hG := body p e s m below meth c s₁ Bd.exec Bd.bytes hml hZ (findClass_of_methodNamed Bd.named) (name_of_methodNamed Bd.named Bd.method).1 (BodyLoose.notSynchronized Bd) Bd.returns (Stand.of_body Bd) (by rw [← hh, Bd.state]; rfl) ((State.WarmedH.refl s).since 0) (Nat.zero_le _) (CHr.refl hC)
  rw [← hef] at hG; exact hG
end Enter
end Jvm.RoadKit
namespace Jvm.RoadKit
open Sem ClassFile Op Lib Bundle Jvm.Stand Jvm.Free Jvm.LawKit Jvm.Free.SB Jvm.Free.SBG
section OwnSafe
variable {Z : State} {a0 : Array Value} {EL : List (String × Nat)} {vm : Vm} {h : Heap} {own text : String} {index zz : Nat}
/-- of each entry of EL: it names a text below 256, of another length than zz -/
def o_EN (Z : State) (a0 : Array Value) (EL : List (String × Nat)) (zz : Nat) : Prop := ∀ p ∈ EL, ∃ text : String, (Cond.stringLink p.1 p.2 text).before a0 Z = true ∧ (∀ c ∈ text.toList, c.toNat < 256) ∧ text.toList.length ≠ zz
theorem o_EN.nil : o_EN Z a0 [] zz := fun _ hp => by cases hp
theorem o_EN.cons (w : (Cond.stringLink own index text).before a0 Z = true) (ht : ∀ c ∈ text.toList, c.toNat < 256) (hn : text.toList.length ≠ zz) (E : o_EN Z a0 EL zz) : o_EN Z a0 ((own, index) :: EL) zz := fun p hp => by
  rcases List.mem_cons.mp hp with rfl | hp
  · exact ⟨text, w, ht, hn⟩
  · exact E p hp
/-- a byte array of another length than each constant's is none of theirs -/
theorem o_safeL {x : Addr} {k : ClassId} {z : Int32} {vs : List Value} {dv : Value} (hZ : Z.Warmed39 vm) (E : o_EN Z a0 EL z.toNatClampNeg) (F : Arv Z h x k .byte z vs dv) : Safe Z EL vm h x := fun B => by
  obtain ⟨cl, ⟨A1, ⟨-, kA, hkA, compA, hkindA⟩, -⟩, -, hsize, -⟩ := F
  have hal := hZ.alike
  obtain ⟨kA', hkA', ekA⟩ := hal.2.2 _ _ hkA
  obtain ⟨p, hp, u, a, hb, q, -, F, rfl | rfl⟩ := B
  · cases (show h[q.sa]? = some q.sC from F.ha).symm.trans A1
    obtain ⟨cS, ⟨-, -, e⟩, ⟨kS, g1, g2, -⟩, -⟩ := F
    subst e
    cases (show vm.classes[q.sC.cls]? = some kS from g1).symm.trans hkA'
    rw [ekA] at g2
    have := hkindA.symm.trans g2
    cases this
  · cases (show h[q.sd]? = some q.SA from F.hd).symm.trans A1
    obtain ⟨cS, -, -, -, hbyt⟩ := F
    obtain ⟨text, wl, ht, hn⟩ := E p hp
    obtain ⟨c, k', cf, i, hc, hk', hcf', hpool, hu, -⟩ := hb
    have wl' : (Cond.stringLink p.1 p.2 text).before a0 (Wst Z vm h) = true := mvS (s := { Z with heap := h }) hZ wl
    obtain ⟨k, cf0, i0, units0, hk, hcf, hp0, hu0, hnm, htext, -⟩ := Cond.stringLink_spec (s := Wst Z vm h) hc wl'
    cases (show vm.classes[c]? = some k from hk).symm.trans hk'
    cases hcf'.symm.trans hcf
    cases hpool.symm.trans hp0
    cases hu.symm.trans hu0
    have hlat := Jvm.ClassFile.lat_of_text htext ht
    have el := Jvm.ClassFile.units_of_text htext ht
    have e1 : q.SA.slots.size = u.size := by rw [hbyt, SBG.stringBytes_lat hlat, Array.size_map]
    have e2 : u.size = text.toList.length := by
      have := congrArg List.length el
      simpa using this
    exact hn (by rw [← e2, ← e1, hsize])
end OwnSafe
section OwnCp
variable {p : Program} {l : Launch} {e : Env} {R : Room} {s : State} {m : MethodId} {args : Array Value} {below : List Frame} {meth : Method} {c : Code} {T T' : State} {locs : List Loc} {cells slots : Nat} {K : State → Outcome → Prop} {A : Array Slot} {S : List Value} {q W n0 : Nat} {Z : State} {a0 : Array Value} {h : Heap} {a b : Addr} {own : String} {index : Nat}
/-- System.arraycopy of bytes: cs from sp on, behind the first vd.length places of b -/
theorem o_cpB {k k' : ClassId} {z z' sp dp nn : Int32} {vs vd us : List Value} (X : Stand p l e R s m args below meth c T locs cells slots) (hx : p.tables.exec = Jvm.exec) (hZ : Z.Warmed39 s.vm) (hown : s.vm.findClass own = some m.cls)
    (w1 : (Cond.methodLink own index Jvm.Stand.acN).before a0 Z = true) (w2 : (Cond.native Jvm.Stand.acN).before a0 Z = true) (w3 : (Cond.static Jvm.Stand.acN).before a0 Z = true) (w4 : (Cond.initialized "java/lang/System").before a0 Z = true) (eT : T.heap = h)
    (F : Arv Z h a k .byte z vs (.int 0)) (G : Arv Z h b k' .byte z' vd (.int 0)) (h1 : ¬ sp < 0) (h2 : ¬ dp < 0) (h3 : ¬ nn < 0) (h4 : sp.toNatClampNeg + nn.toNatClampNeg ≤ z.toNatClampNeg) (h5 : dp.toNatClampNeg + nn.toNatClampNeg ≤ z'.toNatClampNeg)
    (hus : us = (List.range nn.toNatClampNeg).map fun i => vs.getD (sp.toNatClampNeg + i) (.int 0)) (hl : dp.toNatClampNeg = vd.length) (N : Fr n0 locs) (ge : n0 ≤ b) (hsz : A.size = c.maxLocals) (hd : decode c.code q = .ok (.invokestatic index, 3)) (hf : 1 ≤ R.frames) (hW : (S.map fun v => v.category).sum ≤ W) (hlo : W + (nativeFrameWords "java/lang/System" "arraycopy" 5 + 11) ≤ R.locals)
    (kk : ∀ T' h' L, Stand p l e R s m args below meth c T' L cells slots → T'.heap = h' → Fr n0 L → Keep h h' [b] → Arv Z h' b k' .byte z' (vd ++ us) (.int 0) → o_G p e below K T' (mkF m (q + 3) A S)) : o_G p e below K T (mkF m q A (.int nn :: .int dp :: .ref b :: .int sp :: .ref a :: S)) := by
  have Gp : Arv Z h b k' .byte z' (vd ++ List.replicate nn.toNatClampNeg (.int 0)) (.int 0) := G.pad (pad_rep vd (.int 0) nn.toNatClampNeg)
  obtain ⟨T', h', L, X', eh, hN, hK, hA, st⟩ := cpA X hx hZ hown w1 w2 w3 w4 eT (us := us) F Gp (Or.inl ⟨rfl, rfl⟩) h1 h2 h3 h4 h5 hus (by rw [List.length_append, List.length_replicate, hl]; exact Nat.le_refl _) N ge (g := mkF m q A (.int nn :: .int dp :: .ref b :: .int sp :: .ref a :: S)) rfl hsz (rest := S) rfl hd hf (W := W) (by show 2 * 0 + _ ≤ _; omega) hlo
  have e1 : (vd ++ List.replicate nn.toNatClampNeg (Value.int 0)).take dp.toNatClampNeg ++ us ++ (vd ++ List.replicate nn.toNatClampNeg (Value.int 0)).drop (dp.toNatClampNeg + nn.toNatClampNeg) = vd ++ us := by
    rw [hl, List.take_left', List.drop_eq_nil_of_le, List.append_nil]
    · rw [List.length_append, List.length_replicate]; exact Nat.le_refl _
    · rfl
  rw [e1] at hA
  exact o_st st (kk T' h' L X' eh hN hK hA)
/-- a store just behind the first places -/
theorem o_stBp {ka : ClassId} {n x y zz : Int32} {vs : List Value} (X : Stand p l e R s m args below meth c T locs cells slots) (hx : p.tables.exec = Jvm.exec) (hZ : Z.Warmed39 s.vm) (eT : T.heap = h) (F : Arv Z h a ka .byte n vs (.int 0)) (hd : decode c.code q = .ok (.bastore, 1)) (hj : ¬ y < 0 ∧ y < n) (hi : y.toNatClampNeg = vs.length) (hn : nar .byte x = zz)
    (k : ∀ T' h', Stand p l e R s m args below meth c T' (locs ++ [⟨a, y.toNatClampNeg⟩]) cells slots → T'.heap = h' → Wr h h' a y.toNatClampNeg (.int zz) → Arv Z h' a ka .byte n (vs ++ [.int zz]) (.int 0) → o_G p e below K T' (mkF m (q + 1) A S)) : o_G p e below K T (mkF m q A (.int x :: .int y :: .ref a :: S)) := by
  have Fp : Arv Z h a ka .byte n (vs ++ List.replicate 1 (.int 0)) (.int 0) := F.pad (pad_rep vs (.int 0) 1)
  refine o_stB (i := vs.length) X hx hZ eT Fp hd hj hi (by simp) hn (fun T' h' X' e' W V => k T' h' X' e' W ?_)
  have e1 : (vs ++ List.replicate 1 (Value.int 0)).set vs.length (.int zz) = vs ++ [.int zz] := by simp
  rw [e1] at V; exact V
theorem o_decl {y : MethodName} {bytes : ByteArray} {ml : Nat} {ret : Option FieldType} (wi : (Cond.instanceMethod y).before a0 Z = true) (wc : (Cond.code y bytes ml ret).before a0 Z = true) : (Cond.declares y).before a0 Z = true := by
  obtain ⟨mk, methM, hnamed, hmethM, hstM, habM⟩ := Cond.instanceMethod_spec wi
  obtain ⟨m2, cM, q1, -, -, -, -, -, -, hsig⟩ := Cond.code_spec hnamed wc
  cases hmethM.symm.trans q1
  simp [Cond.before, Cond.holds, Cond.value, hnamed, hmethM, hstM, hsig]
theorem o_same {y y2 : MethodName} {C : String} (wi : (Cond.instanceMethod y).before a0 Z = true) (ws : (Cond.selects C y2 y2).before a0 Z = true) (hc : y2.cls = y.cls) (hmh : y.cls ≠ "java/lang/invoke/MethodHandle" ∧ y.cls ≠ "java/lang/invoke/VarHandle") : (Cond.sameMethod y.cls y.cls y.name y.desc).before a0 Z = true := by
  obtain ⟨mk, methM, hnamed, hmethM, hstM, habM⟩ := Cond.instanceMethod_spec wi
  have hcn := findClass_of_methodNamed hnamed
  obtain ⟨c1, r1, m1, -, -, q3, -, k1, hk1, hi1⟩ := Cond.selects_spec ws
  have hc1 := findClass_of_methodNamed q3
  rw [hc, hcn] at hc1
  have hcls : mk.cls = m1.cls := Option.some.inj hc1
  have hf := State.methodFound?_of_named hnamed hmh
  have hk : Z.vm.classes[mk.cls]? = some k1 := by rw [hcls]; exact hk1
  have hn' : Z.methodNamed? ⟨y.cls, y.name, y.desc⟩ = some mk := hnamed
  simp [Cond.before, Cond.holds, Cond.value, hcn, hf, hn', hk, hi1]
/-- super.y() -/
theorem o_sup {bytes : ByteArray} {maxL ml kc ks : Nat} {ret : Option FieldType} {y : MethodName} {C : String} {argsL St : List Value} {Q : Option Value → Heap → List Loc → Prop} (X : Stand p l e R s m args below meth c T locs cells slots) (hx : p.tables.exec = Jvm.exec) (hZ : Z.Warmed39 s.vm) (hown : s.vm.findClass own = some m.cls) (w1 : (Cond.methodLink own index y).before a0 Z = true) (w2 : (Cond.sameMethod y.cls y.cls y.name y.desc).before a0 Z = true) (w3 : (Cond.instanceMethod y).before a0 Z = true) (w4 : (Cond.superclass own y.cls).before a0 Z = true) (wc : (Cond.code y bytes maxL ret).before a0 Z = true)
    (hK : Back l R p e below s args y 3 W (fun P a => a = (Value.ref b :: argsL).toArray ∧ P.U.heap = h ∧ P.cells + kc ≤ R.cells ∧ P.slots + ks ≤ R.slots) (fun P _ v B => ∃ L, Q v B.U.heap L ∧ B.locs = P.locs ++ L ∧ B.cells = P.cells + kc ∧ B.slots = P.slots + ks)) (eT : T.heap = h) (E : Exa Z h b C) (hml : c.maxLocals = ml) (hlen : ∀ sig, parseMethodDescriptor y.desc = some sig → argsL.length = sig.parameters.length) (hd : decode c.code q = .ok (.invokespecial index, 3))
    (kk : ∀ T' L v, Stand p l e R s m args below meth c T' (locs ++ L) (cells + kc) (slots + ks) → Q v T'.heap L → o_G p e below K T' (mkF m (q + 3) A (v.toList ++ S)))
    (hn : y.name ≠ "<init>" := by decide) (hsz : A.size = ml := by rfl) (hst : St = argsL.reverse ++ .ref b :: S := by rfl) (hW : (S.map fun v => v.category).sum ≤ W := by exact Nat.le_of_eq rfl) (hc : cells + kc ≤ R.cells := by decide) (hs : slots + ks ≤ R.slots := by decide) : o_G p e below K T (mkF m q A St) := by
  subst hst
  obtain ⟨v, _, ⟨T', L', k', n'⟩, -, X', ⟨L, hQ, l1, l2, l3⟩, st⟩ := superBack X hx hZ hown w1 w2 w3 w4 hn hK eT (Ins.self E) (g := mkF m q A (argsL.reverse ++ .ref b :: S)) rfl (hsz.trans hml.symm) wc (argsL := argsL) (rest := S) hlen rfl (by show 2 * 0 + _ ≤ _; omega) hd (fun _ _ => ⟨rfl, eT, hc, hs⟩)
  dsimp only [Pt.U, Pt.locs, Pt.cells, Pt.slots] at X' l1 l2 l3 st hQ
  subst l1 l2 l3
  exact o_tr st (kk _ _ _ X' hQ)
/-- new byte[x], with its class -/
theorem o_newE {cap : Nat} {x : Int32} (X : Stand p l e R s m args below meth c T locs cells slots) (hx : p.tables.exec = Jvm.exec) (hZ : Z.Warmed39 s.vm) (w : (Cond.arrayClass .byte).before a0 Z = true) (eT : T.heap = h) (hd : decode c.code q = .ok (.newarray .byte, 2)) (hn : ¬ x < 0) (hcap : x.toNatClampNeg ≤ cap)
    (k : ∀ T' h' ka b, Stand p l e R s m args below meth c T' locs (cells + 1) (slots + cap) → T'.heap = h' → b = h.size → Ext h h' → Arv Z h' b ka .byte x [] (.int 0) → Exa Z h' b "[B" → o_G p e below K T' (mkF m (q + 2) A (.ref b :: S))) (hb : cap * 8 ≤ 536870912 := by decide) (hc : cells + 1 ≤ R.cells := by decide) (hl : slots + cap ≤ R.slots := by decide) : o_G p e below K T (mkF m q A (.int x :: S)) := by
  obtain ⟨T', h', ka, X', e', E, A', Ex, st⟩ := newPE X hx hZ (aty := .byte) w eT (g := mkF m q A (.int x :: S)) rfl hd rfl hn hcap hb hc hl (ad := "[B") (by decide)
  exact o_st st (k T' h' ka _ X' e' rfl E (Arv.new A' hn) Ex)
end OwnCp
end Jvm.RoadKit

namespace Jvm.Pilot.@@N@@
open Jvm Jvm.ClassFile Sem Op Lib Jvm.Free Jvm.Stand Jvm.LawKit Jvm.RoadKit Bundle Jvm.Pilot.@@N@@.Jvm.D

set_option maxRecDepth 65536
set_option maxHeartbeats 40000000
/-! a String that spells the chars cs (each 0 to 255), its bytes at t -/
def o_Str (Z : State) (h : Heap) (x t : Addr) (cs : List Int32) : Prop := Exa Z h x "java/lang/String" ∧ Fld Z h x "java/lang/String" "coder" "B" (.int 0) ∧ Fld Z h x "java/lang/String" "value" "[B" (.ref t) ∧ (∃ kb, Arv Z h t kb .byte (Int32.ofNat cs.length) ((cs.map fun c => c.toInt8.toInt32).map Value.int) (.int 0)) ∧ (∀ c ∈ cs, ¬ c < 0 ∧ ¬ (255 : Int32) < c) ∧ cs.length ≤ 4000
section OwnStr
variable {p : Program} {l : Launch} {e : Env} {R : Room} {s : State} {args : Array Value} {below : List Frame} {W n0 : Nat} {Z : State} {a0 : Array Value} {h h' : Heap} {x t y u a : Addr} {cs ds : List Int32} {ws : List Addr} {sl : Nat} {v : Value}
theorem o_Str.ext (E : Ext h h') (F : o_Str Z h x t cs) : o_Str Z h' x t cs := by
  obtain ⟨f1, f2, f3, ⟨kb, f4⟩, f5⟩ := F; exact ⟨f1.ext E, f2.ext E, f3.ext E, ⟨kb, f4.ext E⟩, f5⟩
theorem o_Str.other (F : o_Str Z h x t cs) (Wq : Wr h h' a sl v) (q1 : x ≠ a) (q2 : t ≠ a) : o_Str Z h' x t cs := by
  obtain ⟨f1, f2, f3, ⟨kb, f4⟩, f5⟩ := F; exact ⟨f1.wr Wq, f2.other Wq (Or.inl q1), f3.other Wq (Or.inl q1), ⟨kb, f4.other Wq q2⟩, f5⟩
theorem o_Str.keep (F : o_Str Z h x t cs) (K : Keep h h' ws) (q1 : x ∉ ws) (q2 : t ∉ ws) : o_Str Z h' x t cs := by
  obtain ⟨f1, f2, f3, ⟨kb, f4⟩, f5⟩ := F; exact ⟨f1.keep K, f2.keep K q1, f3.keep K q1, ⟨kb, f4.keep K q2⟩, f5⟩
theorem o_Str.neT {C : String} {n : Nat} (F : o_Str Z h x t cs) (E : Exa Z h y C) (wi : (Jvm.Cond.instantiable C n).before a0 Z = true) : y ≠ t := by
  obtain ⟨_, _, _, ⟨_, f4⟩, _⟩ := F; exact Exa.neArv E f4 wi
theorem o_Str.lt (F : o_Str Z h x t cs) : x < h.size := F.1.lt
theorem o_Str.lt2 (F : o_Str Z h x t cs) : t < h.size := by obtain ⟨_, _, _, ⟨_, f4⟩, _⟩ := F; exact f4.lt
theorem o_cs0 : ∀ c ∈ ([] : List Int32), ¬ c < 0 ∧ ¬ (255 : Int32) < c := fun _ h => nomatch h
theorem o_csS {a : Int32} {L : List Int32} (h1 : ¬ a < 0 ∧ ¬ (255 : Int32) < a) (h2 : ∀ c ∈ L, ¬ c < 0 ∧ ¬ (255 : Int32) < c) : ∀ c ∈ a :: L, ¬ c < 0 ∧ ¬ (255 : Int32) < c := fun c hc => (List.mem_cons.mp hc).elim (fun e => e ▸ h1) (h2 c)
end OwnStr
theorem o_shr0 {x : Int32} : x >>> ((0 : Int32) &&& 31) = x := by
  have e : ((0 : Int32) &&& 31) = 0 := by decide
  rw [e]; exact Int32.shiftRight_zero
theorem o_shl0 {x : Int32} : x <<< ((0 : Int32) &&& 31) = x := by
  have e : ((0 : Int32) &&& 31) = 0 := by decide
  rw [e]; exact Int32.shiftLeft_zero
theorem o_cl31 (z : Int32) : z.toNatClampNeg < 2 ^ 31 := by
  have := Int32.toInt_lt z
  simp only [Int32.toNatClampNeg]; omega
theorem o_o32 {n : Nat} (h : n < 2 ^ 31) : (Int32.ofNat n).toInt = n := Int32.toInt_ofNat_of_lt h
theorem o_oc {n : Nat} (h : n < 2 ^ 31) : (Int32.ofNat n).toNatClampNeg = n := by
  simp only [Int32.toNatClampNeg, o_o32 h]; rfl
theorem o_on {n : Nat} (h : n < 2 ^ 31) : ¬ Int32.ofNat n < 0 := by
  rw [Int32.lt_iff_toInt_lt, o_o32 h]; show ¬ (n : Int) < 0; omega
theorem o_oadd (a b : Nat) : Int32.ofNat a + Int32.ofNat b = Int32.ofNat (a + b) := (Int32.ofNat_add a b).symm
theorem o_zi {z : Int32} (h : ¬ z < 0) : z.toInt = (z.toNatClampNeg : Int) := nat_of h
theorem o_cap {a b : Nat} {z : Int32} (hz : ¬ z < 0) (h : a + b ≤ z.toNatClampNeg) : ¬ (0 : Int32) < (Int32.ofNat a + Int32.ofNat b) - z := by
  have hl := o_cl31 z
  rw [o_oadd, Int32.lt_iff_toInt_lt]
  have e0 : (0 : Int32).toInt = 0 := rfl
  have e1 : (Int32.ofNat (a + b) - z).toInt = (Int32.ofNat (a + b)).toInt - z.toInt := by
    rw [Int32.toInt_sub]
    have := o_zi hz
    have := o_o32 (n := a + b) (by omega)
    have h1 : (2 : Int) ^ 31 = 2147483648 := rfl
    rw [Int.bmod_eq_of_le] <;> omega
  rw [e1, o_o32 (by omega), o_zi hz, e0]; omega
abbrev o_V8 (cs : List Int32) : List Value := (cs.map fun c => c.toInt8.toInt32).map Value.int
theorem o_V8len (cs : List Int32) : (o_V8 cs).length = cs.length := by simp [o_V8]
theorem o_V8app (cs ds : List Int32) : o_V8 (cs ++ ds) = o_V8 cs ++ o_V8 ds := by simp [o_V8]
theorem o_V8range (cs : List Int32) : o_V8 cs = (List.range cs.length).map fun i => (o_V8 cs).getD (0 + i) (.int 0) := by
  apply List.ext_getElem
  · simp [o_V8]
  · intro i h1 h2
    simp [o_V8] at h1 ⊢
    simp [h1]
abbrev o_chs (cs : List Int32) : Prop := ∀ c ∈ cs, ¬ c < 0 ∧ ¬ (255 : Int32) < c
theorem o_chsA {cs ds : List Int32} (h1 : o_chs cs) (h2 : o_chs ds) : o_chs (cs ++ ds) := fun c hc => (List.mem_append.mp hc).elim (h1 c) (h2 c)
/-- a StringBuilder b whose bytes at t (z of them) begin with the chars cs -/
def o_Bl (Z : State) (h : Heap) (b t : Addr) (z : Int32) (cs : List Int32) : Prop := Exa Z h b "java/lang/StringBuilder" ∧ Fld Z h b "java/lang/AbstractStringBuilder" "coder" "B" (.int 0) ∧ Fld Z h b "java/lang/AbstractStringBuilder" "value" "[B" (.ref t) ∧ Fld Z h b "java/lang/AbstractStringBuilder" "count" "I" (.int (Int32.ofNat cs.length)) ∧ (∃ k, Arv Z h t k .byte z (o_V8 cs) (.int 0)) ∧ o_chs cs ∧ cs.length ≤ z.toNatClampNeg ∧ Fld Z h b "java/lang/AbstractStringBuilder" "maybeLatin1" "Z" (.int 0)
section OwnBl
variable {Z : State} {a0 : Array Value} {h h' : Heap} {b t y a : Addr} {z : Int32} {cs ds : List Int32} {ws : List Addr} {sl : Nat} {v : Value}
theorem o_Bl.ext (E : Ext h h') (F : o_Bl Z h b t z cs) : o_Bl Z h' b t z cs := by
  obtain ⟨f1, f2, f3, f6, ⟨kb, f4⟩, f5, f7, f8⟩ := F; exact ⟨f1.ext E, f2.ext E, f3.ext E, f6.ext E, ⟨kb, f4.ext E⟩, f5, f7, f8.ext E⟩
theorem o_Bl.other (F : o_Bl Z h b t z cs) (Wq : Wr h h' a sl v) (q1 : b ≠ a) (q2 : t ≠ a) : o_Bl Z h' b t z cs := by
  obtain ⟨f1, f2, f3, f6, ⟨kb, f4⟩, f5, f7, f8⟩ := F; exact ⟨f1.wr Wq, f2.other Wq (Or.inl q1), f3.other Wq (Or.inl q1), f6.other Wq (Or.inl q1), ⟨kb, f4.other Wq q2⟩, f5, f7, f8.other Wq (Or.inl q1)⟩
theorem o_Bl.keep (F : o_Bl Z h b t z cs) (K : Keep h h' ws) (q1 : b ∉ ws) (q2 : t ∉ ws) : o_Bl Z h' b t z cs := by
  obtain ⟨f1, f2, f3, f6, ⟨kb, f4⟩, f5, f7, f8⟩ := F; exact ⟨f1.keep K, f2.keep K q1, f3.keep K q1, f6.keep K q1, ⟨kb, f4.keep K q2⟩, f5, f7, f8.keep K q1⟩
theorem o_Bl.neT {C : String} {n : Nat} (F : o_Bl Z h b t z cs) (E : Exa Z h y C) (wi : (Jvm.Cond.instantiable C n).before a0 Z = true) : y ≠ t := by
  obtain ⟨_, _, _, _, ⟨_, f4⟩, _⟩ := F; exact Exa.neArv E f4 wi
theorem o_Bl.lt (F : o_Bl Z h b t z cs) : b < h.size := F.1.lt
theorem o_Bl.lt2 (F : o_Bl Z h b t z cs) : t < h.size := by obtain ⟨_, _, _, _, ⟨_, f4⟩, _⟩ := F; exact f4.lt
theorem o_Bl.nn (F : o_Bl Z h b t z cs) : ¬ z < 0 := by obtain ⟨_, _, _, _, ⟨_, c, _, _, _, f, _⟩, _⟩ := F; exact f
theorem o_Bl.l31 (F : o_Bl Z h b t z cs) : cs.length < 2 ^ 31 := Nat.lt_of_le_of_lt F.2.2.2.2.2.2.1 (o_cl31 z)
theorem o_Bl.safe {EL : List (String × Nat)} {vm : Vm} (F : o_Bl Z h b t z cs) (hZ : Z.Warmed39 vm) (E : o_EN Z a0 EL z.toNatClampNeg) : Safe Z EL vm h t := by
  obtain ⟨_, _, _, _, ⟨_, f4⟩, _⟩ := F; exact o_safeL hZ E f4
theorem o_blMk {k : ClassId} (E : Exa Z h b "java/lang/StringBuilder") (Fc : Fld Z h b "java/lang/AbstractStringBuilder" "coder" "B" (.int 0)) (Fv : Fld Z h b "java/lang/AbstractStringBuilder" "value" "[B" (.ref t)) (Fn : Fld Z h b "java/lang/AbstractStringBuilder" "count" "I" (.int (Int32.ofNat cs.length + Int32.ofNat ds.length))) (A : Arv Z h t k .byte z (o_V8 cs ++ o_V8 ds) (.int 0)) (h1 : o_chs cs) (h2 : o_chs ds) (hs : cs.length + ds.length ≤ z.toNatClampNeg) (Fm : Fld Z h b "java/lang/AbstractStringBuilder" "maybeLatin1" "Z" (.int 0)) : o_Bl Z h b t z (cs ++ ds) :=
  ⟨E, Fc, Fv, by rw [List.length_append, ← o_oadd]; exact Fn, ⟨k, by rw [o_V8app]; exact A⟩, o_chsA h1 h2, by rw [List.length_append]; exact hs, Fm⟩
theorem o_Str.l31 {x u : Addr} (F : o_Str Z h x u cs) : cs.length < 2 ^ 31 := by
  obtain ⟨_, _, _, ⟨_, c, _, _, f4, _⟩, _, f6⟩ := F; omega
theorem o_nf {s : State} {y y2 : MethodName} {C : String} (hZ : Z.Warmed39 s.vm) (ws : (Cond.selects C y2 y2).before a0 Z = true) (hc : y2.cls = y.cls) : NotFace s y := fun r0 h0 => by
  obtain ⟨c1, r1, m1, -, -, q3, -, k1, hk1, hi1⟩ := Cond.selects_spec (mvT (args := #[]) hZ ws)
  have h1 := findClass_of_methodNamed q3
  rw [hc, findClass_of_methodNamed h0] at h1
  have e : r0.cls = m1.cls := Option.some.inj h1
  exact ⟨k1, by rw [e]; exact hk1, hi1⟩
theorem o_inb {n : Nat} (hz : ¬ z < 0) (hs : n + 1 ≤ z.toNatClampNeg) : ¬ Int32.ofNat n < 0 ∧ Int32.ofNat n < z := by
  have hl := o_cl31 z
  refine ⟨o_on (by omega), ?_⟩
  rw [Int32.lt_iff_toInt_lt, o_o32 (by omega), o_zi hz]; omega
theorem o_nb8 (c : Int32) : nar .byte c.toInt8.toInt32 = c.toInt8.toInt32 := by
  have : c.toInt8.toInt32.toInt8 = c.toInt8 := Int8.toInt8_toInt32 _
  show c.toInt8.toInt32.toInt8.toInt32 = _
  rw [this]
theorem o_olt {n : Nat} (hz : ¬ z < 0) (hs : n < z.toNatClampNeg) : Int32.ofNat n < z := (o_inb hz hs).2
theorem o_one {n : Nat} (hz : ¬ z < 0) (hs : n < z.toNatClampNeg) : ¬ Int32.ofNat n = z := fun e => by
  have := o_olt hz hs; rw [e] at this; exact Int32.lt_irrefl this
end OwnBl
theorem o_V8get {cs : List Int32} {i : Nat} (hi : i < cs.length) : (o_V8 cs).getD i (.int 0) = .int (cs.getD i 0).toInt8.toInt32 := by simp [o_V8, hi]
theorem o_ltO {i n : Nat} (h : i < n) (hn : n < 2 ^ 31) : Int32.ofNat i < Int32.ofNat n := by
  rw [Int32.lt_iff_toInt_lt, o_o32 (by omega), o_o32 hn]; omega
theorem o_nltO {i n : Nat} (h : i = n) : ¬ Int32.ofNat i < Int32.ofNat n := by subst h; exact fun q => Int32.lt_irrefl q

theorem o_fin {P : Int32 → Prop} (h : ∀ k : Fin 257, P (Int32.ofNat k.val)) {c : Int32} (h1 : ¬ c < 0) (h2 : ¬ (256 : Int32) < c) : P c := by
  rw [Int32.lt_iff_toInt_lt] at h1 h2
  have e0 : (0 : Int32).toInt = 0 := rfl
  have e1 : (256 : Int32).toInt = 256 := rfl
  have hk : c.toNatClampNeg < 257 := by simp only [Int32.toNatClampNeg]; omega
  have e : c = Int32.ofNat c.toNatClampNeg := by
    rw [← Int32.toInt_inj, Int32.toInt_ofNat_of_lt (by omega)]
    simp only [Int32.toNatClampNeg]; omega
  rw [e]; exact h ⟨_, hk⟩
abbrev o_lo (c : Int32) : Int32 := c.toInt8.toInt32
abbrev o_hi (c : Int32) : Int32 := (c >>> ((8 : Int32) &&& 31)).toInt8.toInt32
theorem o_g16 {c : Int32} (h1 : ¬ c < 0) (h2 : ¬ (256 : Int32) < c) : ((o_lo c &&& 255) <<< ((0 : Int32) &&& 31) ||| (o_hi c &&& 255) <<< ((8 : Int32) &&& 31)).toUInt32.toUInt16.toUInt32.toInt32 = c :=
  o_fin (P := fun c => ((o_lo c &&& 255) <<< ((0 : Int32) &&& 31) ||| (o_hi c &&& 255) <<< ((8 : Int32) &&& 31)).toUInt32.toUInt16.toUInt32.toInt32 = c) (by decide +kernel) h1 h2
abbrev o_V16 (cs : List Int32) : List Value := cs.flatMap fun c => [Value.int (o_lo c), Value.int (o_hi c)]
theorem o_V16len (cs : List Int32) : (o_V16 cs).length = 2 * cs.length := by
  induction cs with
  | nil => rfl
  | cons c cs ih => simp [o_V16] at ih ⊢; omega
theorem o_V16app (cs ds : List Int32) : o_V16 (cs ++ ds) = o_V16 cs ++ o_V16 ds := by simp [o_V16]
abbrev o_c16 (cs : List Int32) : Prop := ∀ c ∈ cs, ¬ c < 0 ∧ ¬ (256 : Int32) < c
theorem o_shl1 {k : Nat} (h : k < 2 ^ 30) : Int32.ofNat k <<< ((1 : Int32) &&& 31) = Int32.ofNat (2 * k) := by
  have e : ((1 : Int32) &&& 31) = 1 := by decide
  rw [e]
  apply Int32.toBitVec_inj.mp
  rw [Int32.toBitVec_shiftLeft]
  have e1 : (Int32.toBitVec 1).smod 32 = 1#32 := by decide
  rw [e1]
  apply BitVec.eq_of_toNat_eq
  simp [BitVec.toNat_shiftLeft, Nat.shiftLeft_eq]
  omega
theorem o_V16g {cs : List Int32} {k : Nat} (h : k < cs.length) : (o_V16 cs).getD (2 * k) (.int 0) = .int (o_lo (cs.getD k 0)) ∧ (o_V16 cs).getD (2 * k + 1) (.int 0) = .int (o_hi (cs.getD k 0)) := by
  induction cs generalizing k with
  | nil => exact absurd h (by simp)
  | cons c cs ih =>
    cases k with
    | zero => exact ⟨rfl, rfl⟩
    | succ k =>
      have := ih (k := k) (by simpa using h)
      have e1 : 2 * (k + 1) = 2 * k + 2 := by omega
      rw [e1]
      simpa [o_V16] using this
theorem o_z30 {n : Nat} {z : Int32} (h : 2 * n ≤ z.toNatClampNeg) : n < 2 ^ 30 := by have := o_cl31 z; omega
theorem o_i2 {n k : Nat} {z : Int32} (hz : ¬ z < 0) (h : 2 * n ≤ z.toNatClampNeg) (hk : k < 2 * n) : ¬ Int32.ofNat k < 0 ∧ Int32.ofNat k < z := o_inb hz (by omega)
theorem o_n16 {c : Int32} (h : ¬ c < 0 ∧ ¬ (256 : Int32) < c) : nar .char c = c := o_fin (P := fun c => nar .char c = c) (by decide +kernel) h.1 h.2
theorem o_get16 {cs : List Int32} {k : Nat} (h : o_c16 cs) (hk : k < cs.length) : ¬ cs.getD k 0 < 0 ∧ ¬ (256 : Int32) < cs.getD k 0 := by
  have e : cs.getD k 0 = cs[k] := by simp [hk]
  rw [e]; exact h _ (List.getElem_mem hk)
theorem o_V16s (cs : List Int32) (c : Int32) : (o_V16 cs ++ [Value.int (o_lo c)]) ++ [Value.int (o_hi c)] = o_V16 (cs ++ [c]) := by simp [o_V16]
theorem o_c160 : o_c16 [] := fun _ h => nomatch h
theorem o_c16S {a : Int32} {L : List Int32} (h1 : ¬ a < 0 ∧ ¬ (256 : Int32) < a) (h2 : o_c16 L) : o_c16 (a :: L) := fun c hc => (List.mem_cons.mp hc).elim (fun e => e ▸ h1) (h2 c)

theorem o_lo255 {c : Int32} (h1 : ¬ c < 0) (h2 : ¬ (255 : Int32) < c) : c.toInt8.toInt32 &&& 255 = c := by
  have q := o_fin (P := fun c => c = 256 ∨ c.toInt8.toInt32 &&& 255 = c) (by decide +kernel) h1 (c := c) (fun q => h2 (by
    rw [Int32.lt_iff_toInt_lt] at q ⊢
    have e1 : (256 : Int32).toInt = 256 := rfl
    have e2 : (255 : Int32).toInt = 255 := rfl
    omega))
  rcases q with rfl | q
  · exact absurd (by decide) h2
  · exact q
theorem o_b_inj {c d : Int32} (hc : ¬ c < 0 ∧ ¬ (255 : Int32) < c) (hd : ¬ d < 0 ∧ ¬ (255 : Int32) < d) : (c.toInt8.toInt32 = d.toInt8.toInt32) ↔ c = d := by
  refine ⟨fun e => ?_, fun e => by rw [e]⟩
  have e1 := o_lo255 hc.1 hc.2
  have e2 := o_lo255 hd.1 hd.2
  rw [← e1, ← e2]
  show c.toInt8.toInt32 &&& 255 = d.toInt8.toInt32 &&& 255
  rw [e]
theorem o_shr1 {k : Nat} (h : k < 2 ^ 30) : Int32.ofNat (2 * k) >>> ((1 : Int32) &&& 31) = Int32.ofNat k := by
  have e : ((1 : Int32) &&& 31) = 1 := by decide
  rw [e]
  apply Int32.toBitVec_inj.mp
  rw [Int32.toBitVec_shiftRight]
  have e1 : (Int32.toBitVec 1).smod 32 = 1#32 := by decide
  rw [e1]
  apply BitVec.eq_of_toNat_eq
  have hm : (BitVec.ofNat 32 (2 * k)).msb = false := by
    rw [BitVec.msb_eq_decide]; simp; omega
  show (BitVec.sshiftRight (BitVec.ofNat 32 (2*k)) 1).toNat = _
  rw [BitVec.sshiftRight_eq_of_msb_false hm]
  simp [Nat.shiftRight_eq_div_pow]
  omega
theorem o_or2 {a b : Int32} (h1 : ¬ a < 0) (h2 : ¬ b < 0) : ¬ (a ||| b) < 0 := by
  rw [Int32.lt_iff_toInt_lt] at *
  have m (x : Int32) : x.toBitVec.msb = decide (x.toInt < (0 : Int32).toInt) := BitVec.msb_eq_toInt
  have q : (a ||| b).toBitVec.msb = (a.toBitVec.msb || b.toBitVec.msb) := by rw [Int32.toBitVec_or, BitVec.msb_or]
  rw [m, m, m] at q
  simp only [h1, h2, decide_false, Bool.or_self, decide_eq_false_iff_not] at q
  exact q
theorem o_osub (a b : Nat) : Int32.ofNat (a + b) - Int32.ofNat a = Int32.ofNat b := by
  rw [← o_oadd, Int32.add_comm, Int32.add_sub_cancel]
theorem o_osub1 {n : Nat} (h : 1 ≤ n) : Int32.ofNat n - 1 = Int32.ofNat (n - 1) := by
  have e : n = 1 + (n - 1) := by omega
  rw [e]; exact o_osub 1 (n - 1) |>.trans (by congr 1; omega)
theorem o_nlt {a b : Nat} (h : b ≤ a) (ha : a < 2 ^ 31) : ¬ Int32.ofNat a < Int32.ofNat b := by
  rw [Int32.lt_iff_toInt_lt, o_o32 ha, o_o32 (by omega)]; omega
theorem o_le2 {a b : Int32} (h1 : ¬ a < b) (h2 : ¬ b < a) : a = b := by
  rw [Int32.lt_iff_toInt_lt] at *; exact Int32.toInt_inj.mp (by omega)
theorem o_oinj {a b : Nat} (ha : a < 2 ^ 31) (hb : b < 2 ^ 31) (h : Int32.ofNat a = Int32.ofNat b) : a = b := by
  have := congrArg Int32.toInt h; rw [o_o32 ha, o_o32 hb] at this; omega
theorem o_im1 {P : Prop} [Decidable P] (h : (if P then (-1) else 0 : Int32) < 0) : P := by
  by_cases q : P
  · exact q
  · rw [if_neg q] at h; exact absurd h (by decide)
theorem o_im0 {P : Prop} [Decidable P] (h : ¬ (if P then (-1) else 0 : Int32) < 0) : ¬ P := fun q => by
  rw [if_pos q] at h; exact absurd (by decide) h
theorem o_cfu : ∀ k : Fin 9, 1 ≤ k.val → (XT.ushr (Int32.ofNat k.val - Int32.ofNat (2 * k.val)) 31).toInt8.toInt32 = 1 := by decide +kernel
theorem o_mget {α} {f : Int32 → α} {vi : List Int32} {i : Nat} (h : i < vi.length) : (vi.map f).getD i (f 0) = f (vi.getD i 0) := by simp [h]
theorem o_rg {V} (P U R : List V) (d : V) : U = (List.range U.length).map fun i => (P ++ U ++ R).getD (P.length + i) d := by
  apply List.ext_getElem
  · simp
  · intro i h1 h2
    simp at h2
    simp [h2, List.getElem?_append_left, List.getElem?_append_right]
theorem o_tk {cs : List Int32} {j : Nat} (h : cs.length ≤ j) : cs.take j = cs := List.take_of_length_le h
theorem o_pd (P U R : List Int32) {j : Nat} (h : j < U.length) : (P ++ U ++ R).getD (P.length + j) 0 = U.getD j 0 := by
  simp [h, List.getElem?_append_left, List.getElem?_append_right]
theorem o_len1 {cs : List Int32} (hl : cs.length ≤ 8) (h : Int32.ofNat cs.length = 1) : ∃ c, cs = [c] := by
  have := o_oinj (a := cs.length) (b := 1) (by omega) (by decide) h
  match cs, this with
  | [c], _ => exact ⟨c, rfl⟩
theorem o_zsub {z : Int32} {a b : Nat} (hz : ¬ z < 0) (hs : a + b ≤ z.toNatClampNeg) : ¬ (z - Int32.ofNat a) < Int32.ofNat b := by
  have hl := o_cl31 z
  have e := o_zi hz
  rw [Int32.lt_iff_toInt_lt]
  have e1 : (z - Int32.ofNat a).toInt = z.toInt - (Int32.ofNat a).toInt := by
    rw [Int32.toInt_sub]
    have := o_o32 (n := a) (by omega)
    have h1 : (2 : Int) ^ 31 = 2147483648 := rfl
    rw [Int.bmod_eq_of_le] <;> omega
  rw [e1, o_o32 (by omega), o_o32 (by omega), e]; omega
theorem o_subge {n k m : Nat} (h : k + m ≤ n) (hn : n < 2 ^ 31) : ¬ (Int32.ofNat n - Int32.ofNat k) < Int32.ofNat m := o_zsub (o_on hn) (by rw [o_oc hn]; exact h)
theorem o_fldD {Z : State} {h : Heap} {a : Addr} {C n d : String} {v v' : Value} (F : Fld Z h a C n d v) (G : Fld Z h a C n d v') : v = v' := by
  obtain ⟨c1, cf1, k1, i1, f1, a1, b1, -, -, -, -, s1⟩ := F
  obtain ⟨c2, cf2, k2, i2, f2, a2, b2, -, -, -, -, s2⟩ := G
  cases a1.symm.trans a2
  cases b1.symm.trans b2
  cases s1.symm.trans s2
  rfl
theorem o_oneg : ∀ k : Fin 9, ¬ (k.val = 0) → ¬ Int32.ofNat k.val = 0 ∧ ¬ Int32.ofNat (2 * k.val) = 0 := by decide +kernel
theorem o_nz {n : Nat} (h1 : 1 ≤ n) (h2 : n ≤ 8) : ¬ Int32.ofNat n = 0 := (o_oneg ⟨n, Nat.lt_succ_of_le h2⟩ (by show ¬ n = 0; omega)).1
theorem o_narK {kd : Int32} (h : kd = 0 ∨ kd = 1) : nar .byte kd = kd := by rcases h with rfl | rfl <;> decide
theorem o_nrwK {kd : Int32} (h : kd = 0 ∨ kd = 1) : narrow .byte (.int kd) = .int kd := by rcases h with rfl | rfl <;> decide
theorem o_fitK {kd : Int32} (h : kd = 0 ∨ kd = 1) : fits .byte (.int kd) = true := by rcases h with rfl | rfl <;> decide
theorem o_zz {n : Nat} (h : n ≤ 8) : ¬ Int32.ofNat (2 * n) < 0 := o_on (by omega)
theorem o_zs {n : Nat} (h : n ≤ 8) : 2 * n ≤ (Int32.ofNat (2 * n)).toNatClampNeg := by rw [o_oc (by omega)]; exact Nat.le_refl _
abbrev o_big (cs : List Int32) : Prop := ∃ c ∈ cs, (255 : Int32) < c
theorem o_nl0 : ∀ c ∈ ([] : List Int32), ¬ (255 : Int32) < c := fun _ h => nomatch h
theorem o_bigM {pr ds po : List Int32} (h : o_big (pr ++ ds ++ po)) (hl : o_chs (pr ++ po)) : o_big ds := by
  obtain ⟨c, hc, q⟩ := h
  refine ⟨c, ?_, q⟩
  simp only [List.mem_append] at hc
  rcases hc with (hc | hc) | hc
  · exact absurd q (hl c (List.mem_append.mpr (Or.inl hc))).2
  · exact hc
  · exact absurd q (hl c (List.mem_append.mpr (Or.inr hc))).2
theorem o_V16range (ds : List Int32) : o_V16 ds = (List.range (2 * ds.length)).map fun i => (o_V16 ds).getD (0 + i) (.int 0) := by
  have q := o_rg [] (o_V16 ds) [] (Value.int 0)
  rw [o_V16len, List.nil_append, List.append_nil] at q
  exact q
theorem o_c16A {cs ds : List Int32} (h1 : o_c16 cs) (h2 : o_c16 ds) : o_c16 (cs ++ ds) := fun c hc => (List.mem_append.mp hc).elim (h1 c) (h2 c)
theorem o_chs16 {cs : List Int32} (h : o_chs cs) : o_c16 cs := fun c hc => ⟨(h c hc).1, fun q => (h c hc).2 (by
  rw [Int32.lt_iff_toInt_lt] at q ⊢
  have e1 : (256 : Int32).toInt = 256 := rfl
  have e2 : (255 : Int32).toInt = 255 := rfl
  omega)⟩
/-- the bytes of the chars cs, one (kd = 0) or two (kd = 1) a char -/
def o_vi (kd : Int32) (cs : List Int32) : List Int32 := if kd = 0 then cs.map (fun c => c.toInt8.toInt32) else cs.flatMap fun c => [o_lo c, o_hi c]
theorem o_vi0 (cs : List Int32) : (o_vi 0 cs).map Value.int = o_V8 cs := by simp [o_vi, o_V8]
theorem o_vi1 (cs : List Int32) : (o_vi 1 cs).map Value.int = o_V16 cs := by simp [o_vi, o_V16, List.map_flatMap]
theorem o_vl0 (cs : List Int32) : (o_vi 0 cs).length = cs.length := by simp [o_vi]
theorem o_vl1 (cs : List Int32) : (o_vi 1 cs).length = 2 * cs.length := by
  have := o_V16len cs
  rw [← o_vi1, List.length_map] at this; exact this
/-- what kd says of the chars -/
def o_AK (kd : Int32) (cs : List Int32) : Prop := cs.length ≤ 8 ∧ o_c16 cs ∧ (kd = 0 ∧ o_chs cs ∨ kd = 1 ∧ o_big cs)
section OwnAK
variable {kd kd' : Int32} {cs : List Int32}
theorem o_AK.k01 (h : o_AK kd cs) : kd = 0 ∨ kd = 1 := h.2.2.imp And.left And.left
theorem o_AK.chs (h : o_AK 0 cs) : o_chs cs := h.2.2.elim And.right fun q => absurd q.1 (by decide)
theorem o_AK.big (h : o_AK 1 cs) : o_big cs := h.2.2.elim (fun q => absurd q.1 (by decide)) And.right
theorem o_AK.kk (h : o_AK kd cs) (h' : o_AK kd' cs) : kd' = kd := by
  rcases h.2.2 with ⟨rfl, p⟩ | ⟨rfl, c, hc, p⟩ <;> rcases h'.2.2 with ⟨rfl, p'⟩ | ⟨rfl, c', hc', p'⟩
  · rfl
  · exact absurd p' (p c' hc').2
  · exact absurd p (p' c hc).2
  · rfl
theorem o_AK.vl (h : o_AK kd cs) : (o_vi kd cs).length ≤ 16 := by
  rcases h.k01 with rfl | rfl
  · rw [o_vl0]; have := h.1; omega
  · rw [o_vl1]; have := h.1; omega
theorem o_AK.vnz (h : o_AK kd cs) (hl : 1 ≤ cs.length) : ¬ Int32.ofNat (o_vi kd cs).length = 0 := by
  have hf := o_oneg ⟨cs.length, Nat.lt_succ_of_le h.1⟩ (by show ¬ cs.length = 0; omega)
  rcases h.k01 with rfl | rfl
  · rw [o_vl0]; exact hf.1
  · rw [o_vl1]; exact hf.2
theorem o_AK.shr (h : o_AK kd cs) : Int32.ofNat (o_vi kd cs).length >>> (kd &&& 31) = Int32.ofNat cs.length := by
  rcases h.k01 with rfl | rfl
  · rw [o_vl0]; exact o_shr0
  · rw [o_vl1]; exact o_shr1 (by have := h.1; omega)
theorem o_AK.cfl (h : o_AK kd cs) (hl : 1 ≤ cs.length) : (XT.ushr (Int32.ofNat cs.length - Int32.ofNat (o_vi kd cs).length) 31).toInt8.toInt32 = kd := by
  rcases h.k01 with rfl | rfl
  · rw [o_vl0, Int32.sub_self]; decide
  · rw [o_vl1]; exact o_cfu ⟨cs.length, Nat.lt_succ_of_le h.1⟩ hl
end OwnAK
/-- a String of the chars cs (each 0 to 256), its bytes at t -/
def o_A (Z : State) (h : Heap) (x t : Addr) (kd : Int32) (cs : List Int32) : Prop := Exa Z h x "java/lang/String" ∧ Fld Z h x "java/lang/String" "coder" "B" (.int kd) ∧ Fld Z h x "java/lang/String" "value" "[B" (.ref t) ∧ (∃ kb, Arv Z h t kb .byte (Int32.ofNat (o_vi kd cs).length) ((o_vi kd cs).map Value.int) (.int 0)) ∧ o_AK kd cs
section OwnA
variable {Z : State} {a0 : Array Value} {h h' : Heap} {x t y a u : Addr} {kd kd' : Int32} {cs ds : List Int32} {ws : List Addr} {sl : Nat} {v : Value}
theorem o_A.ext (E : Ext h h') (F : o_A Z h x t kd cs) : o_A Z h' x t kd cs := by
  obtain ⟨f1, f2, f3, ⟨kb, f4⟩, f5⟩ := F; exact ⟨f1.ext E, f2.ext E, f3.ext E, ⟨kb, f4.ext E⟩, f5⟩
theorem o_A.other (F : o_A Z h x t kd cs) (Wq : Wr h h' a sl v) (q1 : x ≠ a) (q2 : t ≠ a) : o_A Z h' x t kd cs := by
  obtain ⟨f1, f2, f3, ⟨kb, f4⟩, f5⟩ := F; exact ⟨f1.wr Wq, f2.other Wq (Or.inl q1), f3.other Wq (Or.inl q1), ⟨kb, f4.other Wq q2⟩, f5⟩
theorem o_A.keep (F : o_A Z h x t kd cs) (K : Keep h h' ws) (q1 : x ∉ ws) (q2 : t ∉ ws) : o_A Z h' x t kd cs := by
  obtain ⟨f1, f2, f3, ⟨kb, f4⟩, f5⟩ := F; exact ⟨f1.keep K, f2.keep K q1, f3.keep K q1, ⟨kb, f4.keep K q2⟩, f5⟩
theorem o_A.neT {C : String} {n : Nat} (F : o_A Z h x t kd cs) (E : Exa Z h y C) (wi : (Jvm.Cond.instantiable C n).before a0 Z = true) : y ≠ t := by
  obtain ⟨_, _, _, ⟨_, f4⟩, _⟩ := F; exact Exa.neArv E f4 wi
theorem o_A.lt (F : o_A Z h x t kd cs) : x < h.size := F.1.lt
theorem o_A.lt2 (F : o_A Z h x t kd cs) : t < h.size := by obtain ⟨_, _, _, ⟨_, f4⟩, _⟩ := F; exact f4.lt
theorem o_A.ak (F : o_A Z h x t kd cs) : o_AK kd cs := F.2.2.2.2
theorem o_A.kk (F : o_A Z h x t kd cs) (G : o_A Z h y u kd' cs) : o_A Z h y u kd cs := by
  have e := F.ak.kk G.ak
  subst e; exact G
theorem o_A.str (F : o_A Z h x t 0 cs) : o_Str Z h x t cs := by
  obtain ⟨f1, f2, f3, ⟨kb, f4⟩, f5⟩ := F
  rw [o_vi0, o_vl0] at f4
  exact ⟨f1, f2, f3, ⟨kb, f4⟩, f5.chs, Nat.le_trans f5.1 (by decide)⟩
theorem o_A.uv (F : o_A Z h x t 1 cs) : ∃ kb, Arv Z h t kb .byte (Int32.ofNat (2 * cs.length)) (o_V16 cs) (.int 0) := by
  obtain ⟨f1, f2, f3, ⟨kb, f4⟩, f5⟩ := F
  rw [o_vi1, o_vl1] at f4
  exact ⟨kb, f4⟩
theorem o_Str.asA (F : o_Str Z h x t cs) (hl : cs.length ≤ 8) : o_A Z h x t 0 cs := by
  obtain ⟨f1, f2, f3, ⟨kb, f4⟩, f5, f6⟩ := F
  exact ⟨f1, f2, f3, ⟨kb, by rw [o_vi0, o_vl0]; exact f4⟩, hl, o_chs16 f5, Or.inl ⟨rfl, f5⟩⟩
theorem o_aMk0 {k : ClassId} (f1 : Exa Z h x "java/lang/String") (f2 : Fld Z h x "java/lang/String" "coder" "B" (.int 0)) (f3 : Fld Z h x "java/lang/String" "value" "[B" (.ref t)) (f4 : Arv Z h t k .byte (Int32.ofNat cs.length) (o_V8 cs) (.int 0)) (hc : o_chs cs) (hl : cs.length ≤ 8) : o_A Z h x t 0 cs :=
  ⟨f1, f2, f3, ⟨k, by rw [o_vi0, o_vl0]; exact f4⟩, hl, o_chs16 hc, Or.inl ⟨rfl, hc⟩⟩
theorem o_aMk1 {k : ClassId} (f1 : Exa Z h x "java/lang/String") (f2 : Fld Z h x "java/lang/String" "coder" "B" (.int 1)) (f3 : Fld Z h x "java/lang/String" "value" "[B" (.ref t)) (f4 : Arv Z h t k .byte (Int32.ofNat (2 * cs.length)) (o_V16 cs) (.int 0)) (hc : o_c16 cs) (hb : o_big cs) (hl : cs.length ≤ 8) : o_A Z h x t 1 cs :=
  ⟨f1, f2, f3, ⟨k, by rw [o_vi1, o_vl1]; exact f4⟩, hl, hc, Or.inr ⟨rfl, hb⟩⟩
theorem o_A.same42 (F : o_A Z h x t kd cs) (G : o_Str Z h x u [42]) : cs = [42] := by
  obtain ⟨f1, f2, f3, ⟨k, f4⟩, fk⟩ := F
  obtain ⟨g1, g2, g3, ⟨k', g4⟩, g5, -⟩ := G
  have e1 := o_fldD f2 g2
  have e2 := o_fldD f3 g3
  cases e1
  cases e2
  have hch := fk.chs
  have h8 := fk.1
  rw [o_vi0, o_vl0] at f4
  obtain ⟨c, A, -, s1, n1, H1, -⟩ := f4
  obtain ⟨c', A', -, s2, n2, H2, -⟩ := g4
  cases A.1.symm.trans A'.1
  have hl : cs.length = 1 := by
    rw [s1, o_oc (by omega)] at s2; exact s2
  match cs, hl with
  | [b], _ =>
    have h0 : 0 < c.slots.size := by rw [s1]; show 0 < (Int32.ofNat 1).toNatClampNeg; decide
    have q := Value.int.inj (Option.some.inj ((H1 0 h0).symm.trans (H2 0 h0)))
    have q2 := (o_b_inj (hch b (List.mem_cons_self ..)) (g5 42 (List.mem_cons_self ..))).mp q
    rw [q2]
end OwnA
theorem o_c42 {cs : List Int32} {k : Nat} (h : o_chs cs) (hk : k < cs.length) : (cs.getD k 0).toInt8.toInt32 = 42 ↔ cs.getD k 0 = 42 := by
  have e : cs.getD k 0 = cs[k] := by simp [hk]
  rw [e]
  exact o_b_inj (d := 42) (h _ (List.getElem_mem hk)) (by decide)
theorem o_tks {cs : List Int32} {i : Nat} (h : i < cs.length) : cs.take (i + 1) = cs.take i ++ [cs.getD i 0] := by
  rw [List.take_add_one]; simp [h]
theorem o_tkl {cs : List Int32} {i : Nat} (h : i ≤ cs.length) : (cs.take i).length = i := by rw [List.length_take]; omega
theorem o_alS {cs : List Int32} {i : Nat} (h : i < cs.length) (h1 : ∀ c ∈ cs.take i, ¬ (255 : Int32) < c) (h2 : ¬ (255 : Int32) < cs.getD i 0) : ∀ c ∈ cs.take (i + 1), ¬ (255 : Int32) < c := fun c hc => by
  rw [o_tks h] at hc
  exact (List.mem_append.mp hc).elim (h1 c) fun q => by rw [List.mem_singleton.mp q]; exact h2
theorem o_nobigT {cs : List Int32} {i : Nat} (h : cs.length ≤ i) (h1 : ∀ c ∈ cs.take i, ¬ (255 : Int32) < c) : ¬ o_big cs := fun ⟨c, hc, q⟩ => h1 c (by rw [o_tk h]; exact hc) q
theorem o_nsg {cs : List Int32} {k : Nat} (h : ∀ c ∈ cs, ¬ c = 42) (hk : k < cs.length) : ¬ cs.getD k 0 = 42 := by
  have e : cs.getD k 0 = cs[k] := by simp [hk]
  rw [e]; exact h _ (List.getElem_mem hk)
/-- j chars are below 256, and the next isn't -/
def o_cut (cs : List Int32) (j : Nat) : Prop := j ≤ cs.length ∧ (∀ c ∈ cs.take j, ¬ (255 : Int32) < c) ∧ (j < cs.length → (255 : Int32) < cs.getD j 0)
theorem o_cutT {cs : List Int32} {j : Nat} (h : o_cut cs j) (h16 : o_c16 cs) (h8 : cs.length ≤ 8) (e : Int32.ofNat j = Int32.ofNat cs.length) : o_chs cs ∧ cs.take j = cs := by
  have hj : j = cs.length := o_oinj (by have := h.1; omega) (by omega) e
  have ht : cs.take j = cs := o_tk (by omega)
  refine ⟨fun c hc => ⟨(h16 c hc).1, h.2.1 c (by rw [ht]; exact hc)⟩, ht⟩
theorem o_cutF {cs : List Int32} {j : Nat} (h : o_cut cs j) (e : ¬ Int32.ofNat j = Int32.ofNat cs.length) : j < cs.length := by
  rcases Nat.lt_or_ge j cs.length with q | q
  · exact q
  · exact absurd (by rw [Nat.le_antisymm h.1 q]) e
theorem o_bigOf {cs : List Int32} {j : Nat} (hj : j < cs.length) (h : (255 : Int32) < cs.getD j 0) : o_big cs := by
  have e : cs.getD j 0 = cs[j] := by simp [hj]
  rw [e] at h
  exact ⟨_, List.getElem_mem hj, h⟩
/-- a StringBuilder b in UTF-16 form: 32 bytes at t, the chars cs, the count n -/
def o_Bv (Z : State) (h : Heap) (b t : Addr) (n : Nat) (cs : List Int32) : Prop := Exa Z h b "java/lang/StringBuilder" ∧ Fld Z h b "java/lang/AbstractStringBuilder" "coder" "B" (.int 1) ∧ Fld Z h b "java/lang/AbstractStringBuilder" "value" "[B" (.ref t) ∧ Fld Z h b "java/lang/AbstractStringBuilder" "count" "I" (.int (Int32.ofNat n)) ∧ (∃ k, Arv Z h t k .byte 32 (o_V16 cs) (.int 0)) ∧ o_c16 cs ∧ cs.length ≤ 8 ∧ Fld Z h b "java/lang/AbstractStringBuilder" "maybeLatin1" "Z" (.int 0)
section OwnBv
variable {Z : State} {a0 : Array Value} {h h' : Heap} {b t y a : Addr} {n : Nat} {cs ds : List Int32} {ws : List Addr} {sl : Nat} {v : Value}
theorem o_Bv.ext (E : Ext h h') (F : o_Bv Z h b t n cs) : o_Bv Z h' b t n cs := by
  obtain ⟨f1, f2, f3, f6, ⟨kb, f4⟩, f5, f7, f8⟩ := F; exact ⟨f1.ext E, f2.ext E, f3.ext E, f6.ext E, ⟨kb, f4.ext E⟩, f5, f7, f8.ext E⟩
theorem o_Bv.other (F : o_Bv Z h b t n cs) (Wq : Wr h h' a sl v) (q1 : b ≠ a) (q2 : t ≠ a) : o_Bv Z h' b t n cs := by
  obtain ⟨f1, f2, f3, f6, ⟨kb, f4⟩, f5, f7, f8⟩ := F; exact ⟨f1.wr Wq, f2.other Wq (Or.inl q1), f3.other Wq (Or.inl q1), f6.other Wq (Or.inl q1), ⟨kb, f4.other Wq q2⟩, f5, f7, f8.other Wq (Or.inl q1)⟩
theorem o_Bv.keep (F : o_Bv Z h b t n cs) (K : Keep h h' ws) (q1 : b ∉ ws) (q2 : t ∉ ws) : o_Bv Z h' b t n cs := by
  obtain ⟨f1, f2, f3, f6, ⟨kb, f4⟩, f5, f7, f8⟩ := F; exact ⟨f1.keep K, f2.keep K q1, f3.keep K q1, f6.keep K q1, ⟨kb, f4.keep K q2⟩, f5, f7, f8.keep K q1⟩
theorem o_Bv.neT {C : String} {n1 : Nat} (F : o_Bv Z h b t n cs) (E : Exa Z h y C) (wi : (Jvm.Cond.instantiable C n1).before a0 Z = true) : y ≠ t := by
  obtain ⟨_, _, _, _, ⟨_, f4⟩, _⟩ := F; exact Exa.neArv E f4 wi
theorem o_Bv.lt (F : o_Bv Z h b t n cs) : b < h.size := F.1.lt
theorem o_Bv.lt2 (F : o_Bv Z h b t n cs) : t < h.size := by obtain ⟨_, _, _, _, ⟨_, f4⟩, _⟩ := F; exact f4.lt
theorem o_Bv.safe {EL : List (String × Nat)} {vm : Vm} (F : o_Bv Z h b t n cs) (hZ : Z.Warmed39 vm) (E : o_EN Z a0 EL (32 : Int32).toNatClampNeg) : Safe Z EL vm h t := by
  obtain ⟨_, _, _, _, ⟨_, f4⟩, _⟩ := F; exact o_safeL hZ E f4
end OwnBv

theorem o_not_zero {t : Term} {z : Int32} {args : Array Value} {Z : State} (h : (Jvm.Cond.not (.eq t (.int 0))).value args Z none Z [] = some true) (e : t.eval args Z none [] Z = some (.int z)) : ¬ z = 0 := fun q => by
  have h1 := not_v h
  subst q
  simp [Jvm.Cond.value, e, Term.eval] at h1
theorem o_eqk {t : Term} {k : Int32} {args : Array Value} {Z : State} (h : (Jvm.Cond.eq t (.int k)).value args Z none Z [] = some true) : t.eval args Z none [] Z = some (.int k) := by
  rcases ht : t.eval args Z none [] Z with _ | v
  · simp [Jvm.Cond.value, ht] at h
  · cases v <;> simp [Jvm.Cond.value, ht, Term.eval] at h
    rw [h]
abbrev oJ0 := jdk_42_method_75_code
abbrev oJ1 := prog_8_method_2_code
abbrev oJ2 := jdk_52_method_46_code
abbrev oJ3 := jdk_42_method_150_code
abbrev oJ4 := jdk_42_method_92_code
abbrev oJ5 := jdk_43_method_25_code
abbrev oJ6 := jdk_52_method_17_code
abbrev oJ7 := jdk_42_method_147_code
abbrev oJ8 := jdk_42_method_66_code
abbrev oJ9 := jdk_68_method_22_code
abbrev oJ10 := prog_8_method_1_code
abbrev oJ11 := jdk_42_method_84_code
abbrev oJ12 := jdk_43_method_13_code
abbrev oJ13 := jdk_52_method_16_code
abbrev oJ14 := jdk_52_method_22_code
abbrev oJ15 := jdk_68_method_11_code
abbrev oJ16 := jdk_48_method_14_code
abbrev oJ17 := jdk_52_method_21_code
abbrev oJ18 := jdk_52_method_5_code
abbrev oJ19 := jdk_65_method_133_code
abbrev oJ20 := jdk_52_method_86_code
abbrev oJ21 := jdk_52_method_4_code
abbrev oJ22 := prog_8_method_5_code
abbrev oJ23 := jdk_42_method_149_code
abbrev oJ24 := jdk_52_method_14_code
abbrev oJ25 := jdk_52_method_69_code
abbrev oJ26 := jdk_43_method_24_code
abbrev oJ27 := jdk_52_method_44_code
abbrev oJ28 := jdk_68_method_73_code
abbrev oJ29 := jdk_41_method_13_code
abbrev oJ30 := jdk_43_method_47_code
abbrev oJ31 := jdk_68_method_2_code
abbrev oJ32 := jdk_68_method_71_code
abbrev oJ33 := jdk_68_method_9_code
abbrev oJ34 := jdk_42_method_139_code
abbrev oJ35 := jdk_65_method_132_code
abbrev oJ36 := jdk_41_method_12_code
abbrev oJ37 := jdk_42_method_154_code
abbrev oJ38 := jdk_42_method_97_code
abbrev oJ39 := jdk_52_method_3_code
abbrev oJ40 := jdk_67_method_7_code
abbrev oJ41 := jdk_68_method_68_code
abbrev oJ42 := jdk_42_method_151_code
abbrev oJ43 := jdk_42_method_55_code
abbrev oJ44 := jdk_42_method_77_code
abbrev oJ45 := jdk_29_method_69_code
abbrev oJ46 := jdk_42_method_3_code
abbrev oJ47 := jdk_42_method_54_code
abbrev oJ48 := jdk_43_method_46_code
abbrev oJ49 := jdk_43_method_50_code
abbrev oJ50 := jdk_52_method_15_code
abbrev oJ51 := prog_8_method_4_code
abbrev oJ52 := jdk_42_method_152_code
abbrev oJ53 := jdk_42_method_158_code
abbrev oJ54 := jdk_52_method_94_code
abbrev oJ55 := jdk_42_method_157_code
abbrev oJ56 := jdk_42_method_53_code
abbrev oJ57 := jdk_43_method_3_code
abbrev oJ58 := jdk_67_method_42_code
theorem o_k {Z : State} {a0 : Array Value} (hw : ∀ d ∈ tables_1, d.before a0 Z = true) (i : Nat) {d : Jvm.Cond} (h : tables_1[i]? = some d) : d.before a0 Z = true := hw d (List.mem_of_getElem? h)
abbrev o_SC (Z : State) (z : Int32) : Prop := Sta Z Z.heap "java/lang/String" "COMPACT_STRINGS" "Z" (.int z)
abbrev o_m0 : MethodName := ⟨"java/lang/StringUTF16", "getChar", "([BI)C"⟩
abbrev o_R0 : Room := ({ frames := 0, cells := 0, slots := 0, locals := 0 } : Room)
abbrev o_m1 : MethodName := ⟨"java/lang/StringUTF16", "putChar", "([BII)V"⟩
abbrev o_m2 : MethodName := ⟨"java/lang/StringUTF16", "newBytesLength", "(I)I"⟩
abbrev o_m3 : MethodName := ⟨"java/lang/StringUTF16", "newBytesFor", "(I)[B"⟩
abbrev o_R1 : Room := ({ frames := 1, cells := 1, slots := 32, locals := 12 } : Room)
abbrev o_m4 : MethodName := ⟨"java/lang/String", "coder", "()B"⟩
abbrev o_m5 : MethodName := ⟨"java/lang/String", "isLatin1", "()Z"⟩
abbrev o_m6 : MethodName := ⟨"java/lang/String", "length", "()I"⟩
abbrev o_R2 : Room := ({ frames := 1, cells := 0, slots := 0, locals := 13 } : Room)
abbrev o_m7 : MethodName := ⟨"java/lang/AbstractStringBuilder", "ensureCapacityInternal", "(I)V"⟩
abbrev o_m8 : MethodName := ⟨"java/lang/AbstractStringBuilder", "inflateIfNeededFor", "(Ljava/lang/String;)V"⟩
abbrev o_m9 : MethodName := ⟨"java/lang/String", "getBytes", "([BIB)V"⟩
abbrev o_R3 : Room := ({ frames := 1, cells := 0, slots := 0, locals := 18 } : Room)
abbrev o_m10 : MethodName := ⟨"java/lang/AbstractStringBuilder", "putStringAt", "(ILjava/lang/String;)V"⟩
abbrev o_R4 : Room := ({ frames := 2, cells := 0, slots := 0, locals := 40 } : Room)
abbrev o_m11 : MethodName := ⟨"java/lang/AbstractStringBuilder", "append", "(Ljava/lang/String;)Ljava/lang/AbstractStringBuilder;"⟩
abbrev o_R5 : Room := ({ frames := 3, cells := 0, slots := 0, locals := 60 } : Room)
abbrev o_m12 : MethodName := ⟨"java/lang/StringBuilder", "append", "(Ljava/lang/String;)Ljava/lang/StringBuilder;"⟩
abbrev o_R6 : Room := ({ frames := 4, cells := 0, slots := 0, locals := 75 } : Room)
abbrev o_m13 : MethodName := ⟨"java/lang/String", "isEmpty", "()Z"⟩
abbrev o_m14 : MethodName := ⟨"java/lang/StringLatin1", "equals", "([B[B)Z"⟩
abbrev o_m15 : MethodName := ⟨"java/lang/String", "equals", "(Ljava/lang/Object;)Z"⟩
abbrev o_R7 : Room := ({ frames := 1, cells := 0, slots := 0, locals := 14 } : Room)
abbrev o_m16 : MethodName := ⟨"jdk/internal/util/ArraysSupport", "mismatch", "([BI[BII)I"⟩
abbrev o_m17 : MethodName := ⟨"java/lang/String", "startsWith", "(Ljava/lang/String;I)Z"⟩
abbrev o_R8 : Room := ({ frames := 2, cells := 0, slots := 0, locals := 27 } : Room)
abbrev o_m18 : MethodName := ⟨"java/lang/String", "startsWith", "(Ljava/lang/String;)Z"⟩
abbrev o_R9 : Room := ({ frames := 3, cells := 0, slots := 0, locals := 46 } : Room)
abbrev o_m19 : MethodName := ⟨"java/lang/String", "endsWith", "(Ljava/lang/String;)Z"⟩
abbrev o_m20 : MethodName := ⟨"jdk/internal/util/Preconditions", "checkFromIndexSize", "(IIILjava/util/function/BiFunction;)I"⟩
abbrev o_m21 : MethodName := ⟨"java/lang/String", "checkBoundsOffCount", "(III)I"⟩
abbrev o_R10 : Room := ({ frames := 1, cells := 0, slots := 0, locals := 15 } : Room)
abbrev o_m22 : MethodName := ⟨"java/lang/StringUTF16", "length", "([B)I"⟩
abbrev o_m23 : MethodName := ⟨"java/lang/StringUTF16", "checkBoundsOffCount", "(II[B)V"⟩
abbrev o_R11 : Room := ({ frames := 2, cells := 0, slots := 0, locals := 29 } : Room)
abbrev o_m24 : MethodName := ⟨"jdk/internal/util/Preconditions", "checkFromToIndex", "(IIILjava/util/function/BiFunction;)I"⟩
abbrev o_m25 : MethodName := ⟨"java/lang/String", "checkBoundsBeginEnd", "(III)V"⟩
abbrev o_m26 : MethodName := ⟨"java/lang/Math", "min", "(II)I"⟩
abbrev o_m27 : MethodName := ⟨"java/util/Arrays", "checkLength", "(II)V"⟩
abbrev o_m28 : MethodName := ⟨"java/util/Arrays", "copyOfRangeByte", "([BII)[B"⟩
abbrev o_R12 : Room := ({ frames := 1, cells := 1, slots := 16, locals := 18 } : Room)
abbrev o_m29 : MethodName := ⟨"java/util/Arrays", "copyOfRange", "([BII)[B"⟩
abbrev o_R13 : Room := ({ frames := 2, cells := 1, slots := 16, locals := 34 } : Room)
abbrev o_m30 : MethodName := ⟨"java/lang/String", "<init>", "([BB)V"⟩
abbrev o_R14 : Room := ({ frames := 1, cells := 0, slots := 0, locals := 12 } : Room)
abbrev o_m31 : MethodName := ⟨"java/lang/StringUTF16", "coderFromArrayLen", "([BI)B"⟩
abbrev o_m32 : MethodName := ⟨"java/lang/StringLatin1", "newString", "([BII)Ljava/lang/String;"⟩
abbrev o_R15 : Room := ({ frames := 3, cells := 2, slots := 20, locals := 50 } : Room)
abbrev o_m33 : MethodName := ⟨"java/lang/StringUTF16", "compress", "([BI[BII)I"⟩
abbrev o_R16 : Room := ({ frames := 3, cells := 0, slots := 0, locals := 43 } : Room)
abbrev o_m34 : MethodName := ⟨"java/lang/StringUTF16", "compress", "([BII)[B"⟩
abbrev o_R17 : Room := ({ frames := 4, cells := 2, slots := 24, locals := 61 } : Room)
abbrev o_m35 : MethodName := ⟨"java/lang/StringUTF16", "newString", "([BII)Ljava/lang/String;"⟩
abbrev o_R18 : Room := ({ frames := 5, cells := 3, slots := 28, locals := 78 } : Room)
abbrev o_m36 : MethodName := ⟨"java/lang/String", "substring", "(II)Ljava/lang/String;"⟩
abbrev o_R19 : Room := ({ frames := 6, cells := 3, slots := 28, locals := 94 } : Room)
abbrev o_m37 : MethodName := ⟨"java/lang/StringUTF16", "compress", "([CI[BII)I"⟩
abbrev o_R20 : Room := ({ frames := 1, cells := 1, slots := 10, locals := 12 } : Room)
abbrev o_m38 : MethodName := ⟨"java/lang/StringUTF16", "toBytes", "([CII)[B"⟩
abbrev o_R21 : Room := ({ frames := 2, cells := 1, slots := 10, locals := 24 } : Room)
abbrev o_m39 : MethodName := ⟨"java/lang/StringUTF16", "compress", "([CII)[B"⟩
abbrev o_R22 : Room := ({ frames := 3, cells := 2, slots := 15, locals := 40 } : Room)
abbrev o_m40 : MethodName := ⟨"java/lang/String", "<init>", "([CIILjava/lang/Void;)V"⟩
abbrev o_R23 : Room := ({ frames := 4, cells := 2, slots := 15, locals := 57 } : Room)
abbrev o_m41 : MethodName := ⟨"java/lang/String", "<init>", "([C)V"⟩
abbrev o_R24 : Room := ({ frames := 5, cells := 2, slots := 15, locals := 74 } : Room)
abbrev o_m42 : MethodName := ⟨"java/lang/StringLatin1", "indexOf", "([BI[BII)I"⟩
abbrev o_m43 : MethodName := ⟨"java/lang/StringLatin1", "indexOf", "([B[B)I"⟩
abbrev o_R25 : Room := ({ frames := 1, cells := 0, slots := 0, locals := 22 } : Room)
abbrev o_m44 : MethodName := ⟨"java/lang/String", "indexOf", "(Ljava/lang/String;)I"⟩
abbrev o_R26 : Room := ({ frames := 2, cells := 0, slots := 0, locals := 35 } : Room)
abbrev o_m45 : MethodName := ⟨"java/lang/String", "contains", "(Ljava/lang/CharSequence;)Z"⟩
abbrev o_m46 : MethodName := ⟨"java/lang/String", "toString", "()Ljava/lang/String;"⟩
abbrev o_m47 : MethodName := ⟨"java/lang/CharSequence", "toString", "()Ljava/lang/String;"⟩
abbrev o_m48 : MethodName := ⟨"java/lang/StringUTF16", "indexOfLatin1Unsafe", "([BI[BII)I"⟩
abbrev o_m49 : MethodName := ⟨"java/lang/StringUTF16", "indexOfLatin1", "([B[B)I"⟩
abbrev o_R27 : Room := ({ frames := 3, cells := 0, slots := 0, locals := 48 } : Room)
abbrev o_R28 : Room := ({ frames := 4, cells := 0, slots := 0, locals := 62 } : Room)
abbrev o_m50 : MethodName := ⟨"java/lang/StringUTF16", "inflate", "([BI[BII)V"⟩
abbrev o_m51 : MethodName := ⟨"java/lang/StringLatin1", "inflate", "([BI[BII)V"⟩
abbrev o_R29 : Room := ({ frames := 4, cells := 0, slots := 0, locals := 60 } : Room)
abbrev o_m52 : MethodName := ⟨"java/lang/AbstractStringBuilder", "isLatin1", "()Z"⟩
abbrev o_m53 : MethodName := ⟨"java/lang/AbstractStringBuilder", "inflate", "()V"⟩
abbrev o_R30 : Room := ({ frames := 5, cells := 1, slots := 32, locals := 76 } : Room)
abbrev o_R31 : Room := ({ frames := 6, cells := 1, slots := 32, locals := 89 } : Room)
abbrev o_R32 : Room := ({ frames := 2, cells := 0, slots := 0, locals := 25 } : Room)
abbrev o_R33 : Room := ({ frames := 5, cells := 0, slots := 0, locals := 76 } : Room)
abbrev o_R34 : Room := ({ frames := 7, cells := 1, slots := 32, locals := 102 } : Room)
abbrev o_R35 : Room := ({ frames := 8, cells := 1, slots := 32, locals := 116 } : Room)
abbrev o_R36 : Room := ({ frames := 9, cells := 1, slots := 32, locals := 130 } : Room)
abbrev o_R37 : Room := ({ frames := 6, cells := 0, slots := 0, locals := 91 } : Room)
abbrev o_R38 : Room := ({ frames := 7, cells := 0, slots := 0, locals := 105 } : Room)
abbrev o_R39 : Room := ({ frames := 8, cells := 0, slots := 0, locals := 119 } : Room)
abbrev o_m54 : MethodName := ⟨"java/lang/AbstractStringBuilder", "getValue", "()[B"⟩
abbrev o_m55 : MethodName := ⟨"java/lang/AbstractStringBuilder", "length", "()I"⟩
abbrev o_m56 : MethodName := ⟨"java/lang/StringBuilder", "length", "()I"⟩
abbrev o_m57 : MethodName := ⟨"java/lang/String", "<init>", "(Ljava/lang/AbstractStringBuilder;Ljava/lang/Void;)V"⟩
abbrev o_R40 : Room := ({ frames := 3, cells := 1, slots := 16, locals := 49 } : Room)
abbrev o_m58 : MethodName := ⟨"java/lang/String", "<init>", "(Ljava/lang/StringBuilder;)V"⟩
abbrev o_R41 : Room := ({ frames := 4, cells := 1, slots := 16, locals := 65 } : Room)
abbrev o_m59 : MethodName := ⟨"java/lang/StringBuilder", "toString", "()Ljava/lang/String;"⟩
abbrev o_R42 : Room := ({ frames := 5, cells := 2, slots := 20, locals := 79 } : Room)
abbrev o_R43 : Room := ({ frames := 1, cells := 1, slots := 8, locals := 24 } : Room)
abbrev o_R44 : Room := ({ frames := 2, cells := 1, slots := 8, locals := 44 } : Room)
abbrev o_R45 : Room := ({ frames := 3, cells := 1, slots := 8, locals := 64 } : Room)
abbrev o_R46 : Room := ({ frames := 4, cells := 1, slots := 8, locals := 84 } : Room)
abbrev o_R47 : Room := ({ frames := 5, cells := 2, slots := 12, locals := 104 } : Room)
abbrev o_m60 : MethodName := ⟨"java/lang/Record", "<init>", "()V"⟩
abbrev o_m61 : MethodName := ⟨"java/util/Objects", "requireNonNull", "(Ljava/lang/Object;Ljava/lang/String;)Ljava/lang/Object;"⟩
abbrev o_m62 : MethodName := ⟨"org/adviceweft/pointcut/NamePatternParsePinLaw", "drawn", "(I)C"⟩
abbrev o_m63 : MethodName := ⟨"org/adviceweft/pointcut/NamePattern", "core", "()Ljava/lang/String;"⟩
abbrev o_m64 : MethodName := ⟨"org/adviceweft/pointcut/NamePattern", "anyBefore", "()Z"⟩
abbrev o_m65 : MethodName := ⟨"org/adviceweft/pointcut/NamePattern", "anyAfter", "()Z"⟩
abbrev o_m66 : MethodName := ⟨"java/lang/StringLatin1", "canEncode", "(C)Z"⟩
abbrev o_m67 : MethodName := ⟨"java/lang/StringLatin1", "toBytes", "(C)[B"⟩
abbrev o_R48 : Room := ({ frames := 0, cells := 1, slots := 1, locals := 0 } : Room)
abbrev o_m68 : MethodName := ⟨"java/lang/String", "valueOf", "(C)Ljava/lang/String;"⟩
abbrev o_R49 : Room := ({ frames := 2, cells := 2, slots := 5, locals := 27 } : Room)
abbrev o_m69 : MethodName := ⟨"java/lang/AbstractStringBuilder", "<init>", "(I)V"⟩
abbrev o_R50 : Room := ({ frames := 1, cells := 1, slots := 16, locals := 12 } : Room)
abbrev o_m70 : MethodName := ⟨"java/lang/StringBuilder", "<init>", "()V"⟩
abbrev o_R51 : Room := ({ frames := 2, cells := 1, slots := 16, locals := 25 } : Room)
abbrev o_m71 : MethodName := ⟨"org/adviceweft/pointcut/NamePattern", "written", "(Ljava/lang/String;ZZ)Ljava/lang/String;"⟩
abbrev o_R52 : Room := ({ frames := 10, cells := 9, slots := 84, locals := 143 } : Room)
abbrev o_m72 : MethodName := ⟨"org/adviceweft/pointcut/NamePattern", "toString", "()Ljava/lang/String;"⟩
abbrev o_R53 : Room := ({ frames := 11, cells := 9, slots := 84, locals := 157 } : Room)
abbrev o_m73 : MethodName := ⟨"org/adviceweft/pointcut/NamePattern", "<init>", "(Ljava/lang/String;ZZ)V"⟩
abbrev o_R54 : Room := ({ frames := 5, cells := 4, slots := 28, locals := 75 } : Room)
abbrev o_R55 : Room := ({ frames := 3, cells := 4, slots := 28, locals := 40 } : Room)
abbrev o_m74 : MethodName := ⟨"org/adviceweft/pointcut/NamePattern", "parse", "(Ljava/lang/String;)Lorg/adviceweft/pointcut/NamePattern;"⟩
abbrev o_R56 : Room := ({ frames := 4, cells := 11, slots := 75, locals := 56 } : Room)
abbrev o_R57 : Room := ({ frames := 7, cells := 12, slots := 99, locals := 110 } : Room)
theorem o_narB {P : Prop} [Decidable P] : nar .boolean (if P then 1 else 0) = (if P then 1 else 0) := by by_cases q : P <;> simp [q] <;> decide
def o_EL : List (String × Nat) := [("org/adviceweft/pointcut/NamePattern", 63), ("org/adviceweft/pointcut/NamePattern", 17), ("org/adviceweft/pointcut/NamePattern", 69), ("org/adviceweft/pointcut/NamePattern", 7), ("org/adviceweft/pointcut/NamePatternParsePinLaw", 42)]
theorem o_EWs {Z : State} {a0 : Array Value} (hw : ∀ d ∈ tables_1, d.before a0 Z = true) : EW Z a0 o_EL := (EW.cons (o_k hw 34 rfl) (by decide) (EW.cons (o_k hw 41 rfl) (by decide) (EW.cons (o_k hw 52 rfl) (by decide) (EW.cons (o_k hw 62 rfl) (by decide) (EW.cons (o_k hw 235 rfl) (by decide) EW.nil)))))
theorem o_ENs {Z : State} {a0 : Array Value} (hw : ∀ d ∈ tables_1, d.before a0 Z = true) : o_EN Z a0 o_EL (16 : Int32).toNatClampNeg := (o_EN.cons (o_k hw 34 rfl) (by decide) (by decide) (o_EN.cons (o_k hw 41 rfl) (by decide) (by decide) (o_EN.cons (o_k hw 52 rfl) (by decide) (by decide) (o_EN.cons (o_k hw 62 rfl) (by decide) (by decide) (o_EN.cons (o_k hw 235 rfl) (by decide) (by decide) o_EN.nil)))))
theorem o_ELsub : ∀ p ∈ o_EL, p ∈ consts_1 := by decide
theorem o_strat : ∀ d ∈ Bundle.stringAtoms, d ∈ tables_1 := by decide +kernel
theorem o_ENt {Z : State} {a0 : Array Value} (hw : ∀ d ∈ tables_1, d.before a0 Z = true) : o_EN Z a0 o_EL (32 : Int32).toNatClampNeg := (o_EN.cons (o_k hw 34 rfl) (by decide) (by decide) (o_EN.cons (o_k hw 41 rfl) (by decide) (by decide) (o_EN.cons (o_k hw 52 rfl) (by decide) (by decide) (o_EN.cons (o_k hw 62 rfl) (by decide) (by decide) (o_EN.cons (o_k hw 235 rfl) (by decide) (by decide) o_EN.nil)))))
abbrev o_star : List Int32 := [42]
theorem o_narZ {B : Int32} (h : B = 0 ∨ B = 1) : narrow .boolean (.int B) = .int B := by rcases h with rfl | rfl <;> decide
theorem o_fitZ {B : Int32} (h : B = 0 ∨ B = 1) : fits .boolean (.int B) = true := by rcases h with rfl | rfl <;> decide
theorem o_naB {B : Int32} (h : B = 0 ∨ B = 1) : nar .boolean B = B := by rcases h with rfl | rfl <;> decide
def o_dr (x : Int32) : Int32 := if x &&& 255 = 42 then 256 else x &&& 255
theorem o_drP (x : Int32) : ∃ c : Int32, o_dr x = c ∧ nar .char c = c ∧ (¬ c < 0 ∧ ¬ (256 : Int32) < c) ∧ ¬ c = 42 := by
  obtain ⟨c, e1, -, h2, h3, h4⟩ := o_chr x
  by_cases q : x &&& 255 = 42
  · exact ⟨256, by rw [o_dr, if_pos q], by decide, by decide, by decide⟩
  · exact ⟨c, by rw [o_dr, if_neg q, e1], h2, o_chs16 (cs := [c]) (o_csS ⟨h3, h4⟩ o_cs0) c (List.mem_cons_self ..), by rw [e1]; exact q⟩
theorem o_and3 (x : Int32) : x &&& 3 = 0 ∨ x &&& 3 = 1 ∨ x &&& 3 = 2 ∨ x &&& 3 = 3 := by
  have h : (x &&& 3).toInt = x.toInt % 4 := Jvm.Kit.i32_mask x 3 (k := 2) (by decide) (by decide)
  have e0 : (0 : Int32).toInt = 0 := rfl
  have e1 : (1 : Int32).toInt = 1 := rfl
  have e2 : (2 : Int32).toInt = 2 := rfl
  have e3 : (3 : Int32).toInt = 3 := rfl
  simp only [← Int32.toInt_inj]
  omega
theorem o_k3 {k : Int32} (h : k = 0 ∨ k = 1 ∨ k = 2 ∨ k = 3) (q : ¬ k = 0) : k = 1 ∨ k = 2 ∨ k = 3 := h.resolve_left q
def o_wr (B A : Int32) (ds : List Int32) : List Int32 := (if B = 0 then [] else [42]) ++ ds ++ (if A = 0 then [] else [42])
theorem o_w00 (ds : List Int32) : o_wr 0 0 ds = [] ++ ds ++ [] := rfl
theorem o_w01 (ds : List Int32) : o_wr 0 1 ds = [] ++ ds ++ [42] := rfl
theorem o_w10 (ds : List Int32) : o_wr 1 0 ds = [42] ++ ds ++ [] := rfl
theorem o_w11 (ds : List Int32) : o_wr 1 1 ds = [42] ++ ds ++ [42] := rfl
theorem o_wr16 {B A : Int32} {ds : List Int32} (h : o_c16 ds) : o_c16 (o_wr B A ds) := by
  refine o_c16A (o_c16A ?_ h) ?_ <;> split <;> decide
theorem o_wrl {B A : Int32} {ds : List Int32} (h : ds.length ≤ 3) : (o_wr B A ds).length ≤ 5 := by
  unfold o_wr; split <;> split <;> simp <;> omega
theorem o_wr1 {B A : Int32} {ds : List Int32} (h : 1 ≤ ds.length) : 1 ≤ (o_wr B A ds).length := by
  unfold o_wr; simp only [List.length_append]; omega
abbrev o_ns (ds : List Int32) : Prop := ∀ c ∈ ds, ¬ c = 42
theorem o_ns0 : o_ns [] := fun _ h => nomatch h
theorem o_nsS {a : Int32} {L : List Int32} (h1 : ¬ a = 42) (h2 : o_ns L) : o_ns (a :: L) := fun c hc => (List.mem_cons.mp hc).elim (fun e => e ▸ h1) (h2 c)
theorem o_neP {pr ds po : List Int32} (hns : o_ns ds) (hl1 : 1 ≤ ds.length) : ¬ pr ++ ds ++ po = [42] := fun e => by
  have hm : ds[0] ∈ pr ++ ds ++ po := List.mem_append.mpr (Or.inl (List.mem_append.mpr (Or.inr (List.getElem_mem hl1))))
  rw [e] at hm
  exact hns _ (List.getElem_mem hl1) (List.mem_singleton.mp hm)
theorem o_neD {ds : List Int32} (hns : o_ns ds) : ¬ ds = [42] := fun e => by
  subst e; exact hns 42 (List.mem_cons_self ..) rfl
theorem o_h42 {ds po : List Int32} (hns : o_ns ds) (hl1 : 1 ≤ ds.length) : ¬ (ds ++ po).getD 0 0 = 42 := by
  match ds, hl1 with
  | a :: L, _ => exact hns a (List.mem_cons_self ..)
theorem o_h43 {ds : List Int32} (hns : o_ns ds) (hl1 : 1 ≤ ds.length) : ¬ ds.getD 0 0 = 42 := by
  match ds, hl1 with
  | a :: L, _ => exact hns a (List.mem_cons_self ..)
theorem o_l42 (pr ds : List Int32) : (pr ++ ds ++ [42]).getD ((pr ++ ds ++ [42]).length - 1) 0 = 42 := by
  have e : (pr ++ ds ++ [42]).length - 1 = (pr ++ ds).length := by simp only [List.length_append, List.length_cons, List.length_nil]; omega
  rw [e]; simp
theorem o_l43 {ds : List Int32} (hns : o_ns ds) (hl1 : 1 ≤ ds.length) : ¬ ds.getD (ds.length - 1) 0 = 42 := by
  have hlt : ds.length - 1 < ds.length := by omega
  have e : ds.getD (ds.length - 1) 0 = ds[ds.length - 1] := by simp [hlt]
  rw [e]; exact hns _ (List.getElem_mem _)
theorem o_l44 {pr ds : List Int32} (hns : o_ns ds) (hl1 : 1 ≤ ds.length) : ¬ (pr ++ ds ++ []).getD ((pr ++ ds ++ []).length - 1) 0 = 42 := by
  rw [List.append_nil]
  have e : (pr ++ ds).getD ((pr ++ ds).length - 1) 0 = ds[ds.length - 1] := by
    have e1 : (pr ++ ds).length - 1 = pr.length + (ds.length - 1) := by rw [List.length_append]; omega
    rw [e1]
    have hlt : ds.length - 1 < ds.length := by omega
    simp [List.getElem?_append_right, hlt]
  rw [e]; exact hns _ (List.getElem_mem _)
theorem o_pl1 (pr ds : List Int32) : Int32.ofNat (pr ++ ds ++ [42]).length - 1 = Int32.ofNat (pr.length + ds.length) := by
  rw [o_osub1 (by simp only [List.length_append, List.length_cons]; omega)]
  congr 1
  simp only [List.length_append, List.length_cons, List.length_nil]; omega
theorem o_pl0 (pr ds : List Int32) : Int32.ofNat (pr ++ ds ++ []).length - 0 = Int32.ofNat (pr.length + ds.length) := by
  rw [Int32.sub_zero, List.append_nil, List.length_append]
theorem o_A.nil {Z : State} {h : Heap} {x t : Addr} {kd : Int32} (F : o_A Z h x t kd []) : o_Str Z h x t [] := by
  rcases F.ak.k01 with rfl | rfl
  · exact F.str
  · obtain ⟨c, hc, -⟩ := F.ak.big
    cases hc

abbrev o_HW (Z : State) (a0 : Array Value) : Prop := ∀ d ∈ tables_1, d.before a0 Z = true
abbrev o_LC := List Jvm.Cond
abbrev o_P (r : Option Value) (h0 : Heap) (n0 : Nat) (v : Option Value) (h : Heap) (L : List Loc) : Prop := v = r ∧ Fr n0 L ∧ h = h0
abbrev o_FV (Z : State) (h : Heap) (x : Addr) (v : Value) : Prop := Fld Z h x "java/lang/String" "value" "[B" v
abbrev o_FC (Z : State) (h : Heap) (x : Addr) (v : Value) : Prop := Fld Z h x "java/lang/String" "coder" "B" v
abbrev o_GK (Z : State) (h : Heap) (x : Addr) (v : Value) : Prop := Fld Z h x "org/adviceweft/pointcut/NamePattern" "core" "Ljava/lang/String;" v
abbrev o_GB (Z : State) (h : Heap) (x : Addr) (v : Value) : Prop := Fld Z h x "org/adviceweft/pointcut/NamePattern" "anyBefore" "Z" v
abbrev o_GA (Z : State) (h : Heap) (x : Addr) (v : Value) : Prop := Fld Z h x "org/adviceweft/pointcut/NamePattern" "anyAfter" "Z" v
abbrev o_HV (Z : State) (h : Heap) (x : Addr) (v : Value) : Prop := Fld Z h x "java/lang/AbstractStringBuilder" "value" "[B" v
abbrev o_HC (Z : State) (h : Heap) (x : Addr) (v : Value) : Prop := Fld Z h x "java/lang/AbstractStringBuilder" "coder" "B" v
abbrev o_HN (Z : State) (h : Heap) (x : Addr) (v : Value) : Prop := Fld Z h x "java/lang/AbstractStringBuilder" "count" "I" v
abbrev o_HM (Z : State) (h : Heap) (x : Addr) (v : Value) : Prop := Fld Z h x "java/lang/AbstractStringBuilder" "maybeLatin1" "Z" v
abbrev o_SU (Z : State) : Prop := Sta Z Z.heap "java/lang/StringUTF16" "$assertionsDisabled" "Z" (.int 1) ∧ Sta Z Z.heap "java/lang/StringUTF16" "HI_BYTE_SHIFT" "I" (.int 0) ∧ Sta Z Z.heap "java/lang/StringUTF16" "LO_BYTE_SHIFT" "I" (.int 8)
abbrev o_SF (Z : State) (fm : Value) : Prop := Sta Z Z.heap "jdk/internal/util/Preconditions" "SIOOBE_FORMATTER" "Ljava/util/function/BiFunction;" fm
theorem o_ef0 (m : MethodId) (x0 : Addr) (x1 : Int32) : entryFrame m #[(.ref x0), (.int x1)] 2 = mkF m 0 #[.val (.ref x0), .val (.int x1)] [] := by first | (simp [entryFrame, mkF, argsToLocals, Value.category]; done) | rfl
theorem o_pn_0 : plainName "java/lang/StringUTF16" = true := by first | (simp [plainName, overriddenIn]; done) | decide +kernel
theorem oD0_0 : decode oJ18 0 = .ok (.getstatic 44, 3) := by decide +kernel
theorem oD0_3 : decode oJ18 3 = .ok (.ifCond .ne 25, 3) := by decide +kernel
theorem oD0_28 : decode oJ18 28 = .ok (.iload_n 1, 1) := by decide +kernel
theorem oD0_29 : decode oJ18 29 = .ok (.iconst 1, 1) := by decide +kernel
theorem oD0_30 : decode oJ18 30 = .ok (.ishl, 1) := by decide +kernel
theorem oD0_31 : decode oJ18 31 = .ok (.istore_n 1, 1) := by decide +kernel
theorem oD0_32 : decode oJ18 32 = .ok (.aload_n 0, 1) := by decide +kernel
theorem oD0_33 : decode oJ18 33 = .ok (.iload_n 1, 1) := by decide +kernel
theorem oD0_34 : decode oJ18 34 = .ok (.iinc 1 1, 3) := by decide +kernel
theorem oD0_37 : decode oJ18 37 = .ok (.baload, 1) := by decide +kernel
theorem oD0_38 : decode oJ18 38 = .ok (.sipush 255, 3) := by decide +kernel
theorem oD0_41 : decode oJ18 41 = .ok (.iand, 1) := by decide +kernel
theorem oD0_42 : decode oJ18 42 = .ok (.getstatic 59, 3) := by decide +kernel
theorem oD0_45 : decode oJ18 45 = .ok (.ishl, 1) := by decide +kernel
theorem oD0_46 : decode oJ18 46 = .ok (.aload_n 0, 1) := by decide +kernel
theorem oD0_47 : decode oJ18 47 = .ok (.iload_n 1, 1) := by decide +kernel
theorem oD0_48 : decode oJ18 48 = .ok (.baload, 1) := by decide +kernel
theorem oD0_49 : decode oJ18 49 = .ok (.sipush 255, 3) := by decide +kernel
theorem oD0_52 : decode oJ18 52 = .ok (.iand, 1) := by decide +kernel
theorem oD0_53 : decode oJ18 53 = .ok (.getstatic 63, 3) := by decide +kernel
theorem oD0_56 : decode oJ18 56 = .ok (.ishl, 1) := by decide +kernel
theorem oD0_57 : decode oJ18 57 = .ok (.ior, 1) := by decide +kernel
theorem oD0_58 : decode oJ18 58 = .ok (.i2c, 1) := by decide +kernel
theorem oD0_59 : decode oJ18 59 = .ok (.ireturn, 1) := by decide +kernel
theorem o_ef1 (m : MethodId) (x0 : Addr) (x1 : Int32) (x2 : Int32) : entryFrame m #[(.ref x0), (.int x1), (.int x2)] 3 = mkF m 0 #[.val (.ref x0), .val (.int x1), .val (.int x2)] [] := by first | (simp [entryFrame, mkF, argsToLocals, Value.category]; done) | rfl
theorem oD1_0 : decode oJ21 0 = .ok (.getstatic 44, 3) := by decide +kernel
theorem oD1_3 : decode oJ21 3 = .ok (.ifCond .ne 25, 3) := by decide +kernel
theorem oD1_28 : decode oJ21 28 = .ok (.iload_n 1, 1) := by decide +kernel
theorem oD1_29 : decode oJ21 29 = .ok (.iconst 1, 1) := by decide +kernel
theorem oD1_30 : decode oJ21 30 = .ok (.ishl, 1) := by decide +kernel
theorem oD1_31 : decode oJ21 31 = .ok (.istore_n 1, 1) := by decide +kernel
theorem oD1_32 : decode oJ21 32 = .ok (.aload_n 0, 1) := by decide +kernel
theorem oD1_33 : decode oJ21 33 = .ok (.iload_n 1, 1) := by decide +kernel
theorem oD1_34 : decode oJ21 34 = .ok (.iinc 1 1, 3) := by decide +kernel
theorem oD1_37 : decode oJ21 37 = .ok (.iload_n 2, 1) := by decide +kernel
theorem oD1_38 : decode oJ21 38 = .ok (.getstatic 59, 3) := by decide +kernel
theorem oD1_41 : decode oJ21 41 = .ok (.ishr, 1) := by decide +kernel
theorem oD1_42 : decode oJ21 42 = .ok (.i2b, 1) := by decide +kernel
theorem oD1_43 : decode oJ21 43 = .ok (.bastore, 1) := by decide +kernel
theorem oD1_44 : decode oJ21 44 = .ok (.aload_n 0, 1) := by decide +kernel
theorem oD1_45 : decode oJ21 45 = .ok (.iload_n 1, 1) := by decide +kernel
theorem oD1_46 : decode oJ21 46 = .ok (.iload_n 2, 1) := by decide +kernel
theorem oD1_47 : decode oJ21 47 = .ok (.getstatic 63, 3) := by decide +kernel
theorem oD1_50 : decode oJ21 50 = .ok (.ishr, 1) := by decide +kernel
theorem oD1_51 : decode oJ21 51 = .ok (.i2b, 1) := by decide +kernel
theorem oD1_52 : decode oJ21 52 = .ok (.bastore, 1) := by decide +kernel
theorem oD1_53 : decode oJ21 53 = .ok (.return_, 1) := by decide +kernel
theorem o_ef2 (m : MethodId)  : entryFrame m #[(.int 16)] 1 = mkF m 0 #[.val (.int 16)] [] := by first | (simp [entryFrame, mkF, argsToLocals, Value.category]; done) | rfl
theorem oD2_0 : decode oJ39 0 = .ok (.iload_n 0, 1) := by decide +kernel
theorem oD2_1 : decode oJ39 1 = .ok (.ifCond .ge 11, 3) := by decide +kernel
theorem oD2_12 : decode oJ39 12 = .ok (.iload_n 0, 1) := by decide +kernel
theorem oD2_13 : decode oJ39 13 = .ok (.ldc 20, 2) := by decide +kernel
theorem oD2_15 : decode oJ39 15 = .ok (.if_icmp .lt 40, 3) := by decide +kernel
theorem oD2_55 : decode oJ39 55 = .ok (.iload_n 0, 1) := by decide +kernel
theorem oD2_56 : decode oJ39 56 = .ok (.iconst 1, 1) := by decide +kernel
theorem oD2_57 : decode oJ39 57 = .ok (.ishl, 1) := by decide +kernel
theorem oD2_58 : decode oJ39 58 = .ok (.ireturn, 1) := by decide +kernel
theorem oD3_0 : decode jdk_52_method_2_code 0 = .ok (.iload_n 0, 1) := by decide +kernel
theorem oD3_1 : decode jdk_52_method_2_code 1 = .ok (.invokestatic 11, 3) := by decide +kernel
theorem o_pd__28I_29I : parseMethodDescriptor "(I)I" = some ⟨[.int], some .int⟩ := by decide +kernel
theorem oD3_4 : decode jdk_52_method_2_code 4 = .ok (.newarray .byte, 2) := by decide +kernel
theorem oD3_6 : decode jdk_52_method_2_code 6 = .ok (.areturn, 1) := by decide +kernel
theorem o_ef3 (m : MethodId) (x0 : Addr) : entryFrame m #[(.ref x0)] 1 = mkF m 0 #[.val (.ref x0)] [] := by first | (simp [entryFrame, mkF, argsToLocals, Value.category]; done) | rfl
theorem o_pn_1 : plainName "java/lang/String" = true := by first | (simp [plainName, overriddenIn]; done) | decide +kernel
theorem oD4_0 : decode oJ52 0 = .ok (.getstatic 38, 3) := by decide +kernel
theorem oD4_3 : decode oJ52 3 = .ok (.ifCond .eq 10, 3) := by decide +kernel
theorem oD4_6 : decode oJ52 6 = .ok (.aload_n 0, 1) := by decide +kernel
theorem oD4_7 : decode oJ52 7 = .ok (.getfield 15, 3) := by decide +kernel
theorem oD4_10 : decode oJ52 10 = .ok (.goto 4, 3) := by decide +kernel
theorem oD4_14 : decode oJ52 14 = .ok (.ireturn, 1) := by decide +kernel
theorem oD5_0 : decode oJ37 0 = .ok (.getstatic 38, 3) := by decide +kernel
theorem oD5_3 : decode oJ37 3 = .ok (.ifCond .eq 14, 3) := by decide +kernel
theorem oD5_6 : decode oJ37 6 = .ok (.aload_n 0, 1) := by decide +kernel
theorem oD5_7 : decode oJ37 7 = .ok (.getfield 15, 3) := by decide +kernel
theorem oD5_10 : decode oJ37 10 = .ok (.ifCond .ne 7, 3) := by decide +kernel
theorem oD5_13 : decode oJ37 13 = .ok (.iconst 1, 1) := by decide +kernel
theorem oD5_14 : decode oJ37 14 = .ok (.goto 4, 3) := by decide +kernel
theorem oD5_18 : decode oJ37 18 = .ok (.ireturn, 1) := by decide +kernel
theorem oD6_0 : decode oJ47 0 = .ok (.aload_n 0, 1) := by decide +kernel
theorem oD6_1 : decode oJ47 1 = .ok (.getfield 9, 3) := by decide +kernel
theorem oD6_4 : decode oJ47 4 = .ok (.arraylength, 1) := by decide +kernel
theorem oD6_5 : decode oJ47 5 = .ok (.aload_n 0, 1) := by decide +kernel
theorem oD6_6 : decode oJ47 6 = .ok (.invokevirtual 335, 3) := by decide +kernel
theorem o_pd__28_29B : parseMethodDescriptor "()B" = some ⟨[], some .byte⟩ := by decide +kernel
theorem oD6_9 : decode oJ47 9 = .ok (.ishr, 1) := by decide +kernel
theorem oD6_10 : decode oJ47 10 = .ok (.ireturn, 1) := by decide +kernel
theorem o_ef4 (m : MethodId) (x0 : Addr) (x1 : Int32) : entryFrame m #[(.ref x0), (.int x1)] 3 = mkF m 0 #[.val (.ref x0), .val (.int x1), .unset] [] := by first | (simp [entryFrame, mkF, argsToLocals, Value.category]; done) | rfl
theorem o_pn_2 : plainName "java/lang/AbstractStringBuilder" = true := by first | (simp [plainName, overriddenIn]; done) | decide +kernel
theorem oD7_0 : decode oJ33 0 = .ok (.aload_n 0, 1) := by decide +kernel
theorem oD7_1 : decode oJ33 1 = .ok (.getfield 15, 3) := by decide +kernel
theorem oD7_4 : decode oJ33 4 = .ok (.arraylength, 1) := by decide +kernel
theorem oD7_5 : decode oJ33 5 = .ok (.aload_n 0, 1) := by decide +kernel
theorem oD7_6 : decode oJ33 6 = .ok (.getfield 22, 3) := by decide +kernel
theorem oD7_9 : decode oJ33 9 = .ok (.ishr, 1) := by decide +kernel
theorem oD7_10 : decode oJ33 10 = .ok (.istore_n 2, 1) := by decide +kernel
theorem oD7_11 : decode oJ33 11 = .ok (.iload_n 1, 1) := by decide +kernel
theorem oD7_12 : decode oJ33 12 = .ok (.iload_n 2, 1) := by decide +kernel
theorem oD7_13 : decode oJ33 13 = .ok (.isub, 1) := by decide +kernel
theorem oD7_14 : decode oJ33 14 = .ok (.ifCond .le 24, 3) := by decide +kernel
theorem oD7_38 : decode oJ33 38 = .ok (.return_, 1) := by decide +kernel
theorem o_ef5 (m : MethodId) (x0 : Addr) (x1 : Addr) : entryFrame m #[(.ref x0), (.ref x1)] 2 = mkF m 0 #[.val (.ref x0), .val (.ref x1)] [] := by first | (simp [entryFrame, mkF, argsToLocals, Value.category]; done) | rfl
theorem oD8_0 : decode oJ32 0 = .ok (.getstatic 18, 3) := by decide +kernel
theorem oD8_3 : decode oJ32 3 = .ok (.ifCond .eq 18, 3) := by decide +kernel
theorem oD8_6 : decode oJ32 6 = .ok (.aload_n 0, 1) := by decide +kernel
theorem oD8_7 : decode oJ32 7 = .ok (.getfield 22, 3) := by decide +kernel
theorem oD8_10 : decode oJ32 10 = .ok (.aload_n 1, 1) := by decide +kernel
theorem oD8_11 : decode oJ32 11 = .ok (.invokevirtual 40, 3) := by decide +kernel
theorem oD8_14 : decode oJ32 14 = .ok (.if_icmp .eq 7, 3) := by decide +kernel
theorem oD8_21 : decode oJ32 21 = .ok (.return_, 1) := by decide +kernel
theorem o_ef6 (m : MethodId) (x0 : Addr) (x1 : Addr) (x2 : Int32) : entryFrame m #[(.ref x0), (.ref x1), (.int x2), (.int 0)] 4 = mkF m 0 #[.val (.ref x0), .val (.ref x1), .val (.int x2), .val (.int 0)] [] := by first | (simp [entryFrame, mkF, argsToLocals, Value.category]; done) | rfl
theorem oD9_0 : decode oJ7 0 = .ok (.aload_n 0, 1) := by decide +kernel
theorem oD9_1 : decode oJ7 1 = .ok (.invokevirtual 335, 3) := by decide +kernel
theorem oD9_4 : decode oJ7 4 = .ok (.iload_n 3, 1) := by decide +kernel
theorem oD9_5 : decode oJ7 5 = .ok (.if_icmp .ne 23, 3) := by decide +kernel
theorem oD9_8 : decode oJ7 8 = .ok (.aload_n 0, 1) := by decide +kernel
theorem oD9_9 : decode oJ7 9 = .ok (.getfield 9, 3) := by decide +kernel
theorem oD9_12 : decode oJ7 12 = .ok (.iconst 0, 1) := by decide +kernel
theorem oD9_13 : decode oJ7 13 = .ok (.aload_n 1, 1) := by decide +kernel
theorem oD9_14 : decode oJ7 14 = .ok (.iload_n 2, 1) := by decide +kernel
theorem oD9_15 : decode oJ7 15 = .ok (.iload_n 3, 1) := by decide +kernel
theorem oD9_16 : decode oJ7 16 = .ok (.ishl, 1) := by decide +kernel
theorem oD9_17 : decode oJ7 17 = .ok (.aload_n 0, 1) := by decide +kernel
theorem oD9_18 : decode oJ7 18 = .ok (.getfield 9, 3) := by decide +kernel
theorem oD9_21 : decode oJ7 21 = .ok (.arraylength, 1) := by decide +kernel
theorem oD9_22 : decode oJ7 22 = .ok (.invokestatic 212, 3) := by decide +kernel
theorem oD9_25 : decode oJ7 25 = .ok (.goto 18, 3) := by decide +kernel
theorem oD9_43 : decode oJ7 43 = .ok (.return_, 1) := by decide +kernel
theorem o_ef7 (m : MethodId) (x0 : Addr) (x1 : Int32) (x2 : Addr) : entryFrame m #[(.ref x0), (.int x1), (.ref x2)] 3 = mkF m 0 #[.val (.ref x0), .val (.int x1), .val (.ref x2)] [] := by first | (simp [entryFrame, mkF, argsToLocals, Value.category]; done) | rfl
theorem oD10_0 : decode oJ28 0 = .ok (.aload_n 0, 1) := by decide +kernel
theorem oD10_1 : decode oJ28 1 = .ok (.aload_n 2, 1) := by decide +kernel
theorem oD10_2 : decode oJ28 2 = .ok (.invokevirtual 397, 3) := by decide +kernel
theorem o_pd__28Ljava_2flang_2fString_3b_29V : parseMethodDescriptor "(Ljava/lang/String;)V" = some ⟨[(.object "java/lang/String")], none⟩ := by decide +kernel
theorem oD10_5 : decode oJ28 5 = .ok (.aload_n 2, 1) := by decide +kernel
theorem oD10_6 : decode oJ28 6 = .ok (.aload_n 0, 1) := by decide +kernel
theorem oD10_7 : decode oJ28 7 = .ok (.getfield 15, 3) := by decide +kernel
theorem oD10_10 : decode oJ28 10 = .ok (.iload_n 1, 1) := by decide +kernel
theorem oD10_11 : decode oJ28 11 = .ok (.aload_n 0, 1) := by decide +kernel
theorem oD10_12 : decode oJ28 12 = .ok (.getfield 22, 3) := by decide +kernel
theorem oD10_15 : decode oJ28 15 = .ok (.invokevirtual 399, 3) := by decide +kernel
theorem o_pd__28_5bBIB_29V : parseMethodDescriptor "([BIB)V" = some ⟨[(.array .byte), .int, .byte], none⟩ := by decide +kernel
theorem oD10_18 : decode oJ28 18 = .ok (.return_, 1) := by decide +kernel
theorem o_ef8 (m : MethodId) (x0 : Addr) (x1 : Addr) : entryFrame m #[(.ref x0), (.ref x1)] 3 = mkF m 0 #[.val (.ref x0), .val (.ref x1), .unset] [] := by first | (simp [entryFrame, mkF, argsToLocals, Value.category]; done) | rfl
theorem oD11_0 : decode oJ9 0 = .ok (.aload_n 1, 1) := by decide +kernel
theorem oD11_1 : decode oJ9 1 = .ok (.ifnonnull 8, 3) := by decide +kernel
theorem oD11_9 : decode oJ9 9 = .ok (.aload_n 1, 1) := by decide +kernel
theorem oD11_10 : decode oJ9 10 = .ok (.invokevirtual 32, 3) := by decide +kernel
theorem o_pd__28_29I : parseMethodDescriptor "()I" = some ⟨[], some .int⟩ := by decide +kernel
theorem oD11_13 : decode oJ9 13 = .ok (.istore_n 2, 1) := by decide +kernel
theorem oD11_14 : decode oJ9 14 = .ok (.aload_n 0, 1) := by decide +kernel
theorem oD11_15 : decode oJ9 15 = .ok (.aload_n 0, 1) := by decide +kernel
theorem oD11_16 : decode oJ9 16 = .ok (.getfield 79, 3) := by decide +kernel
theorem oD11_19 : decode oJ9 19 = .ok (.iload_n 2, 1) := by decide +kernel
theorem oD11_20 : decode oJ9 20 = .ok (.iadd, 1) := by decide +kernel
theorem oD11_21 : decode oJ9 21 = .ok (.invokevirtual 100, 3) := by decide +kernel
theorem o_pd__28I_29V : parseMethodDescriptor "(I)V" = some ⟨[.int], none⟩ := by decide +kernel
theorem oD11_24 : decode oJ9 24 = .ok (.aload_n 0, 1) := by decide +kernel
theorem oD11_25 : decode oJ9 25 = .ok (.aload_n 0, 1) := by decide +kernel
theorem oD11_26 : decode oJ9 26 = .ok (.getfield 79, 3) := by decide +kernel
theorem oD11_29 : decode oJ9 29 = .ok (.aload_n 1, 1) := by decide +kernel
theorem oD11_30 : decode oJ9 30 = .ok (.invokevirtual 208, 3) := by decide +kernel
theorem o_pd__28ILjava_2flang_2fString_3b_29V : parseMethodDescriptor "(ILjava/lang/String;)V" = some ⟨[.int, (.object "java/lang/String")], none⟩ := by decide +kernel
theorem oD11_33 : decode oJ9 33 = .ok (.aload_n 0, 1) := by decide +kernel
theorem oD11_34 : decode oJ9 34 = .ok (.dup, 1) := by decide +kernel
theorem oD11_35 : decode oJ9 35 = .ok (.getfield 79, 3) := by decide +kernel
theorem oD11_38 : decode oJ9 38 = .ok (.iload_n 2, 1) := by decide +kernel
theorem oD11_39 : decode oJ9 39 = .ok (.iadd, 1) := by decide +kernel
theorem oD11_40 : decode oJ9 40 = .ok (.putfield 79, 3) := by decide +kernel
theorem oD11_43 : decode oJ9 43 = .ok (.aload_n 0, 1) := by decide +kernel
theorem oD11_44 : decode oJ9 44 = .ok (.areturn, 1) := by decide +kernel
theorem o_pn_3 : plainName "java/lang/StringBuilder" = true := by first | (simp [plainName, overriddenIn]; done) | decide +kernel
theorem oD12_0 : decode oJ40 0 = .ok (.aload_n 0, 1) := by decide +kernel
theorem oD12_1 : decode oJ40 1 = .ok (.aload_n 1, 1) := by decide +kernel
theorem oD12_2 : decode oJ40 2 = .ok (.invokespecial 29, 3) := by decide +kernel
theorem o_pd__28Ljava_2flang_2fString_3b_29Ljava_2flang_2fAbstractStringBuilder_3b : parseMethodDescriptor "(Ljava/lang/String;)Ljava/lang/AbstractStringBuilder;" = some ⟨[(.object "java/lang/String")], some (.object "java/lang/AbstractStringBuilder")⟩ := by decide +kernel
theorem oD12_5 : decode oJ40 5 = .ok (.pop, 1) := by decide +kernel
theorem oD12_6 : decode oJ40 6 = .ok (.aload_n 0, 1) := by decide +kernel
theorem oD12_7 : decode oJ40 7 = .ok (.areturn, 1) := by decide +kernel
theorem oD5_17 : decode oJ37 17 = .ok (.iconst 0, 1) := by decide +kernel
theorem oD13_0 : decode oJ43 0 = .ok (.aload_n 0, 1) := by decide +kernel
theorem oD13_1 : decode oJ43 1 = .ok (.getfield 9, 3) := by decide +kernel
theorem oD13_4 : decode oJ43 4 = .ok (.arraylength, 1) := by decide +kernel
theorem oD13_5 : decode oJ43 5 = .ok (.ifCond .ne 7, 3) := by decide +kernel
theorem oD13_12 : decode oJ43 12 = .ok (.iconst 0, 1) := by decide +kernel
theorem oD13_13 : decode oJ43 13 = .ok (.ireturn, 1) := by decide +kernel
theorem o_pn_4 : plainName "java/lang/StringLatin1" = true := by first | (simp [plainName, overriddenIn]; done) | decide +kernel
theorem oD14_0 : decode oJ12 0 = .ok (.aload_n 0, 1) := by decide +kernel
theorem oD14_1 : decode oJ12 1 = .ok (.arraylength, 1) := by decide +kernel
theorem oD14_2 : decode oJ12 2 = .ok (.aload_n 1, 1) := by decide +kernel
theorem oD14_3 : decode oJ12 3 = .ok (.arraylength, 1) := by decide +kernel
theorem oD14_4 : decode oJ12 4 = .ok (.if_icmp .ne 30, 3) := by decide +kernel
theorem oD14_7 : decode oJ12 7 = .ok (.iconst 0, 1) := by decide +kernel
theorem oD14_8 : decode oJ12 8 = .ok (.istore_n 2, 1) := by decide +kernel
theorem oD14_9 : decode oJ12 9 = .ok (.iload_n 2, 1) := by decide +kernel
theorem oD14_10 : decode oJ12 10 = .ok (.aload_n 0, 1) := by decide +kernel
theorem oD14_11 : decode oJ12 11 = .ok (.arraylength, 1) := by decide +kernel
theorem oD14_12 : decode oJ12 12 = .ok (.if_icmp .ge 20, 3) := by decide +kernel
theorem oD14_32 : decode oJ12 32 = .ok (.iconst 1, 1) := by decide +kernel
theorem oD14_33 : decode oJ12 33 = .ok (.ireturn, 1) := by decide +kernel
theorem oD14_15 : decode oJ12 15 = .ok (.aload_n 0, 1) := by decide +kernel
theorem oD14_16 : decode oJ12 16 = .ok (.iload_n 2, 1) := by decide +kernel
theorem oD14_17 : decode oJ12 17 = .ok (.baload, 1) := by decide +kernel
theorem oD14_18 : decode oJ12 18 = .ok (.aload_n 1, 1) := by decide +kernel
theorem oD14_19 : decode oJ12 19 = .ok (.iload_n 2, 1) := by decide +kernel
theorem oD14_20 : decode oJ12 20 = .ok (.baload, 1) := by decide +kernel
theorem oD14_21 : decode oJ12 21 = .ok (.if_icmp .eq 5, 3) := by decide +kernel
theorem oD14_26 : decode oJ12 26 = .ok (.iinc 2 1, 3) := by decide +kernel
theorem oD14_29 : decode oJ12 29 = .ok (.goto (-20), 3) := by decide +kernel
theorem oD15_0 : decode oJ8 0 = .ok (.aload_n 0, 1) := by decide +kernel
theorem oD15_1 : decode oJ8 1 = .ok (.aload_n 1, 1) := by decide +kernel
theorem oD15_2 : decode oJ8 2 = .ok (.if_acmp .ne 5, 3) := by decide +kernel
theorem oD15_5 : decode oJ8 5 = .ok (.iconst 1, 1) := by decide +kernel
theorem oD15_6 : decode oJ8 6 = .ok (.ireturn, 1) := by decide +kernel
theorem oD15_7 : decode oJ8 7 = .ok (.aload_n 1, 1) := by decide +kernel
theorem oD15_8 : decode oJ8 8 = .ok (.instanceof 10, 3) := by decide +kernel
theorem oD15_11 : decode oJ8 11 = .ok (.ifCond .eq 43, 3) := by decide +kernel
theorem oD15_14 : decode oJ8 14 = .ok (.aload_n 1, 1) := by decide +kernel
theorem oD15_15 : decode oJ8 15 = .ok (.checkcast 10, 3) := by decide +kernel
theorem oD15_18 : decode oJ8 18 = .ok (.astore_n 2, 1) := by decide +kernel
theorem oD15_19 : decode oJ8 19 = .ok (.getstatic 38, 3) := by decide +kernel
theorem oD15_22 : decode oJ8 22 = .ok (.ifCond .eq 14, 3) := by decide +kernel
theorem oD15_25 : decode oJ8 25 = .ok (.aload_n 0, 1) := by decide +kernel
theorem oD15_26 : decode oJ8 26 = .ok (.getfield 15, 3) := by decide +kernel
theorem oD15_29 : decode oJ8 29 = .ok (.aload_n 2, 1) := by decide +kernel
theorem oD15_30 : decode oJ8 30 = .ok (.getfield 15, 3) := by decide +kernel
theorem oD15_33 : decode oJ8 33 = .ok (.if_icmp .ne 21, 3) := by decide +kernel
theorem oD15_36 : decode oJ8 36 = .ok (.aload_n 0, 1) := by decide +kernel
theorem oD15_37 : decode oJ8 37 = .ok (.getfield 9, 3) := by decide +kernel
theorem oD15_40 : decode oJ8 40 = .ok (.aload_n 2, 1) := by decide +kernel
theorem oD15_41 : decode oJ8 41 = .ok (.getfield 9, 3) := by decide +kernel
theorem oD15_44 : decode oJ8 44 = .ok (.invokestatic 541, 3) := by decide +kernel
theorem o_pd__28_5bB_5bB_29Z : parseMethodDescriptor "([B[B)Z" = some ⟨[(.array .byte), (.array .byte)], some .boolean⟩ := by decide +kernel
theorem oD15_47 : decode oJ8 47 = .ok (.ifCond .eq 7, 3) := by decide +kernel
theorem oD15_50 : decode oJ8 50 = .ok (.iconst 1, 1) := by decide +kernel
theorem oD15_51 : decode oJ8 51 = .ok (.goto 4, 3) := by decide +kernel
theorem oD15_55 : decode oJ8 55 = .ok (.ireturn, 1) := by decide +kernel
theorem oD14_34 : decode oJ12 34 = .ok (.iconst 0, 1) := by decide +kernel
theorem oD14_35 : decode oJ12 35 = .ok (.ireturn, 1) := by decide +kernel
theorem oD14_24 : decode oJ12 24 = .ok (.iconst 0, 1) := by decide +kernel
theorem oD14_25 : decode oJ12 25 = .ok (.ireturn, 1) := by decide +kernel
theorem oD15_54 : decode oJ8 54 = .ok (.iconst 0, 1) := by decide +kernel
theorem o_ef9 (m : MethodId) (x0 : Addr) (x1 : Int32) (x2 : Addr) : entryFrame m #[(.ref x0), (.int x1), (.ref x2), (.int 0), (.int 1)] 8 = mkF m 0 #[.val (.ref x0), .val (.int x1), .val (.ref x2), .val (.int 0), .val (.int 1), .unset, .unset, .unset] [] := by first | (simp [entryFrame, mkF, argsToLocals, Value.category]; done) | rfl
theorem o_pn_5 : plainName "jdk/internal/util/ArraysSupport" = true := by first | (simp [plainName, overriddenIn]; done) | decide +kernel
theorem oD16_0 : decode oJ16 0 = .ok (.iconst 0, 1) := by decide +kernel
theorem oD16_1 : decode oJ16 1 = .ok (.istore 5, 2) := by decide +kernel
theorem oD16_3 : decode oJ16 3 = .ok (.iload 4, 2) := by decide +kernel
theorem oD16_5 : decode oJ16 5 = .ok (.bipush 7, 2) := by decide +kernel
theorem oD16_7 : decode oJ16 7 = .ok (.if_icmp .le 63, 3) := by decide +kernel
theorem oD16_70 : decode oJ16 70 = .ok (.iload 5, 2) := by decide +kernel
theorem oD16_72 : decode oJ16 72 = .ok (.iload 4, 2) := by decide +kernel
theorem oD16_74 : decode oJ16 74 = .ok (.if_icmp .ge 27, 3) := by decide +kernel
theorem oD16_77 : decode oJ16 77 = .ok (.aload_n 0, 1) := by decide +kernel
theorem oD16_78 : decode oJ16 78 = .ok (.iload_n 1, 1) := by decide +kernel
theorem oD16_79 : decode oJ16 79 = .ok (.iload 5, 2) := by decide +kernel
theorem oD16_81 : decode oJ16 81 = .ok (.iadd, 1) := by decide +kernel
theorem oD16_82 : decode oJ16 82 = .ok (.baload, 1) := by decide +kernel
theorem oD16_83 : decode oJ16 83 = .ok (.aload_n 2, 1) := by decide +kernel
theorem oD16_84 : decode oJ16 84 = .ok (.iload_n 3, 1) := by decide +kernel
theorem oD16_85 : decode oJ16 85 = .ok (.iload 5, 2) := by decide +kernel
theorem oD16_87 : decode oJ16 87 = .ok (.iadd, 1) := by decide +kernel
theorem oD16_88 : decode oJ16 88 = .ok (.baload, 1) := by decide +kernel
theorem oD16_89 : decode oJ16 89 = .ok (.if_icmp .eq 6, 3) := by decide +kernel
theorem oD16_95 : decode oJ16 95 = .ok (.iinc 5 1, 3) := by decide +kernel
theorem oD16_98 : decode oJ16 98 = .ok (.goto (-28), 3) := by decide +kernel
theorem oD16_101 : decode oJ16 101 = .ok (.iconst (-1), 1) := by decide +kernel
theorem oD16_102 : decode oJ16 102 = .ok (.ireturn, 1) := by decide +kernel
theorem oD16_92 : decode oJ16 92 = .ok (.iload 5, 2) := by decide +kernel
theorem oD16_94 : decode oJ16 94 = .ok (.ireturn, 1) := by decide +kernel
theorem o_ef10 (m : MethodId) (x0 : Addr) (x1 : Addr) (x2 : Int32) : entryFrame m #[(.ref x0), (.ref x1), (.int x2)] 8 = mkF m 0 #[.val (.ref x0), .val (.ref x1), .val (.int x2), .unset, .unset, .unset, .unset, .unset] [] := by first | (simp [entryFrame, mkF, argsToLocals, Value.category]; done) | rfl
theorem oD17_0 : decode oJ0 0 = .ok (.iload_n 2, 1) := by decide +kernel
theorem oD17_1 : decode oJ0 1 = .ok (.ifCond .lt 16, 3) := by decide +kernel
theorem oD17_4 : decode oJ0 4 = .ok (.iload_n 2, 1) := by decide +kernel
theorem oD17_5 : decode oJ0 5 = .ok (.aload_n 0, 1) := by decide +kernel
theorem oD17_6 : decode oJ0 6 = .ok (.invokevirtual 505, 3) := by decide +kernel
theorem oD17_9 : decode oJ0 9 = .ok (.aload_n 1, 1) := by decide +kernel
theorem oD17_10 : decode oJ0 10 = .ok (.invokevirtual 505, 3) := by decide +kernel
theorem oD17_13 : decode oJ0 13 = .ok (.isub, 1) := by decide +kernel
theorem oD17_14 : decode oJ0 14 = .ok (.if_icmp .le 5, 3) := by decide +kernel
theorem oD17_19 : decode oJ0 19 = .ok (.aload_n 0, 1) := by decide +kernel
theorem oD17_20 : decode oJ0 20 = .ok (.getfield 9, 3) := by decide +kernel
theorem oD17_23 : decode oJ0 23 = .ok (.astore_n 3, 1) := by decide +kernel
theorem oD17_24 : decode oJ0 24 = .ok (.aload_n 1, 1) := by decide +kernel
theorem oD17_25 : decode oJ0 25 = .ok (.getfield 9, 3) := by decide +kernel
theorem oD17_28 : decode oJ0 28 = .ok (.astore 4, 2) := by decide +kernel
theorem oD17_30 : decode oJ0 30 = .ok (.iconst 0, 1) := by decide +kernel
theorem oD17_31 : decode oJ0 31 = .ok (.istore 5, 2) := by decide +kernel
theorem oD17_33 : decode oJ0 33 = .ok (.aload 4, 2) := by decide +kernel
theorem oD17_35 : decode oJ0 35 = .ok (.arraylength, 1) := by decide +kernel
theorem oD17_36 : decode oJ0 36 = .ok (.istore 6, 2) := by decide +kernel
theorem oD17_38 : decode oJ0 38 = .ok (.aload_n 0, 1) := by decide +kernel
theorem oD17_39 : decode oJ0 39 = .ok (.invokevirtual 335, 3) := by decide +kernel
theorem oD17_42 : decode oJ0 42 = .ok (.istore 7, 2) := by decide +kernel
theorem oD17_44 : decode oJ0 44 = .ok (.iload 7, 2) := by decide +kernel
theorem oD17_46 : decode oJ0 46 = .ok (.aload_n 1, 1) := by decide +kernel
theorem oD17_47 : decode oJ0 47 = .ok (.invokevirtual 335, 3) := by decide +kernel
theorem oD17_50 : decode oJ0 50 = .ok (.if_icmp .ne 32, 3) := by decide +kernel
theorem oD17_53 : decode oJ0 53 = .ok (.iload 7, 2) := by decide +kernel
theorem oD17_55 : decode oJ0 55 = .ok (.iconst 1, 1) := by decide +kernel
theorem oD17_56 : decode oJ0 56 = .ok (.if_icmp .ne 7, 3) := by decide +kernel
theorem oD17_63 : decode oJ0 63 = .ok (.aload_n 3, 1) := by decide +kernel
theorem oD17_64 : decode oJ0 64 = .ok (.iload_n 2, 1) := by decide +kernel
theorem oD17_65 : decode oJ0 65 = .ok (.aload 4, 2) := by decide +kernel
theorem oD17_67 : decode oJ0 67 = .ok (.iconst 0, 1) := by decide +kernel
theorem oD17_68 : decode oJ0 68 = .ok (.iload 6, 2) := by decide +kernel
theorem oD17_70 : decode oJ0 70 = .ok (.invokestatic 607, 3) := by decide +kernel
theorem o_pd__28_5bBI_5bBII_29I : parseMethodDescriptor "([BI[BII)I" = some ⟨[(.array .byte), .int, (.array .byte), .int, .int], some .int⟩ := by decide +kernel
theorem oD17_73 : decode oJ0 73 = .ok (.ifCond .ge 7, 3) := by decide +kernel
theorem oD17_80 : decode oJ0 80 = .ok (.iconst 0, 1) := by decide +kernel
theorem oD17_81 : decode oJ0 81 = .ok (.ireturn, 1) := by decide +kernel
theorem oD17_76 : decode oJ0 76 = .ok (.iconst 1, 1) := by decide +kernel
theorem oD17_77 : decode oJ0 77 = .ok (.goto 4, 3) := by decide +kernel
theorem oD17_82 : decode oJ0 82 = .ok (.iload 7, 2) := by decide +kernel
theorem oD17_84 : decode oJ0 84 = .ok (.ifCond .ne 5, 3) := by decide +kernel
theorem oD17_89 : decode oJ0 89 = .ok (.iload 5, 2) := by decide +kernel
theorem oD17_91 : decode oJ0 91 = .ok (.iload 6, 2) := by decide +kernel
theorem oD17_93 : decode oJ0 93 = .ok (.if_icmp .ge 28, 3) := by decide +kernel
theorem oD17_96 : decode oJ0 96 = .ok (.aload_n 3, 1) := by decide +kernel
theorem oD17_97 : decode oJ0 97 = .ok (.iload_n 2, 1) := by decide +kernel
theorem oD17_98 : decode oJ0 98 = .ok (.iinc 2 1, 3) := by decide +kernel
theorem oD17_101 : decode oJ0 101 = .ok (.invokestatic 360, 3) := by decide +kernel
theorem o_pd__28_5bBI_29C : parseMethodDescriptor "([BI)C" = some ⟨[(.array .byte), .int], some .char⟩ := by decide +kernel
theorem oD17_104 : decode oJ0 104 = .ok (.aload 4, 2) := by decide +kernel
theorem oD17_106 : decode oJ0 106 = .ok (.iload 5, 2) := by decide +kernel
theorem oD17_108 : decode oJ0 108 = .ok (.iinc 5 1, 3) := by decide +kernel
theorem oD17_111 : decode oJ0 111 = .ok (.baload, 1) := by decide +kernel
theorem oD17_112 : decode oJ0 112 = .ok (.sipush 255, 3) := by decide +kernel
theorem oD17_115 : decode oJ0 115 = .ok (.iand, 1) := by decide +kernel
theorem oD17_116 : decode oJ0 116 = .ok (.if_icmp .eq (-27), 3) := by decide +kernel
theorem oD17_121 : decode oJ0 121 = .ok (.iconst 1, 1) := by decide +kernel
theorem oD17_122 : decode oJ0 122 = .ok (.ireturn, 1) := by decide +kernel
theorem oD17_119 : decode oJ0 119 = .ok (.iconst 0, 1) := by decide +kernel
theorem oD17_120 : decode oJ0 120 = .ok (.ireturn, 1) := by decide +kernel
theorem oD18_0 : decode jdk_42_method_76_code 0 = .ok (.aload_n 0, 1) := by decide +kernel
theorem oD18_1 : decode jdk_42_method_76_code 1 = .ok (.aload_n 1, 1) := by decide +kernel
theorem oD18_2 : decode jdk_42_method_76_code 2 = .ok (.iconst 0, 1) := by decide +kernel
theorem oD18_3 : decode jdk_42_method_76_code 3 = .ok (.invokevirtual 624, 3) := by decide +kernel
theorem o_pd__28Ljava_2flang_2fString_3bI_29Z : parseMethodDescriptor "(Ljava/lang/String;I)Z" = some ⟨[(.object "java/lang/String"), .int], some .boolean⟩ := by decide +kernel
theorem oD18_6 : decode jdk_42_method_76_code 6 = .ok (.ireturn, 1) := by decide +kernel
theorem oD19_0 : decode oJ44 0 = .ok (.aload_n 0, 1) := by decide +kernel
theorem oD19_1 : decode oJ44 1 = .ok (.aload_n 1, 1) := by decide +kernel
theorem oD19_2 : decode oJ44 2 = .ok (.aload_n 0, 1) := by decide +kernel
theorem oD19_3 : decode oJ44 3 = .ok (.invokevirtual 505, 3) := by decide +kernel
theorem oD19_6 : decode oJ44 6 = .ok (.aload_n 1, 1) := by decide +kernel
theorem oD19_7 : decode oJ44 7 = .ok (.invokevirtual 505, 3) := by decide +kernel
theorem oD19_10 : decode oJ44 10 = .ok (.isub, 1) := by decide +kernel
theorem oD19_11 : decode oJ44 11 = .ok (.invokevirtual 624, 3) := by decide +kernel
theorem oD19_14 : decode oJ44 14 = .ok (.ireturn, 1) := by decide +kernel
theorem o_ef11 (m : MethodId) (x0 : Int32) (x1 : Int32) (x2 : Int32) (x3 : Value) (hx3 : x3.isRef = true) : entryFrame m #[(.int x0), (.int x1), (.int x2), x3] 4 = mkF m 0 #[.val (.int x0), .val (.int x1), .val (.int x2), .val x3] [] := by rcases ref_cases hx3 with rfl | ⟨_, rfl⟩ <;> first | (simp [entryFrame, mkF, argsToLocals, Value.category]; done) | rfl
theorem o_pn_6 : plainName "jdk/internal/util/Preconditions" = true := by first | (simp [plainName, overriddenIn]; done) | decide +kernel
theorem oD20_0 : decode oJ29 0 = .ok (.iload_n 2, 1) := by decide +kernel
theorem oD20_1 : decode oJ29 1 = .ok (.iload_n 0, 1) := by decide +kernel
theorem oD20_2 : decode oJ29 2 = .ok (.ior, 1) := by decide +kernel
theorem oD20_3 : decode oJ29 3 = .ok (.iload_n 1, 1) := by decide +kernel
theorem oD20_4 : decode oJ29 4 = .ok (.ior, 1) := by decide +kernel
theorem oD20_5 : decode oJ29 5 = .ok (.ifCond .lt 10, 3) := by decide +kernel
theorem oD20_8 : decode oJ29 8 = .ok (.iload_n 1, 1) := by decide +kernel
theorem oD20_9 : decode oJ29 9 = .ok (.iload_n 2, 1) := by decide +kernel
theorem oD20_10 : decode oJ29 10 = .ok (.iload_n 0, 1) := by decide +kernel
theorem oD20_11 : decode oJ29 11 = .ok (.isub, 1) := by decide +kernel
theorem oD20_12 : decode oJ29 12 = .ok (.if_icmp .le 11, 3) := by decide +kernel
theorem oD20_23 : decode oJ29 23 = .ok (.iload_n 0, 1) := by decide +kernel
theorem oD20_24 : decode oJ29 24 = .ok (.ireturn, 1) := by decide +kernel
theorem o_ef12 (m : MethodId) (x0 : Int32) (x1 : Int32) (x2 : Int32) : entryFrame m #[(.int x0), (.int x1), (.int x2)] 3 = mkF m 0 #[.val (.int x0), .val (.int x1), .val (.int x2)] [] := by first | (simp [entryFrame, mkF, argsToLocals, Value.category]; done) | rfl
theorem oD21_0 : decode oJ55 0 = .ok (.iload_n 0, 1) := by decide +kernel
theorem oD21_1 : decode oJ55 1 = .ok (.iload_n 1, 1) := by decide +kernel
theorem oD21_2 : decode oJ55 2 = .ok (.iload_n 2, 1) := by decide +kernel
theorem oD21_3 : decode oJ55 3 = .ok (.getstatic 1053, 3) := by decide +kernel
theorem oD21_6 : decode oJ55 6 = .ok (.invokestatic 1065, 3) := by decide +kernel
theorem o_pd__28IIILjava_2futil_2ffunction_2fBiFunction_3b_29I : parseMethodDescriptor "(IIILjava/util/function/BiFunction;)I" = some ⟨[.int, .int, .int, (.object "java/util/function/BiFunction")], some .int⟩ := by decide +kernel
theorem oD21_9 : decode oJ55 9 = .ok (.ireturn, 1) := by decide +kernel
theorem oD22_0 : decode jdk_52_method_6_code 0 = .ok (.aload_n 0, 1) := by decide +kernel
theorem oD22_1 : decode jdk_52_method_6_code 1 = .ok (.arraylength, 1) := by decide +kernel
theorem oD22_2 : decode jdk_52_method_6_code 2 = .ok (.iconst 1, 1) := by decide +kernel
theorem oD22_3 : decode jdk_52_method_6_code 3 = .ok (.ishr, 1) := by decide +kernel
theorem oD22_4 : decode jdk_52_method_6_code 4 = .ok (.ireturn, 1) := by decide +kernel
theorem o_ef13 (m : MethodId) (x0 : Int32) (x1 : Int32) (x2 : Addr) : entryFrame m #[(.int x0), (.int x1), (.ref x2)] 3 = mkF m 0 #[.val (.int x0), .val (.int x1), .val (.ref x2)] [] := by first | (simp [entryFrame, mkF, argsToLocals, Value.category]; done) | rfl
theorem oD23_0 : decode oJ54 0 = .ok (.iload_n 0, 1) := by decide +kernel
theorem oD23_1 : decode oJ54 1 = .ok (.iload_n 1, 1) := by decide +kernel
theorem oD23_2 : decode oJ54 2 = .ok (.aload_n 2, 1) := by decide +kernel
theorem oD23_3 : decode oJ54 3 = .ok (.invokestatic 48, 3) := by decide +kernel
theorem o_pd__28_5bB_29I : parseMethodDescriptor "([B)I" = some ⟨[(.array .byte)], some .int⟩ := by decide +kernel
theorem oD23_6 : decode oJ54 6 = .ok (.invokestatic 419, 3) := by decide +kernel
theorem o_pd__28III_29I : parseMethodDescriptor "(III)I" = some ⟨[.int, .int, .int], some .int⟩ := by decide +kernel
theorem oD23_9 : decode oJ54 9 = .ok (.pop, 1) := by decide +kernel
theorem oD23_10 : decode oJ54 10 = .ok (.return_, 1) := by decide +kernel
theorem oD24_0 : decode oJ36 0 = .ok (.iload_n 0, 1) := by decide +kernel
theorem oD24_1 : decode oJ36 1 = .ok (.ifCond .lt 13, 3) := by decide +kernel
theorem oD24_4 : decode oJ36 4 = .ok (.iload_n 0, 1) := by decide +kernel
theorem oD24_5 : decode oJ36 5 = .ok (.iload_n 1, 1) := by decide +kernel
theorem oD24_6 : decode oJ36 6 = .ok (.if_icmp .gt 8, 3) := by decide +kernel
theorem oD24_9 : decode oJ36 9 = .ok (.iload_n 1, 1) := by decide +kernel
theorem oD24_10 : decode oJ36 10 = .ok (.iload_n 2, 1) := by decide +kernel
theorem oD24_11 : decode oJ36 11 = .ok (.if_icmp .le 11, 3) := by decide +kernel
theorem oD24_22 : decode oJ36 22 = .ok (.iload_n 0, 1) := by decide +kernel
theorem oD24_23 : decode oJ36 23 = .ok (.ireturn, 1) := by decide +kernel
theorem oD25_0 : decode oJ53 0 = .ok (.iload_n 0, 1) := by decide +kernel
theorem oD25_1 : decode oJ53 1 = .ok (.iload_n 1, 1) := by decide +kernel
theorem oD25_2 : decode oJ53 2 = .ok (.iload_n 2, 1) := by decide +kernel
theorem oD25_3 : decode oJ53 3 = .ok (.getstatic 1053, 3) := by decide +kernel
theorem oD25_6 : decode oJ53 6 = .ok (.invokestatic 1062, 3) := by decide +kernel
theorem oD25_9 : decode oJ53 9 = .ok (.pop, 1) := by decide +kernel
theorem oD25_10 : decode oJ53 10 = .ok (.return_, 1) := by decide +kernel
theorem o_ef14 (m : MethodId) (x0 : Int32) (x1 : Int32) : entryFrame m #[(.int x0), (.int x1)] 2 = mkF m 0 #[.val (.int x0), .val (.int x1)] [] := by first | (simp [entryFrame, mkF, argsToLocals, Value.category]; done) | rfl
theorem oD26_0 : decode oJ45 0 = .ok (.iload_n 0, 1) := by decide +kernel
theorem oD26_1 : decode oJ45 1 = .ok (.iload_n 1, 1) := by decide +kernel
theorem oD26_2 : decode oJ45 2 = .ok (.if_icmp .gt 7, 3) := by decide +kernel
theorem oD26_9 : decode oJ45 9 = .ok (.iload_n 1, 1) := by decide +kernel
theorem oD26_10 : decode oJ45 10 = .ok (.ireturn, 1) := by decide +kernel
theorem oD26_5 : decode oJ45 5 = .ok (.iload_n 0, 1) := by decide +kernel
theorem oD26_6 : decode oJ45 6 = .ok (.goto 4, 3) := by decide +kernel
theorem o_pn_7 : plainName "java/util/Arrays" = true := by first | (simp [plainName, overriddenIn]; done) | decide +kernel
theorem oD27_0 : decode jdk_65_method_131_code 0 = .ok (.iload_n 1, 1) := by decide +kernel
theorem oD27_1 : decode jdk_65_method_131_code 1 = .ok (.iload_n 0, 1) := by decide +kernel
theorem oD27_2 : decode jdk_65_method_131_code 2 = .ok (.if_icmp .ge 35, 3) := by decide +kernel
theorem oD27_37 : decode jdk_65_method_131_code 37 = .ok (.return_, 1) := by decide +kernel
theorem o_ef15 (m : MethodId) (x0 : Addr) (x1 : Int32) (x2 : Int32) : entryFrame m #[(.ref x0), (.int x1), (.int x2)] 5 = mkF m 0 #[.val (.ref x0), .val (.int x1), .val (.int x2), .unset, .unset] [] := by first | (simp [entryFrame, mkF, argsToLocals, Value.category]; done) | rfl
theorem oD28_0 : decode oJ19 0 = .ok (.iload_n 1, 1) := by decide +kernel
theorem oD28_1 : decode oJ19 1 = .ok (.iload_n 2, 1) := by decide +kernel
theorem oD28_2 : decode oJ19 2 = .ok (.invokestatic 343, 3) := by decide +kernel
theorem o_pd__28II_29V : parseMethodDescriptor "(II)V" = some ⟨[.int, .int], none⟩ := by decide +kernel
theorem oD28_5 : decode oJ19 5 = .ok (.iload_n 2, 1) := by decide +kernel
theorem oD28_6 : decode oJ19 6 = .ok (.iload_n 1, 1) := by decide +kernel
theorem oD28_7 : decode oJ19 7 = .ok (.isub, 1) := by decide +kernel
theorem oD28_8 : decode oJ19 8 = .ok (.istore_n 3, 1) := by decide +kernel
theorem oD28_9 : decode oJ19 9 = .ok (.iload_n 3, 1) := by decide +kernel
theorem oD28_10 : decode oJ19 10 = .ok (.newarray .byte, 2) := by decide +kernel
theorem oD28_12 : decode oJ19 12 = .ok (.astore 4, 2) := by decide +kernel
theorem oD28_14 : decode oJ19 14 = .ok (.aload_n 0, 1) := by decide +kernel
theorem oD28_15 : decode oJ19 15 = .ok (.iload_n 1, 1) := by decide +kernel
theorem oD28_16 : decode oJ19 16 = .ok (.aload 4, 2) := by decide +kernel
theorem oD28_18 : decode oJ19 18 = .ok (.iconst 0, 1) := by decide +kernel
theorem oD28_19 : decode oJ19 19 = .ok (.aload_n 0, 1) := by decide +kernel
theorem oD28_20 : decode oJ19 20 = .ok (.arraylength, 1) := by decide +kernel
theorem oD28_21 : decode oJ19 21 = .ok (.iload_n 1, 1) := by decide +kernel
theorem oD28_22 : decode oJ19 22 = .ok (.isub, 1) := by decide +kernel
theorem oD28_23 : decode oJ19 23 = .ok (.iload_n 3, 1) := by decide +kernel
theorem oD28_24 : decode oJ19 24 = .ok (.invokestatic 304, 3) := by decide +kernel
theorem o_pd__28II_29I : parseMethodDescriptor "(II)I" = some ⟨[.int, .int], some .int⟩ := by decide +kernel
theorem oD28_27 : decode oJ19 27 = .ok (.invokestatic 150, 3) := by decide +kernel
theorem oD28_30 : decode oJ19 30 = .ok (.aload 4, 2) := by decide +kernel
theorem oD28_32 : decode oJ19 32 = .ok (.areturn, 1) := by decide +kernel
theorem oD29_0 : decode oJ35 0 = .ok (.iload_n 1, 1) := by decide +kernel
theorem oD29_1 : decode oJ35 1 = .ok (.ifCond .ne 9, 3) := by decide +kernel
theorem oD29_10 : decode oJ35 10 = .ok (.aload_n 0, 1) := by decide +kernel
theorem oD29_11 : decode oJ35 11 = .ok (.iload_n 1, 1) := by decide +kernel
theorem oD29_12 : decode oJ35 12 = .ok (.iload_n 2, 1) := by decide +kernel
theorem oD29_13 : decode oJ35 13 = .ok (.invokestatic 339, 3) := by decide +kernel
theorem o_pd__28_5bBII_29_5bB : parseMethodDescriptor "([BII)[B" = some ⟨[(.array .byte), .int, .int], some (.array .byte)⟩ := by decide +kernel
theorem oD29_16 : decode oJ35 16 = .ok (.areturn, 1) := by decide +kernel
theorem oD29_4 : decode oJ35 4 = .ok (.iload_n 2, 1) := by decide +kernel
theorem oD29_5 : decode oJ35 5 = .ok (.aload_n 0, 1) := by decide +kernel
theorem oD29_6 : decode oJ35 6 = .ok (.arraylength, 1) := by decide +kernel
theorem oD29_7 : decode oJ35 7 = .ok (.if_icmp .eq 10, 3) := by decide +kernel
theorem o_ef16 (m : MethodId) (x0 : Addr) (x1 : Addr) (x2 : Int32) : entryFrame m #[(.ref x0), (.ref x1), (.int x2)] 3 = mkF m 0 #[.val (.ref x0), .val (.ref x1), .val (.int x2)] [] := by first | (simp [entryFrame, mkF, argsToLocals, Value.category]; done) | rfl
theorem oD30_0 : decode oJ42 0 = .ok (.aload_n 0, 1) := by decide +kernel
theorem oD30_1 : decode oJ42 1 = .ok (.invokespecial 1, 3) := by decide +kernel
theorem oD30_4 : decode oJ42 4 = .ok (.aload_n 0, 1) := by decide +kernel
theorem oD30_5 : decode oJ42 5 = .ok (.aload_n 1, 1) := by decide +kernel
theorem oD30_6 : decode oJ42 6 = .ok (.putfield 9, 3) := by decide +kernel
theorem oD30_9 : decode oJ42 9 = .ok (.aload_n 0, 1) := by decide +kernel
theorem oD30_10 : decode oJ42 10 = .ok (.iload_n 2, 1) := by decide +kernel
theorem oD30_11 : decode oJ42 11 = .ok (.putfield 15, 3) := by decide +kernel
theorem oD30_14 : decode oJ42 14 = .ok (.return_, 1) := by decide +kernel
theorem oD31_0 : decode oJ50 0 = .ok (.iload_n 1, 1) := by decide +kernel
theorem oD31_1 : decode oJ50 1 = .ok (.aload_n 0, 1) := by decide +kernel
theorem oD31_2 : decode oJ50 2 = .ok (.arraylength, 1) := by decide +kernel
theorem oD31_3 : decode oJ50 3 = .ok (.isub, 1) := by decide +kernel
theorem oD31_4 : decode oJ50 4 = .ok (.bipush 31, 2) := by decide +kernel
theorem oD31_6 : decode oJ50 6 = .ok (.iushr, 1) := by decide +kernel
theorem oD31_7 : decode oJ50 7 = .ok (.i2b, 1) := by decide +kernel
theorem oD31_8 : decode oJ50 8 = .ok (.ireturn, 1) := by decide +kernel
theorem o_ef17 (m : MethodId) (x0 : Int32) : entryFrame m #[(.int x0)] 1 = mkF m 0 #[.val (.int x0)] [] := by first | (simp [entryFrame, mkF, argsToLocals, Value.category]; done) | rfl
theorem oD32_0 : decode oJ30 0 = .ok (.iload_n 2, 1) := by decide +kernel
theorem oD32_1 : decode oJ30 1 = .ok (.ifCond .ne 6, 3) := by decide +kernel
theorem oD32_7 : decode oJ30 7 = .ok (.new 1, 3) := by decide +kernel
theorem oD32_10 : decode oJ30 10 = .ok (.dup, 1) := by decide +kernel
theorem oD32_11 : decode oJ30 11 = .ok (.aload_n 0, 1) := by decide +kernel
theorem oD32_12 : decode oJ30 12 = .ok (.iload_n 1, 1) := by decide +kernel
theorem oD32_13 : decode oJ30 13 = .ok (.iload_n 1, 1) := by decide +kernel
theorem oD32_14 : decode oJ30 14 = .ok (.iload_n 2, 1) := by decide +kernel
theorem oD32_15 : decode oJ30 15 = .ok (.iadd, 1) := by decide +kernel
theorem oD32_16 : decode oJ30 16 = .ok (.invokestatic 232, 3) := by decide +kernel
theorem oD32_19 : decode oJ30 19 = .ok (.iconst 0, 1) := by decide +kernel
theorem oD32_20 : decode oJ30 20 = .ok (.invokespecial 112, 3) := by decide +kernel
theorem o_pd__28_5bBB_29V : parseMethodDescriptor "([BB)V" = some ⟨[(.array .byte), .byte], none⟩ := by decide +kernel
theorem oD32_23 : decode oJ30 23 = .ok (.areturn, 1) := by decide +kernel
theorem o_ef18 (m : MethodId) (x0 : Addr) (x1 : Int32) (x2 : Addr) (x4 : Int32) : entryFrame m #[(.ref x0), (.int x1), (.ref x2), (.int 0), (.int x4)] 7 = mkF m 0 #[.val (.ref x0), .val (.int x1), .val (.ref x2), .val (.int 0), .val (.int x4), .unset, .unset] [] := by first | (simp [entryFrame, mkF, argsToLocals, Value.category]; done) | rfl
theorem oD33_0 : decode oJ14 0 = .ok (.iload_n 1, 1) := by decide +kernel
theorem oD33_1 : decode oJ14 1 = .ok (.iload 4, 2) := by decide +kernel
theorem oD33_3 : decode oJ14 3 = .ok (.aload_n 0, 1) := by decide +kernel
theorem oD33_4 : decode oJ14 4 = .ok (.invokestatic 173, 3) := by decide +kernel
theorem o_pd__28II_5bB_29V : parseMethodDescriptor "(II[B)V" = some ⟨[.int, .int, (.array .byte)], none⟩ := by decide +kernel
theorem oD33_7 : decode oJ14 7 = .ok (.iconst 0, 1) := by decide +kernel
theorem oD33_8 : decode oJ14 8 = .ok (.istore 5, 2) := by decide +kernel
theorem oD33_10 : decode oJ14 10 = .ok (.iload 5, 2) := by decide +kernel
theorem oD33_12 : decode oJ14 12 = .ok (.iload 4, 2) := by decide +kernel
theorem oD33_14 : decode oJ14 14 = .ok (.if_icmp .ge 39, 3) := by decide +kernel
theorem oD33_17 : decode oJ14 17 = .ok (.aload_n 0, 1) := by decide +kernel
theorem oD33_18 : decode oJ14 18 = .ok (.iload_n 1, 1) := by decide +kernel
theorem oD33_19 : decode oJ14 19 = .ok (.invokestatic 71, 3) := by decide +kernel
theorem oD33_22 : decode oJ14 22 = .ok (.istore 6, 2) := by decide +kernel
theorem oD33_24 : decode oJ14 24 = .ok (.iload 6, 2) := by decide +kernel
theorem oD33_26 : decode oJ14 26 = .ok (.sipush 255, 3) := by decide +kernel
theorem oD33_29 : decode oJ14 29 = .ok (.if_icmp .le 6, 3) := by decide +kernel
theorem oD33_35 : decode oJ14 35 = .ok (.aload_n 2, 1) := by decide +kernel
theorem oD33_36 : decode oJ14 36 = .ok (.iload_n 3, 1) := by decide +kernel
theorem oD33_37 : decode oJ14 37 = .ok (.iload 6, 2) := by decide +kernel
theorem oD33_39 : decode oJ14 39 = .ok (.i2b, 1) := by decide +kernel
theorem oD33_40 : decode oJ14 40 = .ok (.bastore, 1) := by decide +kernel
theorem oD33_41 : decode oJ14 41 = .ok (.iinc 1 1, 3) := by decide +kernel
theorem oD33_44 : decode oJ14 44 = .ok (.iinc 3 1, 3) := by decide +kernel
theorem oD33_47 : decode oJ14 47 = .ok (.iinc 5 1, 3) := by decide +kernel
theorem oD33_50 : decode oJ14 50 = .ok (.goto (-40), 3) := by decide +kernel
theorem oD33_32 : decode oJ14 32 = .ok (.iload 5, 2) := by decide +kernel
theorem oD33_34 : decode oJ14 34 = .ok (.ireturn, 1) := by decide +kernel
theorem o_ef19 (m : MethodId) (x0 : Addr) (x1 : Int32) (x2 : Int32) : entryFrame m #[(.ref x0), (.int x1), (.int x2)] 6 = mkF m 0 #[.val (.ref x0), .val (.int x1), .val (.int x2), .unset, .unset, .unset] [] := by first | (simp [entryFrame, mkF, argsToLocals, Value.category]; done) | rfl
theorem oD34_0 : decode oJ6 0 = .ok (.iload_n 2, 1) := by decide +kernel
theorem oD34_1 : decode oJ6 1 = .ok (.newarray .byte, 2) := by decide +kernel
theorem oD34_3 : decode oJ6 3 = .ok (.astore_n 3, 1) := by decide +kernel
theorem oD34_4 : decode oJ6 4 = .ok (.aload_n 0, 1) := by decide +kernel
theorem oD34_5 : decode oJ6 5 = .ok (.iload_n 1, 1) := by decide +kernel
theorem oD34_6 : decode oJ6 6 = .ok (.aload_n 3, 1) := by decide +kernel
theorem oD34_7 : decode oJ6 7 = .ok (.iconst 0, 1) := by decide +kernel
theorem oD34_8 : decode oJ6 8 = .ok (.iload_n 2, 1) := by decide +kernel
theorem oD34_9 : decode oJ6 9 = .ok (.invokestatic 123, 3) := by decide +kernel
theorem oD34_12 : decode oJ6 12 = .ok (.istore 4, 2) := by decide +kernel
theorem oD34_14 : decode oJ6 14 = .ok (.iload 4, 2) := by decide +kernel
theorem oD34_16 : decode oJ6 16 = .ok (.iload_n 2, 1) := by decide +kernel
theorem oD34_17 : decode oJ6 17 = .ok (.if_icmp .eq 47, 3) := by decide +kernel
theorem oD34_20 : decode oJ6 20 = .ok (.aload_n 0, 1) := by decide +kernel
theorem oD34_21 : decode oJ6 21 = .ok (.iload_n 1, 1) := by decide +kernel
theorem oD34_22 : decode oJ6 22 = .ok (.iconst 1, 1) := by decide +kernel
theorem oD34_23 : decode oJ6 23 = .ok (.ishl, 1) := by decide +kernel
theorem oD34_24 : decode oJ6 24 = .ok (.iload_n 1, 1) := by decide +kernel
theorem oD34_25 : decode oJ6 25 = .ok (.iload_n 2, 1) := by decide +kernel
theorem oD34_26 : decode oJ6 26 = .ok (.iadd, 1) := by decide +kernel
theorem oD34_27 : decode oJ6 27 = .ok (.invokestatic 11, 3) := by decide +kernel
theorem oD34_30 : decode oJ6 30 = .ok (.invokestatic 126, 3) := by decide +kernel
theorem oD34_33 : decode oJ6 33 = .ok (.astore 5, 2) := by decide +kernel
theorem oD34_35 : decode oJ6 35 = .ok (.aload 5, 2) := by decide +kernel
theorem oD34_37 : decode oJ6 37 = .ok (.iload 4, 2) := by decide +kernel
theorem oD34_39 : decode oJ6 39 = .ok (.invokestatic 71, 3) := by decide +kernel
theorem oD34_42 : decode oJ6 42 = .ok (.sipush 255, 3) := by decide +kernel
theorem oD34_45 : decode oJ6 45 = .ok (.if_icmp .gt 16, 3) := by decide +kernel
theorem oD34_61 : decode oJ6 61 = .ok (.aload 5, 2) := by decide +kernel
theorem oD34_63 : decode oJ6 63 = .ok (.areturn, 1) := by decide +kernel
theorem oD35_0 : decode oJ25 0 = .ok (.iload_n 2, 1) := by decide +kernel
theorem oD35_1 : decode oJ25 1 = .ok (.ifCond .ne 7, 3) := by decide +kernel
theorem oD35_8 : decode oJ25 8 = .ok (.getstatic 251, 3) := by decide +kernel
theorem oD35_11 : decode oJ25 11 = .ok (.ifCond .eq 28, 3) := by decide +kernel
theorem oD35_14 : decode oJ25 14 = .ok (.aload_n 0, 1) := by decide +kernel
theorem oD35_15 : decode oJ25 15 = .ok (.iload_n 1, 1) := by decide +kernel
theorem oD35_16 : decode oJ25 16 = .ok (.iload_n 2, 1) := by decide +kernel
theorem oD35_17 : decode oJ25 17 = .ok (.invokestatic 257, 3) := by decide +kernel
theorem oD35_20 : decode oJ25 20 = .ok (.astore_n 3, 1) := by decide +kernel
theorem oD35_21 : decode oJ25 21 = .ok (.aload_n 3, 1) := by decide +kernel
theorem oD35_22 : decode oJ25 22 = .ok (.iload_n 2, 1) := by decide +kernel
theorem oD35_23 : decode oJ25 23 = .ok (.invokestatic 259, 3) := by decide +kernel
theorem o_pd__28_5bBI_29B : parseMethodDescriptor "([BI)B" = some ⟨[(.array .byte), .int], some .byte⟩ := by decide +kernel
theorem oD35_26 : decode oJ25 26 = .ok (.istore 4, 2) := by decide +kernel
theorem oD35_28 : decode oJ25 28 = .ok (.new 3, 3) := by decide +kernel
theorem oD35_31 : decode oJ25 31 = .ok (.dup, 1) := by decide +kernel
theorem oD35_32 : decode oJ25 32 = .ok (.aload_n 3, 1) := by decide +kernel
theorem oD35_33 : decode oJ25 33 = .ok (.iload 4, 2) := by decide +kernel
theorem oD35_35 : decode oJ25 35 = .ok (.invokespecial 263, 3) := by decide +kernel
theorem oD35_38 : decode oJ25 38 = .ok (.areturn, 1) := by decide +kernel
theorem o_ef20 (m : MethodId) (x0 : Addr) (x2 : Int32) : entryFrame m #[(.ref x0), (.int 0), (.int x2)] 5 = mkF m 0 #[.val (.ref x0), .val (.int 0), .val (.int x2), .unset, .unset] [] := by first | (simp [entryFrame, mkF, argsToLocals, Value.category]; done) | rfl
theorem oD36_0 : decode oJ4 0 = .ok (.aload_n 0, 1) := by decide +kernel
theorem oD36_1 : decode oJ4 1 = .ok (.invokevirtual 505, 3) := by decide +kernel
theorem oD36_4 : decode oJ4 4 = .ok (.istore_n 3, 1) := by decide +kernel
theorem oD36_5 : decode oJ4 5 = .ok (.iload_n 1, 1) := by decide +kernel
theorem oD36_6 : decode oJ4 6 = .ok (.iload_n 2, 1) := by decide +kernel
theorem oD36_7 : decode oJ4 7 = .ok (.iload_n 3, 1) := by decide +kernel
theorem oD36_8 : decode oJ4 8 = .ok (.invokestatic 521, 3) := by decide +kernel
theorem o_pd__28III_29V : parseMethodDescriptor "(III)V" = some ⟨[.int, .int, .int], none⟩ := by decide +kernel
theorem oD36_11 : decode oJ4 11 = .ok (.iload_n 1, 1) := by decide +kernel
theorem oD36_12 : decode oJ4 12 = .ok (.ifCond .ne 10, 3) := by decide +kernel
theorem oD36_15 : decode oJ4 15 = .ok (.iload_n 2, 1) := by decide +kernel
theorem oD36_16 : decode oJ4 16 = .ok (.iload_n 3, 1) := by decide +kernel
theorem oD36_17 : decode oJ4 17 = .ok (.if_icmp .ne 5, 3) := by decide +kernel
theorem oD36_20 : decode oJ4 20 = .ok (.aload_n 0, 1) := by decide +kernel
theorem oD36_21 : decode oJ4 21 = .ok (.areturn, 1) := by decide +kernel
theorem oD36_22 : decode oJ4 22 = .ok (.iload_n 2, 1) := by decide +kernel
theorem oD36_23 : decode oJ4 23 = .ok (.iload_n 1, 1) := by decide +kernel
theorem oD36_24 : decode oJ4 24 = .ok (.isub, 1) := by decide +kernel
theorem oD36_25 : decode oJ4 25 = .ok (.istore 4, 2) := by decide +kernel
theorem oD36_27 : decode oJ4 27 = .ok (.aload_n 0, 1) := by decide +kernel
theorem oD36_28 : decode oJ4 28 = .ok (.invokevirtual 492, 3) := by decide +kernel
theorem o_pd__28_29Z : parseMethodDescriptor "()Z" = some ⟨[], some .boolean⟩ := by decide +kernel
theorem oD36_31 : decode oJ4 31 = .ok (.ifCond .eq 16, 3) := by decide +kernel
theorem oD36_34 : decode oJ4 34 = .ok (.aload_n 0, 1) := by decide +kernel
theorem oD36_35 : decode oJ4 35 = .ok (.getfield 9, 3) := by decide +kernel
theorem oD36_38 : decode oJ4 38 = .ok (.iload_n 1, 1) := by decide +kernel
theorem oD36_39 : decode oJ4 39 = .ok (.iload 4, 2) := by decide +kernel
theorem oD36_41 : decode oJ4 41 = .ok (.invokestatic 685, 3) := by decide +kernel
theorem o_pd__28_5bBII_29Ljava_2flang_2fString_3b : parseMethodDescriptor "([BII)Ljava/lang/String;" = some ⟨[(.array .byte), .int, .int], some (.object "java/lang/String")⟩ := by decide +kernel
theorem oD36_44 : decode oJ4 44 = .ok (.goto 13, 3) := by decide +kernel
theorem oD36_57 : decode oJ4 57 = .ok (.areturn, 1) := by decide +kernel
theorem oD36_47 : decode oJ4 47 = .ok (.aload_n 0, 1) := by decide +kernel
theorem oD36_48 : decode oJ4 48 = .ok (.getfield 9, 3) := by decide +kernel
theorem oD36_51 : decode oJ4 51 = .ok (.iload_n 1, 1) := by decide +kernel
theorem oD36_52 : decode oJ4 52 = .ok (.iload 4, 2) := by decide +kernel
theorem oD36_54 : decode oJ4 54 = .ok (.invokestatic 689, 3) := by decide +kernel
theorem o_ef21 (m : MethodId) (x0 : Addr) (x2 : Addr) (x4 : Int32) : entryFrame m #[(.ref x0), (.int 0), (.ref x2), (.int 0), (.int x4)] 7 = mkF m 0 #[.val (.ref x0), .val (.int 0), .val (.ref x2), .val (.int 0), .val (.int x4), .unset, .unset] [] := by first | (simp [entryFrame, mkF, argsToLocals, Value.category]; done) | rfl
theorem oD37_0 : decode oJ17 0 = .ok (.iconst 0, 1) := by decide +kernel
theorem oD37_1 : decode oJ17 1 = .ok (.istore 5, 2) := by decide +kernel
theorem oD37_3 : decode oJ17 3 = .ok (.iload 5, 2) := by decide +kernel
theorem oD37_5 : decode oJ17 5 = .ok (.iload 4, 2) := by decide +kernel
theorem oD37_7 : decode oJ17 7 = .ok (.if_icmp .ge 37, 3) := by decide +kernel
theorem oD37_44 : decode oJ17 44 = .ok (.iload 4, 2) := by decide +kernel
theorem oD37_46 : decode oJ17 46 = .ok (.ireturn, 1) := by decide +kernel
theorem oD37_10 : decode oJ17 10 = .ok (.aload_n 0, 1) := by decide +kernel
theorem oD37_11 : decode oJ17 11 = .ok (.iload_n 1, 1) := by decide +kernel
theorem oD37_12 : decode oJ17 12 = .ok (.caload, 1) := by decide +kernel
theorem oD37_13 : decode oJ17 13 = .ok (.istore 6, 2) := by decide +kernel
theorem oD37_15 : decode oJ17 15 = .ok (.iload 6, 2) := by decide +kernel
theorem oD37_17 : decode oJ17 17 = .ok (.sipush 255, 3) := by decide +kernel
theorem oD37_20 : decode oJ17 20 = .ok (.if_icmp .le 6, 3) := by decide +kernel
theorem oD37_26 : decode oJ17 26 = .ok (.aload_n 2, 1) := by decide +kernel
theorem oD37_27 : decode oJ17 27 = .ok (.iload_n 3, 1) := by decide +kernel
theorem oD37_28 : decode oJ17 28 = .ok (.iload 6, 2) := by decide +kernel
theorem oD37_30 : decode oJ17 30 = .ok (.i2b, 1) := by decide +kernel
theorem oD37_31 : decode oJ17 31 = .ok (.bastore, 1) := by decide +kernel
theorem oD37_32 : decode oJ17 32 = .ok (.iinc 1 1, 3) := by decide +kernel
theorem oD37_35 : decode oJ17 35 = .ok (.iinc 3 1, 3) := by decide +kernel
theorem oD37_38 : decode oJ17 38 = .ok (.iinc 5 1, 3) := by decide +kernel
theorem oD37_41 : decode oJ17 41 = .ok (.goto (-38), 3) := by decide +kernel
theorem oD37_23 : decode oJ17 23 = .ok (.iload 5, 2) := by decide +kernel
theorem oD37_25 : decode oJ17 25 = .ok (.ireturn, 1) := by decide +kernel
theorem oD38_0 : decode oJ24 0 = .ok (.iload_n 2, 1) := by decide +kernel
theorem oD38_1 : decode oJ24 1 = .ok (.invokestatic 107, 3) := by decide +kernel
theorem o_pd__28I_29_5bB : parseMethodDescriptor "(I)[B" = some ⟨[.int], some (.array .byte)⟩ := by decide +kernel
theorem oD38_4 : decode oJ24 4 = .ok (.astore_n 3, 1) := by decide +kernel
theorem oD38_5 : decode oJ24 5 = .ok (.iconst 0, 1) := by decide +kernel
theorem oD38_6 : decode oJ24 6 = .ok (.istore 4, 2) := by decide +kernel
theorem oD38_8 : decode oJ24 8 = .ok (.iload 4, 2) := by decide +kernel
theorem oD38_10 : decode oJ24 10 = .ok (.iload_n 2, 1) := by decide +kernel
theorem oD38_11 : decode oJ24 11 = .ok (.if_icmp .ge 21, 3) := by decide +kernel
theorem oD38_32 : decode oJ24 32 = .ok (.aload_n 3, 1) := by decide +kernel
theorem oD38_33 : decode oJ24 33 = .ok (.areturn, 1) := by decide +kernel
theorem oD38_14 : decode oJ24 14 = .ok (.aload_n 3, 1) := by decide +kernel
theorem oD38_15 : decode oJ24 15 = .ok (.iload 4, 2) := by decide +kernel
theorem oD38_17 : decode oJ24 17 = .ok (.aload_n 0, 1) := by decide +kernel
theorem oD38_18 : decode oJ24 18 = .ok (.iload_n 1, 1) := by decide +kernel
theorem oD38_19 : decode oJ24 19 = .ok (.caload, 1) := by decide +kernel
theorem oD38_20 : decode oJ24 20 = .ok (.invokestatic 111, 3) := by decide +kernel
theorem o_pd__28_5bBII_29V : parseMethodDescriptor "([BII)V" = some ⟨[(.array .byte), .int, .int], none⟩ := by decide +kernel
theorem oD38_23 : decode oJ24 23 = .ok (.iinc 1 1, 3) := by decide +kernel
theorem oD38_26 : decode oJ24 26 = .ok (.iinc 4 1, 3) := by decide +kernel
theorem oD38_29 : decode oJ24 29 = .ok (.goto (-21), 3) := by decide +kernel
theorem o_ef22 (m : MethodId) (x0 : Addr) (x2 : Int32) : entryFrame m #[(.ref x0), (.int 0), (.int x2)] 6 = mkF m 0 #[.val (.ref x0), .val (.int 0), .val (.int x2), .unset, .unset, .unset] [] := by first | (simp [entryFrame, mkF, argsToLocals, Value.category]; done) | rfl
theorem oD39_0 : decode oJ13 0 = .ok (.iload_n 2, 1) := by decide +kernel
theorem oD39_1 : decode oJ13 1 = .ok (.newarray .byte, 2) := by decide +kernel
theorem oD39_3 : decode oJ13 3 = .ok (.astore_n 3, 1) := by decide +kernel
theorem oD39_4 : decode oJ13 4 = .ok (.aload_n 0, 1) := by decide +kernel
theorem oD39_5 : decode oJ13 5 = .ok (.iload_n 1, 1) := by decide +kernel
theorem oD39_6 : decode oJ13 6 = .ok (.aload_n 3, 1) := by decide +kernel
theorem oD39_7 : decode oJ13 7 = .ok (.iconst 0, 1) := by decide +kernel
theorem oD39_8 : decode oJ13 8 = .ok (.iload_n 2, 1) := by decide +kernel
theorem oD39_9 : decode oJ13 9 = .ok (.invokestatic 115, 3) := by decide +kernel
theorem o_pd__28_5bCI_5bBII_29I : parseMethodDescriptor "([CI[BII)I" = some ⟨[(.array .char), .int, (.array .byte), .int, .int], some .int⟩ := by decide +kernel
theorem oD39_12 : decode oJ13 12 = .ok (.istore 4, 2) := by decide +kernel
theorem oD39_14 : decode oJ13 14 = .ok (.iload 4, 2) := by decide +kernel
theorem oD39_16 : decode oJ13 16 = .ok (.iload_n 2, 1) := by decide +kernel
theorem oD39_17 : decode oJ13 17 = .ok (.if_icmp .eq 40, 3) := by decide +kernel
theorem oD39_57 : decode oJ13 57 = .ok (.aload_n 3, 1) := by decide +kernel
theorem oD39_58 : decode oJ13 58 = .ok (.areturn, 1) := by decide +kernel
theorem oD39_20 : decode oJ13 20 = .ok (.aload_n 0, 1) := by decide +kernel
theorem oD39_21 : decode oJ13 21 = .ok (.iload_n 1, 1) := by decide +kernel
theorem oD39_22 : decode oJ13 22 = .ok (.iload_n 2, 1) := by decide +kernel
theorem oD39_23 : decode oJ13 23 = .ok (.invokestatic 119, 3) := by decide +kernel
theorem o_pd__28_5bCII_29_5bB : parseMethodDescriptor "([CII)[B" = some ⟨[(.array .char), .int, .int], some (.array .byte)⟩ := by decide +kernel
theorem oD39_26 : decode oJ13 26 = .ok (.astore 5, 2) := by decide +kernel
theorem oD39_28 : decode oJ13 28 = .ok (.aload 5, 2) := by decide +kernel
theorem oD39_30 : decode oJ13 30 = .ok (.iload 4, 2) := by decide +kernel
theorem oD39_32 : decode oJ13 32 = .ok (.invokestatic 71, 3) := by decide +kernel
theorem oD39_35 : decode oJ13 35 = .ok (.sipush 255, 3) := by decide +kernel
theorem oD39_38 : decode oJ13 38 = .ok (.if_icmp .gt 16, 3) := by decide +kernel
theorem oD39_54 : decode oJ13 54 = .ok (.aload 5, 2) := by decide +kernel
theorem oD39_56 : decode oJ13 56 = .ok (.areturn, 1) := by decide +kernel
theorem o_ef23 (m : MethodId) (x0 : Addr) (x1 : Addr) (x3 : Int32) : entryFrame m #[(.ref x0), (.ref x1), (.int 0), (.int x3), .null] 6 = mkF m 0 #[.val (.ref x0), .val (.ref x1), .val (.int 0), .val (.int x3), .val .null, .unset] [] := by first | (simp [entryFrame, mkF, argsToLocals, Value.category]; done) | rfl
theorem oD40_0 : decode oJ23 0 = .ok (.aload_n 0, 1) := by decide +kernel
theorem oD40_1 : decode oJ23 1 = .ok (.invokespecial 1, 3) := by decide +kernel
theorem oD40_4 : decode oJ23 4 = .ok (.iload_n 3, 1) := by decide +kernel
theorem oD40_5 : decode oJ23 5 = .ok (.ifCond .ne 22, 3) := by decide +kernel
theorem oD40_27 : decode oJ23 27 = .ok (.getstatic 38, 3) := by decide +kernel
theorem oD40_30 : decode oJ23 30 = .ok (.ifCond .eq 28, 3) := by decide +kernel
theorem oD40_33 : decode oJ23 33 = .ok (.aload_n 1, 1) := by decide +kernel
theorem oD40_34 : decode oJ23 34 = .ok (.iload_n 2, 1) := by decide +kernel
theorem oD40_35 : decode oJ23 35 = .ok (.iload_n 3, 1) := by decide +kernel
theorem oD40_36 : decode oJ23 36 = .ok (.invokestatic 177, 3) := by decide +kernel
theorem oD40_39 : decode oJ23 39 = .ok (.astore 5, 2) := by decide +kernel
theorem oD40_41 : decode oJ23 41 = .ok (.aload_n 0, 1) := by decide +kernel
theorem oD40_42 : decode oJ23 42 = .ok (.aload 5, 2) := by decide +kernel
theorem oD40_44 : decode oJ23 44 = .ok (.iload_n 3, 1) := by decide +kernel
theorem oD40_45 : decode oJ23 45 = .ok (.invokestatic 47, 3) := by decide +kernel
theorem oD40_48 : decode oJ23 48 = .ok (.putfield 15, 3) := by decide +kernel
theorem oD40_51 : decode oJ23 51 = .ok (.aload_n 0, 1) := by decide +kernel
theorem oD40_52 : decode oJ23 52 = .ok (.aload 5, 2) := by decide +kernel
theorem oD40_54 : decode oJ23 54 = .ok (.putfield 9, 3) := by decide +kernel
theorem oD40_57 : decode oJ23 57 = .ok (.return_, 1) := by decide +kernel
theorem oD41_0 : decode oJ46 0 = .ok (.aload_n 0, 1) := by decide +kernel
theorem oD41_1 : decode oJ46 1 = .ok (.aload_n 1, 1) := by decide +kernel
theorem oD41_2 : decode oJ46 2 = .ok (.iconst 0, 1) := by decide +kernel
theorem oD41_3 : decode oJ46 3 = .ok (.aload_n 1, 1) := by decide +kernel
theorem oD41_4 : decode oJ46 4 = .ok (.arraylength, 1) := by decide +kernel
theorem oD41_5 : decode oJ46 5 = .ok (.aconst_null, 1) := by decide +kernel
theorem oD41_6 : decode oJ46 6 = .ok (.invokespecial 27, 3) := by decide +kernel
theorem o_pd__28_5bCIILjava_2flang_2fVoid_3b_29V : parseMethodDescriptor "([CIILjava/lang/Void;)V" = some ⟨[(.array .char), .int, .int, (.object "java/lang/Void")], none⟩ := by decide +kernel
theorem oD41_9 : decode oJ46 9 = .ok (.return_, 1) := by decide +kernel
theorem o_ef24 (m : MethodId) (x0 : Addr) (x1 : Int32) (x2 : Addr) : entryFrame m #[(.ref x0), (.int x1), (.ref x2), (.int 1), (.int 0)] 11 = mkF m 0 #[.val (.ref x0), .val (.int x1), .val (.ref x2), .val (.int 1), .val (.int 0), .unset, .unset, .unset, .unset, .unset, .unset] [] := by first | (simp [entryFrame, mkF, argsToLocals, Value.category]; done) | rfl
theorem oD42_0 : decode oJ5 0 = .ok (.aload_n 2, 1) := by decide +kernel
theorem oD42_1 : decode oJ5 1 = .ok (.iconst 0, 1) := by decide +kernel
theorem oD42_2 : decode oJ5 2 = .ok (.baload, 1) := by decide +kernel
theorem oD42_3 : decode oJ5 3 = .ok (.istore 5, 2) := by decide +kernel
theorem oD42_5 : decode oJ5 5 = .ok (.iload_n 1, 1) := by decide +kernel
theorem oD42_6 : decode oJ5 6 = .ok (.iload_n 3, 1) := by decide +kernel
theorem oD42_7 : decode oJ5 7 = .ok (.isub, 1) := by decide +kernel
theorem oD42_8 : decode oJ5 8 = .ok (.istore 6, 2) := by decide +kernel
theorem oD42_10 : decode oJ5 10 = .ok (.iload 4, 2) := by decide +kernel
theorem oD42_12 : decode oJ5 12 = .ok (.istore 7, 2) := by decide +kernel
theorem oD42_14 : decode oJ5 14 = .ok (.iload 7, 2) := by decide +kernel
theorem oD42_16 : decode oJ5 16 = .ok (.iload 6, 2) := by decide +kernel
theorem oD42_18 : decode oJ5 18 = .ok (.if_icmp .gt 101, 3) := by decide +kernel
theorem oD42_21 : decode oJ5 21 = .ok (.aload_n 0, 1) := by decide +kernel
theorem oD42_22 : decode oJ5 22 = .ok (.iload 7, 2) := by decide +kernel
theorem oD42_24 : decode oJ5 24 = .ok (.baload, 1) := by decide +kernel
theorem oD42_25 : decode oJ5 25 = .ok (.iload 5, 2) := by decide +kernel
theorem oD42_27 : decode oJ5 27 = .ok (.if_icmp .eq 25, 3) := by decide +kernel
theorem oD42_30 : decode oJ5 30 = .ok (.iinc 7 1, 3) := by decide +kernel
theorem oD42_33 : decode oJ5 33 = .ok (.iload 7, 2) := by decide +kernel
theorem oD42_35 : decode oJ5 35 = .ok (.iload 6, 2) := by decide +kernel
theorem oD42_37 : decode oJ5 37 = .ok (.if_icmp .gt 15, 3) := by decide +kernel
theorem oD42_52 : decode oJ5 52 = .ok (.iload 7, 2) := by decide +kernel
theorem oD42_54 : decode oJ5 54 = .ok (.iload 6, 2) := by decide +kernel
theorem oD42_56 : decode oJ5 56 = .ok (.if_icmp .gt 57, 3) := by decide +kernel
theorem oD42_113 : decode oJ5 113 = .ok (.iinc 7 1, 3) := by decide +kernel
theorem oD42_116 : decode oJ5 116 = .ok (.goto (-102), 3) := by decide +kernel
theorem oD42_119 : decode oJ5 119 = .ok (.iconst (-1), 1) := by decide +kernel
theorem oD42_120 : decode oJ5 120 = .ok (.ireturn, 1) := by decide +kernel
theorem oD42_40 : decode oJ5 40 = .ok (.aload_n 0, 1) := by decide +kernel
theorem oD42_41 : decode oJ5 41 = .ok (.iload 7, 2) := by decide +kernel
theorem oD42_43 : decode oJ5 43 = .ok (.baload, 1) := by decide +kernel
theorem oD42_44 : decode oJ5 44 = .ok (.iload 5, 2) := by decide +kernel
theorem oD42_46 : decode oJ5 46 = .ok (.if_icmp .eq 6, 3) := by decide +kernel
theorem oD42_49 : decode oJ5 49 = .ok (.goto (-19), 3) := by decide +kernel
theorem oD43_0 : decode oJ26 0 = .ok (.aload_n 1, 1) := by decide +kernel
theorem oD43_1 : decode oJ26 1 = .ok (.arraylength, 1) := by decide +kernel
theorem oD43_2 : decode oJ26 2 = .ok (.ifCond .ne 5, 3) := by decide +kernel
theorem oD43_7 : decode oJ26 7 = .ok (.aload_n 0, 1) := by decide +kernel
theorem oD43_8 : decode oJ26 8 = .ok (.arraylength, 1) := by decide +kernel
theorem oD43_9 : decode oJ26 9 = .ok (.ifCond .ne 5, 3) := by decide +kernel
theorem oD43_14 : decode oJ26 14 = .ok (.aload_n 0, 1) := by decide +kernel
theorem oD43_15 : decode oJ26 15 = .ok (.aload_n 0, 1) := by decide +kernel
theorem oD43_16 : decode oJ26 16 = .ok (.arraylength, 1) := by decide +kernel
theorem oD43_17 : decode oJ26 17 = .ok (.aload_n 1, 1) := by decide +kernel
theorem oD43_18 : decode oJ26 18 = .ok (.aload_n 1, 1) := by decide +kernel
theorem oD43_19 : decode oJ26 19 = .ok (.arraylength, 1) := by decide +kernel
theorem oD43_20 : decode oJ26 20 = .ok (.iconst 0, 1) := by decide +kernel
theorem oD43_21 : decode oJ26 21 = .ok (.invokestatic 99, 3) := by decide +kernel
theorem oD43_24 : decode oJ26 24 = .ok (.ireturn, 1) := by decide +kernel
theorem oD44_0 : decode oJ11 0 = .ok (.aload_n 0, 1) := by decide +kernel
theorem oD44_1 : decode oJ11 1 = .ok (.invokevirtual 335, 3) := by decide +kernel
theorem oD44_4 : decode oJ11 4 = .ok (.istore_n 2, 1) := by decide +kernel
theorem oD44_5 : decode oJ11 5 = .ok (.iload_n 2, 1) := by decide +kernel
theorem oD44_6 : decode oJ11 6 = .ok (.aload_n 1, 1) := by decide +kernel
theorem oD44_7 : decode oJ11 7 = .ok (.invokevirtual 335, 3) := by decide +kernel
theorem oD44_10 : decode oJ11 10 = .ok (.if_icmp .ne 36, 3) := by decide +kernel
theorem oD44_13 : decode oJ11 13 = .ok (.aload_n 0, 1) := by decide +kernel
theorem oD44_14 : decode oJ11 14 = .ok (.invokevirtual 492, 3) := by decide +kernel
theorem oD44_17 : decode oJ11 17 = .ok (.ifCond .eq 17, 3) := by decide +kernel
theorem oD44_20 : decode oJ11 20 = .ok (.aload_n 0, 1) := by decide +kernel
theorem oD44_21 : decode oJ11 21 = .ok (.getfield 9, 3) := by decide +kernel
theorem oD44_24 : decode oJ11 24 = .ok (.aload_n 1, 1) := by decide +kernel
theorem oD44_25 : decode oJ11 25 = .ok (.getfield 9, 3) := by decide +kernel
theorem oD44_28 : decode oJ11 28 = .ok (.invokestatic 647, 3) := by decide +kernel
theorem o_pd__28_5bB_5bB_29I : parseMethodDescriptor "([B[B)I" = some ⟨[(.array .byte), (.array .byte)], some .int⟩ := by decide +kernel
theorem oD44_31 : decode oJ11 31 = .ok (.goto 14, 3) := by decide +kernel
theorem oD44_45 : decode oJ11 45 = .ok (.ireturn, 1) := by decide +kernel
theorem oD45_0 : decode jdk_42_method_126_code 0 = .ok (.aload_n 0, 1) := by decide +kernel
theorem oD45_1 : decode jdk_42_method_126_code 1 = .ok (.areturn, 1) := by decide +kernel
theorem oD46_0 : decode oJ38 0 = .ok (.aload_n 0, 1) := by decide +kernel
theorem oD46_1 : decode oJ38 1 = .ok (.aload_n 1, 1) := by decide +kernel
theorem oD46_2 : decode oJ38 2 = .ok (.invokeinterface 710 1, 5) := by decide +kernel
theorem o_pd__28_29Ljava_2flang_2fString_3b : parseMethodDescriptor "()Ljava/lang/String;" = some ⟨[], some (.object "java/lang/String")⟩ := by decide +kernel
theorem oD46_7 : decode oJ38 7 = .ok (.invokevirtual 711, 3) := by decide +kernel
theorem o_pd__28Ljava_2flang_2fString_3b_29I : parseMethodDescriptor "(Ljava/lang/String;)I" = some ⟨[(.object "java/lang/String")], some .int⟩ := by decide +kernel
theorem oD46_10 : decode oJ38 10 = .ok (.ifCond .lt 7, 3) := by decide +kernel
theorem oD46_17 : decode oJ38 17 = .ok (.iconst 0, 1) := by decide +kernel
theorem oD46_18 : decode oJ38 18 = .ok (.ireturn, 1) := by decide +kernel
theorem oD47_0 : decode oJ2 0 = .ok (.getstatic 44, 3) := by decide +kernel
theorem oD47_3 : decode oJ2 3 = .ok (.ifCond .ne 16, 3) := by decide +kernel
theorem oD47_19 : decode oJ2 19 = .ok (.getstatic 44, 3) := by decide +kernel
theorem oD47_22 : decode oJ2 22 = .ok (.ifCond .ne 15, 3) := by decide +kernel
theorem oD47_37 : decode oJ2 37 = .ok (.getstatic 44, 3) := by decide +kernel
theorem oD47_40 : decode oJ2 40 = .ok (.ifCond .ne 17, 3) := by decide +kernel
theorem oD47_57 : decode oJ2 57 = .ok (.getstatic 44, 3) := by decide +kernel
theorem oD47_60 : decode oJ2 60 = .ok (.ifCond .ne 16, 3) := by decide +kernel
theorem oD47_76 : decode oJ2 76 = .ok (.aload_n 2, 1) := by decide +kernel
theorem oD47_77 : decode oJ2 77 = .ok (.iconst 0, 1) := by decide +kernel
theorem oD47_78 : decode oJ2 78 = .ok (.baload, 1) := by decide +kernel
theorem oD47_79 : decode oJ2 79 = .ok (.sipush 255, 3) := by decide +kernel
theorem oD47_82 : decode oJ2 82 = .ok (.iand, 1) := by decide +kernel
theorem oD47_83 : decode oJ2 83 = .ok (.i2c, 1) := by decide +kernel
theorem oD47_84 : decode oJ2 84 = .ok (.istore 5, 2) := by decide +kernel
theorem oD47_86 : decode oJ2 86 = .ok (.iload_n 1, 1) := by decide +kernel
theorem oD47_87 : decode oJ2 87 = .ok (.iload_n 3, 1) := by decide +kernel
theorem oD47_88 : decode oJ2 88 = .ok (.isub, 1) := by decide +kernel
theorem oD47_89 : decode oJ2 89 = .ok (.istore 6, 2) := by decide +kernel
theorem oD47_91 : decode oJ2 91 = .ok (.iload 4, 2) := by decide +kernel
theorem oD47_93 : decode oJ2 93 = .ok (.istore 7, 2) := by decide +kernel
theorem oD47_95 : decode oJ2 95 = .ok (.iload 7, 2) := by decide +kernel
theorem oD47_97 : decode oJ2 97 = .ok (.iload 6, 2) := by decide +kernel
theorem oD47_99 : decode oJ2 99 = .ok (.if_icmp .gt 111, 3) := by decide +kernel
theorem oD47_102 : decode oJ2 102 = .ok (.aload_n 0, 1) := by decide +kernel
theorem oD47_103 : decode oJ2 103 = .ok (.iload 7, 2) := by decide +kernel
theorem oD47_105 : decode oJ2 105 = .ok (.invokestatic 71, 3) := by decide +kernel
theorem oD47_108 : decode oJ2 108 = .ok (.iload 5, 2) := by decide +kernel
theorem oD47_110 : decode oJ2 110 = .ok (.if_icmp .eq 27, 3) := by decide +kernel
theorem oD47_113 : decode oJ2 113 = .ok (.iinc 7 1, 3) := by decide +kernel
theorem oD47_116 : decode oJ2 116 = .ok (.iload 7, 2) := by decide +kernel
theorem oD47_118 : decode oJ2 118 = .ok (.iload 6, 2) := by decide +kernel
theorem oD47_120 : decode oJ2 120 = .ok (.if_icmp .gt 17, 3) := by decide +kernel
theorem oD47_137 : decode oJ2 137 = .ok (.iload 7, 2) := by decide +kernel
theorem oD47_139 : decode oJ2 139 = .ok (.iload 6, 2) := by decide +kernel
theorem oD47_141 : decode oJ2 141 = .ok (.if_icmp .gt 63, 3) := by decide +kernel
theorem oD47_204 : decode oJ2 204 = .ok (.iinc 7 1, 3) := by decide +kernel
theorem oD47_207 : decode oJ2 207 = .ok (.goto (-112), 3) := by decide +kernel
theorem oD47_210 : decode oJ2 210 = .ok (.iconst (-1), 1) := by decide +kernel
theorem oD47_211 : decode oJ2 211 = .ok (.ireturn, 1) := by decide +kernel
theorem oD47_123 : decode oJ2 123 = .ok (.aload_n 0, 1) := by decide +kernel
theorem oD47_124 : decode oJ2 124 = .ok (.iload 7, 2) := by decide +kernel
theorem oD47_126 : decode oJ2 126 = .ok (.invokestatic 71, 3) := by decide +kernel
theorem oD47_129 : decode oJ2 129 = .ok (.iload 5, 2) := by decide +kernel
theorem oD47_131 : decode oJ2 131 = .ok (.if_icmp .eq 6, 3) := by decide +kernel
theorem oD47_134 : decode oJ2 134 = .ok (.goto (-21), 3) := by decide +kernel
theorem oD48_0 : decode oJ27 0 = .ok (.aload_n 1, 1) := by decide +kernel
theorem oD48_1 : decode oJ27 1 = .ok (.arraylength, 1) := by decide +kernel
theorem oD48_2 : decode oJ27 2 = .ok (.ifCond .ne 5, 3) := by decide +kernel
theorem oD48_7 : decode oJ27 7 = .ok (.aload_n 0, 1) := by decide +kernel
theorem oD48_8 : decode oJ27 8 = .ok (.invokestatic 48, 3) := by decide +kernel
theorem oD48_11 : decode oJ27 11 = .ok (.aload_n 1, 1) := by decide +kernel
theorem oD48_12 : decode oJ27 12 = .ok (.arraylength, 1) := by decide +kernel
theorem oD48_13 : decode oJ27 13 = .ok (.if_icmp .ge 5, 3) := by decide +kernel
theorem oD48_18 : decode oJ27 18 = .ok (.aload_n 0, 1) := by decide +kernel
theorem oD48_19 : decode oJ27 19 = .ok (.aload_n 0, 1) := by decide +kernel
theorem oD48_20 : decode oJ27 20 = .ok (.invokestatic 48, 3) := by decide +kernel
theorem oD48_23 : decode oJ27 23 = .ok (.aload_n 1, 1) := by decide +kernel
theorem oD48_24 : decode oJ27 24 = .ok (.aload_n 1, 1) := by decide +kernel
theorem oD48_25 : decode oJ27 25 = .ok (.arraylength, 1) := by decide +kernel
theorem oD48_26 : decode oJ27 26 = .ok (.iconst 0, 1) := by decide +kernel
theorem oD48_27 : decode oJ27 27 = .ok (.invokestatic 238, 3) := by decide +kernel
theorem oD48_30 : decode oJ27 30 = .ok (.ireturn, 1) := by decide +kernel
theorem oD44_46 : decode oJ11 46 = .ok (.iload_n 2, 1) := by decide +kernel
theorem oD44_47 : decode oJ11 47 = .ok (.ifCond .ne 5, 3) := by decide +kernel
theorem oD44_52 : decode oJ11 52 = .ok (.aload_n 0, 1) := by decide +kernel
theorem oD44_53 : decode oJ11 53 = .ok (.getfield 9, 3) := by decide +kernel
theorem oD44_56 : decode oJ11 56 = .ok (.aload_n 1, 1) := by decide +kernel
theorem oD44_57 : decode oJ11 57 = .ok (.getfield 9, 3) := by decide +kernel
theorem oD44_60 : decode oJ11 60 = .ok (.invokestatic 650, 3) := by decide +kernel
theorem oD44_63 : decode oJ11 63 = .ok (.ireturn, 1) := by decide +kernel
theorem oD43_12 : decode oJ26 12 = .ok (.iconst (-1), 1) := by decide +kernel
theorem oD43_13 : decode oJ26 13 = .ok (.ireturn, 1) := by decide +kernel
theorem oD13_8 : decode oJ43 8 = .ok (.iconst 1, 1) := by decide +kernel
theorem oD13_9 : decode oJ43 9 = .ok (.goto 4, 3) := by decide +kernel
theorem o_ef25 (m : MethodId) (x0 : Addr) (x2 : Addr) (x3 : Int32) : entryFrame m #[(.ref x0), (.int 0), (.ref x2), (.int x3), (.int 0)] 6 = mkF m 0 #[.val (.ref x0), .val (.int 0), .val (.ref x2), .val (.int x3), .val (.int 0), .unset] [] := by first | (simp [entryFrame, mkF, argsToLocals, Value.category]; done) | rfl
theorem oD49_0 : decode oJ20 0 = .ok (.iload_n 3, 1) := by decide +kernel
theorem oD49_1 : decode oJ20 1 = .ok (.iload 4, 2) := by decide +kernel
theorem oD49_3 : decode oJ20 3 = .ok (.aload_n 2, 1) := by decide +kernel
theorem oD49_4 : decode oJ20 4 = .ok (.invokestatic 173, 3) := by decide +kernel
theorem oD49_7 : decode oJ20 7 = .ok (.iconst 0, 1) := by decide +kernel
theorem oD49_8 : decode oJ20 8 = .ok (.istore 5, 2) := by decide +kernel
theorem oD49_10 : decode oJ20 10 = .ok (.iload 5, 2) := by decide +kernel
theorem oD49_12 : decode oJ20 12 = .ok (.iload 4, 2) := by decide +kernel
theorem oD49_14 : decode oJ20 14 = .ok (.if_icmp .ge 27, 3) := by decide +kernel
theorem oD49_41 : decode oJ20 41 = .ok (.return_, 1) := by decide +kernel
theorem o_ef26 (m : MethodId) (x0 : Addr) (x2 : Addr) (x3 : Int32) : entryFrame m #[(.ref x0), (.int 0), (.ref x2), (.int x3), (.int 0)] 5 = mkF m 0 #[.val (.ref x0), .val (.int 0), .val (.ref x2), .val (.int x3), .val (.int 0)] [] := by first | (simp [entryFrame, mkF, argsToLocals, Value.category]; done) | rfl
theorem oD50_0 : decode oJ49 0 = .ok (.aload_n 0, 1) := by decide +kernel
theorem oD50_1 : decode oJ49 1 = .ok (.iload_n 1, 1) := by decide +kernel
theorem oD50_2 : decode oJ49 2 = .ok (.aload_n 2, 1) := by decide +kernel
theorem oD50_3 : decode oJ49 3 = .ok (.iload_n 3, 1) := by decide +kernel
theorem oD50_4 : decode oJ49 4 = .ok (.iload 4, 2) := by decide +kernel
theorem oD50_6 : decode oJ49 6 = .ok (.invokestatic 240, 3) := by decide +kernel
theorem o_pd__28_5bBI_5bBII_29V : parseMethodDescriptor "([BI[BII)V" = some ⟨[(.array .byte), .int, (.array .byte), .int, .int], none⟩ := by decide +kernel
theorem oD50_9 : decode oJ49 9 = .ok (.return_, 1) := by decide +kernel
theorem o_ef27 (m : MethodId) (x0 : Addr) (x2 : Addr) (x3 : Int32) : entryFrame m #[(.ref x0), (.int 0), (.ref x2), (.int x3), (.int 1)] 6 = mkF m 0 #[.val (.ref x0), .val (.int 0), .val (.ref x2), .val (.int x3), .val (.int 1), .unset] [] := by first | (simp [entryFrame, mkF, argsToLocals, Value.category]; done) | rfl
theorem oD49_17 : decode oJ20 17 = .ok (.aload_n 2, 1) := by decide +kernel
theorem oD49_18 : decode oJ20 18 = .ok (.iload_n 3, 1) := by decide +kernel
theorem oD49_19 : decode oJ20 19 = .ok (.iinc 3 1, 3) := by decide +kernel
theorem oD49_22 : decode oJ20 22 = .ok (.aload_n 0, 1) := by decide +kernel
theorem oD49_23 : decode oJ20 23 = .ok (.iload_n 1, 1) := by decide +kernel
theorem oD49_24 : decode oJ20 24 = .ok (.iinc 1 1, 3) := by decide +kernel
theorem oD49_27 : decode oJ20 27 = .ok (.baload, 1) := by decide +kernel
theorem oD49_28 : decode oJ20 28 = .ok (.sipush 255, 3) := by decide +kernel
theorem oD49_31 : decode oJ20 31 = .ok (.iand, 1) := by decide +kernel
theorem oD49_32 : decode oJ20 32 = .ok (.invokestatic 111, 3) := by decide +kernel
theorem oD49_35 : decode oJ20 35 = .ok (.iinc 5 1, 3) := by decide +kernel
theorem oD49_38 : decode oJ20 38 = .ok (.goto (-28), 3) := by decide +kernel
theorem o_ef28 (m : MethodId) (x0 : Addr) (x2 : Addr) (x3 : Int32) : entryFrame m #[(.ref x0), (.int 0), (.ref x2), (.int x3), (.int 1)] 5 = mkF m 0 #[.val (.ref x0), .val (.int 0), .val (.ref x2), .val (.int x3), .val (.int 1)] [] := by first | (simp [entryFrame, mkF, argsToLocals, Value.category]; done) | rfl
theorem oD51_0 : decode oJ41 0 = .ok (.getstatic 18, 3) := by decide +kernel
theorem oD51_3 : decode oJ41 3 = .ok (.ifCond .eq 14, 3) := by decide +kernel
theorem oD51_6 : decode oJ41 6 = .ok (.aload_n 0, 1) := by decide +kernel
theorem oD51_7 : decode oJ41 7 = .ok (.getfield 22, 3) := by decide +kernel
theorem oD51_10 : decode oJ41 10 = .ok (.ifCond .ne 7, 3) := by decide +kernel
theorem oD51_13 : decode oJ41 13 = .ok (.iconst 1, 1) := by decide +kernel
theorem oD51_14 : decode oJ41 14 = .ok (.goto 4, 3) := by decide +kernel
theorem oD51_18 : decode oJ41 18 = .ok (.ireturn, 1) := by decide +kernel
theorem oD51_17 : decode oJ41 17 = .ok (.iconst 0, 1) := by decide +kernel
theorem o_ef29 (m : MethodId) (x0 : Addr) : entryFrame m #[(.ref x0)] 2 = mkF m 0 #[.val (.ref x0), .unset] [] := by first | (simp [entryFrame, mkF, argsToLocals, Value.category]; done) | rfl
theorem oD52_0 : decode oJ15 0 = .ok (.aload_n 0, 1) := by decide +kernel
theorem oD52_1 : decode oJ15 1 = .ok (.invokevirtual 83, 3) := by decide +kernel
theorem oD52_4 : decode oJ15 4 = .ok (.ifCond .ne 4, 3) := by decide +kernel
theorem oD52_7 : decode oJ15 7 = .ok (.return_, 1) := by decide +kernel
theorem oD52_8 : decode oJ15 8 = .ok (.aload_n 0, 1) := by decide +kernel
theorem oD52_9 : decode oJ15 9 = .ok (.getfield 15, 3) := by decide +kernel
theorem oD52_12 : decode oJ15 12 = .ok (.arraylength, 1) := by decide +kernel
theorem oD52_13 : decode oJ15 13 = .ok (.invokestatic 26, 3) := by decide +kernel
theorem oD52_16 : decode oJ15 16 = .ok (.astore_n 1, 1) := by decide +kernel
theorem oD52_17 : decode oJ15 17 = .ok (.aload_n 0, 1) := by decide +kernel
theorem oD52_18 : decode oJ15 18 = .ok (.getfield 15, 3) := by decide +kernel
theorem oD52_21 : decode oJ15 21 = .ok (.iconst 0, 1) := by decide +kernel
theorem oD52_22 : decode oJ15 22 = .ok (.aload_n 1, 1) := by decide +kernel
theorem oD52_23 : decode oJ15 23 = .ok (.iconst 0, 1) := by decide +kernel
theorem oD52_24 : decode oJ15 24 = .ok (.aload_n 0, 1) := by decide +kernel
theorem oD52_25 : decode oJ15 25 = .ok (.getfield 79, 3) := by decide +kernel
theorem oD52_28 : decode oJ15 28 = .ok (.invokestatic 125, 3) := by decide +kernel
theorem oD52_31 : decode oJ15 31 = .ok (.aload_n 0, 1) := by decide +kernel
theorem oD52_32 : decode oJ15 32 = .ok (.aload_n 1, 1) := by decide +kernel
theorem oD52_33 : decode oJ15 33 = .ok (.putfield 15, 3) := by decide +kernel
theorem oD52_36 : decode oJ15 36 = .ok (.aload_n 0, 1) := by decide +kernel
theorem oD52_37 : decode oJ15 37 = .ok (.iconst 1, 1) := by decide +kernel
theorem oD52_38 : decode oJ15 38 = .ok (.putfield 22, 3) := by decide +kernel
theorem oD52_41 : decode oJ15 41 = .ok (.return_, 1) := by decide +kernel
theorem oD8_17 : decode oJ32 17 = .ok (.aload_n 0, 1) := by decide +kernel
theorem oD8_18 : decode oJ32 18 = .ok (.invokevirtual 195, 3) := by decide +kernel
theorem o_pd__28_29V : parseMethodDescriptor "()V" = some ⟨[], none⟩ := by decide +kernel
theorem o_ef30 (m : MethodId) (x0 : Addr) (x1 : Addr) (x2 : Int32) : entryFrame m #[(.ref x0), (.ref x1), (.int x2), (.int 1)] 4 = mkF m 0 #[.val (.ref x0), .val (.ref x1), .val (.int x2), .val (.int 1)] [] := by first | (simp [entryFrame, mkF, argsToLocals, Value.category]; done) | rfl
theorem oD9_28 : decode oJ7 28 = .ok (.aload_n 0, 1) := by decide +kernel
theorem oD9_29 : decode oJ7 29 = .ok (.getfield 9, 3) := by decide +kernel
theorem oD9_32 : decode oJ7 32 = .ok (.iconst 0, 1) := by decide +kernel
theorem oD9_33 : decode oJ7 33 = .ok (.aload_n 1, 1) := by decide +kernel
theorem oD9_34 : decode oJ7 34 = .ok (.iload_n 2, 1) := by decide +kernel
theorem oD9_35 : decode oJ7 35 = .ok (.aload_n 0, 1) := by decide +kernel
theorem oD9_36 : decode oJ7 36 = .ok (.getfield 9, 3) := by decide +kernel
theorem oD9_39 : decode oJ7 39 = .ok (.arraylength, 1) := by decide +kernel
theorem oD9_40 : decode oJ7 40 = .ok (.invokestatic 106, 3) := by decide +kernel
theorem o_ef31 (m : MethodId) (x0 : Addr) (x2 : Addr) : entryFrame m #[(.ref x0), (.int 0), (.ref x2)] 3 = mkF m 0 #[.val (.ref x0), .val (.int 0), .val (.ref x2)] [] := by first | (simp [entryFrame, mkF, argsToLocals, Value.category]; done) | rfl
theorem o_ef32 (m : MethodId) (x0 : Addr) (x2 : Addr) : entryFrame m #[(.ref x0), (.int 1), (.ref x2)] 3 = mkF m 0 #[.val (.ref x0), .val (.int 1), .val (.ref x2)] [] := by first | (simp [entryFrame, mkF, argsToLocals, Value.category]; done) | rfl
theorem oD53_0 : decode jdk_68_method_64_code 0 = .ok (.aload_n 0, 1) := by decide +kernel
theorem oD53_1 : decode jdk_68_method_64_code 1 = .ok (.getfield 15, 3) := by decide +kernel
theorem oD53_4 : decode jdk_68_method_64_code 4 = .ok (.areturn, 1) := by decide +kernel
theorem oD54_0 : decode jdk_68_method_6_code 0 = .ok (.aload_n 0, 1) := by decide +kernel
theorem oD54_1 : decode jdk_68_method_6_code 1 = .ok (.getfield 79, 3) := by decide +kernel
theorem oD54_4 : decode jdk_68_method_6_code 4 = .ok (.ireturn, 1) := by decide +kernel
theorem oD55_0 : decode jdk_67_method_93_code 0 = .ok (.aload_n 0, 1) := by decide +kernel
theorem oD55_1 : decode jdk_67_method_93_code 1 = .ok (.invokespecial 343, 3) := by decide +kernel
theorem oD55_4 : decode jdk_67_method_93_code 4 = .ok (.ireturn, 1) := by decide +kernel
theorem o_ef33 (m : MethodId) (x0 : Addr) (x1 : Addr) : entryFrame m #[(.ref x0), (.ref x1), .null] 5 = mkF m 0 #[.val (.ref x0), .val (.ref x1), .val .null, .unset, .unset] [] := by first | (simp [entryFrame, mkF, argsToLocals, Value.category]; done) | rfl
theorem oD56_0 : decode oJ3 0 = .ok (.aload_n 0, 1) := by decide +kernel
theorem oD56_1 : decode oJ3 1 = .ok (.invokespecial 1, 3) := by decide +kernel
theorem oD56_4 : decode oJ3 4 = .ok (.aload_n 1, 1) := by decide +kernel
theorem oD56_5 : decode oJ3 5 = .ok (.invokevirtual 552, 3) := by decide +kernel
theorem o_pd__28_29_5bB : parseMethodDescriptor "()[B" = some ⟨[], some (.array .byte)⟩ := by decide +kernel
theorem oD56_8 : decode oJ3 8 = .ok (.astore_n 3, 1) := by decide +kernel
theorem oD56_9 : decode oJ3 9 = .ok (.aload_n 1, 1) := by decide +kernel
theorem oD56_10 : decode oJ3 10 = .ok (.invokevirtual 549, 3) := by decide +kernel
theorem oD56_13 : decode oJ3 13 = .ok (.istore 4, 2) := by decide +kernel
theorem oD56_15 : decode oJ3 15 = .ok (.aload_n 1, 1) := by decide +kernel
theorem oD56_16 : decode oJ3 16 = .ok (.invokevirtual 1047, 3) := by decide +kernel
theorem oD56_19 : decode oJ3 19 = .ok (.ifCond .eq 22, 3) := by decide +kernel
theorem oD56_41 : decode oJ3 41 = .ok (.getstatic 38, 3) := by decide +kernel
theorem oD56_44 : decode oJ3 44 = .ok (.ifCond .eq 35, 3) := by decide +kernel
theorem oD56_47 : decode oJ3 47 = .ok (.aload_n 1, 1) := by decide +kernel
theorem oD56_48 : decode oJ3 48 = .ok (.getfield 1048, 3) := by decide +kernel
theorem oD56_51 : decode oJ3 51 = .ok (.ifCond .eq 28, 3) := by decide +kernel
theorem oD56_79 : decode oJ3 79 = .ok (.aload_n 0, 1) := by decide +kernel
theorem oD56_80 : decode oJ3 80 = .ok (.iconst 1, 1) := by decide +kernel
theorem oD56_81 : decode oJ3 81 = .ok (.putfield 15, 3) := by decide +kernel
theorem oD56_84 : decode oJ3 84 = .ok (.aload_n 0, 1) := by decide +kernel
theorem oD56_85 : decode oJ3 85 = .ok (.aload_n 3, 1) := by decide +kernel
theorem oD56_86 : decode oJ3 86 = .ok (.iconst 0, 1) := by decide +kernel
theorem oD56_87 : decode oJ3 87 = .ok (.iload 4, 2) := by decide +kernel
theorem oD56_89 : decode oJ3 89 = .ok (.iconst 1, 1) := by decide +kernel
theorem oD56_90 : decode oJ3 90 = .ok (.ishl, 1) := by decide +kernel
theorem oD56_91 : decode oJ3 91 = .ok (.invokestatic 54, 3) := by decide +kernel
theorem oD56_94 : decode oJ3 94 = .ok (.putfield 9, 3) := by decide +kernel
theorem oD56_97 : decode oJ3 97 = .ok (.return_, 1) := by decide +kernel
theorem oD57_0 : decode oJ56 0 = .ok (.aload_n 0, 1) := by decide +kernel
theorem oD57_1 : decode oJ56 1 = .ok (.aload_n 1, 1) := by decide +kernel
theorem oD57_2 : decode oJ56 2 = .ok (.aconst_null, 1) := by decide +kernel
theorem oD57_3 : decode oJ56 3 = .ok (.invokespecial 489, 3) := by decide +kernel
theorem o_pd__28Ljava_2flang_2fAbstractStringBuilder_3bLjava_2flang_2fVoid_3b_29V : parseMethodDescriptor "(Ljava/lang/AbstractStringBuilder;Ljava/lang/Void;)V" = some ⟨[(.object "java/lang/AbstractStringBuilder"), (.object "java/lang/Void")], none⟩ := by decide +kernel
theorem oD57_6 : decode oJ56 6 = .ok (.return_, 1) := by decide +kernel
theorem oD58_0 : decode oJ58 0 = .ok (.new 18, 3) := by decide +kernel
theorem oD58_3 : decode oJ58 3 = .ok (.dup, 1) := by decide +kernel
theorem oD58_4 : decode oJ58 4 = .ok (.aload_n 0, 1) := by decide +kernel
theorem oD58_5 : decode oJ58 5 = .ok (.invokespecial 137, 3) := by decide +kernel
theorem o_pd__28Ljava_2flang_2fStringBuilder_3b_29V : parseMethodDescriptor "(Ljava/lang/StringBuilder;)V" = some ⟨[(.object "java/lang/StringBuilder")], none⟩ := by decide +kernel
theorem oD58_8 : decode oJ58 8 = .ok (.areturn, 1) := by decide +kernel
theorem o_ef34 (m : MethodId) (x1 : Int32) : entryFrame m #[(.int 0), (.int x1)] 2 = mkF m 0 #[.val (.int 0), .val (.int x1)] [] := by first | (simp [entryFrame, mkF, argsToLocals, Value.category]; done) | rfl
theorem o_ef35 (m : MethodId) (x0 : Addr) (x2 : Int32) : entryFrame m #[(.ref x0), (.int 0), (.int x2)] 3 = mkF m 0 #[.val (.ref x0), .val (.int 0), .val (.int x2)] [] := by first | (simp [entryFrame, mkF, argsToLocals, Value.category]; done) | rfl
theorem oD56_22 : decode oJ3 22 = .ok (.aload_n 0, 1) := by decide +kernel
theorem oD56_23 : decode oJ3 23 = .ok (.iconst 0, 1) := by decide +kernel
theorem oD56_24 : decode oJ3 24 = .ok (.putfield 15, 3) := by decide +kernel
theorem oD56_27 : decode oJ3 27 = .ok (.aload_n 0, 1) := by decide +kernel
theorem oD56_28 : decode oJ3 28 = .ok (.aload_n 3, 1) := by decide +kernel
theorem oD56_29 : decode oJ3 29 = .ok (.iconst 0, 1) := by decide +kernel
theorem oD56_30 : decode oJ3 30 = .ok (.iload 4, 2) := by decide +kernel
theorem oD56_32 : decode oJ3 32 = .ok (.invokestatic 54, 3) := by decide +kernel
theorem oD56_35 : decode oJ3 35 = .ok (.putfield 9, 3) := by decide +kernel
theorem oD56_38 : decode oJ3 38 = .ok (.goto 59, 3) := by decide +kernel
theorem o_pn_8 : plainName "java/lang/Record" = true := by first | (simp [plainName, overriddenIn]; done) | decide +kernel
theorem oD59_0 : decode jdk_30_method_1_code 0 = .ok (.aload_n 0, 1) := by decide +kernel
theorem oD59_1 : decode jdk_30_method_1_code 1 = .ok (.invokespecial 1, 3) := by decide +kernel
theorem oD59_4 : decode jdk_30_method_1_code 4 = .ok (.return_, 1) := by decide +kernel
theorem o_pn_9 : plainName "java/util/Objects" = true := by first | (simp [plainName, overriddenIn]; done) | decide +kernel
theorem oD60_0 : decode jdk_31_method_11_code 0 = .ok (.aload_n 0, 1) := by decide +kernel
theorem oD60_1 : decode jdk_31_method_11_code 1 = .ok (.ifnonnull 12, 3) := by decide +kernel
theorem oD60_13 : decode jdk_31_method_11_code 13 = .ok (.aload_n 0, 1) := by decide +kernel
theorem oD60_14 : decode jdk_31_method_11_code 14 = .ok (.areturn, 1) := by decide +kernel
theorem o_ef36 (m : MethodId) (x0 : Int32) : entryFrame m #[(.int x0)] 2 = mkF m 0 #[.val (.int x0), .unset] [] := by first | (simp [entryFrame, mkF, argsToLocals, Value.category]; done) | rfl
theorem o_pn_10 : plainName "org/adviceweft/pointcut/NamePatternParsePinLaw" = true := by first | (simp [plainName, overriddenIn]; done) | decide +kernel
theorem oD61_0 : decode method_3_code 0 = .ok (.iload_n 0, 1) := by decide +kernel
theorem oD61_1 : decode method_3_code 1 = .ok (.sipush 255, 3) := by decide +kernel
theorem oD61_4 : decode method_3_code 4 = .ok (.iand, 1) := by decide +kernel
theorem oD61_5 : decode method_3_code 5 = .ok (.istore_n 1, 1) := by decide +kernel
theorem oD61_6 : decode method_3_code 6 = .ok (.iload_n 1, 1) := by decide +kernel
theorem oD61_7 : decode method_3_code 7 = .ok (.bipush 42, 2) := by decide +kernel
theorem oD61_9 : decode method_3_code 9 = .ok (.if_icmp .ne 7, 3) := by decide +kernel
theorem oD61_16 : decode method_3_code 16 = .ok (.iload_n 1, 1) := by decide +kernel
theorem oD61_17 : decode method_3_code 17 = .ok (.i2c, 1) := by decide +kernel
theorem oD61_18 : decode method_3_code 18 = .ok (.ireturn, 1) := by decide +kernel
theorem oD61_12 : decode method_3_code 12 = .ok (.sipush 256, 3) := by decide +kernel
theorem oD61_15 : decode method_3_code 15 = .ok (.ireturn, 1) := by decide +kernel
theorem o_pn_11 : plainName "org/adviceweft/pointcut/NamePattern" = true := by first | (simp [plainName, overriddenIn]; done) | decide +kernel
theorem oD62_0 : decode prog_8_method_8_code 0 = .ok (.aload_n 0, 1) := by decide +kernel
theorem oD62_1 : decode prog_8_method_8_code 1 = .ok (.getfield 53, 3) := by decide +kernel
theorem oD62_4 : decode prog_8_method_8_code 4 = .ok (.areturn, 1) := by decide +kernel
theorem oD63_0 : decode prog_8_method_9_code 0 = .ok (.aload_n 0, 1) := by decide +kernel
theorem oD63_1 : decode prog_8_method_9_code 1 = .ok (.getfield 56, 3) := by decide +kernel
theorem oD63_4 : decode prog_8_method_9_code 4 = .ok (.ireturn, 1) := by decide +kernel
theorem oD64_0 : decode prog_8_method_10_code 0 = .ok (.aload_n 0, 1) := by decide +kernel
theorem oD64_1 : decode prog_8_method_10_code 1 = .ok (.getfield 60, 3) := by decide +kernel
theorem oD64_4 : decode prog_8_method_10_code 4 = .ok (.ireturn, 1) := by decide +kernel
theorem oD65_0 : decode oJ57 0 = .ok (.iload_n 0, 1) := by decide +kernel
theorem oD65_1 : decode oJ57 1 = .ok (.sipush 255, 3) := by decide +kernel
theorem oD65_4 : decode oJ57 4 = .ok (.if_icmp .gt 7, 3) := by decide +kernel
theorem oD65_7 : decode oJ57 7 = .ok (.iconst 1, 1) := by decide +kernel
theorem oD65_8 : decode oJ57 8 = .ok (.goto 4, 3) := by decide +kernel
theorem oD65_12 : decode oJ57 12 = .ok (.ireturn, 1) := by decide +kernel
theorem oD66_0 : decode oJ48 0 = .ok (.iconst 1, 1) := by decide +kernel
theorem oD66_1 : decode oJ48 1 = .ok (.newarray .byte, 2) := by decide +kernel
theorem oD66_3 : decode oJ48 3 = .ok (.dup, 1) := by decide +kernel
theorem oD66_4 : decode oJ48 4 = .ok (.iconst 0, 1) := by decide +kernel
theorem oD66_5 : decode oJ48 5 = .ok (.iload_n 0, 1) := by decide +kernel
theorem oD66_6 : decode oJ48 6 = .ok (.i2b, 1) := by decide +kernel
theorem oD66_7 : decode oJ48 7 = .ok (.bastore, 1) := by decide +kernel
theorem oD66_8 : decode oJ48 8 = .ok (.areturn, 1) := by decide +kernel
theorem oD67_0 : decode oJ34 0 = .ok (.getstatic 38, 3) := by decide +kernel
theorem oD67_3 : decode oJ34 3 = .ok (.ifCond .eq 23, 3) := by decide +kernel
theorem oD67_6 : decode oJ34 6 = .ok (.iload_n 0, 1) := by decide +kernel
theorem oD67_7 : decode oJ34 7 = .ok (.invokestatic 1015, 3) := by decide +kernel
theorem o_pd__28C_29Z : parseMethodDescriptor "(C)Z" = some ⟨[.char], some .boolean⟩ := by decide +kernel
theorem oD67_10 : decode oJ34 10 = .ok (.ifCond .eq 16, 3) := by decide +kernel
theorem oD67_13 : decode oJ34 13 = .ok (.new 10, 3) := by decide +kernel
theorem oD67_16 : decode oJ34 16 = .ok (.dup, 1) := by decide +kernel
theorem oD67_17 : decode oJ34 17 = .ok (.iload_n 0, 1) := by decide +kernel
theorem oD67_18 : decode oJ34 18 = .ok (.invokestatic 1018, 3) := by decide +kernel
theorem o_pd__28C_29_5bB : parseMethodDescriptor "(C)[B" = some ⟨[.char], some (.array .byte)⟩ := by decide +kernel
theorem oD67_21 : decode oJ34 21 = .ok (.iconst 0, 1) := by decide +kernel
theorem oD67_22 : decode oJ34 22 = .ok (.invokespecial 209, 3) := by decide +kernel
theorem oD67_25 : decode oJ34 25 = .ok (.areturn, 1) := by decide +kernel
theorem o_ef37 (m : MethodId) (x0 : Addr) : entryFrame m #[(.ref x0), (.int 16)] 2 = mkF m 0 #[.val (.ref x0), .val (.int 16)] [] := by first | (simp [entryFrame, mkF, argsToLocals, Value.category]; done) | rfl
theorem oD68_0 : decode oJ31 0 = .ok (.aload_n 0, 1) := by decide +kernel
theorem oD68_1 : decode oJ31 1 = .ok (.invokespecial 3, 3) := by decide +kernel
theorem oD68_4 : decode oJ31 4 = .ok (.getstatic 18, 3) := by decide +kernel
theorem oD68_7 : decode oJ31 7 = .ok (.ifCond .eq 18, 3) := by decide +kernel
theorem oD68_10 : decode oJ31 10 = .ok (.aload_n 0, 1) := by decide +kernel
theorem oD68_11 : decode oJ31 11 = .ok (.iload_n 1, 1) := by decide +kernel
theorem oD68_12 : decode oJ31 12 = .ok (.newarray .byte, 2) := by decide +kernel
theorem oD68_14 : decode oJ31 14 = .ok (.putfield 15, 3) := by decide +kernel
theorem oD68_17 : decode oJ31 17 = .ok (.aload_n 0, 1) := by decide +kernel
theorem oD68_18 : decode oJ31 18 = .ok (.iconst 0, 1) := by decide +kernel
theorem oD68_19 : decode oJ31 19 = .ok (.putfield 22, 3) := by decide +kernel
theorem oD68_22 : decode oJ31 22 = .ok (.goto 16, 3) := by decide +kernel
theorem oD68_38 : decode oJ31 38 = .ok (.return_, 1) := by decide +kernel
theorem oD69_0 : decode jdk_67_method_1_code 0 = .ok (.aload_n 0, 1) := by decide +kernel
theorem oD69_1 : decode jdk_67_method_1_code 1 = .ok (.bipush 16, 2) := by decide +kernel
theorem oD69_3 : decode jdk_67_method_1_code 3 = .ok (.invokespecial 1, 3) := by decide +kernel
theorem oD69_6 : decode jdk_67_method_1_code 6 = .ok (.return_, 1) := by decide +kernel
theorem oD70_0 : decode oJ22 0 = .ok (.new 31, 3) := by decide +kernel
theorem oD70_3 : decode oJ22 3 = .ok (.dup, 1) := by decide +kernel
theorem oD70_4 : decode oJ22 4 = .ok (.invokespecial 33, 3) := by decide +kernel
theorem oD70_7 : decode oJ22 7 = .ok (.iload_n 1, 1) := by decide +kernel
theorem oD70_8 : decode oJ22 8 = .ok (.ifCond .eq 8, 3) := by decide +kernel
theorem oD70_16 : decode oJ22 16 = .ok (.ldc 69, 2) := by decide +kernel
theorem oD70_18 : decode oJ22 18 = .ok (.invokevirtual 36, 3) := by decide +kernel
theorem o_pd__28Ljava_2flang_2fString_3b_29Ljava_2flang_2fStringBuilder_3b : parseMethodDescriptor "(Ljava/lang/String;)Ljava/lang/StringBuilder;" = some ⟨[(.object "java/lang/String")], some (.object "java/lang/StringBuilder")⟩ := by decide +kernel
theorem oD70_21 : decode oJ22 21 = .ok (.aload_n 0, 1) := by decide +kernel
theorem oD70_22 : decode oJ22 22 = .ok (.invokevirtual 36, 3) := by decide +kernel
theorem oD70_25 : decode oJ22 25 = .ok (.iload_n 2, 1) := by decide +kernel
theorem oD70_26 : decode oJ22 26 = .ok (.ifCond .eq 8, 3) := by decide +kernel
theorem oD70_34 : decode oJ22 34 = .ok (.ldc 69, 2) := by decide +kernel
theorem oD70_36 : decode oJ22 36 = .ok (.invokevirtual 36, 3) := by decide +kernel
theorem oD70_39 : decode oJ22 39 = .ok (.invokevirtual 46, 3) := by decide +kernel
theorem oD70_42 : decode oJ22 42 = .ok (.areturn, 1) := by decide +kernel
theorem oD70_29 : decode oJ22 29 = .ok (.ldc 17, 2) := by decide +kernel
theorem oD70_31 : decode oJ22 31 = .ok (.goto 5, 3) := by decide +kernel
theorem oD70_11 : decode oJ22 11 = .ok (.ldc 17, 2) := by decide +kernel
theorem oD70_13 : decode oJ22 13 = .ok (.goto 5, 3) := by decide +kernel
theorem oD71_0 : decode oJ51 0 = .ok (.aload_n 0, 1) := by decide +kernel
theorem oD71_1 : decode oJ51 1 = .ok (.getfield 53, 3) := by decide +kernel
theorem oD71_4 : decode oJ51 4 = .ok (.aload_n 0, 1) := by decide +kernel
theorem oD71_5 : decode oJ51 5 = .ok (.getfield 56, 3) := by decide +kernel
theorem oD71_8 : decode oJ51 8 = .ok (.aload_n 0, 1) := by decide +kernel
theorem oD71_9 : decode oJ51 9 = .ok (.getfield 60, 3) := by decide +kernel
theorem oD71_12 : decode oJ51 12 = .ok (.invokestatic 40, 3) := by decide +kernel
theorem o_pd__28Ljava_2flang_2fString_3bZZ_29Ljava_2flang_2fString_3b : parseMethodDescriptor "(Ljava/lang/String;ZZ)Ljava/lang/String;" = some ⟨[(.object "java/lang/String"), .boolean, .boolean], some (.object "java/lang/String")⟩ := by decide +kernel
theorem oD71_15 : decode oJ51 15 = .ok (.areturn, 1) := by decide +kernel
theorem o_ef38 (m : MethodId) (x0 : Addr) (x1 : Addr) (x2 : Int32) (x3 : Int32) : entryFrame m #[(.ref x0), (.ref x1), (.int x2), (.int x3)] 4 = mkF m 0 #[.val (.ref x0), .val (.ref x1), .val (.int x2), .val (.int x3)] [] := by first | (simp [entryFrame, mkF, argsToLocals, Value.category]; done) | rfl
theorem oD72_0 : decode oJ10 0 = .ok (.aload_n 0, 1) := by decide +kernel
theorem oD72_1 : decode oJ10 1 = .ok (.invokespecial 1, 3) := by decide +kernel
theorem oD72_4 : decode oJ10 4 = .ok (.aload_n 1, 1) := by decide +kernel
theorem oD72_5 : decode oJ10 5 = .ok (.ldc 7, 2) := by decide +kernel
theorem oD72_7 : decode oJ10 7 = .ok (.invokestatic 9, 3) := by decide +kernel
theorem o_pd__28Ljava_2flang_2fObject_3bLjava_2flang_2fString_3b_29Ljava_2flang_2fObject_3b : parseMethodDescriptor "(Ljava/lang/Object;Ljava/lang/String;)Ljava/lang/Object;" = some ⟨[(.object "java/lang/Object"), (.object "java/lang/String")], some (.object "java/lang/Object")⟩ := by decide +kernel
theorem oD72_10 : decode oJ10 10 = .ok (.pop, 1) := by decide +kernel
theorem oD72_11 : decode oJ10 11 = .ok (.aload_n 1, 1) := by decide +kernel
theorem oD72_12 : decode oJ10 12 = .ok (.ldc 17, 2) := by decide +kernel
theorem oD72_14 : decode oJ10 14 = .ok (.invokevirtual 19, 3) := by decide +kernel
theorem o_pd__28Ljava_2flang_2fCharSequence_3b_29Z : parseMethodDescriptor "(Ljava/lang/CharSequence;)Z" = some ⟨[(.object "java/lang/CharSequence")], some .boolean⟩ := by decide +kernel
theorem oD72_17 : decode oJ10 17 = .ok (.ifCond .ne 18, 3) := by decide +kernel
theorem oD72_20 : decode oJ10 20 = .ok (.aload_n 1, 1) := by decide +kernel
theorem oD72_21 : decode oJ10 21 = .ok (.invokevirtual 25, 3) := by decide +kernel
theorem oD72_24 : decode oJ10 24 = .ok (.ifCond .eq 48, 3) := by decide +kernel
theorem oD72_72 : decode oJ10 72 = .ok (.aload_n 0, 1) := by decide +kernel
theorem oD72_73 : decode oJ10 73 = .ok (.aload_n 1, 1) := by decide +kernel
theorem oD72_74 : decode oJ10 74 = .ok (.putfield 53, 3) := by decide +kernel
theorem oD72_77 : decode oJ10 77 = .ok (.aload_n 0, 1) := by decide +kernel
theorem oD72_78 : decode oJ10 78 = .ok (.iload_n 2, 1) := by decide +kernel
theorem oD72_79 : decode oJ10 79 = .ok (.putfield 56, 3) := by decide +kernel
theorem oD72_82 : decode oJ10 82 = .ok (.aload_n 0, 1) := by decide +kernel
theorem oD72_83 : decode oJ10 83 = .ok (.iload_n 3, 1) := by decide +kernel
theorem oD72_84 : decode oJ10 84 = .ok (.putfield 60, 3) := by decide +kernel
theorem oD72_87 : decode oJ10 87 = .ok (.return_, 1) := by decide +kernel
theorem o_ef39 (m : MethodId) (x0 : Addr) (x1 : Addr) : entryFrame m #[(.ref x0), (.ref x1), (.int 1), (.int 0)] 4 = mkF m 0 #[.val (.ref x0), .val (.ref x1), .val (.int 1), .val (.int 0)] [] := by first | (simp [entryFrame, mkF, argsToLocals, Value.category]; done) | rfl
theorem oD72_27 : decode oJ10 27 = .ok (.iload_n 2, 1) := by decide +kernel
theorem oD72_28 : decode oJ10 28 = .ok (.ifCond .eq 7, 3) := by decide +kernel
theorem oD72_31 : decode oJ10 31 = .ok (.iload_n 3, 1) := by decide +kernel
theorem oD72_32 : decode oJ10 32 = .ok (.ifCond .eq 40, 3) := by decide +kernel
theorem o_ef40 (m : MethodId) (x0 : Addr) : entryFrame m #[(.ref x0)] 4 = mkF m 0 #[.val (.ref x0), .unset, .unset, .unset] [] := by first | (simp [entryFrame, mkF, argsToLocals, Value.category]; done) | rfl
theorem oD73_0 : decode oJ1 0 = .ok (.aload_n 0, 1) := by decide +kernel
theorem oD73_1 : decode oJ1 1 = .ok (.ldc 63, 2) := by decide +kernel
theorem oD73_3 : decode oJ1 3 = .ok (.invokestatic 9, 3) := by decide +kernel
theorem oD73_6 : decode oJ1 6 = .ok (.pop, 1) := by decide +kernel
theorem oD73_7 : decode oJ1 7 = .ok (.aload_n 0, 1) := by decide +kernel
theorem oD73_8 : decode oJ1 8 = .ok (.ldc 17, 2) := by decide +kernel
theorem oD73_10 : decode oJ1 10 = .ok (.invokevirtual 65, 3) := by decide +kernel
theorem o_pd__28Ljava_2flang_2fObject_3b_29Z : parseMethodDescriptor "(Ljava/lang/Object;)Z" = some ⟨[(.object "java/lang/Object")], some .boolean⟩ := by decide +kernel
theorem oD73_13 : decode oJ1 13 = .ok (.ifCond .eq 15, 3) := by decide +kernel
theorem oD73_16 : decode oJ1 16 = .ok (.new 15, 3) := by decide +kernel
theorem oD73_19 : decode oJ1 19 = .ok (.dup, 1) := by decide +kernel
theorem oD73_20 : decode oJ1 20 = .ok (.ldc 69, 2) := by decide +kernel
theorem oD73_22 : decode oJ1 22 = .ok (.iconst 1, 1) := by decide +kernel
theorem oD73_23 : decode oJ1 23 = .ok (.iconst 0, 1) := by decide +kernel
theorem oD73_24 : decode oJ1 24 = .ok (.invokespecial 71, 3) := by decide +kernel
theorem o_pd__28Ljava_2flang_2fString_3bZZ_29V : parseMethodDescriptor "(Ljava/lang/String;ZZ)V" = some ⟨[(.object "java/lang/String"), .boolean, .boolean], none⟩ := by decide +kernel
theorem oD73_27 : decode oJ1 27 = .ok (.areturn, 1) := by decide +kernel
theorem oD73_28 : decode oJ1 28 = .ok (.aload_n 0, 1) := by decide +kernel
theorem oD73_29 : decode oJ1 29 = .ok (.ldc 17, 2) := by decide +kernel
theorem oD73_31 : decode oJ1 31 = .ok (.invokevirtual 74, 3) := by decide +kernel
theorem o_pd__28Ljava_2flang_2fString_3b_29Z : parseMethodDescriptor "(Ljava/lang/String;)Z" = some ⟨[(.object "java/lang/String")], some .boolean⟩ := by decide +kernel
theorem oD73_34 : decode oJ1 34 = .ok (.istore_n 1, 1) := by decide +kernel
theorem oD73_35 : decode oJ1 35 = .ok (.aload_n 0, 1) := by decide +kernel
theorem oD73_36 : decode oJ1 36 = .ok (.ldc 17, 2) := by decide +kernel
theorem oD73_38 : decode oJ1 38 = .ok (.invokevirtual 78, 3) := by decide +kernel
theorem oD73_41 : decode oJ1 41 = .ok (.istore_n 2, 1) := by decide +kernel
theorem oD73_42 : decode oJ1 42 = .ok (.aload_n 0, 1) := by decide +kernel
theorem oD73_43 : decode oJ1 43 = .ok (.iload_n 1, 1) := by decide +kernel
theorem oD73_44 : decode oJ1 44 = .ok (.ifCond .eq 7, 3) := by decide +kernel
theorem oD73_51 : decode oJ1 51 = .ok (.iconst 0, 1) := by decide +kernel
theorem oD73_52 : decode oJ1 52 = .ok (.aload_n 0, 1) := by decide +kernel
theorem oD73_53 : decode oJ1 53 = .ok (.invokevirtual 81, 3) := by decide +kernel
theorem oD73_56 : decode oJ1 56 = .ok (.iload_n 2, 1) := by decide +kernel
theorem oD73_57 : decode oJ1 57 = .ok (.ifCond .eq 7, 3) := by decide +kernel
theorem oD73_64 : decode oJ1 64 = .ok (.iconst 0, 1) := by decide +kernel
theorem oD73_65 : decode oJ1 65 = .ok (.isub, 1) := by decide +kernel
theorem oD73_66 : decode oJ1 66 = .ok (.invokevirtual 85, 3) := by decide +kernel
theorem o_pd__28II_29Ljava_2flang_2fString_3b : parseMethodDescriptor "(II)Ljava/lang/String;" = some ⟨[.int, .int], some (.object "java/lang/String")⟩ := by decide +kernel
theorem oD73_69 : decode oJ1 69 = .ok (.astore_n 3, 1) := by decide +kernel
theorem oD73_70 : decode oJ1 70 = .ok (.new 15, 3) := by decide +kernel
theorem oD73_73 : decode oJ1 73 = .ok (.dup, 1) := by decide +kernel
theorem oD73_74 : decode oJ1 74 = .ok (.aload_n 3, 1) := by decide +kernel
theorem oD73_75 : decode oJ1 75 = .ok (.iload_n 1, 1) := by decide +kernel
theorem oD73_76 : decode oJ1 76 = .ok (.iload_n 2, 1) := by decide +kernel
theorem oD73_77 : decode oJ1 77 = .ok (.invokespecial 71, 3) := by decide +kernel
theorem oD73_80 : decode oJ1 80 = .ok (.areturn, 1) := by decide +kernel
theorem oD73_60 : decode oJ1 60 = .ok (.iconst 1, 1) := by decide +kernel
theorem oD73_61 : decode oJ1 61 = .ok (.goto 4, 3) := by decide +kernel
theorem oD73_47 : decode oJ1 47 = .ok (.iconst 1, 1) := by decide +kernel
theorem oD73_48 : decode oJ1 48 = .ok (.goto 4, 3) := by decide +kernel
theorem o_ef41 (m : MethodId) (x0 : Int32) (x1 : Int32) (x2 : Int32) (x3 : Int32) : entryFrame m #[(.int x0), (.int x1), (.int x2), (.int x3)] maxLocals = mkF m 0 #[.val (.int x0), .val (.int x1), .val (.int x2), .val (.int x3), .unset, .unset, .unset, .unset, .unset, .unset, .unset, .unset, .unset, .unset, .unset, .unset, .unset] [] := by first | (simp [entryFrame, mkF, argsToLocals, Value.category, maxLocals]; done) | rfl
theorem o_pd__28I_29C : parseMethodDescriptor "(I)C" = some ⟨[.int], some .char⟩ := by decide +kernel
theorem o_pd__28_5bC_29V : parseMethodDescriptor "([C)V" = some ⟨[(.array .char)], none⟩ := by decide +kernel
theorem o_pd__28Ljava_2flang_2fString_3b_29Lorg_2fadviceweft_2fpointcut_2fNamePattern_3b : parseMethodDescriptor "(Ljava/lang/String;)Lorg/adviceweft/pointcut/NamePattern;" = some ⟨[(.object "java/lang/String")], some (.object "org/adviceweft/pointcut/NamePattern")⟩ := by decide +kernel
theorem o_pd__28C_29Ljava_2flang_2fString_3b : parseMethodDescriptor "(C)Ljava/lang/String;" = some ⟨[.char], some (.object "java/lang/String")⟩ := by decide +kernel
abbrev Qpch (Z : State) (a : Addr) (i : Int32) (ch : Int32) (ka : ClassId) (z : Int32) (cs : List Int32) (h0 : Heap) (n0 : Nat) (v : Option Value) (h : Heap) (L : List Loc) : Prop := v = none ∧ Fr n0 L ∧ Keep h0 h [a] ∧ Arv Z h a ka .byte z (o_V16 (cs ++ [ch])) (.int 0)
abbrev Qnbf16 (Z : State)  (h0 : Heap) (n0 : Nat) (v : Option Value) (h : Heap) (L : List Loc) : Prop := ∃ t2, v = some (.ref t2) ∧ Fr n0 L ∧ Keep h0 h [] ∧ n0 ≤ t2 ∧ h0.size ≤ t2 ∧ Exa Z h t2 "[B" ∧ ∃ k, Arv Z h t2 k .byte (32 : Int32) [] (.int 0)
abbrev Qgbb (Z : State) (x : Addr) (d : Addr) (i : Int32) (u : Addr) (ds : List Int32) (kd : ClassId) (z : Int32) (vd : List Value) (zC_ : Int32) (h0 : Heap) (n0 : Nat) (v : Option Value) (h : Heap) (L : List Loc) : Prop := v = none ∧ Fr n0 L ∧ Keep h0 h [d] ∧ Arv Z h d kd .byte z (vd ++ (o_V8 ds)) (.int 0)
abbrev Qpsa (Z : State) (b : Addr) (i : Int32) (x : Addr) (t : Addr) (z : Int32) (cs : List Int32) (u : Addr) (ds : List Int32) (zC_ : Int32) (h0 : Heap) (n0 : Nat) (v : Option Value) (h : Heap) (L : List Loc) : Prop := v = none ∧ Fr n0 L ∧ Keep h0 h [t] ∧ ∃ k, Arv Z h t k .byte z ((o_V8 cs) ++ (o_V8 ds)) (.int 0)
abbrev Qaap (Z : State) (b : Addr) (x : Addr) (t : Addr) (z : Int32) (cs : List Int32) (u : Addr) (ds : List Int32) (zC_ : Int32) (h0 : Heap) (n0 : Nat) (v : Option Value) (h : Heap) (L : List Loc) : Prop := v = some (.ref b) ∧ Fr n0 L ∧ Keep h0 h [b, t] ∧ o_Bl Z h b t z (cs ++ ds)
abbrev Qsap (Z : State) (b : Addr) (x : Addr) (t : Addr) (z : Int32) (cs : List Int32) (u : Addr) (ds : List Int32) (zC_ : Int32) (h0 : Heap) (n0 : Nat) (v : Option Value) (h : Heap) (L : List Loc) : Prop := v = some (.ref b) ∧ Fr n0 L ∧ Keep h0 h [b, t] ∧ o_Bl Z h b t z (cs ++ ds)
abbrev Qcgb (Z : State) (d : Addr) (fa : Int32) (fb : Int32) (ka : ClassId) (z : Int32) (Pa : List Value) (Ma : List Value) (Ra : List Value) (h0 : Heap) (n0 : Nat) (v : Option Value) (h : Heap) (L : List Loc) : Prop := ∃ t2, v = some (.ref t2) ∧ Fr n0 L ∧ Keep h0 h [] ∧ n0 ≤ t2 ∧ h0.size ≤ t2 ∧ Exa Z h t2 "[B" ∧ ∃ k, Arv Z h t2 k .byte (Int32.ofNat Ma.length) Ma (.int 0)
abbrev Qcog (Z : State) (d : Addr) (fa : Int32) (fb : Int32) (ka : ClassId) (z : Int32) (Pa : List Value) (Ma : List Value) (Ra : List Value) (h0 : Heap) (n0 : Nat) (v : Option Value) (h : Heap) (L : List Loc) : Prop := ∃ t2, v = some (.ref t2) ∧ Fr n0 L ∧ Keep h0 h [] ∧ n0 ≤ t2 ∧ h0.size ≤ t2 ∧ Exa Z h t2 "[B" ∧ ∃ k, Arv Z h t2 k .byte (Int32.ofNat Ma.length) Ma (.int 0)
abbrev Qsbk (Z : State) (x : Addr) (a : Addr) (kd : Int32) (h0 : Heap) (n0 : Nat) (v : Option Value) (h : Heap) (L : List Loc) : Prop := v = none ∧ Fr n0 L ∧ Keep h0 h [x] ∧ Exa Z h x "java/lang/String" ∧ o_FC Z h x (.int kd) ∧ o_FV Z h x (.ref a)
abbrev Qlns (Z : State) (a : Addr) (ii : Int32) (mm : Int32) (ka : ClassId) (pr : List Int32) (ds : List Int32) (po : List Int32) (h0 : Heap) (n0 : Nat) (v : Option Value) (h : Heap) (L : List Loc) : Prop := ∃ x t2 kd2, v = some (.ref x) ∧ Fr n0 L ∧ Keep h0 h [] ∧ n0 ≤ x ∧ h0.size ≤ x ∧ n0 ≤ t2 ∧ h0.size ≤ t2 ∧ ¬ t2 = x ∧ o_A Z h x t2 kd2 ds
abbrev Qcbg (Z : State) (a : Addr) (ii : Int32) (d : Addr) (mm : Int32) (ka : ClassId) (z : Int32) (cs : List Int32) (k : Nat) (kb : ClassId) (ds : List Int32) (fm : Value) (h0 : Heap) (n0 : Nat) (v : Option Value) (h : Heap) (L : List Loc) : Prop := ∃ j : Nat, v = some (.int (Int32.ofNat j)) ∧ Fr n0 L ∧ Keep h0 h [d] ∧ j < ds.length ∧ (255 : Int32) < ds.getD j 0
abbrev Qcpb (Z : State) (a : Addr) (ii : Int32) (mm : Int32) (ka : ClassId) (pr : List Int32) (ds : List Int32) (po : List Int32) (fm : Value) (h0 : Heap) (n0 : Nat) (v : Option Value) (h : Heap) (L : List Loc) : Prop := ∃ t2, v = some (.ref t2) ∧ Fr n0 L ∧ Keep h0 h [] ∧ n0 ≤ t2 ∧ h0.size ≤ t2 ∧ Exa Z h t2 "[B" ∧ ∃ k, Arv Z h t2 k .byte (Int32.ofNat (2 * ds.length)) (o_V16 ds) (.int 0)
abbrev Quns (Z : State) (a : Addr) (ii : Int32) (mm : Int32) (ka : ClassId) (pr : List Int32) (ds : List Int32) (po : List Int32) (fm : Value) (zC_ : Int32) (h0 : Heap) (n0 : Nat) (v : Option Value) (h : Heap) (L : List Loc) : Prop := ∃ x t2 kd2, v = some (.ref x) ∧ Fr n0 L ∧ Keep h0 h [] ∧ n0 ≤ x ∧ h0.size ≤ x ∧ n0 ≤ t2 ∧ h0.size ≤ t2 ∧ ¬ t2 = x ∧ o_A Z h x t2 kd2 ds
abbrev Qsbl (Z : State) (x : Addr) (bj : Int32) (ej : Int32) (t : Addr) (pr : List Int32) (ds : List Int32) (po : List Int32) (fm : Value) (zC_ : Int32) (h0 : Heap) (n0 : Nat) (v : Option Value) (h : Heap) (L : List Loc) : Prop := ∃ x t2 kd2, v = some (.ref x) ∧ Fr n0 L ∧ Keep h0 h [] ∧ n0 ≤ x ∧ h0.size ≤ x ∧ n0 ≤ t2 ∧ h0.size ≤ t2 ∧ ¬ t2 = x ∧ o_A Z h x t2 kd2 ds
abbrev Qsbu (Z : State) (x : Addr) (bj : Int32) (ej : Int32) (t : Addr) (pr : List Int32) (ds : List Int32) (po : List Int32) (fm : Value) (zC_ : Int32) (h0 : Heap) (n0 : Nat) (v : Option Value) (h : Heap) (L : List Loc) : Prop := ∃ x t2 kd2, v = some (.ref x) ∧ Fr n0 L ∧ Keep h0 h [] ∧ n0 ≤ x ∧ h0.size ≤ x ∧ n0 ≤ t2 ∧ h0.size ≤ t2 ∧ ¬ t2 = x ∧ o_A Z h x t2 kd2 ds
abbrev Qsba (Z : State) (x : Addr) (bj : Int32) (ej : Int32) (t : Addr) (kd : Int32) (pr : List Int32) (ds : List Int32) (po : List Int32) (fm : Value) (zC_ : Int32) (h0 : Heap) (n0 : Nat) (v : Option Value) (h : Heap) (L : List Loc) : Prop := ∃ x t2 kd2, v = some (.ref x) ∧ Fr n0 L ∧ Keep h0 h [] ∧ n0 ≤ x ∧ h0.size ≤ x ∧ n0 ≤ t2 ∧ h0.size ≤ t2 ∧ ¬ t2 = x ∧ o_A Z h x t2 kd2 ds
abbrev Qcci (Z : State) (a : Addr) (d : Addr) (nn : Int32) (ka : ClassId) (kb : ClassId) (cs : List Int32) (h0 : Heap) (n0 : Nat) (v : Option Value) (h : Heap) (L : List Loc) : Prop := ∃ j : Nat, v = some (.int (Int32.ofNat j)) ∧ Fr n0 L ∧ Keep h0 h [d] ∧ o_cut cs j ∧ Arv Z h d kb .byte nn (o_V8 (cs.take j)) (.int 0)
abbrev Qnbh (Z : State) (nn : Int32) (k : Nat) (h0 : Heap) (n0 : Nat) (v : Option Value) (h : Heap) (L : List Loc) : Prop := ∃ t2, v = some (.ref t2) ∧ Fr n0 L ∧ Keep h0 h [] ∧ n0 ≤ t2 ∧ h0.size ≤ t2 ∧ Exa Z h t2 "[B" ∧ ∃ ka, Arv Z h t2 ka .byte (Int32.ofNat (2 * k)) [] (.int 0)
abbrev Qtby (Z : State) (a : Addr) (nn : Int32) (ka : ClassId) (cs : List Int32) (h0 : Heap) (n0 : Nat) (v : Option Value) (h : Heap) (L : List Loc) : Prop := ∃ t2, v = some (.ref t2) ∧ Fr n0 L ∧ Keep h0 h [] ∧ n0 ≤ t2 ∧ h0.size ≤ t2 ∧ Exa Z h t2 "[B" ∧ ∃ k, Arv Z h t2 k .byte (Int32.ofNat (2 * cs.length)) (o_V16 cs) (.int 0)
abbrev Qcpg (Z : State) (a : Addr) (nn : Int32) (ka : ClassId) (cs : List Int32) (h0 : Heap) (n0 : Nat) (v : Option Value) (h : Heap) (L : List Loc) : Prop := ∃ t2 kd2 k, v = some (.ref t2) ∧ Fr n0 L ∧ Keep h0 h [] ∧ n0 ≤ t2 ∧ h0.size ≤ t2 ∧ Exa Z h t2 "[B" ∧ Arv Z h t2 k .byte (Int32.ofNat (o_vi kd2 cs).length) ((o_vi kd2 cs).map Value.int) (.int 0) ∧ o_AK kd2 cs
abbrev Qsif (Z : State) (x : Addr) (a : Addr) (nn : Int32) (ka : ClassId) (cs : List Int32) (zC_ : Int32) (h0 : Heap) (n0 : Nat) (v : Option Value) (h : Heap) (L : List Loc) : Prop := v = none ∧ Fr n0 L ∧ Keep h0 h [x] ∧ ∃ t kd, n0 ≤ t ∧ h0.size ≤ t ∧ ¬ t = x ∧ o_A Z h x t kd cs
abbrev Qstc (Z : State) (x : Addr) (a : Addr) (nn : Int32) (ka : ClassId) (cs : List Int32) (zC_ : Int32) (h0 : Heap) (n0 : Nat) (v : Option Value) (h : Heap) (L : List Loc) : Prop := v = none ∧ Fr n0 L ∧ Keep h0 h [x] ∧ ∃ t kd, n0 ≤ t ∧ h0.size ≤ t ∧ ¬ t = x ∧ o_A Z h x t kd cs
abbrev Quif0 (Z : State) (a : Addr) (d : Addr) (ii : Int32) (ka : ClassId) (kb : ClassId) (z : Int32) (cs : List Int32) (fm : Value) (h0 : Heap) (n0 : Nat) (v : Option Value) (h : Heap) (L : List Loc) : Prop := v = none ∧ Fr n0 L ∧ Keep h0 h [d] ∧ Arv Z h d kb .byte 32 (o_V16 cs) (.int 0)
abbrev Qlif0 (Z : State) (a : Addr) (d : Addr) (ii : Int32) (ka : ClassId) (kb : ClassId) (z : Int32) (cs : List Int32) (fm : Value) (h0 : Heap) (n0 : Nat) (v : Option Value) (h : Heap) (L : List Loc) : Prop := v = none ∧ Fr n0 L ∧ Keep h0 h [d] ∧ Arv Z h d kb .byte 32 (o_V16 cs) (.int 0)
abbrev Quif1 (Z : State) (a : Addr) (d : Addr) (ii : Int32) (ka : ClassId) (kb : ClassId) (z : Int32) (cs : List Int32) (fm : Value) (h0 : Heap) (n0 : Nat) (v : Option Value) (h : Heap) (L : List Loc) : Prop := v = none ∧ Fr n0 L ∧ Keep h0 h [d] ∧ Arv Z h d kb .byte 32 (o_V16 (cs ++ [42])) (.int 0)
abbrev Qlif1 (Z : State) (a : Addr) (d : Addr) (ii : Int32) (ka : ClassId) (kb : ClassId) (z : Int32) (cs : List Int32) (fm : Value) (h0 : Heap) (n0 : Nat) (v : Option Value) (h : Heap) (L : List Loc) : Prop := v = none ∧ Fr n0 L ∧ Keep h0 h [d] ∧ Arv Z h d kb .byte 32 (o_V16 (cs ++ [42])) (.int 0)
abbrev Qifl0 (Z : State) (b : Addr) (t : Addr) (fm : Value) (zC_ : Int32) (h0 : Heap) (n0 : Nat) (v : Option Value) (h : Heap) (L : List Loc) : Prop := v = none ∧ Fr n0 L ∧ Keep h0 h [b] ∧ ∃ t2, n0 ≤ t2 ∧ h0.size ≤ t2 ∧ o_Bv Z h b t2 ([] : List Int32).length ([] : List Int32)
abbrev Qinu0 (Z : State) (b : Addr) (x : Addr) (t : Addr) (u : Addr) (ds : List Int32) (fm : Value) (zC_ : Int32) (h0 : Heap) (n0 : Nat) (v : Option Value) (h : Heap) (L : List Loc) : Prop := v = none ∧ Fr n0 L ∧ Keep h0 h [b] ∧ ∃ t2, n0 ≤ t2 ∧ h0.size ≤ t2 ∧ o_Bv Z h b t2 ([] : List Int32).length ([] : List Int32)
abbrev Qifl1 (Z : State) (b : Addr) (t : Addr) (fm : Value) (zC_ : Int32) (h0 : Heap) (n0 : Nat) (v : Option Value) (h : Heap) (L : List Loc) : Prop := v = none ∧ Fr n0 L ∧ Keep h0 h [b] ∧ ∃ t2, n0 ≤ t2 ∧ h0.size ≤ t2 ∧ o_Bv Z h b t2 ([42] : List Int32).length ([42] : List Int32)
abbrev Qinu1 (Z : State) (b : Addr) (x : Addr) (t : Addr) (u : Addr) (ds : List Int32) (fm : Value) (zC_ : Int32) (h0 : Heap) (n0 : Nat) (v : Option Value) (h : Heap) (L : List Loc) : Prop := v = none ∧ Fr n0 L ∧ Keep h0 h [b] ∧ ∃ t2, n0 ≤ t2 ∧ h0.size ≤ t2 ∧ o_Bv Z h b t2 ([42] : List Int32).length ([42] : List Int32)
abbrev Qgbu (Z : State) (x : Addr) (d : Addr) (ii : Int32) (u : Addr) (ds : List Int32) (kb : ClassId) (cs : List Int32) (zC_ : Int32) (h0 : Heap) (n0 : Nat) (v : Option Value) (h : Heap) (L : List Loc) : Prop := v = none ∧ Fr n0 L ∧ Keep h0 h [d] ∧ Arv Z h d kb .byte 32 (o_V16 (cs ++ ds)) (.int 0)
abbrev Qgbv0 (Z : State) (x : Addr) (d : Addr) (ii : Int32) (u : Addr) (kb : ClassId) (cs : List Int32) (fm : Value) (zC_ : Int32) (h0 : Heap) (n0 : Nat) (v : Option Value) (h : Heap) (L : List Loc) : Prop := v = none ∧ Fr n0 L ∧ Keep h0 h [d] ∧ Arv Z h d kb .byte 32 (o_V16 cs) (.int 0)
abbrev Qgbv1 (Z : State) (x : Addr) (d : Addr) (ii : Int32) (u : Addr) (kb : ClassId) (cs : List Int32) (fm : Value) (zC_ : Int32) (h0 : Heap) (n0 : Nat) (v : Option Value) (h : Heap) (L : List Loc) : Prop := v = none ∧ Fr n0 L ∧ Keep h0 h [d] ∧ Arv Z h d kb .byte 32 (o_V16 (cs ++ [42])) (.int 0)
abbrev Qpsu0 (Z : State) (b : Addr) (x : Addr) (t : Addr) (u : Addr) (ds : List Int32) (fm : Value) (zC_ : Int32) (h0 : Heap) (n0 : Nat) (v : Option Value) (h : Heap) (L : List Loc) : Prop := v = none ∧ Fr n0 L ∧ Keep h0 h [b] ∧ ∃ t2, n0 ≤ t2 ∧ h0.size ≤ t2 ∧ o_Bv Z h b t2 ([] : List Int32).length (([] : List Int32) ++ ds)
abbrev Qaau0 (Z : State) (b : Addr) (x : Addr) (t : Addr) (u : Addr) (ds : List Int32) (fm : Value) (zC_ : Int32) (h0 : Heap) (n0 : Nat) (v : Option Value) (h : Heap) (L : List Loc) : Prop := v = some (.ref b) ∧ Fr n0 L ∧ Keep h0 h [b] ∧ ∃ t2, n0 ≤ t2 ∧ h0.size ≤ t2 ∧ o_Bv Z h b t2 (([] : List Int32) ++ ds).length (([] : List Int32) ++ ds)
abbrev Qsau0 (Z : State) (b : Addr) (x : Addr) (t : Addr) (u : Addr) (ds : List Int32) (fm : Value) (zC_ : Int32) (h0 : Heap) (n0 : Nat) (v : Option Value) (h : Heap) (L : List Loc) : Prop := v = some (.ref b) ∧ Fr n0 L ∧ Keep h0 h [b] ∧ ∃ t2, n0 ≤ t2 ∧ h0.size ≤ t2 ∧ o_Bv Z h b t2 (([] : List Int32) ++ ds).length (([] : List Int32) ++ ds)
abbrev Qpsv0 (Z : State) (b : Addr) (ii : Int32) (x : Addr) (t : Addr) (cs : List Int32) (u : Addr) (fm : Value) (zC_ : Int32) (h0 : Heap) (n0 : Nat) (v : Option Value) (h : Heap) (L : List Loc) : Prop := v = none ∧ Fr n0 L ∧ Keep h0 h [t] ∧ o_Bv Z h b t cs.length cs
abbrev Qaav0 (Z : State) (b : Addr) (x : Addr) (t : Addr) (cs : List Int32) (u : Addr) (fm : Value) (zC_ : Int32) (h0 : Heap) (n0 : Nat) (v : Option Value) (h : Heap) (L : List Loc) : Prop := v = some (.ref b) ∧ Fr n0 L ∧ Keep h0 h [b, t] ∧ o_Bv Z h b t cs.length cs
abbrev Qsav0 (Z : State) (b : Addr) (x : Addr) (t : Addr) (cs : List Int32) (u : Addr) (fm : Value) (zC_ : Int32) (h0 : Heap) (n0 : Nat) (v : Option Value) (h : Heap) (L : List Loc) : Prop := v = some (.ref b) ∧ Fr n0 L ∧ Keep h0 h [b, t] ∧ o_Bv Z h b t cs.length cs
abbrev Qpsu1 (Z : State) (b : Addr) (x : Addr) (t : Addr) (u : Addr) (ds : List Int32) (fm : Value) (zC_ : Int32) (h0 : Heap) (n0 : Nat) (v : Option Value) (h : Heap) (L : List Loc) : Prop := v = none ∧ Fr n0 L ∧ Keep h0 h [b] ∧ ∃ t2, n0 ≤ t2 ∧ h0.size ≤ t2 ∧ o_Bv Z h b t2 ([42] : List Int32).length (([42] : List Int32) ++ ds)
abbrev Qaau1 (Z : State) (b : Addr) (x : Addr) (t : Addr) (u : Addr) (ds : List Int32) (fm : Value) (zC_ : Int32) (h0 : Heap) (n0 : Nat) (v : Option Value) (h : Heap) (L : List Loc) : Prop := v = some (.ref b) ∧ Fr n0 L ∧ Keep h0 h [b] ∧ ∃ t2, n0 ≤ t2 ∧ h0.size ≤ t2 ∧ o_Bv Z h b t2 (([42] : List Int32) ++ ds).length (([42] : List Int32) ++ ds)
abbrev Qsau1 (Z : State) (b : Addr) (x : Addr) (t : Addr) (u : Addr) (ds : List Int32) (fm : Value) (zC_ : Int32) (h0 : Heap) (n0 : Nat) (v : Option Value) (h : Heap) (L : List Loc) : Prop := v = some (.ref b) ∧ Fr n0 L ∧ Keep h0 h [b] ∧ ∃ t2, n0 ≤ t2 ∧ h0.size ≤ t2 ∧ o_Bv Z h b t2 (([42] : List Int32) ++ ds).length (([42] : List Int32) ++ ds)
abbrev Qpsv1 (Z : State) (b : Addr) (ii : Int32) (x : Addr) (t : Addr) (cs : List Int32) (u : Addr) (fm : Value) (zC_ : Int32) (h0 : Heap) (n0 : Nat) (v : Option Value) (h : Heap) (L : List Loc) : Prop := v = none ∧ Fr n0 L ∧ Keep h0 h [t] ∧ o_Bv Z h b t cs.length (cs ++ [42])
abbrev Qaav1 (Z : State) (b : Addr) (x : Addr) (t : Addr) (cs : List Int32) (u : Addr) (fm : Value) (zC_ : Int32) (h0 : Heap) (n0 : Nat) (v : Option Value) (h : Heap) (L : List Loc) : Prop := v = some (.ref b) ∧ Fr n0 L ∧ Keep h0 h [b, t] ∧ o_Bv Z h b t (cs ++ [42]).length (cs ++ [42])
abbrev Qsav1 (Z : State) (b : Addr) (x : Addr) (t : Addr) (cs : List Int32) (u : Addr) (fm : Value) (zC_ : Int32) (h0 : Heap) (n0 : Nat) (v : Option Value) (h : Heap) (L : List Loc) : Prop := v = some (.ref b) ∧ Fr n0 L ∧ Keep h0 h [b, t] ∧ o_Bv Z h b t (cs ++ [42]).length (cs ++ [42])
abbrev Qsiu (Z : State) (x : Addr) (b : Addr) (t : Addr) (cs : List Int32) (zC_ : Int32) (h0 : Heap) (n0 : Nat) (v : Option Value) (h : Heap) (L : List Loc) : Prop := v = none ∧ Fr n0 L ∧ Keep h0 h [x] ∧ ∃ t2, n0 ≤ t2 ∧ h0.size ≤ t2 ∧ ¬ t2 = x ∧ o_A Z h x t2 1 cs
abbrev Qsju (Z : State) (x : Addr) (b : Addr) (t : Addr) (cs : List Int32) (zC_ : Int32) (h0 : Heap) (n0 : Nat) (v : Option Value) (h : Heap) (L : List Loc) : Prop := v = none ∧ Fr n0 L ∧ Keep h0 h [x] ∧ ∃ t2, n0 ≤ t2 ∧ h0.size ≤ t2 ∧ ¬ t2 = x ∧ o_A Z h x t2 1 cs
abbrev Qstu (Z : State) (b : Addr) (t : Addr) (cs : List Int32) (zC_ : Int32) (h0 : Heap) (n0 : Nat) (v : Option Value) (h : Heap) (L : List Loc) : Prop := ∃ x t2 kd2, v = some (.ref x) ∧ Fr n0 L ∧ Keep h0 h [] ∧ n0 ≤ x ∧ h0.size ≤ x ∧ n0 ≤ t2 ∧ h0.size ≤ t2 ∧ ¬ t2 = x ∧ o_A Z h x t2 kd2 cs
abbrev Qcob (Z : State) (d : Addr) (nn : Int32) (kd : ClassId) (z : Int32) (cs : List Int32) (h0 : Heap) (n0 : Nat) (v : Option Value) (h : Heap) (L : List Loc) : Prop := ∃ t2, v = some (.ref t2) ∧ Fr n0 L ∧ Keep h0 h [] ∧ n0 ≤ t2 ∧ h0.size ≤ t2 ∧ Exa Z h t2 "[B" ∧ ∃ k, Arv Z h t2 k .byte nn (o_V8 cs) (.int 0)
abbrev Qcor (Z : State) (d : Addr) (nn : Int32) (kd : ClassId) (z : Int32) (cs : List Int32) (h0 : Heap) (n0 : Nat) (v : Option Value) (h : Heap) (L : List Loc) : Prop := ∃ t2, v = some (.ref t2) ∧ Fr n0 L ∧ Keep h0 h [] ∧ n0 ≤ t2 ∧ h0.size ≤ t2 ∧ Exa Z h t2 "[B" ∧ ∃ k, Arv Z h t2 k .byte nn (o_V8 cs) (.int 0)
abbrev Qsia (Z : State) (x : Addr) (b : Addr) (t : Addr) (z : Int32) (cs : List Int32) (zC_ : Int32) (h0 : Heap) (n0 : Nat) (v : Option Value) (h : Heap) (L : List Loc) : Prop := v = none ∧ Fr n0 L ∧ Keep h0 h [x] ∧ ∃ t2, n0 ≤ t2 ∧ h0.size ≤ t2 ∧ ¬ t2 = x ∧ Exa Z h t2 "[B" ∧ o_Str Z h x t2 cs
abbrev Qsib (Z : State) (x : Addr) (b : Addr) (t : Addr) (z : Int32) (cs : List Int32) (zC_ : Int32) (h0 : Heap) (n0 : Nat) (v : Option Value) (h : Heap) (L : List Loc) : Prop := v = none ∧ Fr n0 L ∧ Keep h0 h [x] ∧ ∃ t2, n0 ≤ t2 ∧ h0.size ≤ t2 ∧ ¬ t2 = x ∧ Exa Z h t2 "[B" ∧ o_Str Z h x t2 cs
abbrev Qsts (Z : State) (b : Addr) (t : Addr) (z : Int32) (cs : List Int32) (zC_ : Int32) (h0 : Heap) (n0 : Nat) (v : Option Value) (h : Heap) (L : List Loc) : Prop := ∃ x t2, v = some (.ref x) ∧ Fr n0 L ∧ Keep h0 h [] ∧ n0 ≤ x ∧ h0.size ≤ x ∧ n0 ≤ t2 ∧ h0.size ≤ t2 ∧ ¬ t2 = x ∧ Exa Z h t2 "[B" ∧ o_Str Z h x t2 cs
abbrev Qtob (Z : State) (ch : Int32) (h0 : Heap) (n0 : Nat) (v : Option Value) (h : Heap) (L : List Loc) : Prop := ∃ t2, v = some (.ref t2) ∧ Fr n0 L ∧ Keep h0 h [] ∧ n0 ≤ t2 ∧ h0.size ≤ t2 ∧ Exa Z h t2 "[B" ∧ ∃ k, Arv Z h t2 k .byte 1 (o_V8 [ch]) (.int 0)
abbrev Qvoc (Z : State) (ch : Int32) (zC_ : Int32) (h0 : Heap) (n0 : Nat) (v : Option Value) (h : Heap) (L : List Loc) : Prop := ∃ x t2 kd2, v = some (.ref x) ∧ Fr n0 L ∧ Keep h0 h [] ∧ n0 ≤ x ∧ h0.size ≤ x ∧ n0 ≤ t2 ∧ h0.size ≤ t2 ∧ ¬ t2 = x ∧ o_A Z h x t2 kd2 [ch]
abbrev Qasi (Z : State) (b : Addr) (zC_ : Int32) (h0 : Heap) (n0 : Nat) (v : Option Value) (h : Heap) (L : List Loc) : Prop := v = none ∧ Fr n0 L ∧ Keep h0 h [b] ∧ ∃ t, n0 ≤ t ∧ h0.size ≤ t ∧ o_Bl Z h b t 16 []
abbrev Qsbi (Z : State) (b : Addr) (zC_ : Int32) (h0 : Heap) (n0 : Nat) (v : Option Value) (h : Heap) (L : List Loc) : Prop := v = none ∧ Fr n0 L ∧ Keep h0 h [b] ∧ ∃ t, n0 ≤ t ∧ h0.size ≤ t ∧ o_Bl Z h b t 16 []
abbrev Qwr0 (Z : State) (x : Addr) (B : Int32) (A : Int32) (u : Addr) (ds : List Int32) (fm : Value) (zC_ : Int32) (h0 : Heap) (n0 : Nat) (v : Option Value) (h : Heap) (L : List Loc) : Prop := ∃ x t2 kd2, v = some (.ref x) ∧ Fr n0 L ∧ Keep h0 h [] ∧ n0 ≤ x ∧ h0.size ≤ x ∧ n0 ≤ t2 ∧ h0.size ≤ t2 ∧ ¬ t2 = x ∧ o_A Z h x t2 kd2 (o_wr B A ds)
abbrev Qwr1 (Z : State) (x : Addr) (B : Int32) (A : Int32) (u : Addr) (ds : List Int32) (fm : Value) (zC_ : Int32) (h0 : Heap) (n0 : Nat) (v : Option Value) (h : Heap) (L : List Loc) : Prop := ∃ x t2 kd2, v = some (.ref x) ∧ Fr n0 L ∧ Keep h0 h [] ∧ n0 ≤ x ∧ h0.size ≤ x ∧ n0 ≤ t2 ∧ h0.size ≤ t2 ∧ ¬ t2 = x ∧ o_A Z h x t2 kd2 (o_wr B A ds)
abbrev Qwra (Z : State) (x : Addr) (B : Int32) (A : Int32) (u : Addr) (kd : Int32) (ds : List Int32) (fm : Value) (zC_ : Int32) (h0 : Heap) (n0 : Nat) (v : Option Value) (h : Heap) (L : List Loc) : Prop := ∃ x t2 kd2, v = some (.ref x) ∧ Fr n0 L ∧ Keep h0 h [] ∧ n0 ≤ x ∧ h0.size ≤ x ∧ n0 ≤ t2 ∧ h0.size ≤ t2 ∧ ¬ t2 = x ∧ o_A Z h x t2 kd2 (o_wr B A ds)
abbrev Qtsn (Z : State) (b : Addr) (x : Addr) (B : Int32) (A : Int32) (u : Addr) (kd : Int32) (ds : List Int32) (fm : Value) (zC_ : Int32) (h0 : Heap) (n0 : Nat) (v : Option Value) (h : Heap) (L : List Loc) : Prop := ∃ x t2 kd2, v = some (.ref x) ∧ Fr n0 L ∧ Keep h0 h [] ∧ n0 ≤ x ∧ h0.size ≤ x ∧ n0 ≤ t2 ∧ h0.size ≤ t2 ∧ ¬ t2 = x ∧ o_A Z h x t2 kd2 (o_wr B A ds)
abbrev Qcta (Z : State) (b : Addr) (x : Addr) (B : Int32) (A : Int32) (u : Addr) (kd : Int32) (ds : List Int32) (zC_ : Int32) (h0 : Heap) (n0 : Nat) (v : Option Value) (h : Heap) (L : List Loc) : Prop := v = none ∧ Fr n0 L ∧ Keep h0 h [b] ∧ Exa Z h b "org/adviceweft/pointcut/NamePattern" ∧ o_GK Z h b (.ref x) ∧ o_GB Z h b (.int B) ∧ o_GA Z h b (.int A)
abbrev Qct0 (Z : State) (b : Addr) (x : Addr) (u : Addr) (zC_ : Int32) (h0 : Heap) (n0 : Nat) (v : Option Value) (h : Heap) (L : List Loc) : Prop := v = none ∧ Fr n0 L ∧ Keep h0 h [b] ∧ Exa Z h b "org/adviceweft/pointcut/NamePattern" ∧ o_GK Z h b (.ref x) ∧ o_GB Z h b (.int 1) ∧ o_GA Z h b (.int 0)
abbrev Qpas (Z : State) (x : Addr) (t : Addr) (kd : Int32) (zC_ : Int32) (h0 : Heap) (n0 : Nat) (v : Option Value) (h : Heap) (L : List Loc) : Prop := ∃ b x t kd2, v = some (.ref b) ∧ Fr n0 L ∧ Keep h0 h [] ∧ n0 ≤ b ∧ h0.size ≤ b ∧ Exa Z h b "org/adviceweft/pointcut/NamePattern" ∧ o_GK Z h b (.ref x) ∧ o_GB Z h b (.int 1) ∧ o_GA Z h b (.int 0) ∧ o_A Z h x t kd2 []
abbrev Qpa00 (Z : State) (x : Addr) (t : Addr) (kd : Int32) (ds : List Int32) (fm : Value) (zC_ : Int32) (h0 : Heap) (n0 : Nat) (v : Option Value) (h : Heap) (L : List Loc) : Prop := ∃ b x t kd2, v = some (.ref b) ∧ Fr n0 L ∧ Keep h0 h [] ∧ n0 ≤ b ∧ h0.size ≤ b ∧ Exa Z h b "org/adviceweft/pointcut/NamePattern" ∧ o_GK Z h b (.ref x) ∧ o_GB Z h b (.int 0) ∧ o_GA Z h b (.int 0) ∧ o_A Z h x t kd2 ds
abbrev Qpa01 (Z : State) (x : Addr) (t : Addr) (kd : Int32) (ds : List Int32) (fm : Value) (zC_ : Int32) (h0 : Heap) (n0 : Nat) (v : Option Value) (h : Heap) (L : List Loc) : Prop := ∃ b x t kd2, v = some (.ref b) ∧ Fr n0 L ∧ Keep h0 h [] ∧ n0 ≤ b ∧ h0.size ≤ b ∧ Exa Z h b "org/adviceweft/pointcut/NamePattern" ∧ o_GK Z h b (.ref x) ∧ o_GB Z h b (.int 0) ∧ o_GA Z h b (.int 1) ∧ o_A Z h x t kd2 ds
abbrev Qpa10 (Z : State) (x : Addr) (t : Addr) (kd : Int32) (ds : List Int32) (fm : Value) (zC_ : Int32) (h0 : Heap) (n0 : Nat) (v : Option Value) (h : Heap) (L : List Loc) : Prop := ∃ b x t kd2, v = some (.ref b) ∧ Fr n0 L ∧ Keep h0 h [] ∧ n0 ≤ b ∧ h0.size ≤ b ∧ Exa Z h b "org/adviceweft/pointcut/NamePattern" ∧ o_GK Z h b (.ref x) ∧ o_GB Z h b (.int 1) ∧ o_GA Z h b (.int 0) ∧ o_A Z h x t kd2 ds
abbrev Qpa11 (Z : State) (x : Addr) (t : Addr) (kd : Int32) (ds : List Int32) (fm : Value) (zC_ : Int32) (h0 : Heap) (n0 : Nat) (v : Option Value) (h : Heap) (L : List Loc) : Prop := ∃ b x t kd2, v = some (.ref b) ∧ Fr n0 L ∧ Keep h0 h [] ∧ n0 ≤ b ∧ h0.size ≤ b ∧ Exa Z h b "org/adviceweft/pointcut/NamePattern" ∧ o_GK Z h b (.ref x) ∧ o_GB Z h b (.int 1) ∧ o_GA Z h b (.int 1) ∧ o_A Z h x t kd2 ds
abbrev Qpar (Z : State) (x : Addr) (t : Addr) (kd : Int32) (B : Int32) (A : Int32) (ds : List Int32) (fm : Value) (zC_ : Int32) (h0 : Heap) (n0 : Nat) (v : Option Value) (h : Heap) (L : List Loc) : Prop := ∃ b x t kd2, v = some (.ref b) ∧ Fr n0 L ∧ Keep h0 h [] ∧ n0 ≤ b ∧ h0.size ≤ b ∧ Exa Z h b "org/adviceweft/pointcut/NamePattern" ∧ o_GK Z h b (.ref x) ∧ o_GB Z h b (.int B) ∧ o_GA Z h b (.int A) ∧ o_A Z h x t kd2 ds
abbrev Q0 (Z : State) (p1 : Int32) (p2 : Int32) (p3 : Int32) (p4 : Int32) (fm : Value) (zC_ : Int32) (h0 : Heap) (n0 : Nat) (v : Option Value) (h : Heap) (L : List Loc) : Prop := v = some (.int 1) ∧ Fr n0 L
section OwnRm
variable (l : Launch) (Z : State) (a0 : Array Value)
theorem rmgch (hw : o_HW Z a0) (ws : o_LC) (a : Addr) (i : Int32) (ka : ClassId) (z : Int32) (cs : List Int32) (k : Nat) (h0 : Heap) (n0 : Nat) (O0 : Old Z n0 h0) (V_a : Arv Z h0 a ka .byte z (o_V16 cs) (.int 0)) (hz : ¬ z < 0) (h16 : o_c16 cs) (hi : i = Int32.ofNat k) (hk : k < cs.length) (hs : 2 * cs.length ≤ z.toNatClampNeg) (S_u : o_SU Z) :
    o_Met l Z o_m0 oJ18 2 (some .char) ws o_R0 #[(.ref a), (.int i)] h0 (o_P (some (.int (cs.getD k 0))) h0 n0) := by
  refine o_enter o_pn_0 (fun m => o_ef0 m a i) (fun p e s m below meth c s₁ hx hby hml hZ hown hnm hlk hrt X0 e0 => ?_)
  have N0 := Fr.nil n0
  have y_ := @hb _ _ hby
  have k_ := @o_k _ _ hw
  refine o_getS X0 hx hZ hown (host := "") (Or.inl (k_ 311 rfl)) Via.refl e0 (Sta.ext O0.2 S_u.1) (y_ oD0_0) (fun T1 X1 e1 => ?_)
  refine o_iFT (t := 28) X1 hx (y_ oD0_3) ?_
  refine o_iloadN X1 hx (y_ oD0_28) rfl ?_
  refine o_iconst X1 hx (y_ oD0_29) (x := 1) rfl ?_
  refine o_ishl X1 hx (y_ oD0_30) ?_
  refine o_valE (z := Int32.ofNat (2 * k)) (by rw [hi]; exact o_shl1 (Nat.lt_trans hk (o_z30 hs))) ?_
  refine o_istoreN X1 hx (y_ oD0_31) (A' := #[vR a, vI (Int32.ofNat (2 * k))]) rfl ?_
  refine o_aloadN X1 hx (y_ oD0_32) rfl rfl ?_
  refine o_iloadN X1 hx (y_ oD0_33) rfl ?_
  refine o_iinc X1 hx (y_ oD0_34) (y := 1) rfl rfl (A' := #[vR a, vI ((Int32.ofNat (2 * k)) + (1 : Int32))]) rfl ?_
  refine o_bload (v := (.int (o_lo (cs.getD k 0)))) X1 hx hZ e1 V_a (y_ oD0_37) (o_i2 hz hs (by omega)) (by rw [o_oc (show 2 * k < 2 ^ 31 by have := o_z30 hs; omega)]; exact (o_V16g hk).1) ?_
  refine o_sipush X1 hx (y_ oD0_38) (x := 255) rfl ?_
  refine o_iand X1 hx (y_ oD0_41) ?_
  refine o_getS X1 hx hZ hown (host := "") (Or.inl (k_ 312 rfl)) Via.refl e1 (Sta.ext O0.2 S_u.2.1) (y_ oD0_42) (fun T2 X2 e2 => ?_)
  refine o_ishl X2 hx (y_ oD0_45) ?_
  refine o_aloadN X2 hx (y_ oD0_46) rfl rfl ?_
  refine o_iloadN X2 hx (y_ oD0_47) rfl ?_
  refine o_bload (v := (.int (o_hi (cs.getD k 0)))) X2 hx hZ e2 V_a (y_ oD0_48) (by rw [show (Int32.ofNat (2 * k) + 1 : Int32) = Int32.ofNat (2 * k + 1) from o_oadd _ 1]; exact o_i2 hz hs (by omega)) (by rw [show (Int32.ofNat (2 * k) + 1 : Int32) = Int32.ofNat (2 * k + 1) from o_oadd _ 1, o_oc (by have := o_z30 hs; omega)]; exact (o_V16g hk).2) ?_
  refine o_sipush X2 hx (y_ oD0_49) (x := 255) rfl ?_
  refine o_iand X2 hx (y_ oD0_52) ?_
  refine o_getS X2 hx hZ hown (host := "") (Or.inl (k_ 313 rfl)) Via.refl e2 (Sta.ext O0.2 S_u.2.2) (y_ oD0_53) (fun T3 X3 e3 => ?_)
  refine o_ishl X3 hx (y_ oD0_56) ?_
  refine o_ior X3 hx (y_ oD0_57) ?_
  refine o_i2c X3 hx (y_ oD0_58) ?_
  refine o_valE (z := cs.getD k 0) (o_g16 (o_get16 h16 hk).1 (o_get16 h16 hk).2) ?_
  exact o_retN X3 hx (t := .char) hrt hlk (by simp) (y_ oD0_59) (o_n16 (o_get16 h16 hk)) (by decide) (by decide) (o_hQ e3 ⟨rfl, N0, rfl⟩)
theorem rmpch (hw : o_HW Z a0) (ws : o_LC) (a : Addr) (i : Int32) (ch : Int32) (ka : ClassId) (z : Int32) (cs : List Int32) (h0 : Heap) (n0 : Nat) (O0 : Old Z n0 h0) (V_a : Arv Z h0 a ka .byte z (o_V16 cs) (.int 0)) (hz : ¬ z < 0) (h16 : o_c16 cs) (hi : i = Int32.ofNat cs.length) (g_a : n0 ≤ a) (hs : 2 * (cs.length + 1) ≤ z.toNatClampNeg) (S_u : o_SU Z) :
    o_Met l Z o_m1 oJ21 3 none ws o_R0 #[(.ref a), (.int i), (.int ch)] h0 (Qpch Z a i ch ka z cs h0 n0) := by
  refine o_enter o_pn_0 (fun m => o_ef1 m a i ch) (fun p e s m below meth c s₁ hx hby hml hZ hown hnm hlk hrt X0 e0 => ?_)
  have N0 := Fr.nil n0
  have y_ := @hb _ _ hby
  have k_ := @o_k _ _ hw
  refine o_getS X0 hx hZ hown (host := "") (Or.inl (k_ 311 rfl)) Via.refl e0 (Sta.ext O0.2 S_u.1) (y_ oD1_0) (fun T1 X1 e1 => ?_)
  refine o_iFT (t := 28) X1 hx (y_ oD1_3) ?_
  refine o_iloadN X1 hx (y_ oD1_28) rfl ?_
  refine o_iconst X1 hx (y_ oD1_29) (x := 1) rfl ?_
  refine o_ishl X1 hx (y_ oD1_30) ?_
  refine o_valE (z := Int32.ofNat (2 * cs.length)) (by rw [hi]; exact o_shl1 (by have := o_z30 hs; omega)) ?_
  refine o_istoreN X1 hx (y_ oD1_31) (A' := #[vR a, vI (Int32.ofNat (2 * cs.length)), vI ch]) rfl ?_
  refine o_aloadN X1 hx (y_ oD1_32) rfl rfl ?_
  refine o_iloadN X1 hx (y_ oD1_33) rfl ?_
  refine o_iinc X1 hx (y_ oD1_34) (y := 1) rfl rfl (A' := #[vR a, vI ((Int32.ofNat (2 * cs.length)) + (1 : Int32)), vI ch]) rfl ?_
  refine o_iloadN X1 hx (y_ oD1_37) rfl ?_
  refine o_getS X1 hx hZ hown (host := "") (Or.inl (k_ 312 rfl)) Via.refl e1 (Sta.ext O0.2 S_u.2.1) (y_ oD1_38) (fun T2 X2 e2 => ?_)
  refine o_ishr X2 hx (y_ oD1_41) ?_
  refine o_i2b X2 hx (y_ oD1_42) ?_
  refine o_stBp (zz := (o_lo ch)) X2 hx hZ e2 V_a (y_ oD1_43) (o_i2 hz hs (by omega)) (by rw [o_oc (by have := o_z30 hs; omega)]; exact (o_V16len cs).symm) (by rw [o_shr0]; exact o_nb8 ch) (fun T3 h3 X3 e3 W3 V3 => ?_)
  have N3 := Fr.snoc X3 N0 g_a
  have O3 := Old.wr O0 W3 g_a
  refine o_aloadN X3 hx (y_ oD1_44) rfl rfl ?_
  refine o_iloadN X3 hx (y_ oD1_45) rfl ?_
  refine o_iloadN X3 hx (y_ oD1_46) rfl ?_
  refine o_getS X3 hx hZ hown (host := "") (Or.inl (k_ 313 rfl)) Via.refl e3 (Sta.ext O3.2 S_u.2.2) (y_ oD1_47) (fun T4 X4 e4 => ?_)
  refine o_ishr X4 hx (y_ oD1_50) ?_
  refine o_i2b X4 hx (y_ oD1_51) ?_
  refine o_stBp (zz := (o_hi ch)) X4 hx hZ e4 V3 (y_ oD1_52) (by rw [show (Int32.ofNat (2 * cs.length) + 1 : Int32) = Int32.ofNat (2 * cs.length + 1) from o_oadd _ 1]; exact o_i2 hz hs (by omega)) (by rw [show (Int32.ofNat (2 * cs.length) + 1 : Int32) = Int32.ofNat (2 * cs.length + 1) from o_oadd _ 1, o_oc (by have := o_z30 hs; omega), List.length_append, o_V16len]; rfl) (o_nb8 _) (fun T5 h5 X5 e5 W5 V5 => ?_)
  have N5 := Fr.snoc X5 N3 g_a
  have O5 := Old.wr O3 W5 g_a
  have kp6 := Keep.wr (Keep.refl h0 [a]) W3 (Or.inl (List.mem_of_getElem? (i := 0) rfl))
  have kp7 := Keep.wr kp6 W5 (Or.inl (List.mem_of_getElem? (i := 0) rfl))
  exact o_retV X5 hx hrt hlk (y_ oD1_53) (by decide) (by decide) (o_hQ e5 ⟨rfl, N5, kp7, by rw [← o_V16s]; exact V5⟩)
theorem rmnbl16 (hw : o_HW Z a0) (ws : o_LC)  (h0 : Heap) (n0 : Nat) (O0 : Old Z n0 h0) :
    o_Met l Z o_m2 oJ39 1 (some .int) ws o_R0 #[(.int 16)] h0 (o_P (some (.int 32)) h0 n0) := by
  refine o_enter o_pn_0 (fun m => o_ef2 m) (fun p e s m below meth c s₁ hx hby hml hZ hown hnm hlk hrt X0 e0 => ?_)
  have N0 := Fr.nil n0
  have y_ := @hb _ _ hby
  have k_ := @o_k _ _ hw
  refine o_iloadN X0 hx (y_ oD2_0) rfl ?_
  refine o_iFT (t := 12) X0 hx (y_ oD2_1) ?_
  refine o_iloadN X0 hx (y_ oD2_12) rfl ?_
  refine o_st (g' := (mkF m 15 #[vI 16] (.int 1073741823 :: [(.int 16)]))) (fun _ z => X0.ldcI hx hown (mvT hZ (k_ 307 rfl)) (g := (mkF m 13 #[vI 16] [(.int 16)])) rfl (y_ oD2_13) z) ?_
  refine o_iCT (t := 55) X0 hx (y_ oD2_15) ?_
  refine o_iloadN X0 hx (y_ oD2_55) rfl ?_
  refine o_iconst X0 hx (y_ oD2_56) (x := 1) rfl ?_
  refine o_ishl X0 hx (y_ oD2_57) ?_
  refine o_valE (z := 32) (by decide) ?_
  exact o_retI X0 hx hrt hlk (y_ oD2_58) (by decide) (by decide) (o_hQ e0 ⟨rfl, N0, rfl⟩)
theorem rmnbf16 (hw : o_HW Z a0) (ws : o_LC)  (h0 : Heap) (n0 : Nat) (O0 : Old Z n0 h0) :
    o_Met l Z o_m3 jdk_52_method_2_code 1 (some (.array .byte)) ws o_R1 #[(.int 16)] h0 (Qnbf16 Z  h0 n0) := by
  refine o_enter o_pn_0 (fun m => o_ef2 m) (fun p e s m below meth c s₁ hx hby hml hZ hown hnm hlk hrt X0 e0 => ?_)
  have N0 := Fr.nil n0
  have y_ := @hb _ _ hby
  have k_ := @o_k _ _ hw
  refine o_iloadN X0 hx (y_ oD3_0) rfl ?_
  refine o_sta (y := o_m2) (argsL := [(.int 16)]) (S := []) (W := 0) X0 hx hZ hown (k_ 304 rfl) (k_ 305 rfl) (k_ 247 rfl) (k_ 306 rfl) (backOf (W := 0) (rmnbl16 l Z a0 hw [] h0 n0 O0) hZ (k_ 306 rfl) (k_ 247 rfl) (by decide) (by decide)) e0 hml (lenOf o_pd__28I_29I rfl) (y_ oD3_1) (fun T1 L1 v1 X1 hQ1 => ?_)
  obtain ⟨rfl, N1q, hh1⟩ := hQ1
  have N1 := Fr.app N0 N1q
  show o_G p e below _ T1 (mkF m 4 #[vI 16] [(.int 32)])
  refine o_newE (cap := 32) X1 hx hZ (k_ 18 rfl) hh1 (y_ oD3_4) (by decide) (by decide) (fun T2 h2 k2 b2 X2 e2 gg2 E2 V2 A2 => ?_)
  have g_b2 := o_fresh O0 gg2
  have O2 := Old.ext O0 E2
  have kp3 := Keep.ext (Keep.refl h0 []) E2
  exact o_retA X2 hx hrt hlk rfl rfl rfl (y_ oD3_6) (by decide) (by decide) (o_hQ e2 ⟨b2, rfl, N1, kp3, g_b2, (Nat.le_trans (Keep.refl h0 []).1 (Nat.le_of_eq gg2.symm)), A2, _, V2⟩)
theorem rmcod (hw : o_HW Z a0) (ws : o_LC) (x : Addr) (zC_ : Int32) (h0 : Heap) (n0 : Nat) (O0 : Old Z n0 h0) (C_x : o_FC Z h0 x (.int 0)) (SC_ : o_SC Z zC_) (hC_ : ¬ zC_ = 0) :
    o_Met l Z o_m4 oJ52 1 (some .byte) ws o_R0 #[(.ref x)] h0 (o_P (some (.int 0)) h0 n0) := by
  refine o_enter o_pn_1 (fun m => o_ef3 m x) (fun p e s m below meth c s₁ hx hby hml hZ hown hnm hlk hrt X0 e0 => ?_)
  have N0 := Fr.nil n0
  have y_ := @hb _ _ hby
  have k_ := @o_k _ _ hw
  refine o_getS X0 hx hZ hown (host := "") (Or.inl (k_ 8 rfl)) Via.refl e0 (Sta.ext O0.2 SC_) (y_ oD4_0) (fun T1 X1 e1 => ?_)
  refine o_iF (t := 13) X1 hx (y_ oD4_3) (fun hq => ?_) (fun hq => ?_)
  · have hc3 := o_h_eq.1 hq
    exact absurd hc3 hC_
  have hc3 := o_h_eq.2 hq
  refine o_aloadN X1 hx (y_ oD4_6) rfl rfl ?_
  refine o_getF X1 hx hZ hown (host := "") (Or.inl (k_ 28 rfl)) Via.refl e1 C_x (y_ oD4_7) (fun T2 X2 e2 => ?_)
  refine o_gO (t := 14) X2 hx (y_ oD4_10) ?_
  exact o_retN X2 hx (t := .byte) hrt hlk (by simp) (y_ oD4_14) rfl (by decide) (by decide) (o_hQ e2 ⟨rfl, N0, rfl⟩)
theorem rmisl (hw : o_HW Z a0) (ws : o_LC) (x : Addr) (zC_ : Int32) (h0 : Heap) (n0 : Nat) (O0 : Old Z n0 h0) (C_x : o_FC Z h0 x (.int 0)) (SC_ : o_SC Z zC_) (hC_ : ¬ zC_ = 0) :
    o_Met l Z o_m5 oJ37 1 (some .boolean) ws o_R0 #[(.ref x)] h0 (o_P (some (.int 1)) h0 n0) := by
  refine o_enter o_pn_1 (fun m => o_ef3 m x) (fun p e s m below meth c s₁ hx hby hml hZ hown hnm hlk hrt X0 e0 => ?_)
  have N0 := Fr.nil n0
  have y_ := @hb _ _ hby
  have k_ := @o_k _ _ hw
  refine o_getS X0 hx hZ hown (host := "") (Or.inl (k_ 8 rfl)) Via.refl e0 (Sta.ext O0.2 SC_) (y_ oD5_0) (fun T1 X1 e1 => ?_)
  refine o_iF (t := 17) X1 hx (y_ oD5_3) (fun hq => ?_) (fun hq => ?_)
  · have hc3 := o_h_eq.1 hq
    exact absurd hc3 hC_
  have hc3 := o_h_eq.2 hq
  refine o_aloadN X1 hx (y_ oD5_6) rfl rfl ?_
  refine o_getF X1 hx hZ hown (host := "") (Or.inl (k_ 28 rfl)) Via.refl e1 C_x (y_ oD5_7) (fun T2 X2 e2 => ?_)
  refine o_iFF X2 hx (y_ oD5_10) ?_
  refine o_iconst X2 hx (y_ oD5_13) (x := 1) rfl ?_
  refine o_gO (t := 18) X2 hx (y_ oD5_14) ?_
  exact o_retN X2 hx (t := .boolean) hrt hlk (by simp) (y_ oD5_18) rfl (by decide) (by decide) (o_hQ e2 ⟨rfl, N0, rfl⟩)
theorem rmlen (hw : o_HW Z a0) (ws : o_LC) (x : Addr) (u : Addr) (ds : List Int32) (zC_ : Int32) (h0 : Heap) (n0 : Nat) (O0 : Old Z n0 h0) (S_x : o_Str Z h0 x u ds) (SC_ : o_SC Z zC_) (hC_ : ¬ zC_ = 0) :
    o_Met l Z o_m6 oJ47 1 (some .int) ws o_R2 #[(.ref x)] h0 (o_P (some (.int (Int32.ofNat ds.length))) h0 n0) := by
  refine o_enter o_pn_1 (fun m => o_ef3 m x) (fun p e s m below meth c s₁ hx hby hml hZ hown hnm hlk hrt X0 e0 => ?_)
  have N0 := Fr.nil n0
  have y_ := @hb _ _ hby
  have k_ := @o_k _ _ hw
  obtain ⟨ks1, Sa1⟩ := S_x.2.2.2.1
  refine o_aloadN X0 hx (y_ oD6_0) rfl rfl ?_
  refine o_getF X0 hx hZ hown (host := "") (Or.inl (k_ 26 rfl)) Via.refl e0 S_x.2.2.1 (y_ oD6_1) (fun T2 X2 e2 => ?_)
  refine o_alen (n := (Int32.ofNat ds.length)) X2 hx hZ e2 Sa1 (y_ oD6_4) ?_
  refine o_aloadN X2 hx (y_ oD6_5) rfl rfl ?_
  refine o_vir (y := o_m4) (b := x) (argsL := []) (S := [(.int (Int32.ofNat ds.length))]) (W := 1) X2 hx hZ hown (k_ 82 rfl) (k_ 83 rfl) (k_ 85 rfl) (k_ 84 rfl) (backOf (W := 1) (rmcod l Z a0 hw [] x zC_ h0 n0 O0 S_x.2.1 SC_ hC_) hZ (k_ 86 rfl) (k_ 6 rfl) (by decide) (by decide)) e2 S_x.1 hml (lenOf o_pd__28_29B rfl) (y_ oD6_6) (fun T3 L3 v3 X3 hQ3 => ?_)
  obtain ⟨rfl, N3q, hh3⟩ := hQ3
  have N3 := Fr.app N0 N3q
  show o_G p e below _ T3 (mkF m 9 #[vR x] [(.int 0), (.int (Int32.ofNat ds.length))])
  refine o_ishr X3 hx (y_ oD6_9) ?_
  refine o_valE (z := (Int32.ofNat ds.length)) o_shr0 ?_
  exact o_retI X3 hx hrt hlk (y_ oD6_10) (by decide) (by decide) (o_hQ hh3 ⟨rfl, N3, rfl⟩)
theorem rmeci (hw : o_HW Z a0) (ws : o_LC) (b : Addr) (mn : Int32) (t : Addr) (z : Int32) (cs : List Int32) (h0 : Heap) (n0 : Nat) (O0 : Old Z n0 h0) (B_b : o_Bl Z h0 b t z cs) (hcap : ¬ (0 : Int32) < mn - z) :
    o_Met l Z o_m7 oJ33 3 none ws o_R0 #[(.ref b), (.int mn)] h0 (o_P (none) h0 n0) := by
  refine o_enter o_pn_2 (fun m => o_ef4 m b mn) (fun p e s m below meth c s₁ hx hby hml hZ hown hnm hlk hrt X0 e0 => ?_)
  have N0 := Fr.nil n0
  have y_ := @hb _ _ hby
  have k_ := @o_k _ _ hw
  obtain ⟨Be1, Bc1, Bv1, Bn1, ⟨kb1, Ba1⟩, Bh1, Bs1, Bm1⟩ := id B_b
  refine o_aloadN X0 hx (y_ oD7_0) rfl rfl ?_
  refine o_getF X0 hx hZ hown (host := "") (Or.inl (k_ 144 rfl)) Via.refl e0 Bv1 (y_ oD7_1) (fun T2 X2 e2 => ?_)
  refine o_alen (n := z) X2 hx hZ e2 Ba1 (y_ oD7_4) ?_
  refine o_aloadN X2 hx (y_ oD7_5) rfl rfl ?_
  refine o_getF X2 hx hZ hown (host := "") (Or.inl (k_ 146 rfl)) Via.refl e2 Bc1 (y_ oD7_6) (fun T3 X3 e3 => ?_)
  refine o_ishr X3 hx (y_ oD7_9) ?_
  refine o_valE (z := z) o_shr0 ?_
  refine o_istoreN X3 hx (y_ oD7_10) (A' := #[vR b, vI mn, vI z]) rfl ?_
  refine o_iloadN X3 hx (y_ oD7_11) rfl ?_
  refine o_iloadN X3 hx (y_ oD7_12) rfl ?_
  refine o_isub X3 hx (y_ oD7_13) ?_
  refine o_iF (t := 38) X3 hx (y_ oD7_14) (fun hq => ?_) (fun hq => ?_)
  · have hc14 := o_h_le.1 hq
    exact o_retV X3 hx hrt hlk (y_ oD7_38) (by decide) (by decide) (o_hQ e3 ⟨rfl, N0, rfl⟩)
  have hc14 := o_h_le.2 hq
  exact absurd hc14 hcap
theorem rminf (hw : o_HW Z a0) (ws : o_LC) (b : Addr) (x : Addr) (t : Addr) (z : Int32) (cs : List Int32) (u : Addr) (ds : List Int32) (zC_ : Int32) (h0 : Heap) (n0 : Nat) (O0 : Old Z n0 h0) (B_b : o_Bl Z h0 b t z cs) (S_x : o_Str Z h0 x u ds) (SC_ : o_SC Z zC_) (hC_ : ¬ zC_ = 0) :
    o_Met l Z o_m8 oJ32 2 none ws o_R2 #[(.ref b), (.ref x)] h0 (o_P (none) h0 n0) := by
  refine o_enter o_pn_2 (fun m => o_ef5 m b x) (fun p e s m below meth c s₁ hx hby hml hZ hown hnm hlk hrt X0 e0 => ?_)
  have N0 := Fr.nil n0
  have y_ := @hb _ _ hby
  have k_ := @o_k _ _ hw
  obtain ⟨Be1, Bc1, Bv1, Bn1, ⟨kb1, Ba1⟩, Bh1, Bs1, Bm1⟩ := id B_b
  refine o_getS X0 hx hZ hown (host := "") (Or.inl (k_ 143 rfl)) Via.refl e0 (Sta.ext O0.2 SC_) (y_ oD8_0) (fun T2 X2 e2 => ?_)
  refine o_iF (t := 21) X2 hx (y_ oD8_3) (fun hq => ?_) (fun hq => ?_)
  · have hc3 := o_h_eq.1 hq
    exact absurd hc3 hC_
  have hc3 := o_h_eq.2 hq
  refine o_aloadN X2 hx (y_ oD8_6) rfl rfl ?_
  refine o_getF X2 hx hZ hown (host := "") (Or.inl (k_ 146 rfl)) Via.refl e2 Bc1 (y_ oD8_7) (fun T3 X3 e3 => ?_)
  refine o_aloadN X3 hx (y_ oD8_10) rfl rfl ?_
  refine o_vir (y := o_m4) (b := x) (argsL := []) (S := [(.int 0)]) (W := 1) X3 hx hZ hown (k_ 180 rfl) (k_ 83 rfl) (k_ 85 rfl) (k_ 84 rfl) (backOf (W := 1) (rmcod l Z a0 hw [] x zC_ h0 n0 O0 S_x.2.1 SC_ hC_) hZ (k_ 86 rfl) (k_ 6 rfl) (by decide) (by decide)) e3 S_x.1 hml (lenOf o_pd__28_29B rfl) (y_ oD8_11) (fun T4 L4 v4 X4 hQ4 => ?_)
  obtain ⟨rfl, N4q, hh4⟩ := hQ4
  have N4 := Fr.app N0 N4q
  show o_G p e below _ T4 (mkF m 14 #[vR b, vR x] [(.int 0), (.int 0)])
  refine o_iCT (t := 21) X4 hx (y_ oD8_14) ?_
  exact o_retV X4 hx hrt hlk (y_ oD8_21) (by decide) (by decide) (o_hQ hh4 ⟨rfl, N4, rfl⟩)
theorem rmgbb (hw : o_HW Z a0) (ws : o_LC) (x : Addr) (d : Addr) (i : Int32) (u : Addr) (ds : List Int32) (kd : ClassId) (z : Int32) (vd : List Value) (zC_ : Int32) (h0 : Heap) (n0 : Nat) (O0 : Old Z n0 h0) (S_x : o_Str Z h0 x u ds) (V_d : Arv Z h0 d kd .byte z vd (.int 0)) (g_d : n0 ≤ d) (hi : ¬ i < 0) (hl : i.toNatClampNeg = vd.length) (hs : vd.length + ds.length ≤ z.toNatClampNeg) (SC_ : o_SC Z zC_) (hC_ : ¬ zC_ = 0) :
    o_Met l Z o_m9 oJ7 4 none ws o_R3 #[(.ref x), (.ref d), (.int i), (.int 0)] h0 (Qgbb Z x d i u ds kd z vd zC_ h0 n0) := by
  refine o_enter o_pn_1 (fun m => o_ef6 m x d i) (fun p e s m below meth c s₁ hx hby hml hZ hown hnm hlk hrt X0 e0 => ?_)
  have N0 := Fr.nil n0
  have y_ := @hb _ _ hby
  have k_ := @o_k _ _ hw
  obtain ⟨ks1, Sa1⟩ := S_x.2.2.2.1
  refine o_aloadN X0 hx (y_ oD9_0) rfl rfl ?_
  refine o_vir (y := o_m4) (b := x) (argsL := []) (S := []) (W := 0) X0 hx hZ hown (k_ 82 rfl) (k_ 83 rfl) (k_ 85 rfl) (k_ 84 rfl) (backOf (W := 0) (rmcod l Z a0 hw [] x zC_ h0 n0 O0 S_x.2.1 SC_ hC_) hZ (k_ 86 rfl) (k_ 6 rfl) (by decide) (by decide)) e0 S_x.1 hml (lenOf o_pd__28_29B rfl) (y_ oD9_1) (fun T2 L2 v2 X2 hQ2 => ?_)
  obtain ⟨rfl, N2q, hh2⟩ := hQ2
  have N2 := Fr.app N0 N2q
  show o_G p e below _ T2 (mkF m 4 #[vR x, vR d, vI i, vI 0] [(.int 0)])
  refine o_iloadN X2 hx (y_ oD9_4) rfl ?_
  refine o_iCF X2 hx (y_ oD9_5) ?_
  refine o_aloadN X2 hx (y_ oD9_8) rfl rfl ?_
  refine o_getF X2 hx hZ hown (host := "") (Or.inl (k_ 26 rfl)) Via.refl hh2 S_x.2.2.1 (y_ oD9_9) (fun T3 X3 e3 => ?_)
  refine o_iconst X3 hx (y_ oD9_12) (x := 0) rfl ?_
  refine o_aloadN X3 hx (y_ oD9_13) rfl rfl ?_
  refine o_iloadN X3 hx (y_ oD9_14) rfl ?_
  refine o_iloadN X3 hx (y_ oD9_15) rfl ?_
  refine o_ishl X3 hx (y_ oD9_16) ?_
  refine o_valE (z := i) o_shl0 ?_
  refine o_aloadN X3 hx (y_ oD9_17) rfl rfl ?_
  refine o_getF X3 hx hZ hown (host := "") (Or.inl (k_ 26 rfl)) Via.refl e3 S_x.2.2.1 (y_ oD9_18) (fun T4 X4 e4 => ?_)
  refine o_alen (n := (Int32.ofNat ds.length)) X4 hx hZ e4 Sa1 (y_ oD9_21) ?_
  refine o_cpB (W := 0) (us := (o_V8 ds)) X4 hx hZ hown (k_ 186 rfl) (k_ 189 rfl) (k_ 187 rfl) (k_ 188 rfl) e4 Sa1 V_d (by decide) hi (o_on S_x.l31) (by rw [o_oc S_x.l31]; exact Nat.le_of_eq (Nat.zero_add _)) (by rw [o_oc S_x.l31, hl]; exact hs) (by rw [o_oc S_x.l31]; exact o_V8range ds) hl N2 g_d (by rw [hml]; rfl) (y_ oD9_22) (by decide) (Nat.le_of_eq rfl) (by rw [nativeFrameWords_plain 5 (by decide)]; decide) (fun T5 h5 L5 X5 e5 N5 Kp5 V5 => ?_)
  have O6 := Old.keep O0 Kp5 (allS g_d all0)
  refine o_gO (t := 43) X5 hx (y_ oD9_25) ?_
  have kp7 := Keep.trans (Keep.refl h0 [d]) Kp5 (allS (Or.inl (List.mem_of_getElem? (i := 0) rfl)) all0)
  exact o_retV X5 hx hrt hlk (y_ oD9_43) (by decide) (by decide) (o_hQ e5 ⟨rfl, N5, kp7, V5⟩)
theorem rmpsa (hw : o_HW Z a0) (ws : o_LC) (b : Addr) (i : Int32) (x : Addr) (t : Addr) (z : Int32) (cs : List Int32) (u : Addr) (ds : List Int32) (zC_ : Int32) (h0 : Heap) (n0 : Nat) (O0 : Old Z n0 h0) (B_b : o_Bl Z h0 b t z cs) (S_x : o_Str Z h0 x u ds) (g_t : n0 ≤ t) (hi : i = (Int32.ofNat cs.length)) (hs : cs.length + ds.length ≤ z.toNatClampNeg) (SC_ : o_SC Z zC_) (hC_ : ¬ zC_ = 0) :
    o_Met l Z o_m10 oJ28 3 none ws o_R4 #[(.ref b), (.int i), (.ref x)] h0 (Qpsa Z b i x t z cs u ds zC_ h0 n0) := by
  refine o_enter o_pn_2 (fun m => o_ef7 m b i x) (fun p e s m below meth c s₁ hx hby hml hZ hown hnm hlk hrt X0 e0 => ?_)
  have N0 := Fr.nil n0
  have y_ := @hb _ _ hby
  have k_ := @o_k _ _ hw
  obtain ⟨Be1, Bc1, Bv1, Bn1, ⟨kb1, Ba1⟩, Bh1, Bs1, Bm1⟩ := id B_b
  refine o_aloadN X0 hx (y_ oD10_0) rfl rfl ?_
  refine o_aloadN X0 hx (y_ oD10_1) rfl rfl ?_
  refine o_vir (y := o_m8) (b := b) (argsL := [(.ref x)]) (S := []) (W := 0) X0 hx hZ hown (k_ 175 rfl) (o_decl (k_ 176 rfl) (k_ 179 rfl)) (k_ 178 rfl) (k_ 176 rfl) (backOf (W := 0) (rminf l Z a0 hw [] b x t z cs u ds zC_ h0 n0 O0 B_b S_x SC_ hC_) hZ (k_ 179 rfl) (k_ 140 rfl) (by decide) (by decide)) e0 Be1 hml (lenOf o_pd__28Ljava_2flang_2fString_3b_29V rfl) (y_ oD10_2) (fun T2 L2 v2 X2 hQ2 => ?_)
  obtain ⟨rfl, N2q, hh2⟩ := hQ2
  have N2 := Fr.app N0 N2q
  show o_G p e below _ T2 (mkF m 5 #[vR b, vI i, vR x] [])
  refine o_aloadN X2 hx (y_ oD10_5) rfl rfl ?_
  refine o_aloadN X2 hx (y_ oD10_6) rfl rfl ?_
  refine o_getF X2 hx hZ hown (host := "") (Or.inl (k_ 144 rfl)) Via.refl hh2 Bv1 (y_ oD10_7) (fun T3 X3 e3 => ?_)
  refine o_iloadN X3 hx (y_ oD10_10) rfl ?_
  refine o_aloadN X3 hx (y_ oD10_11) rfl rfl ?_
  refine o_getF X3 hx hZ hown (host := "") (Or.inl (k_ 146 rfl)) Via.refl e3 Bc1 (y_ oD10_12) (fun T4 X4 e4 => ?_)
  refine o_vir (y := o_m9) (b := x) (argsL := [(.ref t), (.int i), (.int 0)]) (S := []) (W := 0) X4 hx hZ hown (k_ 181 rfl) (k_ 182 rfl) (k_ 184 rfl) (k_ 183 rfl) (backOf (W := 0) (rmgbb l Z a0 hw [] x t i u ds kb1 z (o_V8 cs) zC_ h0 n0 O0 S_x Ba1 g_t (by rw [hi]; exact o_on B_b.l31) (by rw [hi, o_oc B_b.l31]; exact (o_V8len cs).symm) (by rw [o_V8len]; exact hs) SC_ hC_) hZ (k_ 185 rfl) (k_ 6 rfl) (by decide) (by decide)) e4 S_x.1 hml (lenOf o_pd__28_5bBIB_29V rfl) (y_ oD10_15) (fun T5 L5 v5 X5 hQ5 => ?_)
  obtain ⟨rfl, N5q, Kp5, Va5⟩ := hQ5
  have N5 := Fr.app N2 N5q
  have O6 := Old.keep O0 Kp5 (allS g_t all0)
  show o_G p e below _ T5 (mkF m 18 #[vR b, vI i, vR x] [])
  have kp7 := Keep.trans (Keep.refl h0 [t]) Kp5 (allS (Or.inl (List.mem_of_getElem? (i := 0) rfl)) all0)
  exact o_retV X5 hx hrt hlk (y_ oD10_18) (by decide) (by decide) ⟨rfl, N5, kp7, _, Va5⟩
theorem rmaap (hw : o_HW Z a0) (ws : o_LC) (b : Addr) (x : Addr) (t : Addr) (z : Int32) (cs : List Int32) (u : Addr) (ds : List Int32) (zC_ : Int32) (h0 : Heap) (n0 : Nat) (O0 : Old Z n0 h0) (B_b : o_Bl Z h0 b t z cs) (S_x : o_Str Z h0 x u ds) (g_b : n0 ≤ b) (g_t : n0 ≤ t) (hs : cs.length + ds.length ≤ z.toNatClampNeg) (SC_ : o_SC Z zC_) (hC_ : ¬ zC_ = 0) :
    o_Met l Z o_m11 oJ9 3 (some (.object "java/lang/AbstractStringBuilder")) ws o_R5 #[(.ref b), (.ref x)] h0 (Qaap Z b x t z cs u ds zC_ h0 n0) := by
  refine o_enter o_pn_2 (fun m => o_ef8 m b x) (fun p e s m below meth c s₁ hx hby hml hZ hown hnm hlk hrt X0 e0 => ?_)
  have N0 := Fr.nil n0
  have y_ := @hb _ _ hby
  have k_ := @o_k _ _ hw
  obtain ⟨Be1, Bc1, Bv1, Bn1, ⟨kb1, Ba1⟩, Bh1, Bs1, Bm1⟩ := id B_b
  refine o_aloadN X0 hx (y_ oD11_0) rfl rfl ?_
  refine o_nonnullY (t := 9) X0 hx (y_ oD11_1) (by decide) (by decide) ?_
  refine o_aloadN X0 hx (y_ oD11_9) rfl rfl ?_
  refine o_vir (y := o_m6) (b := x) (argsL := []) (S := []) (W := 0) X0 hx hZ hown (k_ 158 rfl) (k_ 159 rfl) (k_ 161 rfl) (k_ 160 rfl) (backOf (W := 0) (rmlen l Z a0 hw [] x u ds zC_ h0 n0 O0 S_x SC_ hC_) hZ (k_ 162 rfl) (k_ 6 rfl) (by decide) (by decide)) e0 S_x.1 hml (lenOf o_pd__28_29I rfl) (y_ oD11_10) (fun T2 L2 v2 X2 hQ2 => ?_)
  obtain ⟨rfl, N2q, hh2⟩ := hQ2
  have N2 := Fr.app N0 N2q
  show o_G p e below _ T2 (mkF m 13 #[vR b, vR x, .unset] [(.int (Int32.ofNat ds.length))])
  refine o_istoreN X2 hx (y_ oD11_13) (A' := #[vR b, vR x, vI (Int32.ofNat ds.length)]) rfl ?_
  refine o_aloadN X2 hx (y_ oD11_14) rfl rfl ?_
  refine o_aloadN X2 hx (y_ oD11_15) rfl rfl ?_
  refine o_getF X2 hx hZ hown (host := "") (Or.inl (k_ 163 rfl)) Via.refl hh2 Bn1 (y_ oD11_16) (fun T3 X3 e3 => ?_)
  refine o_iloadN X3 hx (y_ oD11_19) rfl ?_
  refine o_iadd X3 hx (y_ oD11_20) ?_
  refine o_vir (y := o_m7) (b := b) (argsL := [(.int ((Int32.ofNat cs.length) + (Int32.ofNat ds.length)))]) (S := []) (W := 0) X3 hx hZ hown (k_ 165 rfl) (o_decl (k_ 166 rfl) (k_ 169 rfl)) (k_ 168 rfl) (k_ 166 rfl) (backOf (W := 0) (rmeci l Z a0 hw [] b ((Int32.ofNat cs.length) + (Int32.ofNat ds.length)) t z cs h0 n0 O0 B_b (o_cap B_b.nn hs)) hZ (k_ 169 rfl) (k_ 140 rfl) (by decide) (by decide)) e3 Be1 hml (lenOf o_pd__28I_29V rfl) (y_ oD11_21) (fun T4 L4 v4 X4 hQ4 => ?_)
  obtain ⟨rfl, N4q, hh4⟩ := hQ4
  have N4 := Fr.app N2 N4q
  show o_G p e below _ T4 (mkF m 24 #[vR b, vR x, vI (Int32.ofNat ds.length)] [])
  refine o_aloadN X4 hx (y_ oD11_24) rfl rfl ?_
  refine o_aloadN X4 hx (y_ oD11_25) rfl rfl ?_
  refine o_getF X4 hx hZ hown (host := "") (Or.inl (k_ 163 rfl)) Via.refl hh4 Bn1 (y_ oD11_26) (fun T5 X5 e5 => ?_)
  refine o_aloadN X5 hx (y_ oD11_29) rfl rfl ?_
  refine o_vir (y := o_m10) (b := b) (argsL := [(.int (Int32.ofNat cs.length)), (.ref x)]) (S := []) (W := 0) X5 hx hZ hown (k_ 170 rfl) (o_decl (k_ 171 rfl) (k_ 174 rfl)) (k_ 173 rfl) (k_ 171 rfl) (backOf (W := 0) (rmpsa l Z a0 hw [] b (Int32.ofNat cs.length) x t z cs u ds zC_ h0 n0 O0 B_b S_x g_t rfl hs SC_ hC_) hZ (k_ 174 rfl) (k_ 140 rfl) (by decide) (by decide)) e5 Be1 hml (lenOf o_pd__28ILjava_2flang_2fString_3b_29V rfl) (y_ oD11_30) (fun T6 L6 v6 X6 hQ6 => ?_)
  obtain ⟨rfl, N6q, Kp6, ka6, Va6⟩ := hQ6
  have N6 := Fr.app N4 N6q
  have O7 := Old.keep O0 Kp6 (allS g_t all0)
  show o_G p e below _ T6 (mkF m 33 #[vR b, vR x, vI (Int32.ofNat ds.length)] [])
  refine o_aloadN X6 hx (y_ oD11_33) rfl rfl ?_
  refine o_dup X6 hx (y_ oD11_34) rfl ?_
  have c8 := (Fld.keep Bn1 Kp6 (ninS (Exa.neArv Be1 Ba1 (k_ 131 rfl)) nin0))
  refine o_getF X6 hx hZ hown (host := "") (Or.inl (k_ 163 rfl)) Via.refl rfl c8 (y_ oD11_35) (fun T9 X9 e9 => ?_)
  refine o_iloadN X9 hx (y_ oD11_38) rfl ?_
  refine o_iadd X9 hx (y_ oD11_39) ?_
  have c10 := (Exa.keep Be1 Kp6)
  refine o_putF X9 hx hZ hown (host := "") (Or.inl (k_ 163 rfl)) Via.refl e9 c8 c10 (Or.inl (k_ 164 rfl)) (k_ 131 rfl) (ty := .int) (by decide) rfl rfl (y_ oD11_40) (fun T11 h11 X11 e11 W11 => ?_)
  have F11 := Fld.same W11 c8
  have N11 := Fr.snoc X11 N6 g_b
  have O11 := Old.wr O7 W11 g_b
  refine o_aloadN X11 hx (y_ oD11_43) rfl rfl ?_
  have kp12 := Keep.trans (Keep.refl h0 [b, t]) Kp6 (allS (Or.inl (List.mem_of_getElem? (i := 1) rfl)) all0)
  have kp13 := Keep.wr kp12 W11 (Or.inl (List.mem_of_getElem? (i := 0) rfl))
  have c14 := (Exa.wr W11 c10)
  have c15 := (Fld.other W11 (Fld.keep Bc1 Kp6 (ninS (Exa.neArv Be1 Ba1 (k_ 131 rfl)) nin0)) (Or.inr (slot_ne (Or.inl (k_ 147 rfl)) (Or.inl (k_ 164 rfl)) (by decide) (t := .byte) (t' := .int) (by decide) (by decide))))
  have c16 := (Fld.other W11 (Fld.keep Bv1 Kp6 (ninS (Exa.neArv Be1 Ba1 (k_ 131 rfl)) nin0)) (Or.inr (slot_ne (Or.inl (k_ 145 rfl)) (Or.inl (k_ 164 rfl)) (by decide) (t := (.array .byte)) (t' := .int) (by decide) (by decide))))
  have c17 := (Arv.other Va6 W11 (Ne.symm (Exa.neArv c10 Va6 (k_ 131 rfl))))
  have c18 := (Fld.other W11 (Fld.keep Bm1 Kp6 (ninS (Exa.neArv Be1 Ba1 (k_ 131 rfl)) nin0)) (Or.inr (slot_ne (Or.inl (k_ 365 rfl)) (Or.inl (k_ 164 rfl)) (by decide) (t := .boolean) (t' := .int) (by decide) (by decide))))
  exact o_retA X11 hx hrt hlk rfl rfl rfl (y_ oD11_44) (by decide) (by decide) (o_hQ e11 ⟨rfl, N11, kp13, o_blMk c14 c15 c16 F11 c17 Bh1 S_x.2.2.2.2.1 hs c18⟩)
theorem rmsap (hw : o_HW Z a0) (ws : o_LC) (b : Addr) (x : Addr) (t : Addr) (z : Int32) (cs : List Int32) (u : Addr) (ds : List Int32) (zC_ : Int32) (h0 : Heap) (n0 : Nat) (O0 : Old Z n0 h0) (B_b : o_Bl Z h0 b t z cs) (S_x : o_Str Z h0 x u ds) (g_b : n0 ≤ b) (g_t : n0 ≤ t) (hs : cs.length + ds.length ≤ z.toNatClampNeg) (SC_ : o_SC Z zC_) (hC_ : ¬ zC_ = 0) :
    o_Met l Z o_m12 oJ40 2 (some (.object "java/lang/StringBuilder")) ws o_R6 #[(.ref b), (.ref x)] h0 (Qsap Z b x t z cs u ds zC_ h0 n0) := by
  refine o_enter o_pn_3 (fun m => o_ef5 m b x) (fun p e s m below meth c s₁ hx hby hml hZ hown hnm hlk hrt X0 e0 => ?_)
  have N0 := Fr.nil n0
  have y_ := @hb _ _ hby
  have k_ := @o_k _ _ hw
  refine o_aloadN X0 hx (y_ oD12_0) rfl rfl ?_
  refine o_aloadN X0 hx (y_ oD12_1) rfl rfl ?_
  refine o_sup (y := o_m11) (b := b) (argsL := [(.ref x)]) (S := []) (W := 0) X0 hx hZ hown (k_ 153 rfl) (o_same (y2 := o_m7) (k_ 154 rfl) (k_ 168 rfl) rfl (by decide)) (k_ 154 rfl) (k_ 155 rfl) (k_ 157 rfl) (backOf (W := 0) (rmaap l Z a0 hw [] b x t z cs u ds zC_ h0 n0 O0 B_b S_x g_b g_t hs SC_ hC_) hZ (k_ 157 rfl) (k_ 140 rfl) (by decide) (by decide)) e0 B_b.1 hml (lenOf o_pd__28Ljava_2flang_2fString_3b_29Ljava_2flang_2fAbstractStringBuilder_3b rfl) (y_ oD12_2) (fun T1 L1 v1 X1 hQ1 => ?_)
  obtain ⟨rfl, N1q, Kp1, Bl1⟩ := hQ1
  have N1 := Fr.app N0 N1q
  have O2 := Old.keep O0 Kp1 (allS g_b (allS g_t all0))
  show o_G p e below _ T1 (mkF m 5 #[vR b, vR x] [(.ref b)])
  refine o_pop X1 hx (y_ oD12_5) rfl ?_
  refine o_aloadN X1 hx (y_ oD12_6) rfl rfl ?_
  have kp3 := Keep.trans (Keep.refl h0 [b, t]) Kp1 (allS (Or.inl (List.mem_of_getElem? (i := 0) rfl)) (allS (Or.inl (List.mem_of_getElem? (i := 1) rfl)) all0))
  exact o_retA X1 hx hrt hlk rfl rfl rfl (y_ oD12_7) (by decide) (by decide) ⟨rfl, N1, kp3, Bl1⟩
theorem rmcoa (hw : o_HW Z a0) (ws : o_LC) (x : Addr) (kd : Int32) (zC_ : Int32) (h0 : Heap) (n0 : Nat) (O0 : Old Z n0 h0) (C_x : o_FC Z h0 x (.int kd)) (hkd : kd = 0 ∨ kd = 1) (SC_ : o_SC Z zC_) (hC_ : ¬ zC_ = 0) :
    o_Met l Z o_m4 oJ52 1 (some .byte) ws o_R0 #[(.ref x)] h0 (o_P (some (.int kd)) h0 n0) := by
  refine o_enter o_pn_1 (fun m => o_ef3 m x) (fun p e s m below meth c s₁ hx hby hml hZ hown hnm hlk hrt X0 e0 => ?_)
  have N0 := Fr.nil n0
  have y_ := @hb _ _ hby
  have k_ := @o_k _ _ hw
  refine o_getS X0 hx hZ hown (host := "") (Or.inl (k_ 8 rfl)) Via.refl e0 (Sta.ext O0.2 SC_) (y_ oD4_0) (fun T1 X1 e1 => ?_)
  refine o_iF (t := 13) X1 hx (y_ oD4_3) (fun hq => ?_) (fun hq => ?_)
  · have hc3 := o_h_eq.1 hq
    exact absurd hc3 hC_
  have hc3 := o_h_eq.2 hq
  refine o_aloadN X1 hx (y_ oD4_6) rfl rfl ?_
  refine o_getF X1 hx hZ hown (host := "") (Or.inl (k_ 28 rfl)) Via.refl e1 C_x (y_ oD4_7) (fun T2 X2 e2 => ?_)
  refine o_gO (t := 14) X2 hx (y_ oD4_10) ?_
  exact o_retN X2 hx (t := .byte) hrt hlk (by simp) (y_ oD4_14) (o_narK hkd) (by decide) (by decide) (o_hQ e2 ⟨rfl, N0, rfl⟩)
theorem rmisu (hw : o_HW Z a0) (ws : o_LC) (x : Addr) (zC_ : Int32) (h0 : Heap) (n0 : Nat) (O0 : Old Z n0 h0) (C_x : o_FC Z h0 x (.int 1)) (SC_ : o_SC Z zC_) (hC_ : ¬ zC_ = 0) :
    o_Met l Z o_m5 oJ37 1 (some .boolean) ws o_R0 #[(.ref x)] h0 (o_P (some (.int 0)) h0 n0) := by
  refine o_enter o_pn_1 (fun m => o_ef3 m x) (fun p e s m below meth c s₁ hx hby hml hZ hown hnm hlk hrt X0 e0 => ?_)
  have N0 := Fr.nil n0
  have y_ := @hb _ _ hby
  have k_ := @o_k _ _ hw
  refine o_getS X0 hx hZ hown (host := "") (Or.inl (k_ 8 rfl)) Via.refl e0 (Sta.ext O0.2 SC_) (y_ oD5_0) (fun T1 X1 e1 => ?_)
  refine o_iF (t := 17) X1 hx (y_ oD5_3) (fun hq => ?_) (fun hq => ?_)
  · have hc3 := o_h_eq.1 hq
    exact absurd hc3 hC_
  have hc3 := o_h_eq.2 hq
  refine o_aloadN X1 hx (y_ oD5_6) rfl rfl ?_
  refine o_getF X1 hx hZ hown (host := "") (Or.inl (k_ 28 rfl)) Via.refl e1 C_x (y_ oD5_7) (fun T2 X2 e2 => ?_)
  refine o_iFT (t := 17) X2 hx (y_ oD5_10) ?_
  refine o_iconst X2 hx (y_ oD5_17) (x := 0) rfl ?_
  exact o_retN X2 hx (t := .boolean) hrt hlk (by simp) (y_ oD5_18) rfl (by decide) (by decide) (o_hQ e2 ⟨rfl, N0, rfl⟩)
theorem rmlna (hw : o_HW Z a0) (ws : o_LC) (x : Addr) (u : Addr) (kd : Int32) (ds : List Int32) (zC_ : Int32) (h0 : Heap) (n0 : Nat) (O0 : Old Z n0 h0) (S_x : o_A Z h0 x u kd ds) (SC_ : o_SC Z zC_) (hC_ : ¬ zC_ = 0) :
    o_Met l Z o_m6 oJ47 1 (some .int) ws o_R2 #[(.ref x)] h0 (o_P (some (.int (Int32.ofNat ds.length))) h0 n0) := by
  refine o_enter o_pn_1 (fun m => o_ef3 m x) (fun p e s m below meth c s₁ hx hby hml hZ hown hnm hlk hrt X0 e0 => ?_)
  have N0 := Fr.nil n0
  have y_ := @hb _ _ hby
  have k_ := @o_k _ _ hw
  obtain ⟨ks1, Sa1⟩ := S_x.2.2.2.1
  refine o_aloadN X0 hx (y_ oD6_0) rfl rfl ?_
  refine o_getF X0 hx hZ hown (host := "") (Or.inl (k_ 26 rfl)) Via.refl e0 S_x.2.2.1 (y_ oD6_1) (fun T2 X2 e2 => ?_)
  refine o_alen (n := (Int32.ofNat (o_vi kd ds).length)) X2 hx hZ e2 Sa1 (y_ oD6_4) ?_
  refine o_aloadN X2 hx (y_ oD6_5) rfl rfl ?_
  refine o_vir (y := o_m4) (b := x) (argsL := []) (S := [(.int (Int32.ofNat (o_vi kd ds).length))]) (W := 1) X2 hx hZ hown (k_ 82 rfl) (k_ 83 rfl) (k_ 85 rfl) (k_ 84 rfl) (backOf (W := 1) (rmcoa l Z a0 hw [] x kd zC_ h0 n0 O0 S_x.2.1 S_x.ak.k01 SC_ hC_) hZ (k_ 86 rfl) (k_ 6 rfl) (by decide) (by decide)) e2 S_x.1 hml (lenOf o_pd__28_29B rfl) (y_ oD6_6) (fun T3 L3 v3 X3 hQ3 => ?_)
  obtain ⟨rfl, N3q, hh3⟩ := hQ3
  have N3 := Fr.app N0 N3q
  show o_G p e below _ T3 (mkF m 9 #[vR x] [(.int kd), (.int (Int32.ofNat (o_vi kd ds).length))])
  refine o_ishr X3 hx (y_ oD6_9) ?_
  refine o_valE (z := (Int32.ofNat ds.length)) S_x.ak.shr ?_
  exact o_retI X3 hx hrt hlk (y_ oD6_10) (by decide) (by decide) (o_hQ hh3 ⟨rfl, N3, rfl⟩)
theorem rmise (hw : o_HW Z a0) (ws : o_LC) (x : Addr) (u : Addr) (kd : Int32) (ds : List Int32) (h0 : Heap) (n0 : Nat) (O0 : Old Z n0 h0) (S_x : o_A Z h0 x u kd ds) (hl1 : 1 ≤ ds.length) :
    o_Met l Z o_m13 oJ43 1 (some .boolean) ws o_R0 #[(.ref x)] h0 (o_P (some (.int 0)) h0 n0) := by
  refine o_enter o_pn_1 (fun m => o_ef3 m x) (fun p e s m below meth c s₁ hx hby hml hZ hown hnm hlk hrt X0 e0 => ?_)
  have N0 := Fr.nil n0
  have y_ := @hb _ _ hby
  have k_ := @o_k _ _ hw
  obtain ⟨ks1, Sa1⟩ := S_x.2.2.2.1
  refine o_aloadN X0 hx (y_ oD13_0) rfl rfl ?_
  refine o_getF X0 hx hZ hown (host := "") (Or.inl (k_ 26 rfl)) Via.refl e0 S_x.2.2.1 (y_ oD13_1) (fun T2 X2 e2 => ?_)
  refine o_alen (n := (Int32.ofNat (o_vi kd ds).length)) X2 hx hZ e2 Sa1 (y_ oD13_4) ?_
  refine o_iF (t := 12) X2 hx (y_ oD13_5) (fun hq => ?_) (fun hq => ?_)
  · have hc5 := o_h_ne.1 hq
    refine o_iconst X2 hx (y_ oD13_12) (x := 0) rfl ?_
    exact o_retN X2 hx (t := .boolean) hrt hlk (by simp) (y_ oD13_13) rfl (by decide) (by decide) (o_hQ e2 ⟨rfl, N0, rfl⟩)
  have hc5 := o_h_ne.2 hq
  exact absurd hc5 (S_x.ak.vnz hl1)
theorem rmeqa (hw : o_HW Z a0) (ws : o_LC) (a : Addr) (b : Addr) (ka : ClassId) (kb : ClassId) (vi : List Int32) (h0 : Heap) (n0 : Nat) (O0 : Old Z n0 h0) (V_a : Arv Z h0 a ka .byte (Int32.ofNat vi.length) (vi.map Value.int) (.int 0)) (V_b : Arv Z h0 b kb .byte (Int32.ofNat vi.length) (vi.map Value.int) (.int 0)) (hl : vi.length < 2 ^ 31) :
    o_Met l Z o_m14 oJ12 3 (some .boolean) ws o_R0 #[(.ref a), (.ref b)] h0 (o_P (some (.int 1)) h0 n0) := by
  refine o_enter o_pn_4 (fun m => o_ef8 m a b) (fun p e s m below meth c s₁ hx hby hml hZ hown hnm hlk hrt X0 e0 => ?_)
  have N0 := Fr.nil n0
  have y_ := @hb _ _ hby
  have k_ := @o_k _ _ hw
  refine o_aloadN X0 hx (y_ oD14_0) rfl rfl ?_
  refine o_alen (n := (Int32.ofNat vi.length)) X0 hx hZ e0 V_a (y_ oD14_1) ?_
  refine o_aloadN X0 hx (y_ oD14_2) rfl rfl ?_
  refine o_alen (n := (Int32.ofNat vi.length)) X0 hx hZ e0 V_b (y_ oD14_3) ?_
  refine o_iC (t := 34) X0 hx (y_ oD14_4) (fun hq => ?_) (fun hq => ?_)
  · have hc4 := o_c_ne.1 hq
    exact absurd rfl hc4
  have hc4 := o_c_ne.2 hq
  refine o_iconst X0 hx (y_ oD14_7) (x := 0) rfl ?_
  refine o_istoreN X0 hx (y_ oD14_8) (A' := #[vR a, vR b, vI 0]) rfl ?_
  have hloop : ∀ (k i : Nat), i + k = vi.length → o_G p e below (o_E s (o_P (some (.int 1)) h0 n0) o_R0.cells o_R0.slots) s₁ (mkF m 9 #[vR a, vR b, vI (Int32.ofNat i)] []) := by
    intro k
    induction k with
    | zero =>
      intro i hik
      refine o_iloadN X0 hx (y_ oD14_9) rfl ?_
      refine o_aloadN X0 hx (y_ oD14_10) rfl rfl ?_
      refine o_alen (n := (Int32.ofNat vi.length)) X0 hx hZ e0 V_a (y_ oD14_11) ?_
      refine o_iC (t := 32) X0 hx (y_ oD14_12) (fun hq => ?_) (fun hq => ?_)
      · have hc12 := o_c_ge.1 hq
        refine o_iconst X0 hx (y_ oD14_32) (x := 1) rfl ?_
        exact o_retN X0 hx (t := .boolean) hrt hlk (by simp) (y_ oD14_33) rfl (by decide) (by decide) (o_hQ e0 ⟨rfl, N0, rfl⟩)
      have hc12 := o_c_ge.2 hq
      exact absurd hc12 (o_nltO hik)
    | succ k ih =>
      intro i hik
      have hi : i < vi.length := by omega
      refine o_iloadN X0 hx (y_ oD14_9) rfl ?_
      refine o_aloadN X0 hx (y_ oD14_10) rfl rfl ?_
      refine o_alen (n := (Int32.ofNat vi.length)) X0 hx hZ e0 V_a (y_ oD14_11) ?_
      refine o_iC (t := 32) X0 hx (y_ oD14_12) (fun hq => ?_) (fun hq => ?_)
      · have hc12 := o_c_ge.1 hq
        exact absurd (o_ltO hi hl) hc12
      have hc12 := o_c_ge.2 hq
      refine o_aloadN X0 hx (y_ oD14_15) rfl rfl ?_
      refine o_iloadN X0 hx (y_ oD14_16) rfl ?_
      refine o_bload (v := (.int (vi.getD i 0))) X0 hx hZ e0 V_a (y_ oD14_17) ⟨o_on (Nat.lt_trans hi hl), o_ltO hi hl⟩ (by rw [o_oc (Nat.lt_trans hi hl)]; exact o_mget hi) ?_
      refine o_aloadN X0 hx (y_ oD14_18) rfl rfl ?_
      refine o_iloadN X0 hx (y_ oD14_19) rfl ?_
      refine o_bload (v := (.int (vi.getD i 0))) X0 hx hZ e0 V_b (y_ oD14_20) ⟨o_on (Nat.lt_trans hi hl), o_ltO hi hl⟩ (by rw [o_oc (Nat.lt_trans hi hl)]; exact o_mget hi) ?_
      refine o_iC (t := 26) X0 hx (y_ oD14_21) (fun hq => ?_) (fun hq => ?_)
      · have hc21 := o_c_eq.1 hq
        refine o_iinc X0 hx (y_ oD14_26) (y := 1) rfl rfl (A' := #[vR a, vR b, vI ((Int32.ofNat i) + (1 : Int32))]) rfl ?_
        refine o_gO (t := 9) X0 hx (y_ oD14_29) ?_
        rw [show (Int32.ofNat i + 1 : Int32) = Int32.ofNat (i + 1) from o_oadd i 1]
        exact ih (i + 1) (by omega)
      have hc21 := o_c_eq.2 hq
      exact absurd rfl hc21
  exact hloop _ 0 (Nat.zero_add _)
theorem rmeqs (hw : o_HW Z a0) (ws : o_LC) (x : Addr) (y : Addr) (t : Addr) (u : Addr) (kd : Int32) (kd2 : Int32) (cs : List Int32) (zC_ : Int32) (h0 : Heap) (n0 : Nat) (O0 : Old Z n0 h0) (S_x : o_A Z h0 x t kd cs) (S_y : o_A Z h0 y u kd2 cs) (SC_ : o_SC Z zC_) (hC_ : ¬ zC_ = 0) :
    o_Met l Z o_m15 oJ8 3 (some .boolean) ws o_R7 #[(.ref x), (.ref y)] h0 (o_P (some (.int 1)) h0 n0) := by
  refine o_enter o_pn_1 (fun m => o_ef8 m x y) (fun p e s m below meth c s₁ hx hby hml hZ hown hnm hlk hrt X0 e0 => ?_)
  have N0 := Fr.nil n0
  have y_ := @hb _ _ hby
  have k_ := @o_k _ _ hw
  have S_z : o_A Z h0 y u kd cs := o_A.kk S_x S_y
  obtain ⟨ks1, Sa1⟩ := S_x.2.2.2.1
  obtain ⟨ks2, Sa2⟩ := S_z.2.2.2.1
  refine o_aloadN X0 hx (y_ oD15_0) rfl rfl ?_
  refine o_aloadN X0 hx (y_ oD15_1) rfl rfl ?_
  refine o_acmp (t := 7) X0 hx rfl rfl (y_ oD15_2) (by decide) (by decide) (fun hq => ?_) (fun hq => ?_)
  · have ha2 : x = y := Value.ref.inj hq
    show o_G p e below _ s₁ (mkF m 5 #[vR x, vR y, .unset] [])
    refine o_iconst X0 hx (y_ oD15_5) (x := 1) rfl ?_
    exact o_retN X0 hx (t := .boolean) hrt hlk (by simp) (y_ oD15_6) rfl (by decide) (by decide) (o_hQ e0 ⟨rfl, N0, rfl⟩)
  have ha2 : ¬ x = y := fun z => hq (congrArg Value.ref z)
  show o_G p e below _ s₁ (mkF m 7 #[vR x, vR y, .unset] [])
  refine o_aloadN X0 hx (y_ oD15_7) rfl rfl ?_
  obtain ⟨T3, X3, e3, st3⟩ := instY X0 hx hZ hown (k_ 13 rfl) e0 (Ins.self S_z.1) (g := (mkF m 8 #[vR x, vR y, .unset] [(.ref y)])) rfl rfl (y_ oD15_8)
  refine o_st st3 ?_
  show o_G p e below _ T3 (mkF m 11 #[vR x, vR y, .unset] [(.int 1)])
  refine o_iFF X3 hx (y_ oD15_11) ?_
  refine o_aloadN X3 hx (y_ oD15_14) rfl rfl ?_
  obtain ⟨T4, X4, e4, st4⟩ := castY X3 hx hZ hown (k_ 13 rfl) e3 (Ins.self S_z.1) (g := (mkF m 15 #[vR x, vR y, .unset] [(.ref y)])) rfl rfl (y_ oD15_15)
  refine o_st st4 ?_
  show o_G p e below _ T4 (mkF m 18 #[vR x, vR y, .unset] [(.ref y)])
  refine o_astoreN X4 hx (y_ oD15_18) rfl (A' := #[vR x, vR y, vR y]) rfl ?_
  refine o_getS X4 hx hZ hown (host := "") (Or.inl (k_ 8 rfl)) Via.refl e4 (Sta.ext O0.2 SC_) (y_ oD15_19) (fun T5 X5 e5 => ?_)
  refine o_iF (t := 36) X5 hx (y_ oD15_22) (fun hq => ?_) (fun hq => ?_)
  · have hc22 := o_h_eq.1 hq
    exact absurd hc22 hC_
  have hc22 := o_h_eq.2 hq
  refine o_aloadN X5 hx (y_ oD15_25) rfl rfl ?_
  refine o_getF X5 hx hZ hown (host := "") (Or.inl (k_ 28 rfl)) Via.refl e5 S_x.2.1 (y_ oD15_26) (fun T6 X6 e6 => ?_)
  refine o_aloadN X6 hx (y_ oD15_29) rfl rfl ?_
  refine o_getF X6 hx hZ hown (host := "") (Or.inl (k_ 28 rfl)) Via.refl e6 S_z.2.1 (y_ oD15_30) (fun T7 X7 e7 => ?_)
  refine o_iC (t := 54) X7 hx (y_ oD15_33) (fun hq => ?_) (fun hq => ?_)
  · have hc33 := o_c_ne.1 hq
    exact absurd rfl hc33
  have hc33 := o_c_ne.2 hq
  refine o_aloadN X7 hx (y_ oD15_36) rfl rfl ?_
  refine o_getF X7 hx hZ hown (host := "") (Or.inl (k_ 26 rfl)) Via.refl e7 S_x.2.2.1 (y_ oD15_37) (fun T8 X8 e8 => ?_)
  refine o_aloadN X8 hx (y_ oD15_40) rfl rfl ?_
  refine o_getF X8 hx hZ hown (host := "") (Or.inl (k_ 26 rfl)) Via.refl e8 S_z.2.2.1 (y_ oD15_41) (fun T9 X9 e9 => ?_)
  refine o_sta (y := o_m14) (argsL := [(.ref t), (.ref u)]) (S := []) (W := 0) X9 hx hZ hown (k_ 47 rfl) (k_ 48 rfl) (k_ 11 rfl) (k_ 49 rfl) (backOf (W := 0) (rmeqa l Z a0 hw [] t u ks1 ks2 (o_vi kd cs) h0 n0 O0 Sa1 Sa2 (Nat.lt_of_le_of_lt S_x.ak.vl (by decide))) hZ (k_ 49 rfl) (k_ 11 rfl) (by decide) (by decide)) e9 hml (lenOf o_pd__28_5bB_5bB_29Z rfl) (y_ oD15_44) (fun T10 L10 v10 X10 hQ10 => ?_)
  obtain ⟨rfl, N10q, hh10⟩ := hQ10
  have N10 := Fr.app N0 N10q
  show o_G p e below _ T10 (mkF m 47 #[vR x, vR y, vR y] [(.int 1)])
  refine o_iFF X10 hx (y_ oD15_47) ?_
  refine o_iconst X10 hx (y_ oD15_50) (x := 1) rfl ?_
  refine o_gO (t := 55) X10 hx (y_ oD15_51) ?_
  exact o_retN X10 hx (t := .boolean) hrt hlk (by simp) (y_ oD15_55) rfl (by decide) (by decide) (o_hQ hh10 ⟨rfl, N10, rfl⟩)
theorem rmeqn (hw : o_HW Z a0) (ws : o_LC) (a : Addr) (b : Addr) (ka : ClassId) (kb : ClassId) (cs : List Int32) (h0 : Heap) (n0 : Nat) (O0 : Old Z n0 h0) (V_a : Arv Z h0 a ka .byte (Int32.ofNat cs.length) (o_V8 cs) (.int 0)) (V_b : Arv Z h0 b kb .byte 1 [.int 42] (.int 0)) (hcs : o_chs cs) (hne : ¬ cs = [42]) (hl : cs.length ≤ 8) :
    o_Met l Z o_m14 oJ12 3 (some .boolean) ws o_R0 #[(.ref a), (.ref b)] h0 (o_P (some (.int 0)) h0 n0) := by
  refine o_enter o_pn_4 (fun m => o_ef8 m a b) (fun p e s m below meth c s₁ hx hby hml hZ hown hnm hlk hrt X0 e0 => ?_)
  have N0 := Fr.nil n0
  have y_ := @hb _ _ hby
  have k_ := @o_k _ _ hw
  refine o_aloadN X0 hx (y_ oD14_0) rfl rfl ?_
  refine o_alen (n := (Int32.ofNat cs.length)) X0 hx hZ e0 V_a (y_ oD14_1) ?_
  refine o_aloadN X0 hx (y_ oD14_2) rfl rfl ?_
  refine o_alen (n := 1) X0 hx hZ e0 V_b (y_ oD14_3) ?_
  refine o_iC (t := 34) X0 hx (y_ oD14_4) (fun hq => ?_) (fun hq => ?_)
  · have hc4 := o_c_ne.1 hq
    refine o_iconst X0 hx (y_ oD14_34) (x := 0) rfl ?_
    exact o_retN X0 hx (t := .boolean) hrt hlk (by simp) (y_ oD14_35) rfl (by decide) (by decide) (o_hQ e0 ⟨rfl, N0, rfl⟩)
  have hc4 := o_c_ne.2 hq
  obtain ⟨cx, rfl⟩ := o_len1 hl hc4
  have Vc : Arv Z h0 a ka .byte 1 [.int cx.toInt8.toInt32] (.int 0) := V_a
  refine o_iconst X0 hx (y_ oD14_7) (x := 0) rfl ?_
  refine o_istoreN X0 hx (y_ oD14_8) (A' := #[vR a, vR b, vI 0]) rfl ?_
  refine o_iloadN X0 hx (y_ oD14_9) rfl ?_
  refine o_aloadN X0 hx (y_ oD14_10) rfl rfl ?_
  refine o_alen (n := 1) X0 hx hZ e0 Vc (y_ oD14_11) ?_
  refine o_iCF X0 hx (y_ oD14_12) ?_
  refine o_aloadN X0 hx (y_ oD14_15) rfl rfl ?_
  refine o_iloadN X0 hx (y_ oD14_16) rfl ?_
  refine o_bload (v := (.int cx.toInt8.toInt32)) X0 hx hZ e0 Vc (y_ oD14_17) ⟨by decide, by decide⟩ rfl ?_
  refine o_aloadN X0 hx (y_ oD14_18) rfl rfl ?_
  refine o_iloadN X0 hx (y_ oD14_19) rfl ?_
  refine o_bload (v := (.int 42)) X0 hx hZ e0 V_b (y_ oD14_20) ⟨by decide, by decide⟩ rfl ?_
  refine o_iC (t := 26) X0 hx (y_ oD14_21) (fun hq => ?_) (fun hq => ?_)
  · have hc21 := o_c_eq.1 hq
    exact absurd (by rw [show cx = 42 from (o_c42 (k := 0) hcs (o_b rfl)).mp hc21]) hne
  have hc21 := o_c_eq.2 hq
  refine o_iconst X0 hx (y_ oD14_24) (x := 0) rfl ?_
  exact o_retN X0 hx (t := .boolean) hrt hlk (by simp) (y_ oD14_25) rfl (by decide) (by decide) (o_hQ e0 ⟨rfl, N0, rfl⟩)
theorem rmeqd (hw : o_HW Z a0) (ws : o_LC) (x : Addr) (y : Addr) (t : Addr) (u : Addr) (kd : Int32) (cs : List Int32) (zC_ : Int32) (h0 : Heap) (n0 : Nat) (O0 : Old Z n0 h0) (S_x : o_A Z h0 x t kd cs) (S_y : o_Str Z h0 y u [42]) (hne : ¬ cs = [42]) (SC_ : o_SC Z zC_) (hC_ : ¬ zC_ = 0) :
    o_Met l Z o_m15 oJ8 3 (some .boolean) ws o_R7 #[(.ref x), (.ref y)] h0 (o_P (some (.int 0)) h0 n0) := by
  refine o_enter o_pn_1 (fun m => o_ef8 m x y) (fun p e s m below meth c s₁ hx hby hml hZ hown hnm hlk hrt X0 e0 => ?_)
  have N0 := Fr.nil n0
  have y_ := @hb _ _ hby
  have k_ := @o_k _ _ hw
  obtain ⟨ks1, Sa1⟩ := S_x.2.2.2.1
  obtain ⟨ks2, Sb2⟩ := S_y.2.2.2.1
  have Sa2 : Arv Z h0 u ks2 .byte (1 : Int32) [.int 42] (.int 0) := Sb2
  refine o_aloadN X0 hx (y_ oD15_0) rfl rfl ?_
  refine o_aloadN X0 hx (y_ oD15_1) rfl rfl ?_
  refine o_acmp (t := 7) X0 hx rfl rfl (y_ oD15_2) (by decide) (by decide) (fun hq => ?_) (fun hq => ?_)
  · have ha2 : x = y := Value.ref.inj hq
    exact absurd (o_A.same42 S_x (ha2 ▸ S_y)) hne
  have ha2 : ¬ x = y := fun z => hq (congrArg Value.ref z)
  show o_G p e below _ s₁ (mkF m 7 #[vR x, vR y, .unset] [])
  refine o_aloadN X0 hx (y_ oD15_7) rfl rfl ?_
  obtain ⟨T3, X3, e3, st3⟩ := instY X0 hx hZ hown (k_ 13 rfl) e0 (Ins.self S_y.1) (g := (mkF m 8 #[vR x, vR y, .unset] [(.ref y)])) rfl rfl (y_ oD15_8)
  refine o_st st3 ?_
  show o_G p e below _ T3 (mkF m 11 #[vR x, vR y, .unset] [(.int 1)])
  refine o_iFF X3 hx (y_ oD15_11) ?_
  refine o_aloadN X3 hx (y_ oD15_14) rfl rfl ?_
  obtain ⟨T4, X4, e4, st4⟩ := castY X3 hx hZ hown (k_ 13 rfl) e3 (Ins.self S_y.1) (g := (mkF m 15 #[vR x, vR y, .unset] [(.ref y)])) rfl rfl (y_ oD15_15)
  refine o_st st4 ?_
  show o_G p e below _ T4 (mkF m 18 #[vR x, vR y, .unset] [(.ref y)])
  refine o_astoreN X4 hx (y_ oD15_18) rfl (A' := #[vR x, vR y, vR y]) rfl ?_
  refine o_getS X4 hx hZ hown (host := "") (Or.inl (k_ 8 rfl)) Via.refl e4 (Sta.ext O0.2 SC_) (y_ oD15_19) (fun T5 X5 e5 => ?_)
  refine o_iF (t := 36) X5 hx (y_ oD15_22) (fun hq => ?_) (fun hq => ?_)
  · have hc22 := o_h_eq.1 hq
    exact absurd hc22 hC_
  have hc22 := o_h_eq.2 hq
  refine o_aloadN X5 hx (y_ oD15_25) rfl rfl ?_
  refine o_getF X5 hx hZ hown (host := "") (Or.inl (k_ 28 rfl)) Via.refl e5 S_x.2.1 (y_ oD15_26) (fun T6 X6 e6 => ?_)
  refine o_aloadN X6 hx (y_ oD15_29) rfl rfl ?_
  refine o_getF X6 hx hZ hown (host := "") (Or.inl (k_ 28 rfl)) Via.refl e6 S_y.2.1 (y_ oD15_30) (fun T7 X7 e7 => ?_)
  refine o_iC (t := 54) X7 hx (y_ oD15_33) (fun hq => ?_) (fun hq => ?_)
  · have hc33 := o_c_ne.1 hq
    refine o_iconst X7 hx (y_ oD15_54) (x := 0) rfl ?_
    exact o_retN X7 hx (t := .boolean) hrt hlk (by simp) (y_ oD15_55) rfl (by decide) (by decide) (o_hQ e7 ⟨rfl, N0, rfl⟩)
  have hc33 := o_c_ne.2 hq
  obtain rfl := hc33
  obtain ⟨kq, Vq⟩ := S_x.str.2.2.2.1
  refine o_aloadN X7 hx (y_ oD15_36) rfl rfl ?_
  refine o_getF X7 hx hZ hown (host := "") (Or.inl (k_ 26 rfl)) Via.refl e7 S_x.2.2.1 (y_ oD15_37) (fun T8 X8 e8 => ?_)
  refine o_aloadN X8 hx (y_ oD15_40) rfl rfl ?_
  refine o_getF X8 hx hZ hown (host := "") (Or.inl (k_ 26 rfl)) Via.refl e8 S_y.2.2.1 (y_ oD15_41) (fun T9 X9 e9 => ?_)
  refine o_sta (y := o_m14) (argsL := [(.ref t), (.ref u)]) (S := []) (W := 0) X9 hx hZ hown (k_ 47 rfl) (k_ 48 rfl) (k_ 11 rfl) (k_ 49 rfl) (backOf (W := 0) (rmeqn l Z a0 hw [] t u kq ks2 cs h0 n0 O0 Vq Sa2 S_x.ak.chs hne S_x.ak.1) hZ (k_ 49 rfl) (k_ 11 rfl) (by decide) (by decide)) e9 hml (lenOf o_pd__28_5bB_5bB_29Z rfl) (y_ oD15_44) (fun T10 L10 v10 X10 hQ10 => ?_)
  obtain ⟨rfl, N10q, hh10⟩ := hQ10
  have N10 := Fr.app N0 N10q
  show o_G p e below _ T10 (mkF m 47 #[vR x, vR y, vR y] [(.int 0)])
  refine o_iFT (t := 54) X10 hx (y_ oD15_47) ?_
  refine o_iconst X10 hx (y_ oD15_54) (x := 0) rfl ?_
  exact o_retN X10 hx (t := .boolean) hrt hlk (by simp) (y_ oD15_55) rfl (by decide) (by decide) (o_hQ hh10 ⟨rfl, N10, rfl⟩)
theorem rmmia (hw : o_HW Z a0) (ws : o_LC) (a : Addr) (i : Int32) (b : Addr) (ka : ClassId) (kb : ClassId) (cs : List Int32) (k : Nat) (h0 : Heap) (n0 : Nat) (O0 : Old Z n0 h0) (V_a : Arv Z h0 a ka .byte (Int32.ofNat cs.length) (o_V8 cs) (.int 0)) (V_b : Arv Z h0 b kb .byte 1 [.int 42] (.int 0)) (hcs : o_chs cs) (hi : i = Int32.ofNat k) (hk : k < cs.length) (hl : cs.length ≤ 8) :
    o_Met l Z o_m16 oJ16 8 (some .int) ws o_R0 #[(.ref a), (.int i), (.ref b), (.int 0), (.int 1)] h0 (o_P (some (.int (if cs.getD k 0 = 42 then (-1) else 0 : Int32))) h0 n0) := by
  refine o_enter o_pn_5 (fun m => o_ef9 m a i b) (fun p e s m below meth c s₁ hx hby hml hZ hown hnm hlk hrt X0 e0 => ?_)
  have N0 := Fr.nil n0
  have y_ := @hb _ _ hby
  have k_ := @o_k _ _ hw
  refine o_iconst X0 hx (y_ oD16_0) (x := 0) rfl ?_
  refine o_istore X0 hx (y_ oD16_1) (A' := #[vR a, vI i, vR b, vI 0, vI 1, vI 0, .unset, .unset]) rfl ?_
  refine o_iload X0 hx (y_ oD16_3) rfl ?_
  refine o_bipush X0 hx (y_ oD16_5) (x := 7) rfl ?_
  refine o_iCT (t := 70) X0 hx (y_ oD16_7) ?_
  refine o_iload X0 hx (y_ oD16_70) rfl ?_
  refine o_iload X0 hx (y_ oD16_72) rfl ?_
  refine o_iCF X0 hx (y_ oD16_74) ?_
  refine o_aloadN X0 hx (y_ oD16_77) rfl rfl ?_
  refine o_iloadN X0 hx (y_ oD16_78) rfl ?_
  refine o_iload X0 hx (y_ oD16_79) rfl ?_
  refine o_iadd X0 hx (y_ oD16_81) ?_
  refine o_valE (z := Int32.ofNat k) (by rw [hi]; exact Int32.add_zero _) ?_
  refine o_bload (v := (.int ((cs.getD k 0).toInt8.toInt32))) X0 hx hZ e0 V_a (y_ oD16_82) ⟨o_on (by omega), o_ltO hk (by omega)⟩ (by rw [o_oc (by omega)]; exact o_V8get hk) ?_
  refine o_aloadN X0 hx (y_ oD16_83) rfl rfl ?_
  refine o_iloadN X0 hx (y_ oD16_84) rfl ?_
  refine o_iload X0 hx (y_ oD16_85) rfl ?_
  refine o_iadd X0 hx (y_ oD16_87) ?_
  refine o_valE (z := 0) (by decide) ?_
  refine o_bload (v := (.int 42)) X0 hx hZ e0 V_b (y_ oD16_88) ⟨by decide, by decide⟩ rfl ?_
  refine o_iC (t := 95) X0 hx (y_ oD16_89) (fun hq => ?_) (fun hq => ?_)
  · have hc89 := o_c_eq.1 hq
    refine o_iincK X0 hx (y_ oD16_95) (y := 1) rfl rfl (z := 1) (by decide) (A' := #[vR a, vI i, vR b, vI 0, vI 1, vI 1, .unset, .unset]) rfl ?_
    refine o_gO (t := 70) X0 hx (y_ oD16_98) ?_
    refine o_iload X0 hx (y_ oD16_70) rfl ?_
    refine o_iload X0 hx (y_ oD16_72) rfl ?_
    refine o_iCT (t := 101) X0 hx (y_ oD16_74) ?_
    refine o_iconst X0 hx (y_ oD16_101) (x := (-1 : Int32)) rfl ?_
    exact o_retI X0 hx hrt hlk (y_ oD16_102) (by decide) (by decide) (o_hQ e0 ⟨by rw [if_pos ((o_c42 hcs hk).mp hc89)], N0, rfl⟩)
  have hc89 := o_c_eq.2 hq
  refine o_iload X0 hx (y_ oD16_92) rfl ?_
  exact o_retI X0 hx hrt hlk (y_ oD16_94) (by decide) (by decide) (o_hQ e0 ⟨by rw [if_neg (fun q => hc89 ((o_c42 hcs hk).mpr q))], N0, rfl⟩)
theorem rmswl (hw : o_HW Z a0) (ws : o_LC) (x : Addr) (y : Addr) (i : Int32) (t : Addr) (u : Addr) (cs : List Int32) (k : Nat) (zC_ : Int32) (h0 : Heap) (n0 : Nat) (O0 : Old Z n0 h0) (S_x : o_Str Z h0 x t cs) (S_y : o_Str Z h0 y u [42]) (hi : i = Int32.ofNat k) (hk : k < cs.length) (hl : cs.length ≤ 8) (S_u : o_SU Z) (SC_ : o_SC Z zC_) (hC_ : ¬ zC_ = 0) :
    o_Met l Z o_m17 oJ0 8 (some .boolean) ws o_R8 #[(.ref x), (.ref y), (.int i)] h0 (o_P (some (.int (if cs.getD k 0 = 42 then 1 else 0 : Int32))) h0 n0) := by
  refine o_enter o_pn_1 (fun m => o_ef10 m x y i) (fun p e s m below meth c s₁ hx hby hml hZ hown hnm hlk hrt X0 e0 => ?_)
  have N0 := Fr.nil n0
  have y_ := @hb _ _ hby
  have k_ := @o_k _ _ hw
  obtain ⟨ks1, Sa1⟩ := S_x.2.2.2.1
  obtain ⟨ks2, Sb2⟩ := S_y.2.2.2.1
  have Sa2 : Arv Z h0 u ks2 .byte (1 : Int32) [.int 42] (.int 0) := Sb2
  refine o_iloadN X0 hx (y_ oD17_0) rfl ?_
  refine o_iF (t := 17) X0 hx (y_ oD17_1) (fun hq => ?_) (fun hq => ?_)
  · have hc1 := o_h_lt.1 hq
    exact absurd hc1 (by rw [hi]; exact o_on (by omega))
  have hc1 := o_h_lt.2 hq
  refine o_iloadN X0 hx (y_ oD17_4) rfl ?_
  refine o_aloadN X0 hx (y_ oD17_5) rfl rfl ?_
  refine o_vir (y := o_m6) (b := x) (argsL := []) (S := [(.int i)]) (W := 1) X0 hx hZ hown (k_ 265 rfl) (k_ 159 rfl) (k_ 161 rfl) (k_ 160 rfl) (backOf (W := 1) (rmlen l Z a0 hw [] x t cs zC_ h0 n0 O0 S_x SC_ hC_) hZ (k_ 162 rfl) (k_ 6 rfl) (by decide) (by decide)) e0 S_x.1 hml (lenOf o_pd__28_29I rfl) (y_ oD17_6) (fun T3 L3 v3 X3 hQ3 => ?_)
  obtain ⟨rfl, N3q, hh3⟩ := hQ3
  have N3 := Fr.app N0 N3q
  show o_G p e below _ T3 (mkF m 9 #[vR x, vR y, vI i, .unset, .unset, .unset, .unset, .unset] [(.int (Int32.ofNat cs.length)), (.int i)])
  refine o_aloadN X3 hx (y_ oD17_9) rfl rfl ?_
  refine o_vir (y := o_m6) (b := y) (argsL := []) (S := [(.int (Int32.ofNat cs.length)), (.int i)]) (W := 2) X3 hx hZ hown (k_ 265 rfl) (k_ 159 rfl) (k_ 161 rfl) (k_ 160 rfl) (backOf (W := 2) (rmlen l Z a0 hw [] y u ([42] : List Int32) zC_ h0 n0 O0 S_y SC_ hC_) hZ (k_ 162 rfl) (k_ 6 rfl) (by decide) (by decide)) hh3 S_y.1 hml (lenOf o_pd__28_29I rfl) (y_ oD17_10) (fun T4 L4 v4 X4 hQ4 => ?_)
  obtain ⟨rfl, N4q, hh4⟩ := hQ4
  have N4 := Fr.app N3 N4q
  show o_G p e below _ T4 (mkF m 13 #[vR x, vR y, vI i, .unset, .unset, .unset, .unset, .unset] [(.int (Int32.ofNat ([42] : List Int32).length)), (.int (Int32.ofNat cs.length)), (.int i)])
  refine o_valE (z := 1) rfl ?_
  refine o_isub X4 hx (y_ oD17_13) ?_
  refine o_iC (t := 19) X4 hx (y_ oD17_14) (fun hq => ?_) (fun hq => ?_)
  · have hc14 := o_c_le.1 hq
    refine o_aloadN X4 hx (y_ oD17_19) rfl rfl ?_
    refine o_getF X4 hx hZ hown (host := "") (Or.inl (k_ 26 rfl)) Via.refl hh4 S_x.2.2.1 (y_ oD17_20) (fun T5 X5 e5 => ?_)
    refine o_astoreN X5 hx (y_ oD17_23) rfl (A' := #[vR x, vR y, vI i, vR t, .unset, .unset, .unset, .unset]) rfl ?_
    refine o_aloadN X5 hx (y_ oD17_24) rfl rfl ?_
    refine o_getF X5 hx hZ hown (host := "") (Or.inl (k_ 26 rfl)) Via.refl e5 S_y.2.2.1 (y_ oD17_25) (fun T6 X6 e6 => ?_)
    refine o_astore X6 hx (y_ oD17_28) rfl (A' := #[vR x, vR y, vI i, vR t, vR u, .unset, .unset, .unset]) rfl ?_
    refine o_iconst X6 hx (y_ oD17_30) (x := 0) rfl ?_
    refine o_istore X6 hx (y_ oD17_31) (A' := #[vR x, vR y, vI i, vR t, vR u, vI 0, .unset, .unset]) rfl ?_
    refine o_aload X6 hx (y_ oD17_33) rfl rfl ?_
    refine o_alen (n := 1) X6 hx hZ e6 Sa2 (y_ oD17_35) ?_
    refine o_istore X6 hx (y_ oD17_36) (A' := #[vR x, vR y, vI i, vR t, vR u, vI 0, vI 1, .unset]) rfl ?_
    refine o_aloadN X6 hx (y_ oD17_38) rfl rfl ?_
    refine o_vir (y := o_m4) (b := x) (argsL := []) (S := []) (W := 0) X6 hx hZ hown (k_ 82 rfl) (k_ 83 rfl) (k_ 85 rfl) (k_ 84 rfl) (backOf (W := 0) (rmcod l Z a0 hw [] x zC_ h0 n0 O0 S_x.2.1 SC_ hC_) hZ (k_ 86 rfl) (k_ 6 rfl) (by decide) (by decide)) e6 S_x.1 hml (lenOf o_pd__28_29B rfl) (y_ oD17_39) (fun T7 L7 v7 X7 hQ7 => ?_)
    obtain ⟨rfl, N7q, hh7⟩ := hQ7
    have N7 := Fr.app N4 N7q
    show o_G p e below _ T7 (mkF m 42 #[vR x, vR y, vI i, vR t, vR u, vI 0, vI 1, .unset] [(.int 0)])
    refine o_istore X7 hx (y_ oD17_42) (A' := #[vR x, vR y, vI i, vR t, vR u, vI 0, vI 1, vI 0]) rfl ?_
    refine o_iload X7 hx (y_ oD17_44) rfl ?_
    refine o_aloadN X7 hx (y_ oD17_46) rfl rfl ?_
    refine o_vir (y := o_m4) (b := y) (argsL := []) (S := [(.int 0)]) (W := 1) X7 hx hZ hown (k_ 82 rfl) (k_ 83 rfl) (k_ 85 rfl) (k_ 84 rfl) (backOf (W := 1) (rmcod l Z a0 hw [] y zC_ h0 n0 O0 S_y.2.1 SC_ hC_) hZ (k_ 86 rfl) (k_ 6 rfl) (by decide) (by decide)) hh7 S_y.1 hml (lenOf o_pd__28_29B rfl) (y_ oD17_47) (fun T8 L8 v8 X8 hQ8 => ?_)
    obtain ⟨rfl, N8q, hh8⟩ := hQ8
    have N8 := Fr.app N7 N8q
    show o_G p e below _ T8 (mkF m 50 #[vR x, vR y, vI i, vR t, vR u, vI 0, vI 1, vI 0] [(.int 0), (.int 0)])
    refine o_iCF X8 hx (y_ oD17_50) ?_
    refine o_iload X8 hx (y_ oD17_53) rfl ?_
    refine o_iconst X8 hx (y_ oD17_55) (x := 1) rfl ?_
    refine o_iCT (t := 63) X8 hx (y_ oD17_56) ?_
    refine o_aloadN X8 hx (y_ oD17_63) rfl rfl ?_
    refine o_iloadN X8 hx (y_ oD17_64) rfl ?_
    refine o_aload X8 hx (y_ oD17_65) rfl rfl ?_
    refine o_iconst X8 hx (y_ oD17_67) (x := 0) rfl ?_
    refine o_iload X8 hx (y_ oD17_68) rfl ?_
    refine o_sta (y := o_m16) (argsL := [(.ref t), (.int i), (.ref u), (.int 0), (.int 1)]) (S := []) (W := 0) X8 hx hZ hown (k_ 266 rfl) (k_ 267 rfl) (k_ 268 rfl) (k_ 269 rfl) (backOf (W := 0) (rmmia l Z a0 hw [] t i u ks1 ks2 cs k h0 n0 O0 Sa1 Sa2 S_x.2.2.2.2.1 hi hk hl) hZ (k_ 269 rfl) (k_ 268 rfl) (by decide) (by decide)) hh8 hml (lenOf o_pd__28_5bBI_5bBII_29I rfl) (y_ oD17_70) (fun T9 L9 v9 X9 hQ9 => ?_)
    obtain ⟨rfl, N9q, hh9⟩ := hQ9
    have N9 := Fr.app N8 N9q
    show o_G p e below _ T9 (mkF m 73 #[vR x, vR y, vI i, vR t, vR u, vI 0, vI 1, vI 0] [(.int (if cs.getD k 0 = 42 then (-1) else 0 : Int32))])
    refine o_iF (t := 80) X9 hx (y_ oD17_73) (fun hq => ?_) (fun hq => ?_)
    · have hc73 := o_h_ge.1 hq
      refine o_iconst X9 hx (y_ oD17_80) (x := 0) rfl ?_
      exact o_retN X9 hx (t := .boolean) hrt hlk (by simp) (y_ oD17_81) rfl (by decide) (by decide) (o_hQ hh9 ⟨by rw [if_neg (o_im0 hc73)], N9, rfl⟩)
    have hc73 := o_h_ge.2 hq
    refine o_iconst X9 hx (y_ oD17_76) (x := 1) rfl ?_
    refine o_gO (t := 81) X9 hx (y_ oD17_77) ?_
    exact o_retN X9 hx (t := .boolean) hrt hlk (by simp) (y_ oD17_81) rfl (by decide) (by decide) (o_hQ hh9 ⟨by rw [if_pos (o_im1 hc73)], N9, rfl⟩)
  have hc14 := o_c_le.2 hq
  exact absurd hc14 (by rw [o_osub1 (show 1 ≤ cs.length by omega), hi]; exact o_nlt (by omega) (by omega))
theorem rmswu (hw : o_HW Z a0) (ws : o_LC) (x : Addr) (y : Addr) (i : Int32) (t : Addr) (u : Addr) (cs : List Int32) (k : Nat) (zC_ : Int32) (h0 : Heap) (n0 : Nat) (O0 : Old Z n0 h0) (S_x : o_A Z h0 x t 1 cs) (S_y : o_Str Z h0 y u [42]) (hi : i = Int32.ofNat k) (hk : k < cs.length) (hl : cs.length ≤ 8) (S_u : o_SU Z) (SC_ : o_SC Z zC_) (hC_ : ¬ zC_ = 0) :
    o_Met l Z o_m17 oJ0 8 (some .boolean) ws o_R8 #[(.ref x), (.ref y), (.int i)] h0 (o_P (some (.int (if cs.getD k 0 = 42 then 1 else 0 : Int32))) h0 n0) := by
  refine o_enter o_pn_1 (fun m => o_ef10 m x y i) (fun p e s m below meth c s₁ hx hby hml hZ hown hnm hlk hrt X0 e0 => ?_)
  have N0 := Fr.nil n0
  have y_ := @hb _ _ hby
  have k_ := @o_k _ _ hw
  obtain ⟨ks1, Sa1⟩ := S_x.uv
  obtain ⟨ks2, Sb2⟩ := S_y.2.2.2.1
  have Sa2 : Arv Z h0 u ks2 .byte (1 : Int32) [.int 42] (.int 0) := Sb2
  refine o_iloadN X0 hx (y_ oD17_0) rfl ?_
  refine o_iF (t := 17) X0 hx (y_ oD17_1) (fun hq => ?_) (fun hq => ?_)
  · have hc1 := o_h_lt.1 hq
    exact absurd hc1 (by rw [hi]; exact o_on (by omega))
  have hc1 := o_h_lt.2 hq
  refine o_iloadN X0 hx (y_ oD17_4) rfl ?_
  refine o_aloadN X0 hx (y_ oD17_5) rfl rfl ?_
  refine o_vir (y := o_m6) (b := x) (argsL := []) (S := [(.int i)]) (W := 1) X0 hx hZ hown (k_ 265 rfl) (k_ 159 rfl) (k_ 161 rfl) (k_ 160 rfl) (backOf (W := 1) (rmlna l Z a0 hw [] x t (1 : Int32) cs zC_ h0 n0 O0 S_x SC_ hC_) hZ (k_ 162 rfl) (k_ 6 rfl) (by decide) (by decide)) e0 S_x.1 hml (lenOf o_pd__28_29I rfl) (y_ oD17_6) (fun T3 L3 v3 X3 hQ3 => ?_)
  obtain ⟨rfl, N3q, hh3⟩ := hQ3
  have N3 := Fr.app N0 N3q
  show o_G p e below _ T3 (mkF m 9 #[vR x, vR y, vI i, .unset, .unset, .unset, .unset, .unset] [(.int (Int32.ofNat cs.length)), (.int i)])
  refine o_aloadN X3 hx (y_ oD17_9) rfl rfl ?_
  refine o_vir (y := o_m6) (b := y) (argsL := []) (S := [(.int (Int32.ofNat cs.length)), (.int i)]) (W := 2) X3 hx hZ hown (k_ 265 rfl) (k_ 159 rfl) (k_ 161 rfl) (k_ 160 rfl) (backOf (W := 2) (rmlen l Z a0 hw [] y u ([42] : List Int32) zC_ h0 n0 O0 S_y SC_ hC_) hZ (k_ 162 rfl) (k_ 6 rfl) (by decide) (by decide)) hh3 S_y.1 hml (lenOf o_pd__28_29I rfl) (y_ oD17_10) (fun T4 L4 v4 X4 hQ4 => ?_)
  obtain ⟨rfl, N4q, hh4⟩ := hQ4
  have N4 := Fr.app N3 N4q
  show o_G p e below _ T4 (mkF m 13 #[vR x, vR y, vI i, .unset, .unset, .unset, .unset, .unset] [(.int (Int32.ofNat ([42] : List Int32).length)), (.int (Int32.ofNat cs.length)), (.int i)])
  refine o_valE (z := 1) rfl ?_
  refine o_isub X4 hx (y_ oD17_13) ?_
  refine o_iC (t := 19) X4 hx (y_ oD17_14) (fun hq => ?_) (fun hq => ?_)
  · have hc14 := o_c_le.1 hq
    refine o_aloadN X4 hx (y_ oD17_19) rfl rfl ?_
    refine o_getF X4 hx hZ hown (host := "") (Or.inl (k_ 26 rfl)) Via.refl hh4 S_x.2.2.1 (y_ oD17_20) (fun T5 X5 e5 => ?_)
    refine o_astoreN X5 hx (y_ oD17_23) rfl (A' := #[vR x, vR y, vI i, vR t, .unset, .unset, .unset, .unset]) rfl ?_
    refine o_aloadN X5 hx (y_ oD17_24) rfl rfl ?_
    refine o_getF X5 hx hZ hown (host := "") (Or.inl (k_ 26 rfl)) Via.refl e5 S_y.2.2.1 (y_ oD17_25) (fun T6 X6 e6 => ?_)
    refine o_astore X6 hx (y_ oD17_28) rfl (A' := #[vR x, vR y, vI i, vR t, vR u, .unset, .unset, .unset]) rfl ?_
    refine o_iconst X6 hx (y_ oD17_30) (x := 0) rfl ?_
    refine o_istore X6 hx (y_ oD17_31) (A' := #[vR x, vR y, vI i, vR t, vR u, vI 0, .unset, .unset]) rfl ?_
    refine o_aload X6 hx (y_ oD17_33) rfl rfl ?_
    refine o_alen (n := 1) X6 hx hZ e6 Sa2 (y_ oD17_35) ?_
    refine o_istore X6 hx (y_ oD17_36) (A' := #[vR x, vR y, vI i, vR t, vR u, vI 0, vI 1, .unset]) rfl ?_
    refine o_aloadN X6 hx (y_ oD17_38) rfl rfl ?_
    refine o_vir (y := o_m4) (b := x) (argsL := []) (S := []) (W := 0) X6 hx hZ hown (k_ 82 rfl) (k_ 83 rfl) (k_ 85 rfl) (k_ 84 rfl) (backOf (W := 0) (rmcoa l Z a0 hw [] x (1 : Int32) zC_ h0 n0 O0 S_x.2.1 S_x.ak.k01 SC_ hC_) hZ (k_ 86 rfl) (k_ 6 rfl) (by decide) (by decide)) e6 S_x.1 hml (lenOf o_pd__28_29B rfl) (y_ oD17_39) (fun T7 L7 v7 X7 hQ7 => ?_)
    obtain ⟨rfl, N7q, hh7⟩ := hQ7
    have N7 := Fr.app N4 N7q
    show o_G p e below _ T7 (mkF m 42 #[vR x, vR y, vI i, vR t, vR u, vI 0, vI 1, .unset] [(.int 1)])
    refine o_istore X7 hx (y_ oD17_42) (A' := #[vR x, vR y, vI i, vR t, vR u, vI 0, vI 1, vI 1]) rfl ?_
    refine o_iload X7 hx (y_ oD17_44) rfl ?_
    refine o_aloadN X7 hx (y_ oD17_46) rfl rfl ?_
    refine o_vir (y := o_m4) (b := y) (argsL := []) (S := [(.int 1)]) (W := 1) X7 hx hZ hown (k_ 82 rfl) (k_ 83 rfl) (k_ 85 rfl) (k_ 84 rfl) (backOf (W := 1) (rmcod l Z a0 hw [] y zC_ h0 n0 O0 S_y.2.1 SC_ hC_) hZ (k_ 86 rfl) (k_ 6 rfl) (by decide) (by decide)) hh7 S_y.1 hml (lenOf o_pd__28_29B rfl) (y_ oD17_47) (fun T8 L8 v8 X8 hQ8 => ?_)
    obtain ⟨rfl, N8q, hh8⟩ := hQ8
    have N8 := Fr.app N7 N8q
    show o_G p e below _ T8 (mkF m 50 #[vR x, vR y, vI i, vR t, vR u, vI 0, vI 1, vI 1] [(.int 0), (.int 1)])
    refine o_iCT (t := 82) X8 hx (y_ oD17_50) ?_
    refine o_iload X8 hx (y_ oD17_82) rfl ?_
    refine o_iFT (t := 89) X8 hx (y_ oD17_84) ?_
    refine o_iload X8 hx (y_ oD17_89) rfl ?_
    refine o_iload X8 hx (y_ oD17_91) rfl ?_
    refine o_iCF X8 hx (y_ oD17_93) ?_
    refine o_aloadN X8 hx (y_ oD17_96) rfl rfl ?_
    refine o_iloadN X8 hx (y_ oD17_97) rfl ?_
    refine o_iinc X8 hx (y_ oD17_98) (y := 1) rfl rfl (A' := #[vR x, vR y, vI (i + (1 : Int32)), vR t, vR u, vI 0, vI 1, vI 1]) rfl ?_
    refine o_sta (y := o_m0) (argsL := [(.ref t), (.int i)]) (S := []) (W := 0) X8 hx hZ hown (k_ 317 rfl) (k_ 315 rfl) (k_ 247 rfl) (k_ 316 rfl) (backOf (W := 0) (rmgch l Z a0 hw [] t i ks1 (Int32.ofNat (2 * cs.length)) cs k h0 n0 O0 Sa1 (o_zz hl) S_x.ak.2.1 hi hk (o_zs hl) S_u) hZ (k_ 316 rfl) (k_ 247 rfl) (by decide) (by decide)) hh8 hml (lenOf o_pd__28_5bBI_29C rfl) (y_ oD17_101) (fun T9 L9 v9 X9 hQ9 => ?_)
    obtain ⟨rfl, N9q, hh9⟩ := hQ9
    have N9 := Fr.app N8 N9q
    show o_G p e below _ T9 (mkF m 104 #[vR x, vR y, vI (i + (1 : Int32)), vR t, vR u, vI 0, vI 1, vI 1] [(.int (cs.getD k 0))])
    refine o_aload X9 hx (y_ oD17_104) rfl rfl ?_
    refine o_iload X9 hx (y_ oD17_106) rfl ?_
    refine o_iincK X9 hx (y_ oD17_108) (y := 1) rfl rfl (z := 1) (by decide) (A' := #[vR x, vR y, vI (i + (1 : Int32)), vR t, vR u, vI 1, vI 1, vI 1]) rfl ?_
    refine o_bload (v := (.int 42)) X9 hx hZ hh9 Sa2 (y_ oD17_111) ⟨by decide, by decide⟩ rfl ?_
    refine o_sipush X9 hx (y_ oD17_112) (x := 255) rfl ?_
    refine o_iand X9 hx (y_ oD17_115) ?_
    refine o_valE (z := 42) (by decide) ?_
    refine o_valE (z := 42) (by decide) ?_
    refine o_iC (t := 89) X9 hx (y_ oD17_116) (fun hq => ?_) (fun hq => ?_)
    · have hc116 := o_c_eq.1 hq
      refine o_iload X9 hx (y_ oD17_89) rfl ?_
      refine o_iload X9 hx (y_ oD17_91) rfl ?_
      refine o_iCT (t := 121) X9 hx (y_ oD17_93) ?_
      refine o_iconst X9 hx (y_ oD17_121) (x := 1) rfl ?_
      exact o_retN X9 hx (t := .boolean) hrt hlk (by simp) (y_ oD17_122) rfl (by decide) (by decide) (o_hQ hh9 ⟨by rw [if_pos hc116], N9, rfl⟩)
    have hc116 := o_c_eq.2 hq
    refine o_iconst X9 hx (y_ oD17_119) (x := 0) rfl ?_
    exact o_retN X9 hx (t := .boolean) hrt hlk (by simp) (y_ oD17_120) rfl (by decide) (by decide) (o_hQ hh9 ⟨by rw [if_neg hc116], N9, rfl⟩)
  have hc14 := o_c_le.2 hq
  exact absurd hc14 (by rw [o_osub1 (show 1 ≤ cs.length by omega), hi]; exact o_nlt (by omega) (by omega))
theorem rmswa (hw : o_HW Z a0) (ws : o_LC) (x : Addr) (y : Addr) (i : Int32) (t : Addr) (u : Addr) (kd : Int32) (cs : List Int32) (k : Nat) (zC_ : Int32) (h0 : Heap) (n0 : Nat) (O0 : Old Z n0 h0) (S_x : o_A Z h0 x t kd cs) (S_y : o_Str Z h0 y u [42]) (hi : i = Int32.ofNat k) (hk : k < cs.length) (S_u : o_SU Z) (SC_ : o_SC Z zC_) (hC_ : ¬ zC_ = 0) :
    o_Met l Z o_m17 oJ0 8 (some .boolean) ws o_R8 #[(.ref x), (.ref y), (.int i)] h0 (o_P (some (.int (if cs.getD k 0 = 42 then 1 else 0 : Int32))) h0 n0) := by
  rcases S_x.ak.k01 with rfl | rfl
  · exact rmswl l Z a0 hw ws x y i t u cs k zC_ h0 n0 O0 S_x.str S_y hi hk S_x.ak.1 S_u SC_ hC_
  · exact rmswu l Z a0 hw ws x y i t u cs k zC_ h0 n0 O0 S_x S_y hi hk S_x.ak.1 S_u SC_ hC_
theorem rmsta (hw : o_HW Z a0) (ws : o_LC) (x : Addr) (y : Addr) (t : Addr) (u : Addr) (kd : Int32) (cs : List Int32) (zC_ : Int32) (h0 : Heap) (n0 : Nat) (O0 : Old Z n0 h0) (S_x : o_A Z h0 x t kd cs) (S_y : o_Str Z h0 y u [42]) (hl1 : 1 ≤ cs.length) (S_u : o_SU Z) (SC_ : o_SC Z zC_) (hC_ : ¬ zC_ = 0) :
    o_Met l Z o_m18 jdk_42_method_76_code 2 (some .boolean) ws o_R9 #[(.ref x), (.ref y)] h0 (o_P (some (.int (if cs.getD 0 0 = 42 then 1 else 0 : Int32))) h0 n0) := by
  refine o_enter o_pn_1 (fun m => o_ef5 m x y) (fun p e s m below meth c s₁ hx hby hml hZ hown hnm hlk hrt X0 e0 => ?_)
  have N0 := Fr.nil n0
  have y_ := @hb _ _ hby
  have k_ := @o_k _ _ hw
  refine o_aloadN X0 hx (y_ oD18_0) rfl rfl ?_
  refine o_aloadN X0 hx (y_ oD18_1) rfl rfl ?_
  refine o_iconst X0 hx (y_ oD18_2) (x := 0) rfl ?_
  refine o_vir (y := o_m17) (b := x) (argsL := [(.ref y), (.int 0)]) (S := []) (W := 0) X0 hx hZ hown (k_ 260 rfl) (k_ 261 rfl) (k_ 263 rfl) (k_ 262 rfl) (backOf (W := 0) (rmswa l Z a0 hw [] x y (0 : Int32) t u kd cs 0 zC_ h0 n0 O0 S_x S_y rfl (by omega) S_u SC_ hC_) hZ (k_ 264 rfl) (k_ 6 rfl) (by decide) (by decide)) e0 S_x.1 hml (lenOf o_pd__28Ljava_2flang_2fString_3bI_29Z rfl) (y_ oD18_3) (fun T1 L1 v1 X1 hQ1 => ?_)
  obtain ⟨rfl, N1q, hh1⟩ := hQ1
  have N1 := Fr.app N0 N1q
  show o_G p e below _ T1 (mkF m 6 #[vR x, vR y] [(.int (if cs.getD 0 0 = 42 then 1 else 0 : Int32))])
  exact o_retN X1 hx (t := .boolean) hrt hlk (by simp) (y_ oD18_6) o_narB (by decide) (by decide) (o_hQ hh1 ⟨rfl, N1, rfl⟩)
theorem rmena (hw : o_HW Z a0) (ws : o_LC) (x : Addr) (y : Addr) (t : Addr) (u : Addr) (kd : Int32) (cs : List Int32) (zC_ : Int32) (h0 : Heap) (n0 : Nat) (O0 : Old Z n0 h0) (S_x : o_A Z h0 x t kd cs) (S_y : o_Str Z h0 y u [42]) (hl1 : 1 ≤ cs.length) (S_u : o_SU Z) (SC_ : o_SC Z zC_) (hC_ : ¬ zC_ = 0) :
    o_Met l Z o_m19 oJ44 2 (some .boolean) ws o_R9 #[(.ref x), (.ref y)] h0 (o_P (some (.int (if cs.getD (cs.length - 1) 0 = 42 then 1 else 0 : Int32))) h0 n0) := by
  refine o_enter o_pn_1 (fun m => o_ef5 m x y) (fun p e s m below meth c s₁ hx hby hml hZ hown hnm hlk hrt X0 e0 => ?_)
  have N0 := Fr.nil n0
  have y_ := @hb _ _ hby
  have k_ := @o_k _ _ hw
  refine o_aloadN X0 hx (y_ oD19_0) rfl rfl ?_
  refine o_aloadN X0 hx (y_ oD19_1) rfl rfl ?_
  refine o_aloadN X0 hx (y_ oD19_2) rfl rfl ?_
  refine o_vir (y := o_m6) (b := x) (argsL := []) (S := [(.ref y), (.ref x)]) (W := 2) X0 hx hZ hown (k_ 265 rfl) (k_ 159 rfl) (k_ 161 rfl) (k_ 160 rfl) (backOf (W := 2) (rmlna l Z a0 hw [] x t kd cs zC_ h0 n0 O0 S_x SC_ hC_) hZ (k_ 162 rfl) (k_ 6 rfl) (by decide) (by decide)) e0 S_x.1 hml (lenOf o_pd__28_29I rfl) (y_ oD19_3) (fun T1 L1 v1 X1 hQ1 => ?_)
  obtain ⟨rfl, N1q, hh1⟩ := hQ1
  have N1 := Fr.app N0 N1q
  show o_G p e below _ T1 (mkF m 6 #[vR x, vR y] [(.int (Int32.ofNat cs.length)), (.ref y), (.ref x)])
  refine o_aloadN X1 hx (y_ oD19_6) rfl rfl ?_
  refine o_vir (y := o_m6) (b := y) (argsL := []) (S := [(.int (Int32.ofNat cs.length)), (.ref y), (.ref x)]) (W := 3) X1 hx hZ hown (k_ 265 rfl) (k_ 159 rfl) (k_ 161 rfl) (k_ 160 rfl) (backOf (W := 3) (rmlen l Z a0 hw [] y u ([42] : List Int32) zC_ h0 n0 O0 S_y SC_ hC_) hZ (k_ 162 rfl) (k_ 6 rfl) (by decide) (by decide)) hh1 S_y.1 hml (lenOf o_pd__28_29I rfl) (y_ oD19_7) (fun T2 L2 v2 X2 hQ2 => ?_)
  obtain ⟨rfl, N2q, hh2⟩ := hQ2
  have N2 := Fr.app N1 N2q
  show o_G p e below _ T2 (mkF m 10 #[vR x, vR y] [(.int (Int32.ofNat ([42] : List Int32).length)), (.int (Int32.ofNat cs.length)), (.ref y), (.ref x)])
  refine o_valE (z := 1) rfl ?_
  refine o_isub X2 hx (y_ oD19_10) ?_
  refine o_valE (z := Int32.ofNat (cs.length - 1)) (o_osub1 hl1) ?_
  refine o_vir (y := o_m17) (b := x) (argsL := [(.ref y), (.int (Int32.ofNat (cs.length - 1)))]) (S := []) (W := 0) X2 hx hZ hown (k_ 260 rfl) (k_ 261 rfl) (k_ 263 rfl) (k_ 262 rfl) (backOf (W := 0) (rmswa l Z a0 hw [] x y (Int32.ofNat (cs.length - 1)) t u kd cs (cs.length - 1) zC_ h0 n0 O0 S_x S_y rfl (by omega) S_u SC_ hC_) hZ (k_ 264 rfl) (k_ 6 rfl) (by decide) (by decide)) hh2 S_x.1 hml (lenOf o_pd__28Ljava_2flang_2fString_3bI_29Z rfl) (y_ oD19_11) (fun T3 L3 v3 X3 hQ3 => ?_)
  obtain ⟨rfl, N3q, hh3⟩ := hQ3
  have N3 := Fr.app N2 N3q
  show o_G p e below _ T3 (mkF m 14 #[vR x, vR y] [(.int (if cs.getD (cs.length - 1) 0 = 42 then 1 else 0 : Int32))])
  exact o_retN X3 hx (t := .boolean) hrt hlk (by simp) (y_ oD19_14) o_narB (by decide) (by decide) (o_hQ hh3 ⟨rfl, N3, rfl⟩)
theorem rmcfs (hw : o_HW Z a0) (ws : o_LC) (ii : Int32) (nn : Int32) (ln : Int32) (fm : Value) (h0 : Heap) (n0 : Nat) (O0 : Old Z n0 h0) (hfm : fm.isRef = true) (hor : ¬ ((ln ||| ii) ||| nn) < 0) (hle : ¬ (ln - ii) < nn) :
    o_Met l Z o_m20 oJ29 4 (some .int) ws o_R0 #[(.int ii), (.int nn), (.int ln), fm] h0 (o_P (some (.int ii)) h0 n0) := by
  refine o_enter o_pn_6 (fun m => o_ef11 m ii nn ln fm hfm) (fun p e s m below meth c s₁ hx hby hml hZ hown hnm hlk hrt X0 e0 => ?_)
  have N0 := Fr.nil n0
  have y_ := @hb _ _ hby
  have k_ := @o_k _ _ hw
  refine o_iloadN X0 hx (y_ oD20_0) rfl ?_
  refine o_iloadN X0 hx (y_ oD20_1) rfl ?_
  refine o_ior X0 hx (y_ oD20_2) ?_
  refine o_iloadN X0 hx (y_ oD20_3) rfl ?_
  refine o_ior X0 hx (y_ oD20_4) ?_
  refine o_iF (t := 15) X0 hx (y_ oD20_5) (fun hq => ?_) (fun hq => ?_)
  · have hc5 := o_h_lt.1 hq
    exact absurd hc5 hor
  have hc5 := o_h_lt.2 hq
  refine o_iloadN X0 hx (y_ oD20_8) rfl ?_
  refine o_iloadN X0 hx (y_ oD20_9) rfl ?_
  refine o_iloadN X0 hx (y_ oD20_10) rfl ?_
  refine o_isub X0 hx (y_ oD20_11) ?_
  refine o_iC (t := 23) X0 hx (y_ oD20_12) (fun hq => ?_) (fun hq => ?_)
  · have hc12 := o_c_le.1 hq
    refine o_iloadN X0 hx (y_ oD20_23) rfl ?_
    exact o_retI X0 hx hrt hlk (y_ oD20_24) (by decide) (by decide) (o_hQ e0 ⟨rfl, N0, rfl⟩)
  have hc12 := o_c_le.2 hq
  exact absurd hc12 hle
theorem rmcbo (hw : o_HW Z a0) (ws : o_LC) (ii : Int32) (nn : Int32) (ln : Int32) (fm : Value) (h0 : Heap) (n0 : Nat) (O0 : Old Z n0 h0) (hor : ¬ ((ln ||| ii) ||| nn) < 0) (hle : ¬ (ln - ii) < nn) (S_f : o_SF Z fm) (hfm : fm.isRef = true) :
    o_Met l Z o_m21 oJ55 3 (some .int) ws o_R10 #[(.int ii), (.int nn), (.int ln)] h0 (o_P (some (.int ii)) h0 n0) := by
  refine o_enter o_pn_1 (fun m => o_ef12 m ii nn ln) (fun p e s m below meth c s₁ hx hby hml hZ hown hnm hlk hrt X0 e0 => ?_)
  have N0 := Fr.nil n0
  have y_ := @hb _ _ hby
  have k_ := @o_k _ _ hw
  refine o_iloadN X0 hx (y_ oD21_0) rfl ?_
  refine o_iloadN X0 hx (y_ oD21_1) rfl ?_
  refine o_iloadN X0 hx (y_ oD21_2) rfl ?_
  refine o_getS X0 hx hZ hown (host := "") (Or.inl (k_ 284 rfl)) Via.refl e0 (Sta.ext O0.2 S_f) (y_ oD21_3) (fun T1 X1 e1 => ?_)
  refine o_sta (y := o_m20) (argsL := [(.int ii), (.int nn), (.int ln), fm]) (S := []) (W := 0) X1 hx hZ hown (k_ 337 rfl) (k_ 338 rfl) (k_ 285 rfl) (k_ 339 rfl) (backOf (W := 0) (rmcfs l Z a0 hw [] ii nn ln fm h0 n0 O0 hfm hor hle) hZ (k_ 339 rfl) (k_ 285 rfl) (by decide) (by decide)) e1 hml (lenOf o_pd__28IIILjava_2futil_2ffunction_2fBiFunction_3b_29I rfl) (y_ oD21_6) (fun T2 L2 v2 X2 hQ2 => ?_)
  obtain ⟨rfl, N2q, hh2⟩ := hQ2
  have N2 := Fr.app N0 N2q
  show o_G p e below _ T2 (mkF m 9 #[vI ii, vI nn, vI ln] [(.int ii)])
  exact o_retI X2 hx hrt hlk (y_ oD21_9) (by decide) (by decide) (o_hQ hh2 ⟨rfl, N2, rfl⟩)
theorem rmuln (hw : o_HW Z a0) (ws : o_LC) (a : Addr) (ka : ClassId) (z : Int32) (vl : List Value) (kk : Nat) (h0 : Heap) (n0 : Nat) (O0 : Old Z n0 h0) (V_a : Arv Z h0 a ka .byte z vl (.int 0)) (hzt : z >>> ((1 : Int32) &&& 31) = Int32.ofNat kk) :
    o_Met l Z o_m22 jdk_52_method_6_code 1 (some .int) ws o_R0 #[(.ref a)] h0 (o_P (some (.int (Int32.ofNat kk))) h0 n0) := by
  refine o_enter o_pn_0 (fun m => o_ef3 m a) (fun p e s m below meth c s₁ hx hby hml hZ hown hnm hlk hrt X0 e0 => ?_)
  have N0 := Fr.nil n0
  have y_ := @hb _ _ hby
  have k_ := @o_k _ _ hw
  refine o_aloadN X0 hx (y_ oD22_0) rfl rfl ?_
  refine o_alen (n := z) X0 hx hZ e0 V_a (y_ oD22_1) ?_
  refine o_iconst X0 hx (y_ oD22_2) (x := 1) rfl ?_
  refine o_ishr X0 hx (y_ oD22_3) ?_
  refine o_valE (z := Int32.ofNat kk) hzt ?_
  exact o_retI X0 hx hrt hlk (y_ oD22_4) (by decide) (by decide) (o_hQ e0 ⟨rfl, N0, rfl⟩)
theorem rmcoc (hw : o_HW Z a0) (ws : o_LC) (ii : Int32) (nn : Int32) (a : Addr) (ka : ClassId) (z : Int32) (vl : List Value) (kk : Nat) (fm : Value) (h0 : Heap) (n0 : Nat) (O0 : Old Z n0 h0) (V_a : Arv Z h0 a ka .byte z vl (.int 0)) (hzt : z >>> ((1 : Int32) &&& 31) = Int32.ofNat kk) (hi : ¬ ii < 0) (hn : ¬ nn < 0) (hkk : kk < 2 ^ 31) (hle : ¬ (Int32.ofNat kk - ii) < nn) (S_f : o_SF Z fm) (hfm : fm.isRef = true) :
    o_Met l Z o_m23 oJ54 3 none ws o_R11 #[(.int ii), (.int nn), (.ref a)] h0 (o_P (none) h0 n0) := by
  refine o_enter o_pn_0 (fun m => o_ef13 m ii nn a) (fun p e s m below meth c s₁ hx hby hml hZ hown hnm hlk hrt X0 e0 => ?_)
  have N0 := Fr.nil n0
  have y_ := @hb _ _ hby
  have k_ := @o_k _ _ hw
  refine o_iloadN X0 hx (y_ oD23_0) rfl ?_
  refine o_iloadN X0 hx (y_ oD23_1) rfl ?_
  refine o_aloadN X0 hx (y_ oD23_2) rfl rfl ?_
  refine o_sta (y := o_m22) (argsL := [(.ref a)]) (S := [(.int nn), (.int ii)]) (W := 2) X0 hx hZ hown (k_ 331 rfl) (k_ 332 rfl) (k_ 247 rfl) (k_ 333 rfl) (backOf (W := 2) (rmuln l Z a0 hw [] a ka z vl kk h0 n0 O0 V_a hzt) hZ (k_ 333 rfl) (k_ 247 rfl) (by decide) (by decide)) e0 hml (lenOf o_pd__28_5bB_29I rfl) (y_ oD23_3) (fun T1 L1 v1 X1 hQ1 => ?_)
  obtain ⟨rfl, N1q, hh1⟩ := hQ1
  have N1 := Fr.app N0 N1q
  show o_G p e below _ T1 (mkF m 6 #[vI ii, vI nn, vR a] [(.int (Int32.ofNat kk)), (.int nn), (.int ii)])
  refine o_sta (y := o_m21) (argsL := [(.int ii), (.int nn), (.int (Int32.ofNat kk))]) (S := []) (W := 0) X1 hx hZ hown (k_ 334 rfl) (k_ 335 rfl) (k_ 6 rfl) (k_ 336 rfl) (backOf (W := 0) (rmcbo l Z a0 hw [] ii nn (Int32.ofNat kk) fm h0 n0 O0 (o_or2 (o_or2 (o_on hkk) hi) hn) hle S_f hfm) hZ (k_ 336 rfl) (k_ 6 rfl) (by decide) (by decide)) hh1 hml (lenOf o_pd__28III_29I rfl) (y_ oD23_6) (fun T2 L2 v2 X2 hQ2 => ?_)
  obtain ⟨rfl, N2q, hh2⟩ := hQ2
  have N2 := Fr.app N1 N2q
  show o_G p e below _ T2 (mkF m 9 #[vI ii, vI nn, vR a] [(.int ii)])
  refine o_pop X2 hx (y_ oD23_9) rfl ?_
  exact o_retV X2 hx hrt hlk (y_ oD23_10) (by decide) (by decide) (o_hQ hh2 ⟨rfl, N2, rfl⟩)
theorem rmcft (hw : o_HW Z a0) (ws : o_LC) (ii : Int32) (jj : Int32) (nn : Int32) (fm : Value) (h0 : Heap) (n0 : Nat) (O0 : Old Z n0 h0) (hfm : fm.isRef = true) (hi : ¬ ii < 0) (hj : ¬ jj < ii) (hn : ¬ nn < jj) :
    o_Met l Z o_m24 oJ36 4 (some .int) ws o_R0 #[(.int ii), (.int jj), (.int nn), fm] h0 (o_P (some (.int ii)) h0 n0) := by
  refine o_enter o_pn_6 (fun m => o_ef11 m ii jj nn fm hfm) (fun p e s m below meth c s₁ hx hby hml hZ hown hnm hlk hrt X0 e0 => ?_)
  have N0 := Fr.nil n0
  have y_ := @hb _ _ hby
  have k_ := @o_k _ _ hw
  refine o_iloadN X0 hx (y_ oD24_0) rfl ?_
  refine o_iF (t := 14) X0 hx (y_ oD24_1) (fun hq => ?_) (fun hq => ?_)
  · have hc1 := o_h_lt.1 hq
    exact absurd hc1 hi
  have hc1 := o_h_lt.2 hq
  refine o_iloadN X0 hx (y_ oD24_4) rfl ?_
  refine o_iloadN X0 hx (y_ oD24_5) rfl ?_
  refine o_iC (t := 14) X0 hx (y_ oD24_6) (fun hq => ?_) (fun hq => ?_)
  · have hc6 := o_c_gt.1 hq
    exact absurd hc6 hj
  have hc6 := o_c_gt.2 hq
  refine o_iloadN X0 hx (y_ oD24_9) rfl ?_
  refine o_iloadN X0 hx (y_ oD24_10) rfl ?_
  refine o_iC (t := 22) X0 hx (y_ oD24_11) (fun hq => ?_) (fun hq => ?_)
  · have hc11 := o_c_le.1 hq
    refine o_iloadN X0 hx (y_ oD24_22) rfl ?_
    exact o_retI X0 hx hrt hlk (y_ oD24_23) (by decide) (by decide) (o_hQ e0 ⟨rfl, N0, rfl⟩)
  have hc11 := o_c_le.2 hq
  exact absurd hc11 hn
theorem rmcbe (hw : o_HW Z a0) (ws : o_LC) (ii : Int32) (jj : Int32) (nn : Int32) (fm : Value) (h0 : Heap) (n0 : Nat) (O0 : Old Z n0 h0) (hi : ¬ ii < 0) (hj : ¬ jj < ii) (hn : ¬ nn < jj) (S_f : o_SF Z fm) (hfm : fm.isRef = true) :
    o_Met l Z o_m25 oJ53 3 none ws o_R10 #[(.int ii), (.int jj), (.int nn)] h0 (o_P (none) h0 n0) := by
  refine o_enter o_pn_1 (fun m => o_ef12 m ii jj nn) (fun p e s m below meth c s₁ hx hby hml hZ hown hnm hlk hrt X0 e0 => ?_)
  have N0 := Fr.nil n0
  have y_ := @hb _ _ hby
  have k_ := @o_k _ _ hw
  refine o_iloadN X0 hx (y_ oD25_0) rfl ?_
  refine o_iloadN X0 hx (y_ oD25_1) rfl ?_
  refine o_iloadN X0 hx (y_ oD25_2) rfl ?_
  refine o_getS X0 hx hZ hown (host := "") (Or.inl (k_ 284 rfl)) Via.refl e0 (Sta.ext O0.2 S_f) (y_ oD25_3) (fun T1 X1 e1 => ?_)
  refine o_sta (y := o_m24) (argsL := [(.int ii), (.int jj), (.int nn), fm]) (S := []) (W := 0) X1 hx hZ hown (k_ 286 rfl) (k_ 287 rfl) (k_ 285 rfl) (k_ 288 rfl) (backOf (W := 0) (rmcft l Z a0 hw [] ii jj nn fm h0 n0 O0 hfm hi hj hn) hZ (k_ 288 rfl) (k_ 285 rfl) (by decide) (by decide)) e1 hml (lenOf o_pd__28IIILjava_2futil_2ffunction_2fBiFunction_3b_29I rfl) (y_ oD25_6) (fun T2 L2 v2 X2 hQ2 => ?_)
  obtain ⟨rfl, N2q, hh2⟩ := hQ2
  have N2 := Fr.app N0 N2q
  show o_G p e below _ T2 (mkF m 9 #[vI ii, vI jj, vI nn] [(.int ii)])
  refine o_pop X2 hx (y_ oD25_9) rfl ?_
  exact o_retV X2 hx hrt hlk (y_ oD25_10) (by decide) (by decide) (o_hQ hh2 ⟨rfl, N2, rfl⟩)
theorem rmmig (hw : o_HW Z a0) (ws : o_LC) (xa : Int32) (xb : Int32) (h0 : Heap) (n0 : Nat) (O0 : Old Z n0 h0) (hle : ¬ xa < xb) :
    o_Met l Z o_m26 oJ45 2 (some .int) ws o_R0 #[(.int xa), (.int xb)] h0 (o_P (some (.int xb)) h0 n0) := by
  refine o_enterM (Jvm.Free.JP.mathPlain rfl (by decide)) (fun m => o_ef14 m xa xb) (fun p e s m below meth c s₁ hx hby hml hZ hown hnm hlk hrt X0 e0 => ?_)
  have N0 := Fr.nil n0
  have y_ := @hb _ _ hby
  have k_ := @o_k _ _ hw
  refine o_iloadN X0 hx (y_ oD26_0) rfl ?_
  refine o_iloadN X0 hx (y_ oD26_1) rfl ?_
  refine o_iC (t := 9) X0 hx (y_ oD26_2) (fun hq => ?_) (fun hq => ?_)
  · have hc2 := o_c_gt.1 hq
    refine o_iloadN X0 hx (y_ oD26_9) rfl ?_
    exact o_retI X0 hx hrt hlk (y_ oD26_10) (by decide) (by decide) (o_hQ e0 ⟨rfl, N0, rfl⟩)
  have hc2 := o_c_gt.2 hq
  refine o_iloadN X0 hx (y_ oD26_5) rfl ?_
  refine o_gO (t := 10) X0 hx (y_ oD26_6) ?_
  exact o_retI X0 hx hrt hlk (y_ oD26_10) (by decide) (by decide) (o_hQ e0 ⟨by rw [o_le2 hle hc2], N0, rfl⟩)
theorem rmchg (hw : o_HW Z a0) (ws : o_LC) (ii : Int32) (jj : Int32) (h0 : Heap) (n0 : Nat) (O0 : Old Z n0 h0) (hge : ¬ jj < ii) :
    o_Met l Z o_m27 jdk_65_method_131_code 2 none ws o_R0 #[(.int ii), (.int jj)] h0 (o_P (none) h0 n0) := by
  refine o_enter o_pn_7 (fun m => o_ef14 m ii jj) (fun p e s m below meth c s₁ hx hby hml hZ hown hnm hlk hrt X0 e0 => ?_)
  have N0 := Fr.nil n0
  have y_ := @hb _ _ hby
  have k_ := @o_k _ _ hw
  refine o_iloadN X0 hx (y_ oD27_0) rfl ?_
  refine o_iloadN X0 hx (y_ oD27_1) rfl ?_
  refine o_iC (t := 37) X0 hx (y_ oD27_2) (fun hq => ?_) (fun hq => ?_)
  · have hc2 := o_c_ge.1 hq
    exact o_retV X0 hx hrt hlk (y_ oD27_37) (by decide) (by decide) (o_hQ e0 ⟨rfl, N0, rfl⟩)
  have hc2 := o_c_ge.2 hq
  exact absurd hc2 hge
theorem rmcgb (hw : o_HW Z a0) (ws : o_LC) (d : Addr) (fa : Int32) (fb : Int32) (ka : ClassId) (z : Int32) (Pa : List Value) (Ma : List Value) (Ra : List Value) (h0 : Heap) (n0 : Nat) (O0 : Old Z n0 h0) (V_d : Arv Z h0 d ka .byte z (Pa ++ Ma ++ Ra) (.int 0)) (hf : fa = Int32.ofNat Pa.length) (he : fb = Int32.ofNat (Pa.length + Ma.length)) (hz : ¬ z < 0) (hs : Pa.length + Ma.length ≤ z.toNatClampNeg) (hcap : Ma.length ≤ 16) :
    o_Met l Z o_m28 oJ19 5 (some (.array .byte)) ws o_R12 #[(.ref d), (.int fa), (.int fb)] h0 (Qcgb Z d fa fb ka z Pa Ma Ra h0 n0) := by
  refine o_enter o_pn_7 (fun m => o_ef15 m d fa fb) (fun p e s m below meth c s₁ hx hby hml hZ hown hnm hlk hrt X0 e0 => ?_)
  have N0 := Fr.nil n0
  have y_ := @hb _ _ hby
  have k_ := @o_k _ _ hw
  refine o_iloadN X0 hx (y_ oD28_0) rfl ?_
  refine o_iloadN X0 hx (y_ oD28_1) rfl ?_
  refine o_sta (y := o_m27) (argsL := [(.int fa), (.int fb)]) (S := []) (W := 0) X0 hx hZ hown (k_ 227 rfl) (k_ 228 rfl) (k_ 222 rfl) (k_ 229 rfl) (backOf (W := 0) (rmchg l Z a0 hw [] fa fb h0 n0 O0 (by rw [hf, he]; exact o_nlt (by omega) (by have := o_cl31 z; omega))) hZ (k_ 229 rfl) (k_ 222 rfl) (by decide) (by decide)) e0 hml (lenOf o_pd__28II_29V rfl) (y_ oD28_2) (fun T1 L1 v1 X1 hQ1 => ?_)
  obtain ⟨rfl, N1q, hh1⟩ := hQ1
  have N1 := Fr.app N0 N1q
  show o_G p e below _ T1 (mkF m 5 #[vR d, vI fa, vI fb, .unset, .unset] [])
  refine o_iloadN X1 hx (y_ oD28_5) rfl ?_
  refine o_iloadN X1 hx (y_ oD28_6) rfl ?_
  refine o_isub X1 hx (y_ oD28_7) ?_
  refine o_valE (z := Int32.ofNat Ma.length) (by rw [hf, he]; exact o_osub _ _) ?_
  refine o_istoreN X1 hx (y_ oD28_8) (A' := #[vR d, vI fa, vI fb, vI (Int32.ofNat Ma.length), .unset]) rfl ?_
  refine o_iloadN X1 hx (y_ oD28_9) rfl ?_
  refine o_newE (cap := 16) X1 hx hZ (k_ 18 rfl) hh1 (y_ oD28_10) (o_on (by omega)) (by rw [o_oc (by omega)]; exact hcap) (fun T2 h2 k2 b2 X2 e2 gg2 E2 V2 A2 => ?_)
  have g_b2 := o_fresh O0 gg2
  have O2 := Old.ext O0 E2
  refine o_astore X2 hx (y_ oD28_12) rfl (A' := #[vR d, vI fa, vI fb, vI (Int32.ofNat Ma.length), vR b2]) rfl ?_
  refine o_aloadN X2 hx (y_ oD28_14) rfl rfl ?_
  refine o_iloadN X2 hx (y_ oD28_15) rfl ?_
  refine o_aload X2 hx (y_ oD28_16) rfl rfl ?_
  refine o_iconst X2 hx (y_ oD28_18) (x := 0) rfl ?_
  refine o_aloadN X2 hx (y_ oD28_19) rfl rfl ?_
  have c3 := (Arv.ext V_d E2)
  refine o_alen (n := z) X2 hx hZ e2 c3 (y_ oD28_20) ?_
  refine o_iloadN X2 hx (y_ oD28_21) rfl ?_
  refine o_isub X2 hx (y_ oD28_22) ?_
  refine o_iloadN X2 hx (y_ oD28_23) rfl ?_
  refine o_sta (y := o_m26) (argsL := [(.int (z - fa)), (.int (Int32.ofNat Ma.length))]) (S := [(.int 0), (.ref b2), (.int fa), (.ref d)]) (W := 4) X2 hx hZ hown (k_ 230 rfl) (k_ 231 rfl) (k_ 232 rfl) (k_ 233 rfl) (backOf (W := 4) (rmmig l Z a0 hw [] (z - fa) (Int32.ofNat Ma.length) h2 n0 O2 (by rw [hf]; exact o_zsub hz hs)) hZ (k_ 233 rfl) (k_ 232 rfl) (by decide) (by decide)) e2 hml (lenOf o_pd__28II_29I rfl) (y_ oD28_24) (fun T4 L4 v4 X4 hQ4 => ?_)
  obtain ⟨rfl, N4q, hh4⟩ := hQ4
  have N4 := Fr.app N1 N4q
  show o_G p e below _ T4 (mkF m 27 #[vR d, vI fa, vI fb, vI (Int32.ofNat Ma.length), vR b2] [(.int (Int32.ofNat Ma.length)), (.int 0), (.ref b2), (.int fa), (.ref d)])
  refine o_cpB (W := 0) (us := Ma) X4 hx hZ hown (k_ 234 rfl) (k_ 189 rfl) (k_ 187 rfl) (k_ 188 rfl) hh4 c3 V2 (by rw [hf]; exact o_on (by have := o_cl31 z; omega)) (by decide) (o_on (by omega)) (by rw [hf, o_oc (by have := o_cl31 z; omega), o_oc (by omega)]; exact hs) (Nat.le_of_eq (Nat.zero_add _)) (by rw [hf, o_oc (by have := o_cl31 z; omega), o_oc (by omega)]; exact o_rg Pa Ma Ra _) rfl N4 g_b2 (by rw [hml]; rfl) (y_ oD28_27) (by decide) (Nat.le_of_eq rfl) (by rw [nativeFrameWords_plain 5 (by decide)]; decide) (fun T5 h5 L5 X5 e5 N5 Kp5 V5 => ?_)
  have O6 := Old.keep O2 Kp5 (allS g_b2 all0)
  refine o_aload X5 hx (y_ oD28_30) rfl rfl ?_
  have kp7 := Keep.ext (Keep.refl h0 []) E2
  have kp8 := Keep.trans kp7 Kp5 (allS (Or.inr (Nat.le_trans (Keep.refl h0 []).1 (Nat.le_of_eq gg2.symm))) all0)
  have c9 := (Exa.keep A2 Kp5)
  exact o_retA X5 hx hrt hlk rfl rfl rfl (y_ oD28_32) (by decide) (by decide) (o_hQ e5 ⟨b2, rfl, N5, kp8, g_b2, (Nat.le_trans (Keep.refl h0 []).1 (Nat.le_of_eq gg2.symm)), c9, _, V5⟩)
theorem rmcog (hw : o_HW Z a0) (ws : o_LC) (d : Addr) (fa : Int32) (fb : Int32) (ka : ClassId) (z : Int32) (Pa : List Value) (Ma : List Value) (Ra : List Value) (h0 : Heap) (n0 : Nat) (O0 : Old Z n0 h0) (V_d : Arv Z h0 d ka .byte z (Pa ++ Ma ++ Ra) (.int 0)) (hf : fa = Int32.ofNat Pa.length) (he : fb = Int32.ofNat (Pa.length + Ma.length)) (hz : ¬ z < 0) (hs : Pa.length + Ma.length ≤ z.toNatClampNeg) (hcap : Ma.length ≤ 16) (hnq : ¬ (fa = 0 ∧ fb = z)) :
    o_Met l Z o_m29 oJ35 3 (some (.array .byte)) ws o_R13 #[(.ref d), (.int fa), (.int fb)] h0 (Qcog Z d fa fb ka z Pa Ma Ra h0 n0) := by
  refine o_enter o_pn_7 (fun m => o_ef1 m d fa fb) (fun p e s m below meth c s₁ hx hby hml hZ hown hnm hlk hrt X0 e0 => ?_)
  have N0 := Fr.nil n0
  have y_ := @hb _ _ hby
  have k_ := @o_k _ _ hw
  refine o_iloadN X0 hx (y_ oD29_0) rfl ?_
  refine o_iF (t := 10) X0 hx (y_ oD29_1) (fun hq => ?_) (fun hq => ?_)
  · have hc1 := o_h_ne.1 hq
    refine o_aloadN X0 hx (y_ oD29_10) rfl rfl ?_
    refine o_iloadN X0 hx (y_ oD29_11) rfl ?_
    refine o_iloadN X0 hx (y_ oD29_12) rfl ?_
    refine o_sta (y := o_m28) (argsL := [(.ref d), (.int fa), (.int fb)]) (S := []) (W := 0) X0 hx hZ hown (k_ 224 rfl) (k_ 225 rfl) (k_ 222 rfl) (k_ 226 rfl) (backOf (W := 0) (rmcgb l Z a0 hw [] d fa fb ka z Pa Ma Ra h0 n0 O0 V_d hf he hz hs hcap) hZ (k_ 226 rfl) (k_ 222 rfl) (by decide) (by decide)) e0 hml (lenOf o_pd__28_5bBII_29_5bB rfl) (y_ oD29_13) (fun T1 L1 v1 X1 hQ1 => ?_)
    obtain ⟨t1, rfl, N1q, Kp1, g_t1, ht1, Et1, ka1, Va1⟩ := hQ1
    have N1 := Fr.app N0 N1q
    have O2 := Old.keep O0 Kp1 all0
    show o_G p e below _ T1 (mkF m 16 #[vR d, vI fa, vI fb] [(.ref t1)])
    have kp3 := Keep.trans (Keep.refl h0 []) Kp1 all0
    exact o_retA X1 hx hrt hlk rfl rfl rfl (y_ oD29_16) (by decide) (by decide) ⟨t1, rfl, N1, kp3, g_t1, (Nat.le_trans (Keep.refl h0 []).1 ht1), Et1, _, Va1⟩
  have hc1 := o_h_ne.2 hq
  refine o_iloadN X0 hx (y_ oD29_4) rfl ?_
  refine o_aloadN X0 hx (y_ oD29_5) rfl rfl ?_
  refine o_alen (n := z) X0 hx hZ e0 V_d (y_ oD29_6) ?_
  refine o_iC (t := 17) X0 hx (y_ oD29_7) (fun hq => ?_) (fun hq => ?_)
  · have hc7 := o_c_eq.1 hq
    exact absurd ⟨hc1, hc7⟩ hnq
  have hc7 := o_c_eq.2 hq
  refine o_aloadN X0 hx (y_ oD29_10) rfl rfl ?_
  refine o_iloadN X0 hx (y_ oD29_11) rfl ?_
  refine o_iloadN X0 hx (y_ oD29_12) rfl ?_
  refine o_sta (y := o_m28) (argsL := [(.ref d), (.int fa), (.int fb)]) (S := []) (W := 0) X0 hx hZ hown (k_ 224 rfl) (k_ 225 rfl) (k_ 222 rfl) (k_ 226 rfl) (backOf (W := 0) (rmcgb l Z a0 hw [] d fa fb ka z Pa Ma Ra h0 n0 O0 V_d hf he hz hs hcap) hZ (k_ 226 rfl) (k_ 222 rfl) (by decide) (by decide)) e0 hml (lenOf o_pd__28_5bBII_29_5bB rfl) (y_ oD29_13) (fun T4 L4 v4 X4 hQ4 => ?_)
  obtain ⟨t4, rfl, N4q, Kp4, g_t4, ht4, Et4, ka4, Va4⟩ := hQ4
  have N4 := Fr.app N0 N4q
  have O5 := Old.keep O0 Kp4 all0
  show o_G p e below _ T4 (mkF m 16 #[vR d, vI fa, vI fb] [(.ref t4)])
  have kp6 := Keep.trans (Keep.refl h0 []) Kp4 all0
  exact o_retA X4 hx hrt hlk rfl rfl rfl (y_ oD29_16) (by decide) (by decide) ⟨t4, rfl, N4, kp6, g_t4, (Nat.le_trans (Keep.refl h0 []).1 ht4), Et4, _, Va4⟩
theorem rmsbk (hw : o_HW Z a0) (ws : o_LC) (x : Addr) (a : Addr) (kd : Int32) (h0 : Heap) (n0 : Nat) (O0 : Old Z n0 h0) (E_x : Exa Z h0 x "java/lang/String") (F_v : o_FV Z h0 x .null) (F_c : o_FC Z h0 x (.int 0)) (g_x : n0 ≤ x) (hkd : kd = 0 ∨ kd = 1) :
    o_Met l Z o_m30 oJ42 3 none ws o_R14 #[(.ref x), (.ref a), (.int kd)] h0 (Qsbk Z x a kd h0 n0) := by
  refine o_enter o_pn_1 (fun m => o_ef16 m x a kd) (fun p e s m below meth c s₁ hx hby hml hZ hown hnm hlk hrt X0 e0 => ?_)
  have N0 := Fr.nil n0
  have y_ := @hb _ _ hby
  have k_ := @o_k _ _ hw
  refine o_aloadN X0 hx (y_ oD30_0) rfl rfl ?_
  refine o_initO (W := 0) X0 hx hZ hown (k_ 23 rfl) (k_ 24 rfl) (k_ 25 rfl) e0 (by rw [hml]; rfl) (y_ oD30_1) (by decide) (Nat.le_of_eq rfl) (by decide) (fun T1 X1 e1 => ?_)
  refine o_aloadN X1 hx (y_ oD30_4) rfl rfl ?_
  refine o_aloadN X1 hx (y_ oD30_5) rfl rfl ?_
  refine o_putF X1 hx hZ hown (host := "") (Or.inl (k_ 26 rfl)) Via.refl e1 F_v E_x (Or.inr ⟨(k_ 27 rfl), rfl, hnm⟩) (k_ 14 rfl) (ty := (.array .byte)) (by decide) rfl rfl (y_ oD30_6) (fun T2 h2 X2 e2 W2 => ?_)
  have F2 := Fld.same W2 F_v
  have N2 := Fr.snoc X2 N0 g_x
  have O2 := Old.wr O0 W2 g_x
  refine o_aloadN X2 hx (y_ oD30_9) rfl rfl ?_
  refine o_iloadN X2 hx (y_ oD30_10) rfl ?_
  have c3 := (Exa.wr W2 E_x)
  have c4 := (Fld.other W2 F_c (Or.inr (slot_ne (Or.inr (k_ 29 rfl)) (Or.inr (k_ 27 rfl)) (by decide) (t := .byte) (t' := (.array .byte)) (by decide) (by decide))))
  refine o_putFN (v' := (.int kd)) X2 hx hZ hown (k_ 28 rfl) Via.refl e2 c4 c3 (Or.inr ⟨(k_ 29 rfl), rfl, hnm⟩) (k_ 14 rfl) (ty := .byte) (by decide) (o_nrwK hkd) (o_fitK hkd) (y_ oD30_11) (fun T5 h5 X5 e5 W5 => ?_)
  have F5 := Fld.same W5 c4
  have N5 := Fr.snoc X5 N2 g_x
  have O5 := Old.wr O2 W5 g_x
  have kp6 := Keep.wr (Keep.refl h0 [x]) W2 (Or.inl (List.mem_of_getElem? (i := 0) rfl))
  have kp7 := Keep.wr kp6 W5 (Or.inl (List.mem_of_getElem? (i := 0) rfl))
  have c8 := (Exa.wr W5 c3)
  have c9 := (Fld.other W5 F2 (Or.inr (slot_ne (Or.inr (k_ 27 rfl)) (Or.inr (k_ 29 rfl)) (by decide) (t := (.array .byte)) (t' := .byte) (by decide) (by decide))))
  exact o_retV X5 hx hrt hlk (y_ oD30_14) (by decide) (by decide) (o_hQ e5 ⟨rfl, N5, kp7, c8, F5, c9⟩)
theorem rmcfl (hw : o_HW Z a0) (ws : o_LC) (a : Addr) (nn : Int32) (ka : ClassId) (z : Int32) (vl : List Value) (kd : Int32) (h0 : Heap) (n0 : Nat) (O0 : Old Z n0 h0) (V_a : Arv Z h0 a ka .byte z vl (.int 0)) (hk : (XT.ushr (nn - z) (31 : Int32)).toInt8.toInt32 = kd) (hkd : kd = 0 ∨ kd = 1) :
    o_Met l Z o_m31 oJ50 2 (some .byte) ws o_R0 #[(.ref a), (.int nn)] h0 (o_P (some (.int kd)) h0 n0) := by
  refine o_enter o_pn_0 (fun m => o_ef0 m a nn) (fun p e s m below meth c s₁ hx hby hml hZ hown hnm hlk hrt X0 e0 => ?_)
  have N0 := Fr.nil n0
  have y_ := @hb _ _ hby
  have k_ := @o_k _ _ hw
  refine o_iloadN X0 hx (y_ oD31_0) rfl ?_
  refine o_aloadN X0 hx (y_ oD31_1) rfl rfl ?_
  refine o_alen (n := z) X0 hx hZ e0 V_a (y_ oD31_2) ?_
  refine o_isub X0 hx (y_ oD31_3) ?_
  refine o_bipush X0 hx (y_ oD31_4) (x := 31) rfl ?_
  refine o_iushr X0 hx (y_ oD31_6) ?_
  refine o_i2b X0 hx (y_ oD31_7) ?_
  refine o_valE (z := kd) hk ?_
  exact o_retN X0 hx (t := .byte) hrt hlk (by simp) (y_ oD31_8) (o_narK hkd) (by decide) (by decide) (o_hQ e0 ⟨rfl, N0, rfl⟩)
theorem rmnbg (hw : o_HW Z a0) (ws : o_LC) (nn : Int32) (k : Nat) (h0 : Heap) (n0 : Nat) (O0 : Old Z n0 h0) (hn : nn = Int32.ofNat k) (hk : k ≤ 16) :
    o_Met l Z o_m2 oJ39 1 (some .int) ws o_R0 #[(.int nn)] h0 (o_P (some (.int (Int32.ofNat (2 * k)))) h0 n0) := by
  refine o_enter o_pn_0 (fun m => o_ef17 m nn) (fun p e s m below meth c s₁ hx hby hml hZ hown hnm hlk hrt X0 e0 => ?_)
  have N0 := Fr.nil n0
  have y_ := @hb _ _ hby
  have k_ := @o_k _ _ hw
  refine o_iloadN X0 hx (y_ oD2_0) rfl ?_
  refine o_iF (t := 12) X0 hx (y_ oD2_1) (fun hq => ?_) (fun hq => ?_)
  · have hc1 := o_h_ge.1 hq
    refine o_iloadN X0 hx (y_ oD2_12) rfl ?_
    refine o_st (g' := (mkF m 15 #[vI nn] (.int 1073741823 :: [(.int nn)]))) (fun _ z => X0.ldcI hx hown (mvT hZ (k_ 307 rfl)) (g := (mkF m 13 #[vI nn] [(.int nn)])) rfl (y_ oD2_13) z) ?_
    refine o_iC (t := 55) X0 hx (y_ oD2_15) (fun hq => ?_) (fun hq => ?_)
    · have hc15 := o_c_lt.1 hq
      refine o_iloadN X0 hx (y_ oD2_55) rfl ?_
      refine o_iconst X0 hx (y_ oD2_56) (x := 1) rfl ?_
      refine o_ishl X0 hx (y_ oD2_57) ?_
      refine o_valE (z := Int32.ofNat (2 * k)) (by rw [hn]; exact o_shl1 (by omega)) ?_
      exact o_retI X0 hx hrt hlk (y_ oD2_58) (by decide) (by decide) (o_hQ e0 ⟨rfl, N0, rfl⟩)
    have hc15 := o_c_lt.2 hq
    exact absurd (by rw [hn]; exact o_ltO (n := 1073741823) (by omega) (by decide)) hc15
  have hc1 := o_h_ge.2 hq
  exact absurd hc1 (by rw [hn]; exact o_on (by omega))
theorem rmlns (hw : o_HW Z a0) (ws : o_LC) (a : Addr) (ii : Int32) (mm : Int32) (ka : ClassId) (pr : List Int32) (ds : List Int32) (po : List Int32) (h0 : Heap) (n0 : Nat) (O0 : Old Z n0 h0) (V_a : Arv Z h0 a ka .byte (Int32.ofNat (pr ++ ds ++ po).length) (o_V8 (pr ++ ds ++ po)) (.int 0)) (hi : ii = Int32.ofNat pr.length) (hm : mm = Int32.ofNat ds.length) (hl1 : 1 ≤ ds.length) (hl : (pr ++ ds ++ po).length ≤ 8) (hnq : ¬ (pr.length = 0 ∧ po.length = 0)) (hch : o_chs ds) :
    o_Met l Z o_m32 oJ30 3 (some (.object "java/lang/String")) ws o_R15 #[(.ref a), (.int ii), (.int mm)] h0 (Qlns Z a ii mm ka pr ds po h0 n0) := by
  refine o_enter o_pn_4 (fun m => o_ef1 m a ii mm) (fun p e s m below meth c s₁ hx hby hml hZ hown hnm hlk hrt X0 e0 => ?_)
  have N0 := Fr.nil n0
  have y_ := @hb _ _ hby
  have k_ := @o_k _ _ hw
  have hL : pr.length + ds.length + po.length ≤ 8 := by simpa [Nat.add_assoc] using hl
  refine o_iloadN X0 hx (y_ oD32_0) rfl ?_
  refine o_iF (t := 7) X0 hx (y_ oD32_1) (fun hq => ?_) (fun hq => ?_)
  · have hc1 := o_h_ne.1 hq
    refine o_new X0 hx hZ hown (k_ 292 rfl) (k_ 14 rfl) (k_ 6 rfl) e0 (y_ oD32_7) (by decide) (by decide) (fun T1 h1 b1 X1 e1 gg1 E1 A1 D1 => ?_)
    have g_b1 := o_fresh O0 gg1
    have O1 := Old.ext O0 E1
    have F1_value : o_FV Z h1 b1 .null := D1 (Or.inr (k_ 27 rfl)) (ty := (.array .byte)) (by decide)
    have F1_coder : o_FC Z h1 b1 (.int 0) := D1 (Or.inr (k_ 29 rfl)) (ty := .byte) (by decide)
    refine o_dup X1 hx (y_ oD32_10) rfl ?_
    refine o_aloadN X1 hx (y_ oD32_11) rfl rfl ?_
    refine o_iloadN X1 hx (y_ oD32_12) rfl ?_
    refine o_iloadN X1 hx (y_ oD32_13) rfl ?_
    refine o_iloadN X1 hx (y_ oD32_14) rfl ?_
    refine o_iadd X1 hx (y_ oD32_15) ?_
    refine o_valE (z := Int32.ofNat (pr.length + ds.length)) (by rw [hi, hm]; exact o_oadd _ _) ?_
    have c2 := (Arv.ext V_a E1)
    refine o_sta (y := o_m29) (argsL := [(.ref a), (.int ii), (.int (Int32.ofNat (pr.length + ds.length)))]) (S := [(.ref b1), (.ref b1)]) (W := 2) X1 hx hZ hown (k_ 293 rfl) (k_ 221 rfl) (k_ 222 rfl) (k_ 223 rfl) (backOf (W := 2) (rmcog l Z a0 hw [] a ii (Int32.ofNat (pr.length + ds.length)) ka (Int32.ofNat (pr ++ ds ++ po).length) (o_V8 pr) (o_V8 ds) (o_V8 po) h1 n0 O1 (by rw [← o_V8app, ← o_V8app]; exact c2) (by rw [o_V8len]; exact hi) (by rw [o_V8len, o_V8len]) (o_on (by omega)) (by rw [o_V8len, o_V8len, o_oc (by omega)]; simp only [List.length_append]; omega) (by rw [o_V8len]; omega) (fun q => hnq ⟨o_oinj (b := 0) (by omega) (by decide) (hi.symm.trans q.1), by have q2 := o_oinj (by omega) (by omega) q.2; simp only [List.length_append] at q2; omega⟩)) hZ (k_ 223 rfl) (k_ 222 rfl) (by decide) (by decide)) e1 hml (lenOf o_pd__28_5bBII_29_5bB rfl) (y_ oD32_16) (fun T3 L3 v3 X3 hQ3 => ?_)
    obtain ⟨t3, rfl, N3q, Kp3, g_t3, ht3, Et3, ka3, Va3⟩ := hQ3
    have N3 := Fr.app N0 N3q
    have O4 := Old.keep O1 Kp3 all0
    show o_G p e below _ T3 (mkF m 19 #[vR a, vI ii, vI mm] [(.ref t3), (.ref b1), (.ref b1)])
    refine o_iconst X3 hx (y_ oD32_19) (x := 0) rfl ?_
    have c5 := (Exa.keep A1 Kp3)
    have c6 := (Fld.keep F1_value Kp3 nin0)
    have c7 := (Fld.keep F1_coder Kp3 nin0)
    refine o_ini (y := o_m30) (b := b1) (argsL := [(.ref t3), (.int 0)]) (S := [(.ref b1)]) (W := 1) rfl X3 hx hZ hown (k_ 294 rfl) (k_ 20 rfl) (k_ 22 rfl) (backOf (W := 1) (rmsbk l Z a0 hw [] b1 t3 (0 : Int32) T3.heap n0 O4 c5 c6 c7 g_b1 (Or.inl rfl)) hZ (k_ 22 rfl) (k_ 6 rfl) (by decide) (by decide)) rfl hml (lenOf o_pd__28_5bBB_29V rfl) (y_ oD32_20) (fun T8 L8 v8 X8 hQ8 => ?_)
    obtain ⟨rfl, N8q, Kp8, Ex8, Fc8, Fv8⟩ := hQ8
    have N8 := Fr.app N3 N8q
    have O9 := Old.keep O4 Kp8 (allS g_b1 all0)
    show o_G p e below _ T8 (mkF m 23 #[vR a, vI ii, vI mm] [(.ref b1)])
    have kp10 := Keep.ext (Keep.refl h0 []) E1
    have kp11 := Keep.trans kp10 Kp3 all0
    have kp12 := Keep.trans kp11 Kp8 (allS (Or.inr (Nat.le_trans (Keep.refl h0 []).1 (Nat.le_of_eq gg1.symm))) all0)
    have c13 := (Arv.keep Va3 Kp8 (ninS (Ne.symm (Nat.ne_of_lt (Nat.lt_of_lt_of_le A1.lt ht3))) nin0))
    exact o_retA X8 hx hrt hlk rfl rfl rfl (y_ oD32_23) (by decide) (by decide) ⟨b1, t3, (0 : Int32), rfl, N8, kp12, g_b1, (Nat.le_trans (Keep.refl h0 []).1 (Nat.le_of_eq gg1.symm)), g_t3, (Nat.le_trans kp10.1 ht3), (Ne.symm (Nat.ne_of_lt (Nat.lt_of_lt_of_le A1.lt ht3))), o_aMk0 Ex8 Fc8 Fv8 (by have q := c13; rw [o_V8len] at q; exact q) hch (by omega)⟩
  have hc1 := o_h_ne.2 hq
  exact absurd hc1 (by rw [hm]; exact o_nz hl1 (by omega))
theorem rmcbg (hw : o_HW Z a0) (ws : o_LC) (a : Addr) (ii : Int32) (d : Addr) (mm : Int32) (ka : ClassId) (z : Int32) (cs : List Int32) (k : Nat) (kb : ClassId) (ds : List Int32) (fm : Value) (h0 : Heap) (n0 : Nat) (O0 : Old Z n0 h0) (V_a : Arv Z h0 a ka .byte z (o_V16 cs) (.int 0)) (hz : ¬ z < 0) (hs : 2 * cs.length ≤ z.toNatClampNeg) (hzt : z >>> ((1 : Int32) &&& 31) = Int32.ofNat cs.length) (hcl : cs.length ≤ 8) (h16 : o_c16 cs) (hi : ii = Int32.ofNat k) (hkm : k + ds.length ≤ cs.length) (hg : ∀ j, j < ds.length → cs.getD (k + j) 0 = ds.getD j 0) (hm : mm = Int32.ofNat ds.length) (V_d : Arv Z h0 d kb .byte mm [] (.int 0)) (g_d : n0 ≤ d) (hU : o_big ds) (hqq : ds.length ≤ 3) (S_u : o_SU Z) (S_f : o_SF Z fm) (hfm : fm.isRef = true) (hnad : a ≠ d) :
    o_Met l Z o_m33 oJ14 7 (some .int) ws o_R16 #[(.ref a), (.int ii), (.ref d), (.int 0), (.int mm)] h0 (Qcbg Z a ii d mm ka z cs k kb ds fm h0 n0) := by
  refine o_enter o_pn_0 (fun m => o_ef18 m a ii d mm) (fun p e s m below meth c s₁ hx hby hml hZ hown hnm hlk hrt X0 e0 => ?_)
  have N0 := Fr.nil n0
  have y_ := @hb _ _ hby
  have k_ := @o_k _ _ hw
  refine o_iloadN X0 hx (y_ oD33_0) rfl ?_
  refine o_iload X0 hx (y_ oD33_1) rfl ?_
  refine o_aloadN X0 hx (y_ oD33_3) rfl rfl ?_
  refine o_sta (y := o_m23) (argsL := [(.int ii), (.int mm), (.ref a)]) (S := []) (W := 0) X0 hx hZ hown (k_ 328 rfl) (k_ 329 rfl) (k_ 247 rfl) (k_ 330 rfl) (backOf (W := 0) (rmcoc l Z a0 hw [] ii mm a ka z (o_V16 cs) cs.length fm h0 n0 O0 V_a hzt (by rw [hi]; exact o_on (by omega)) (by rw [hm]; exact o_on (by omega)) (by omega) (by rw [hi, hm]; exact o_subge hkm (by omega)) S_f hfm) hZ (k_ 330 rfl) (k_ 247 rfl) (by decide) (by decide)) e0 hml (lenOf o_pd__28II_5bB_29V rfl) (y_ oD33_4) (fun T1 L1 v1 X1 hQ1 => ?_)
  obtain ⟨rfl, N1q, hh1⟩ := hQ1
  have N1 := Fr.app N0 N1q
  show o_G p e below _ T1 (mkF m 7 #[vR a, vI ii, vR d, vI 0, vI mm, .unset, .unset] [])
  refine o_iconst X1 hx (y_ oD33_7) (x := 0) rfl ?_
  refine o_istore X1 hx (y_ oD33_8) (A' := #[vR a, vI ii, vR d, vI 0, vI mm, vI 0, .unset]) rfl ?_
  rw [hi]
  have hloop : ∀ (kq i : Nat) (xs : Slot) (T_ : State) (h_ : Heap) (L_ : List Loc), i + kq = ds.length → (xs = .unset ∨ ∃ q, xs = vI q) → Stand p l e o_R16 s m #[(.ref a), (.int ii), (.ref d), (.int 0), (.int mm)] below meth c T_ L_ (0 + 0) (0 + 0) → T_.heap = h_ → Fr n0 L_ → Old Z n0 h_ → Keep h0 h_ [d] → (∀ c ∈ ds.take i, ¬ (255 : Int32) < c) → Arv Z h_ d kb .byte mm (o_V8 (ds.take i)) (.int 0) → o_G p e below (o_E s (Qcbg Z a ii d mm ka z cs k kb ds fm h0 n0) o_R16.cells o_R16.slots) T_ (mkF m 10 #[vR a, vI (Int32.ofNat (k + i)), vR d, vI (Int32.ofNat i), vI mm, vI (Int32.ofNat i), xs] []) := by
    intro kq
    induction kq with
    | zero =>
      intro i xs T_ h_ L_ hik hxs X_ e_ N_ O_ K_ hal Vd_
      exact absurd hU (o_nobigT (by omega) hal)
    | succ kq ih =>
      intro i xs T_ h_ L_ hik hxs X_ e_ N_ O_ K_ hal Vd_
      have hj : i < ds.length := by omega
      refine o_iload X_ hx (y_ oD33_10) rfl ?_
      refine o_iload X_ hx (y_ oD33_12) rfl ?_
      refine o_iC (t := 53) X_ hx (y_ oD33_14) (fun hq => ?_) (fun hq => ?_)
      · have hc14 := o_c_ge.1 hq
        exact absurd (by rw [hm]; exact o_ltO hj (by omega)) hc14
      have hc14 := o_c_ge.2 hq
      refine o_aloadN X_ hx (y_ oD33_17) rfl rfl ?_
      refine o_iloadN X_ hx (y_ oD33_18) rfl ?_
      have c2 := (Arv.keep V_a K_ (ninS hnad nin0))
      refine o_sta (y := o_m0) (argsL := [(.ref a), (.int (Int32.ofNat (k + i)))]) (S := []) (W := 0) X_ hx hZ hown (k_ 314 rfl) (k_ 315 rfl) (k_ 247 rfl) (k_ 316 rfl) (backOf (W := 0) (rmgch l Z a0 hw [] a (Int32.ofNat (k + i)) ka z cs (k + i) h_ n0 O_ c2 hz h16 rfl (by omega) hs S_u) hZ (k_ 316 rfl) (k_ 247 rfl) (by decide) (by decide)) e_ hml (lenOf o_pd__28_5bBI_29C rfl) (y_ oD33_19) (fun T3 L3 v3 X3 hQ3 => ?_)
      obtain ⟨rfl, N3q, hh3⟩ := hQ3
      have N3 := Fr.app N_ N3q
      show o_G p e below _ T3 (mkF m 22 #[vR a, vI (Int32.ofNat (k + i)), vR d, vI (Int32.ofNat i), vI mm, vI (Int32.ofNat i), xs] [(.int (cs.getD (k + i) 0))])
      refine o_valE (z := ds.getD i 0) (hg i hj) ?_
      refine o_istore X3 hx (y_ oD33_22) (A' := #[vR a, vI (Int32.ofNat (k + i)), vR d, vI (Int32.ofNat i), vI mm, vI (Int32.ofNat i), vI (ds.getD i 0)]) (by rcases hxs with rfl | ⟨_, rfl⟩ <;> rfl) ?_
      refine o_iload X3 hx (y_ oD33_24) rfl ?_
      refine o_sipush X3 hx (y_ oD33_26) (x := 255) rfl ?_
      refine o_iC (t := 35) X3 hx (y_ oD33_29) (fun hq => ?_) (fun hq => ?_)
      · have hc29 := o_c_le.1 hq
        refine o_aloadN X3 hx (y_ oD33_35) rfl rfl ?_
        refine o_iloadN X3 hx (y_ oD33_36) rfl ?_
        refine o_iload X3 hx (y_ oD33_37) rfl ?_
        refine o_i2b X3 hx (y_ oD33_39) ?_
        refine o_stBp (zz := ((ds.getD i 0).toInt8.toInt32)) X3 hx hZ hh3 Vd_ (y_ oD33_40) ⟨o_on (by omega), by rw [hm]; exact o_ltO hj (by omega)⟩ (by rw [o_oc (by omega), o_V8len, o_tkl (by omega)]) (o_nb8 _) (fun T4 h4 X4 e4 W4 V4 => ?_)
        have N4 := Fr.snoc X4 N3 g_d
        have O4 := Old.wr O_ W4 g_d
        refine o_iinc X4 hx (y_ oD33_41) (y := 1) rfl rfl (A' := #[vR a, vI ((Int32.ofNat (k + i)) + (1 : Int32)), vR d, vI (Int32.ofNat i), vI mm, vI (Int32.ofNat i), vI (ds.getD i 0)]) rfl ?_
        refine o_iinc X4 hx (y_ oD33_44) (y := 1) rfl rfl (A' := #[vR a, vI ((Int32.ofNat (k + i)) + (1 : Int32)), vR d, vI ((Int32.ofNat i) + (1 : Int32)), vI mm, vI (Int32.ofNat i), vI (ds.getD i 0)]) rfl ?_
        refine o_iinc X4 hx (y_ oD33_47) (y := 1) rfl rfl (A' := #[vR a, vI ((Int32.ofNat (k + i)) + (1 : Int32)), vR d, vI ((Int32.ofNat i) + (1 : Int32)), vI mm, vI ((Int32.ofNat i) + (1 : Int32)), vI (ds.getD i 0)]) rfl ?_
        refine o_gO (t := 10) X4 hx (y_ oD33_50) ?_
        rw [show (Int32.ofNat (k + i) + 1 : Int32) = Int32.ofNat (k + (i + 1)) from o_oadd (k + i) 1]
        rw [show (Int32.ofNat i + 1 : Int32) = Int32.ofNat (i + 1) from o_oadd i 1]
        have kp5 := Keep.trans (Keep.refl h0 [d]) K_ (allS (Or.inl (List.mem_of_getElem? (i := 0) rfl)) all0)
        have kp6 := Keep.wr kp5 W4 (Or.inl (List.mem_of_getElem? (i := 0) rfl))
        exact ih (i + 1) _ _ _ _ (by omega) (Or.inr ⟨_, rfl⟩) X4 e4 N4 O4 kp6 (o_alS hj hal hc29) (by rw [o_tks hj, o_V8app]; exact V4)
      have hc29 := o_c_le.2 hq
      refine o_iload X3 hx (y_ oD33_32) rfl ?_
      have kp7 := Keep.trans (Keep.refl h0 [d]) K_ (allS (Or.inl (List.mem_of_getElem? (i := 0) rfl)) all0)
      exact o_retI X3 hx hrt hlk (y_ oD33_34) (by decide) (by decide) (o_hQ hh3 ⟨i, rfl, N3, kp7, hj, hc29⟩)
  exact hloop _ 0 _ _ _ _ (Nat.zero_add _) (Or.inl rfl) X1 hh1 N1 O0 (Keep.refl h0 [d]) o_nl0 V_d
theorem rmcpb (hw : o_HW Z a0) (ws : o_LC) (a : Addr) (ii : Int32) (mm : Int32) (ka : ClassId) (pr : List Int32) (ds : List Int32) (po : List Int32) (fm : Value) (h0 : Heap) (n0 : Nat) (O0 : Old Z n0 h0) (V_a : Arv Z h0 a ka .byte (Int32.ofNat (2 * (pr ++ ds ++ po).length)) (o_V16 (pr ++ ds ++ po)) (.int 0)) (h16 : o_c16 (pr ++ ds ++ po)) (hbig : o_big ds) (hqq : ds.length ≤ 3) (hi : ii = Int32.ofNat pr.length) (hm : mm = Int32.ofNat ds.length) (hl1 : 1 ≤ ds.length) (hl : (pr ++ ds ++ po).length ≤ 8) (hnq : ¬ (pr.length = 0 ∧ po.length = 0)) (S_u : o_SU Z) (S_f : o_SF Z fm) (hfm : fm.isRef = true) :
    o_Met l Z o_m34 oJ6 6 (some (.array .byte)) ws o_R17 #[(.ref a), (.int ii), (.int mm)] h0 (Qcpb Z a ii mm ka pr ds po fm h0 n0) := by
  refine o_enter o_pn_0 (fun m => o_ef19 m a ii mm) (fun p e s m below meth c s₁ hx hby hml hZ hown hnm hlk hrt X0 e0 => ?_)
  have N0 := Fr.nil n0
  have y_ := @hb _ _ hby
  have k_ := @o_k _ _ hw
  have hL : pr.length + ds.length + po.length ≤ 8 := by simpa [Nat.add_assoc] using hl
  refine o_iloadN X0 hx (y_ oD34_0) rfl ?_
  refine o_newE (cap := 8) X0 hx hZ (k_ 18 rfl) e0 (y_ oD34_1) (by rw [hm]; exact o_on (by omega)) (by rw [hm, o_oc (by omega)]; omega) (fun T1 h1 k1 b1 X1 e1 gg1 E1 V1 A1 => ?_)
  have g_b1 := o_fresh O0 gg1
  have O1 := Old.ext O0 E1
  refine o_astoreN X1 hx (y_ oD34_3) rfl (A' := #[vR a, vI ii, vI mm, vR b1, .unset, .unset]) rfl ?_
  refine o_aloadN X1 hx (y_ oD34_4) rfl rfl ?_
  refine o_iloadN X1 hx (y_ oD34_5) rfl ?_
  refine o_aloadN X1 hx (y_ oD34_6) rfl rfl ?_
  refine o_iconst X1 hx (y_ oD34_7) (x := 0) rfl ?_
  refine o_iloadN X1 hx (y_ oD34_8) rfl ?_
  have c2 := (Arv.ext V_a E1)
  refine o_sta (y := o_m33) (argsL := [(.ref a), (.int ii), (.ref b1), (.int 0), (.int mm)]) (S := []) (W := 0) X1 hx hZ hown (k_ 325 rfl) (k_ 326 rfl) (k_ 247 rfl) (k_ 327 rfl) (backOf (W := 0) (rmcbg l Z a0 hw [] a ii b1 mm ka (Int32.ofNat (2 * (pr ++ ds ++ po).length)) (pr ++ ds ++ po) pr.length k1 ds fm h1 n0 O1 c2 (o_zz hl) (o_zs hl) (o_shr1 (by omega)) hl h16 hi (by simp only [List.length_append]; omega) (fun j hj => o_pd pr ds po hj) hm V1 g_b1 hbig hqq S_u S_f hfm (o_ng V_a.lt gg1)) hZ (k_ 327 rfl) (k_ 247 rfl) (by decide) (by decide)) e1 hml (lenOf o_pd__28_5bBI_5bBII_29I rfl) (y_ oD34_9) (fun T3 L3 v3 X3 hQ3 => ?_)
  obtain ⟨j3, rfl, N3q, Kp3, hj3, hb3⟩ := hQ3
  have N3 := Fr.app N0 N3q
  have O4 := Old.keep O1 Kp3 (allS g_b1 all0)
  show o_G p e below _ T3 (mkF m 12 #[vR a, vI ii, vI mm, vR b1, .unset, .unset] [(.int (Int32.ofNat j3))])
  refine o_istore X3 hx (y_ oD34_12) (A' := #[vR a, vI ii, vI mm, vR b1, vI (Int32.ofNat j3), .unset]) rfl ?_
  refine o_iload X3 hx (y_ oD34_14) rfl ?_
  refine o_iloadN X3 hx (y_ oD34_16) rfl ?_
  refine o_iC (t := 64) X3 hx (y_ oD34_17) (fun hq => ?_) (fun hq => ?_)
  · have hc17 := o_c_eq.1 hq
    exact absurd (o_oinj (by omega) (by omega) (hc17.trans hm)) (by omega)
  have hc17 := o_c_eq.2 hq
  refine o_aloadN X3 hx (y_ oD34_20) rfl rfl ?_
  refine o_iloadN X3 hx (y_ oD34_21) rfl ?_
  refine o_iconst X3 hx (y_ oD34_22) (x := 1) rfl ?_
  refine o_ishl X3 hx (y_ oD34_23) ?_
  refine o_valE (z := Int32.ofNat (2 * pr.length)) (by rw [hi]; exact o_shl1 (by omega)) ?_
  refine o_iloadN X3 hx (y_ oD34_24) rfl ?_
  refine o_iloadN X3 hx (y_ oD34_25) rfl ?_
  refine o_iadd X3 hx (y_ oD34_26) ?_
  refine o_valE (z := Int32.ofNat (pr.length + ds.length)) (by rw [hi, hm]; exact o_oadd _ _) ?_
  refine o_sta (y := o_m2) (argsL := [(.int (Int32.ofNat (pr.length + ds.length)))]) (S := [(.int (Int32.ofNat (2 * pr.length))), (.ref a)]) (W := 2) X3 hx hZ hown (k_ 304 rfl) (k_ 305 rfl) (k_ 247 rfl) (k_ 306 rfl) (backOf (W := 2) (rmnbg l Z a0 hw [] (Int32.ofNat (pr.length + ds.length)) (pr.length + ds.length) T3.heap n0 O4 rfl (by omega)) hZ (k_ 306 rfl) (k_ 247 rfl) (by decide) (by decide)) rfl hml (lenOf o_pd__28I_29I rfl) (y_ oD34_27) (fun T5 L5 v5 X5 hQ5 => ?_)
  obtain ⟨rfl, N5q, hh5⟩ := hQ5
  have N5 := Fr.app N3 N5q
  show o_G p e below _ T5 (mkF m 30 #[vR a, vI ii, vI mm, vR b1, vI (Int32.ofNat j3), .unset] [(.int (Int32.ofNat (2 * (pr.length + ds.length)))), (.int (Int32.ofNat (2 * pr.length))), (.ref a)])
  have c6 := (Arv.keep c2 Kp3 (ninS (o_ng V_a.lt gg1) nin0))
  refine o_sta (y := o_m29) (argsL := [(.ref a), (.int (Int32.ofNat (2 * pr.length))), (.int (Int32.ofNat (2 * (pr.length + ds.length))))]) (S := []) (W := 0) X5 hx hZ hown (k_ 340 rfl) (k_ 221 rfl) (k_ 222 rfl) (k_ 223 rfl) (backOf (W := 0) (rmcog l Z a0 hw [] a (Int32.ofNat (2 * pr.length)) (Int32.ofNat (2 * (pr.length + ds.length))) ka (Int32.ofNat (2 * (pr ++ ds ++ po).length)) (o_V16 pr) (o_V16 ds) (o_V16 po) T3.heap n0 O4 (by rw [← o_V16app, ← o_V16app]; exact c6) (by rw [o_V16len]) (by rw [o_V16len, o_V16len, Nat.mul_add]) (o_zz hl) (by rw [o_V16len, o_V16len]; refine Nat.le_trans ?_ (o_zs hl); simp only [List.length_append]; omega) (by rw [o_V16len]; omega) (fun q => hnq ⟨by have q2 := o_oinj (b := 0) (by omega) (by decide) q.1; omega, by have q2 := o_oinj (by omega) (by omega) q.2; simp only [List.length_append] at q2; omega⟩)) hZ (k_ 223 rfl) (k_ 222 rfl) (by decide) (by decide)) hh5 hml (lenOf o_pd__28_5bBII_29_5bB rfl) (y_ oD34_30) (fun T7 L7 v7 X7 hQ7 => ?_)
  obtain ⟨t7, rfl, N7q, Kp7, g_t7, ht7, Et7, ka7, Va7⟩ := hQ7
  have N7 := Fr.app N5 N7q
  have O8 := Old.keep O4 Kp7 all0
  show o_G p e below _ T7 (mkF m 33 #[vR a, vI ii, vI mm, vR b1, vI (Int32.ofNat j3), .unset] [(.ref t7)])
  refine o_astore X7 hx (y_ oD34_33) rfl (A' := #[vR a, vI ii, vI mm, vR b1, vI (Int32.ofNat j3), vR t7]) rfl ?_
  refine o_aload X7 hx (y_ oD34_35) rfl rfl ?_
  refine o_iload X7 hx (y_ oD34_37) rfl ?_
  refine o_sta (y := o_m0) (argsL := [(.ref t7), (.int (Int32.ofNat j3))]) (S := []) (W := 0) X7 hx hZ hown (k_ 314 rfl) (k_ 315 rfl) (k_ 247 rfl) (k_ 316 rfl) (backOf (W := 0) (rmgch l Z a0 hw [] t7 (Int32.ofNat j3) ka7 (Int32.ofNat (o_V16 ds).length) ds j3 T7.heap n0 O8 Va7 (by rw [o_V16len]; exact o_zz (by omega)) (fun c hc => h16 c (by simp [hc])) rfl hj3 (by rw [o_V16len]; exact o_zs (by omega)) S_u) hZ (k_ 316 rfl) (k_ 247 rfl) (by decide) (by decide)) rfl hml (lenOf o_pd__28_5bBI_29C rfl) (y_ oD34_39) (fun T9 L9 v9 X9 hQ9 => ?_)
  obtain ⟨rfl, N9q, hh9⟩ := hQ9
  have N9 := Fr.app N7 N9q
  show o_G p e below _ T9 (mkF m 42 #[vR a, vI ii, vI mm, vR b1, vI (Int32.ofNat j3), vR t7] [(.int (ds.getD j3 0))])
  refine o_sipush X9 hx (y_ oD34_42) (x := 255) rfl ?_
  refine o_iC (t := 61) X9 hx (y_ oD34_45) (fun hq => ?_) (fun hq => ?_)
  · have hc45 := o_c_gt.1 hq
    refine o_aload X9 hx (y_ oD34_61) rfl rfl ?_
    have kp10 := Keep.ext (Keep.refl h0 []) E1
    have kp11 := Keep.trans kp10 Kp3 (allS (Or.inr (Nat.le_trans (Keep.refl h0 []).1 (Nat.le_of_eq gg1.symm))) all0)
    have kp12 := Keep.trans kp11 Kp7 all0
    exact o_retA X9 hx hrt hlk rfl rfl rfl (y_ oD34_63) (by decide) (by decide) (o_hQ hh9 ⟨t7, rfl, N9, kp12, g_t7, (Nat.le_trans kp11.1 ht7), Et7, _, by have q := Va7; rw [o_V16len] at q; exact q⟩)
  have hc45 := o_c_gt.2 hq
  exact absurd hb3 hc45
theorem rmuns (hw : o_HW Z a0) (ws : o_LC) (a : Addr) (ii : Int32) (mm : Int32) (ka : ClassId) (pr : List Int32) (ds : List Int32) (po : List Int32) (fm : Value) (zC_ : Int32) (h0 : Heap) (n0 : Nat) (O0 : Old Z n0 h0) (V_a : Arv Z h0 a ka .byte (Int32.ofNat (2 * (pr ++ ds ++ po).length)) (o_V16 (pr ++ ds ++ po)) (.int 0)) (h16 : o_c16 (pr ++ ds ++ po)) (hbig : o_big ds) (hqq : ds.length ≤ 3) (hi : ii = Int32.ofNat pr.length) (hm : mm = Int32.ofNat ds.length) (hl1 : 1 ≤ ds.length) (hl : (pr ++ ds ++ po).length ≤ 8) (hnq : ¬ (pr.length = 0 ∧ po.length = 0)) (S_u : o_SU Z) (S_f : o_SF Z fm) (hfm : fm.isRef = true) (SC_ : o_SC Z zC_) (hC_ : ¬ zC_ = 0) :
    o_Met l Z o_m35 oJ25 5 (some (.object "java/lang/String")) ws o_R18 #[(.ref a), (.int ii), (.int mm)] h0 (Quns Z a ii mm ka pr ds po fm zC_ h0 n0) := by
  refine o_enter o_pn_0 (fun m => o_ef15 m a ii mm) (fun p e s m below meth c s₁ hx hby hml hZ hown hnm hlk hrt X0 e0 => ?_)
  have N0 := Fr.nil n0
  have y_ := @hb _ _ hby
  have k_ := @o_k _ _ hw
  have hL : pr.length + ds.length + po.length ≤ 8 := by simpa [Nat.add_assoc] using hl
  refine o_iloadN X0 hx (y_ oD35_0) rfl ?_
  refine o_iF (t := 8) X0 hx (y_ oD35_1) (fun hq => ?_) (fun hq => ?_)
  · have hc1 := o_h_ne.1 hq
    refine o_getS X0 hx hZ hown (host := "") (Or.inl (k_ 321 rfl)) Via.refl e0 (Sta.ext O0.2 SC_) (y_ oD35_8) (fun T1 X1 e1 => ?_)
    refine o_iF (t := 39) X1 hx (y_ oD35_11) (fun hq => ?_) (fun hq => ?_)
    · have hc11 := o_h_eq.1 hq
      exact absurd hc11 hC_
    have hc11 := o_h_eq.2 hq
    refine o_aloadN X1 hx (y_ oD35_14) rfl rfl ?_
    refine o_iloadN X1 hx (y_ oD35_15) rfl ?_
    refine o_iloadN X1 hx (y_ oD35_16) rfl ?_
    refine o_sta (y := o_m34) (argsL := [(.ref a), (.int ii), (.int mm)]) (S := []) (W := 0) X1 hx hZ hown (k_ 322 rfl) (k_ 323 rfl) (k_ 247 rfl) (k_ 324 rfl) (backOf (W := 0) (rmcpb l Z a0 hw [] a ii mm ka pr ds po fm h0 n0 O0 V_a h16 hbig hqq hi hm hl1 hl hnq S_u S_f hfm) hZ (k_ 324 rfl) (k_ 247 rfl) (by decide) (by decide)) e1 hml (lenOf o_pd__28_5bBII_29_5bB rfl) (y_ oD35_17) (fun T2 L2 v2 X2 hQ2 => ?_)
    obtain ⟨t2, rfl, N2q, Kp2, g_t2, ht2, Et2, ka2, Va2⟩ := hQ2
    have N2 := Fr.app N0 N2q
    have O3 := Old.keep O0 Kp2 all0
    show o_G p e below _ T2 (mkF m 20 #[vR a, vI ii, vI mm, .unset, .unset] [(.ref t2)])
    refine o_astoreN X2 hx (y_ oD35_20) rfl (A' := #[vR a, vI ii, vI mm, vR t2, .unset]) rfl ?_
    refine o_aloadN X2 hx (y_ oD35_21) rfl rfl ?_
    refine o_iloadN X2 hx (y_ oD35_22) rfl ?_
    refine o_sta (y := o_m31) (argsL := [(.ref t2), (.int mm)]) (S := []) (W := 0) X2 hx hZ hown (k_ 341 rfl) (k_ 253 rfl) (k_ 247 rfl) (k_ 254 rfl) (backOf (W := 0) (rmcfl l Z a0 hw [] t2 mm ka2 (Int32.ofNat (2 * ds.length)) (o_V16 ds) 1 T2.heap n0 O3 Va2 (by rw [hm]; exact o_cfu ⟨ds.length, by omega⟩ hl1) (Or.inr rfl)) hZ (k_ 254 rfl) (k_ 247 rfl) (by decide) (by decide)) rfl hml (lenOf o_pd__28_5bBI_29B rfl) (y_ oD35_23) (fun T4 L4 v4 X4 hQ4 => ?_)
    obtain ⟨rfl, N4q, hh4⟩ := hQ4
    have N4 := Fr.app N2 N4q
    show o_G p e below _ T4 (mkF m 26 #[vR a, vI ii, vI mm, vR t2, .unset] [(.int 1)])
    refine o_istore X4 hx (y_ oD35_26) (A' := #[vR a, vI ii, vI mm, vR t2, vI 1]) rfl ?_
    refine o_new X4 hx hZ hown (k_ 342 rfl) (k_ 14 rfl) (k_ 6 rfl) hh4 (y_ oD35_28) (by decide) (by decide) (fun T5 h5 b5 X5 e5 gg5 E5 A5 D5 => ?_)
    have g_b5 := o_fresh O3 gg5
    have O5 := Old.ext O3 E5
    have F5_value : o_FV Z h5 b5 .null := D5 (Or.inr (k_ 27 rfl)) (ty := (.array .byte)) (by decide)
    have F5_coder : o_FC Z h5 b5 (.int 0) := D5 (Or.inr (k_ 29 rfl)) (ty := .byte) (by decide)
    refine o_dup X5 hx (y_ oD35_31) rfl ?_
    refine o_aloadN X5 hx (y_ oD35_32) rfl rfl ?_
    refine o_iload X5 hx (y_ oD35_33) rfl ?_
    refine o_ini (y := o_m30) (b := b5) (argsL := [(.ref t2), (.int 1)]) (S := [(.ref b5)]) (W := 1) rfl X5 hx hZ hown (k_ 343 rfl) (k_ 20 rfl) (k_ 22 rfl) (backOf (W := 1) (rmsbk l Z a0 hw [] b5 t2 (1 : Int32) h5 n0 O5 A5 F5_value F5_coder g_b5 (Or.inr rfl)) hZ (k_ 22 rfl) (k_ 6 rfl) (by decide) (by decide)) e5 hml (lenOf o_pd__28_5bBB_29V rfl) (y_ oD35_35) (fun T6 L6 v6 X6 hQ6 => ?_)
    obtain ⟨rfl, N6q, Kp6, Ex6, Fc6, Fv6⟩ := hQ6
    have N6 := Fr.app N4 N6q
    have O7 := Old.keep O5 Kp6 (allS g_b5 all0)
    show o_G p e below _ T6 (mkF m 38 #[vR a, vI ii, vI mm, vR t2, vI 1] [(.ref b5)])
    have kp8 := Keep.trans (Keep.refl h0 []) Kp2 all0
    have kp9 := Keep.ext kp8 E5
    have kp10 := Keep.trans kp9 Kp6 (allS (Or.inr (Nat.le_trans kp8.1 (Nat.le_of_eq gg5.symm))) all0)
    have c11 := (Arv.keep (Arv.ext Va2 E5) Kp6 (ninS (o_ng Et2.lt gg5) nin0))
    exact o_retA X6 hx hrt hlk rfl rfl rfl (y_ oD35_38) (by decide) (by decide) ⟨b5, t2, (1 : Int32), rfl, N6, kp10, g_b5, (Nat.le_trans kp8.1 (Nat.le_of_eq gg5.symm)), g_t2, (Nat.le_trans (Keep.refl h0 []).1 ht2), (o_ng Et2.lt gg5), o_aMk1 Ex6 Fc6 Fv6 c11 (fun c hc => h16 c (by simp [hc])) hbig (by omega)⟩
  have hc1 := o_h_ne.2 hq
  exact absurd hc1 (by rw [hm]; exact o_nz hl1 (by omega))
theorem rmsbo (hw : o_HW Z a0) (ws : o_LC) (x : Addr) (ej : Int32) (u : Addr) (kd : Int32) (ds : List Int32) (fm : Value) (zC_ : Int32) (h0 : Heap) (n0 : Nat) (O0 : Old Z n0 h0) (S_x : o_A Z h0 x u kd ds) (he : ej = (Int32.ofNat ds.length)) (S_f : o_SF Z fm) (hfm : fm.isRef = true) (SC_ : o_SC Z zC_) (hC_ : ¬ zC_ = 0) :
    o_Met l Z o_m36 oJ4 5 (some (.object "java/lang/String")) ws o_R11 #[(.ref x), (.int 0), (.int ej)] h0 (o_P (some (.ref x)) h0 n0) := by
  refine o_enter o_pn_1 (fun m => o_ef20 m x ej) (fun p e s m below meth c s₁ hx hby hml hZ hown hnm hlk hrt X0 e0 => ?_)
  have N0 := Fr.nil n0
  have y_ := @hb _ _ hby
  have k_ := @o_k _ _ hw
  refine o_aloadN X0 hx (y_ oD36_0) rfl rfl ?_
  refine o_vir (y := o_m6) (b := x) (argsL := []) (S := []) (W := 0) X0 hx hZ hown (k_ 265 rfl) (k_ 159 rfl) (k_ 161 rfl) (k_ 160 rfl) (backOf (W := 0) (rmlna l Z a0 hw [] x u kd ds zC_ h0 n0 O0 S_x SC_ hC_) hZ (k_ 162 rfl) (k_ 6 rfl) (by decide) (by decide)) e0 S_x.1 hml (lenOf o_pd__28_29I rfl) (y_ oD36_1) (fun T1 L1 v1 X1 hQ1 => ?_)
  obtain ⟨rfl, N1q, hh1⟩ := hQ1
  have N1 := Fr.app N0 N1q
  show o_G p e below _ T1 (mkF m 4 #[vR x, vI 0, vI ej, .unset, .unset] [(.int (Int32.ofNat ds.length))])
  refine o_istoreN X1 hx (y_ oD36_4) (A' := #[vR x, vI 0, vI ej, vI (Int32.ofNat ds.length), .unset]) rfl ?_
  refine o_iloadN X1 hx (y_ oD36_5) rfl ?_
  refine o_iloadN X1 hx (y_ oD36_6) rfl ?_
  refine o_iloadN X1 hx (y_ oD36_7) rfl ?_
  refine o_sta (y := o_m25) (argsL := [(.int 0), (.int ej), (.int (Int32.ofNat ds.length))]) (S := []) (W := 0) X1 hx hZ hown (k_ 281 rfl) (k_ 282 rfl) (k_ 6 rfl) (k_ 283 rfl) (backOf (W := 0) (rmcbe l Z a0 hw [] 0 ej (Int32.ofNat ds.length) fm h0 n0 O0 (by decide) (by rw [he]; exact o_on (by have := S_x.ak.1; omega)) (by rw [he]; exact Int32.lt_irrefl) S_f hfm) hZ (k_ 283 rfl) (k_ 6 rfl) (by decide) (by decide)) hh1 hml (lenOf o_pd__28III_29V rfl) (y_ oD36_8) (fun T2 L2 v2 X2 hQ2 => ?_)
  obtain ⟨rfl, N2q, hh2⟩ := hQ2
  have N2 := Fr.app N1 N2q
  show o_G p e below _ T2 (mkF m 11 #[vR x, vI 0, vI ej, vI (Int32.ofNat ds.length), .unset] [])
  refine o_iloadN X2 hx (y_ oD36_11) rfl ?_
  refine o_iFF X2 hx (y_ oD36_12) ?_
  refine o_iloadN X2 hx (y_ oD36_15) rfl ?_
  refine o_iloadN X2 hx (y_ oD36_16) rfl ?_
  refine o_iC (t := 22) X2 hx (y_ oD36_17) (fun hq => ?_) (fun hq => ?_)
  · have hc17 := o_c_ne.1 hq
    exact absurd he hc17
  have hc17 := o_c_ne.2 hq
  refine o_aloadN X2 hx (y_ oD36_20) rfl rfl ?_
  exact o_retA X2 hx hrt hlk rfl rfl rfl (y_ oD36_21) (by decide) (by decide) (o_hQ hh2 ⟨rfl, N2, rfl⟩)
theorem rmsbl (hw : o_HW Z a0) (ws : o_LC) (x : Addr) (bj : Int32) (ej : Int32) (t : Addr) (pr : List Int32) (ds : List Int32) (po : List Int32) (fm : Value) (zC_ : Int32) (h0 : Heap) (n0 : Nat) (O0 : Old Z n0 h0) (S_x : o_Str Z h0 x t (pr ++ ds ++ po)) (hbj : bj = Int32.ofNat pr.length) (he : ej = Int32.ofNat (pr.length + ds.length)) (hqq : ds.length ≤ 3) (hl1 : 1 ≤ ds.length) (hl : (pr ++ ds ++ po).length ≤ 8) (hnq : ¬ (pr.length = 0 ∧ po.length = 0)) (S_u : o_SU Z) (S_f : o_SF Z fm) (hfm : fm.isRef = true) (SC_ : o_SC Z zC_) (hC_ : ¬ zC_ = 0) :
    o_Met l Z o_m36 oJ4 5 (some (.object "java/lang/String")) ws o_R19 #[(.ref x), (.int bj), (.int ej)] h0 (Qsbl Z x bj ej t pr ds po fm zC_ h0 n0) := by
  refine o_enter o_pn_1 (fun m => o_ef15 m x bj ej) (fun p e s m below meth c s₁ hx hby hml hZ hown hnm hlk hrt X0 e0 => ?_)
  have N0 := Fr.nil n0
  have y_ := @hb _ _ hby
  have k_ := @o_k _ _ hw
  have hL : pr.length + ds.length + po.length ≤ 8 := by simpa [Nat.add_assoc] using hl
  obtain ⟨ks1, Sa1⟩ := S_x.2.2.2.1
  refine o_aloadN X0 hx (y_ oD36_0) rfl rfl ?_
  refine o_vir (y := o_m6) (b := x) (argsL := []) (S := []) (W := 0) X0 hx hZ hown (k_ 265 rfl) (k_ 159 rfl) (k_ 161 rfl) (k_ 160 rfl) (backOf (W := 0) (rmlen l Z a0 hw [] x t (pr ++ ds ++ po) zC_ h0 n0 O0 S_x SC_ hC_) hZ (k_ 162 rfl) (k_ 6 rfl) (by decide) (by decide)) e0 S_x.1 hml (lenOf o_pd__28_29I rfl) (y_ oD36_1) (fun T2 L2 v2 X2 hQ2 => ?_)
  obtain ⟨rfl, N2q, hh2⟩ := hQ2
  have N2 := Fr.app N0 N2q
  show o_G p e below _ T2 (mkF m 4 #[vR x, vI bj, vI ej, .unset, .unset] [(.int (Int32.ofNat (pr ++ ds ++ po).length))])
  refine o_istoreN X2 hx (y_ oD36_4) (A' := #[vR x, vI bj, vI ej, vI (Int32.ofNat (pr ++ ds ++ po).length), .unset]) rfl ?_
  refine o_iloadN X2 hx (y_ oD36_5) rfl ?_
  refine o_iloadN X2 hx (y_ oD36_6) rfl ?_
  refine o_iloadN X2 hx (y_ oD36_7) rfl ?_
  refine o_sta (y := o_m25) (argsL := [(.int bj), (.int ej), (.int (Int32.ofNat (pr ++ ds ++ po).length))]) (S := []) (W := 0) X2 hx hZ hown (k_ 281 rfl) (k_ 282 rfl) (k_ 6 rfl) (k_ 283 rfl) (backOf (W := 0) (rmcbe l Z a0 hw [] bj ej (Int32.ofNat (pr ++ ds ++ po).length) fm h0 n0 O0 (by rw [hbj]; exact o_on (by omega)) (by rw [hbj, he]; exact o_nlt (by omega) (by omega)) (by rw [he]; exact o_nlt (by simp only [List.length_append]; omega) (by omega)) S_f hfm) hZ (k_ 283 rfl) (k_ 6 rfl) (by decide) (by decide)) hh2 hml (lenOf o_pd__28III_29V rfl) (y_ oD36_8) (fun T3 L3 v3 X3 hQ3 => ?_)
  obtain ⟨rfl, N3q, hh3⟩ := hQ3
  have N3 := Fr.app N2 N3q
  show o_G p e below _ T3 (mkF m 11 #[vR x, vI bj, vI ej, vI (Int32.ofNat (pr ++ ds ++ po).length), .unset] [])
  refine o_iloadN X3 hx (y_ oD36_11) rfl ?_
  refine o_iF (t := 22) X3 hx (y_ oD36_12) (fun hq => ?_) (fun hq => ?_)
  · have hc12 := o_h_ne.1 hq
    refine o_iloadN X3 hx (y_ oD36_22) rfl ?_
    refine o_iloadN X3 hx (y_ oD36_23) rfl ?_
    refine o_isub X3 hx (y_ oD36_24) ?_
    refine o_valE (z := Int32.ofNat ds.length) (by rw [hbj, he]; exact o_osub _ _) ?_
    refine o_istore X3 hx (y_ oD36_25) (A' := #[vR x, vI bj, vI ej, vI (Int32.ofNat (pr ++ ds ++ po).length), vI (Int32.ofNat ds.length)]) rfl ?_
    refine o_aloadN X3 hx (y_ oD36_27) rfl rfl ?_
    refine o_vir (y := o_m5) (b := x) (argsL := []) (S := []) (W := 0) X3 hx hZ hown (k_ 87 rfl) (k_ 88 rfl) (k_ 90 rfl) (k_ 89 rfl) (backOf (W := 0) (rmisl l Z a0 hw [] x zC_ h0 n0 O0 S_x.2.1 SC_ hC_) hZ (k_ 91 rfl) (k_ 6 rfl) (by decide) (by decide)) hh3 S_x.1 hml (lenOf o_pd__28_29Z rfl) (y_ oD36_28) (fun T4 L4 v4 X4 hQ4 => ?_)
    obtain ⟨rfl, N4q, hh4⟩ := hQ4
    have N4 := Fr.app N3 N4q
    show o_G p e below _ T4 (mkF m 31 #[vR x, vI bj, vI ej, vI (Int32.ofNat (pr ++ ds ++ po).length), vI (Int32.ofNat ds.length)] [(.int 1)])
    refine o_iFF X4 hx (y_ oD36_31) ?_
    refine o_aloadN X4 hx (y_ oD36_34) rfl rfl ?_
    refine o_getF X4 hx hZ hown (host := "") (Or.inl (k_ 26 rfl)) Via.refl hh4 S_x.2.2.1 (y_ oD36_35) (fun T5 X5 e5 => ?_)
    refine o_iloadN X5 hx (y_ oD36_38) rfl ?_
    refine o_iload X5 hx (y_ oD36_39) rfl ?_
    refine o_sta (y := o_m32) (argsL := [(.ref t), (.int bj), (.int (Int32.ofNat ds.length))]) (S := []) (W := 0) X5 hx hZ hown (k_ 289 rfl) (k_ 290 rfl) (k_ 11 rfl) (k_ 291 rfl) (backOf (W := 0) (rmlns l Z a0 hw [] t bj (Int32.ofNat ds.length) ks1 pr ds po h0 n0 O0 Sa1 hbj rfl hl1 hl hnq (fun c hc => S_x.2.2.2.2.1 c (by simp [hc]))) hZ (k_ 291 rfl) (k_ 11 rfl) (by decide) (by decide)) e5 hml (lenOf o_pd__28_5bBII_29Ljava_2flang_2fString_3b rfl) (y_ oD36_41) (fun T6 L6 v6 X6 hQ6 => ?_)
    obtain ⟨x6, t6, kd6, rfl, N6q, Kp6, g_x6, hx6, g_t6, ht6, hne6, Sf6⟩ := hQ6
    have N6 := Fr.app N4 N6q
    have O7 := Old.keep O0 Kp6 all0
    show o_G p e below _ T6 (mkF m 44 #[vR x, vI bj, vI ej, vI (Int32.ofNat (pr ++ ds ++ po).length), vI (Int32.ofNat ds.length)] [(.ref x6)])
    refine o_gO (t := 57) X6 hx (y_ oD36_44) ?_
    have kp8 := Keep.trans (Keep.refl h0 []) Kp6 all0
    exact o_retA X6 hx hrt hlk rfl rfl rfl (y_ oD36_57) (by decide) (by decide) ⟨x6, t6, kd6, rfl, N6, kp8, g_x6, (Nat.le_trans (Keep.refl h0 []).1 hx6), g_t6, (Nat.le_trans (Keep.refl h0 []).1 ht6), hne6, Sf6⟩
  have hc12 := o_h_ne.2 hq
  refine o_iloadN X3 hx (y_ oD36_15) rfl ?_
  refine o_iloadN X3 hx (y_ oD36_16) rfl ?_
  refine o_iC (t := 22) X3 hx (y_ oD36_17) (fun hq => ?_) (fun hq => ?_)
  · have hc17 := o_c_ne.1 hq
    refine o_iloadN X3 hx (y_ oD36_22) rfl ?_
    refine o_iloadN X3 hx (y_ oD36_23) rfl ?_
    refine o_isub X3 hx (y_ oD36_24) ?_
    refine o_valE (z := Int32.ofNat ds.length) (by rw [hbj, he]; exact o_osub _ _) ?_
    refine o_istore X3 hx (y_ oD36_25) (A' := #[vR x, vI bj, vI ej, vI (Int32.ofNat (pr ++ ds ++ po).length), vI (Int32.ofNat ds.length)]) rfl ?_
    refine o_aloadN X3 hx (y_ oD36_27) rfl rfl ?_
    refine o_vir (y := o_m5) (b := x) (argsL := []) (S := []) (W := 0) X3 hx hZ hown (k_ 87 rfl) (k_ 88 rfl) (k_ 90 rfl) (k_ 89 rfl) (backOf (W := 0) (rmisl l Z a0 hw [] x zC_ h0 n0 O0 S_x.2.1 SC_ hC_) hZ (k_ 91 rfl) (k_ 6 rfl) (by decide) (by decide)) hh3 S_x.1 hml (lenOf o_pd__28_29Z rfl) (y_ oD36_28) (fun T9 L9 v9 X9 hQ9 => ?_)
    obtain ⟨rfl, N9q, hh9⟩ := hQ9
    have N9 := Fr.app N3 N9q
    show o_G p e below _ T9 (mkF m 31 #[vR x, vI bj, vI ej, vI (Int32.ofNat (pr ++ ds ++ po).length), vI (Int32.ofNat ds.length)] [(.int 1)])
    refine o_iFF X9 hx (y_ oD36_31) ?_
    refine o_aloadN X9 hx (y_ oD36_34) rfl rfl ?_
    refine o_getF X9 hx hZ hown (host := "") (Or.inl (k_ 26 rfl)) Via.refl hh9 S_x.2.2.1 (y_ oD36_35) (fun T10 X10 e10 => ?_)
    refine o_iloadN X10 hx (y_ oD36_38) rfl ?_
    refine o_iload X10 hx (y_ oD36_39) rfl ?_
    refine o_sta (y := o_m32) (argsL := [(.ref t), (.int bj), (.int (Int32.ofNat ds.length))]) (S := []) (W := 0) X10 hx hZ hown (k_ 289 rfl) (k_ 290 rfl) (k_ 11 rfl) (k_ 291 rfl) (backOf (W := 0) (rmlns l Z a0 hw [] t bj (Int32.ofNat ds.length) ks1 pr ds po h0 n0 O0 Sa1 hbj rfl hl1 hl hnq (fun c hc => S_x.2.2.2.2.1 c (by simp [hc]))) hZ (k_ 291 rfl) (k_ 11 rfl) (by decide) (by decide)) e10 hml (lenOf o_pd__28_5bBII_29Ljava_2flang_2fString_3b rfl) (y_ oD36_41) (fun T11 L11 v11 X11 hQ11 => ?_)
    obtain ⟨x11, t11, kd11, rfl, N11q, Kp11, g_x11, hx11, g_t11, ht11, hne11, Sf11⟩ := hQ11
    have N11 := Fr.app N9 N11q
    have O12 := Old.keep O0 Kp11 all0
    show o_G p e below _ T11 (mkF m 44 #[vR x, vI bj, vI ej, vI (Int32.ofNat (pr ++ ds ++ po).length), vI (Int32.ofNat ds.length)] [(.ref x11)])
    refine o_gO (t := 57) X11 hx (y_ oD36_44) ?_
    have kp13 := Keep.trans (Keep.refl h0 []) Kp11 all0
    exact o_retA X11 hx hrt hlk rfl rfl rfl (y_ oD36_57) (by decide) (by decide) ⟨x11, t11, kd11, rfl, N11, kp13, g_x11, (Nat.le_trans (Keep.refl h0 []).1 hx11), g_t11, (Nat.le_trans (Keep.refl h0 []).1 ht11), hne11, Sf11⟩
  have hc17 := o_c_ne.2 hq
  exact absurd ⟨o_oinj (b := 0) (by omega) (by decide) (hbj.symm.trans hc12), by have q := o_oinj (by omega) (by omega) (he.symm.trans hc17); simp only [List.length_append] at q; omega⟩ hnq
theorem rmsbu (hw : o_HW Z a0) (ws : o_LC) (x : Addr) (bj : Int32) (ej : Int32) (t : Addr) (pr : List Int32) (ds : List Int32) (po : List Int32) (fm : Value) (zC_ : Int32) (h0 : Heap) (n0 : Nat) (O0 : Old Z n0 h0) (S_x : o_A Z h0 x t 1 (pr ++ ds ++ po)) (hbig : o_big ds) (hbj : bj = Int32.ofNat pr.length) (he : ej = Int32.ofNat (pr.length + ds.length)) (hqq : ds.length ≤ 3) (hl1 : 1 ≤ ds.length) (hl : (pr ++ ds ++ po).length ≤ 8) (hnq : ¬ (pr.length = 0 ∧ po.length = 0)) (S_u : o_SU Z) (S_f : o_SF Z fm) (hfm : fm.isRef = true) (SC_ : o_SC Z zC_) (hC_ : ¬ zC_ = 0) :
    o_Met l Z o_m36 oJ4 5 (some (.object "java/lang/String")) ws o_R19 #[(.ref x), (.int bj), (.int ej)] h0 (Qsbu Z x bj ej t pr ds po fm zC_ h0 n0) := by
  refine o_enter o_pn_1 (fun m => o_ef15 m x bj ej) (fun p e s m below meth c s₁ hx hby hml hZ hown hnm hlk hrt X0 e0 => ?_)
  have N0 := Fr.nil n0
  have y_ := @hb _ _ hby
  have k_ := @o_k _ _ hw
  have hL : pr.length + ds.length + po.length ≤ 8 := by simpa [Nat.add_assoc] using hl
  obtain ⟨ks1, Sa1⟩ := S_x.uv
  refine o_aloadN X0 hx (y_ oD36_0) rfl rfl ?_
  refine o_vir (y := o_m6) (b := x) (argsL := []) (S := []) (W := 0) X0 hx hZ hown (k_ 265 rfl) (k_ 159 rfl) (k_ 161 rfl) (k_ 160 rfl) (backOf (W := 0) (rmlna l Z a0 hw [] x t (1 : Int32) (pr ++ ds ++ po) zC_ h0 n0 O0 S_x SC_ hC_) hZ (k_ 162 rfl) (k_ 6 rfl) (by decide) (by decide)) e0 S_x.1 hml (lenOf o_pd__28_29I rfl) (y_ oD36_1) (fun T2 L2 v2 X2 hQ2 => ?_)
  obtain ⟨rfl, N2q, hh2⟩ := hQ2
  have N2 := Fr.app N0 N2q
  show o_G p e below _ T2 (mkF m 4 #[vR x, vI bj, vI ej, .unset, .unset] [(.int (Int32.ofNat (pr ++ ds ++ po).length))])
  refine o_istoreN X2 hx (y_ oD36_4) (A' := #[vR x, vI bj, vI ej, vI (Int32.ofNat (pr ++ ds ++ po).length), .unset]) rfl ?_
  refine o_iloadN X2 hx (y_ oD36_5) rfl ?_
  refine o_iloadN X2 hx (y_ oD36_6) rfl ?_
  refine o_iloadN X2 hx (y_ oD36_7) rfl ?_
  refine o_sta (y := o_m25) (argsL := [(.int bj), (.int ej), (.int (Int32.ofNat (pr ++ ds ++ po).length))]) (S := []) (W := 0) X2 hx hZ hown (k_ 281 rfl) (k_ 282 rfl) (k_ 6 rfl) (k_ 283 rfl) (backOf (W := 0) (rmcbe l Z a0 hw [] bj ej (Int32.ofNat (pr ++ ds ++ po).length) fm h0 n0 O0 (by rw [hbj]; exact o_on (by omega)) (by rw [hbj, he]; exact o_nlt (by omega) (by omega)) (by rw [he]; exact o_nlt (by simp only [List.length_append]; omega) (by omega)) S_f hfm) hZ (k_ 283 rfl) (k_ 6 rfl) (by decide) (by decide)) hh2 hml (lenOf o_pd__28III_29V rfl) (y_ oD36_8) (fun T3 L3 v3 X3 hQ3 => ?_)
  obtain ⟨rfl, N3q, hh3⟩ := hQ3
  have N3 := Fr.app N2 N3q
  show o_G p e below _ T3 (mkF m 11 #[vR x, vI bj, vI ej, vI (Int32.ofNat (pr ++ ds ++ po).length), .unset] [])
  refine o_iloadN X3 hx (y_ oD36_11) rfl ?_
  refine o_iF (t := 22) X3 hx (y_ oD36_12) (fun hq => ?_) (fun hq => ?_)
  · have hc12 := o_h_ne.1 hq
    refine o_iloadN X3 hx (y_ oD36_22) rfl ?_
    refine o_iloadN X3 hx (y_ oD36_23) rfl ?_
    refine o_isub X3 hx (y_ oD36_24) ?_
    refine o_valE (z := Int32.ofNat ds.length) (by rw [hbj, he]; exact o_osub _ _) ?_
    refine o_istore X3 hx (y_ oD36_25) (A' := #[vR x, vI bj, vI ej, vI (Int32.ofNat (pr ++ ds ++ po).length), vI (Int32.ofNat ds.length)]) rfl ?_
    refine o_aloadN X3 hx (y_ oD36_27) rfl rfl ?_
    refine o_vir (y := o_m5) (b := x) (argsL := []) (S := []) (W := 0) X3 hx hZ hown (k_ 87 rfl) (k_ 88 rfl) (k_ 90 rfl) (k_ 89 rfl) (backOf (W := 0) (rmisu l Z a0 hw [] x zC_ h0 n0 O0 S_x.2.1 SC_ hC_) hZ (k_ 91 rfl) (k_ 6 rfl) (by decide) (by decide)) hh3 S_x.1 hml (lenOf o_pd__28_29Z rfl) (y_ oD36_28) (fun T4 L4 v4 X4 hQ4 => ?_)
    obtain ⟨rfl, N4q, hh4⟩ := hQ4
    have N4 := Fr.app N3 N4q
    show o_G p e below _ T4 (mkF m 31 #[vR x, vI bj, vI ej, vI (Int32.ofNat (pr ++ ds ++ po).length), vI (Int32.ofNat ds.length)] [(.int 0)])
    refine o_iFT (t := 47) X4 hx (y_ oD36_31) ?_
    refine o_aloadN X4 hx (y_ oD36_47) rfl rfl ?_
    refine o_getF X4 hx hZ hown (host := "") (Or.inl (k_ 26 rfl)) Via.refl hh4 S_x.2.2.1 (y_ oD36_48) (fun T5 X5 e5 => ?_)
    refine o_iloadN X5 hx (y_ oD36_51) rfl ?_
    refine o_iload X5 hx (y_ oD36_52) rfl ?_
    refine o_sta (y := o_m35) (argsL := [(.ref t), (.int bj), (.int (Int32.ofNat ds.length))]) (S := []) (W := 0) X5 hx hZ hown (k_ 318 rfl) (k_ 319 rfl) (k_ 247 rfl) (k_ 320 rfl) (backOf (W := 0) (rmuns l Z a0 hw [] t bj (Int32.ofNat ds.length) ks1 pr ds po fm zC_ h0 n0 O0 Sa1 S_x.ak.2.1 hbig hqq hbj rfl hl1 hl hnq S_u S_f hfm SC_ hC_) hZ (k_ 320 rfl) (k_ 247 rfl) (by decide) (by decide)) e5 hml (lenOf o_pd__28_5bBII_29Ljava_2flang_2fString_3b rfl) (y_ oD36_54) (fun T6 L6 v6 X6 hQ6 => ?_)
    obtain ⟨x6, t6, kd6, rfl, N6q, Kp6, g_x6, hx6, g_t6, ht6, hne6, Sf6⟩ := hQ6
    have N6 := Fr.app N4 N6q
    have O7 := Old.keep O0 Kp6 all0
    show o_G p e below _ T6 (mkF m 57 #[vR x, vI bj, vI ej, vI (Int32.ofNat (pr ++ ds ++ po).length), vI (Int32.ofNat ds.length)] [(.ref x6)])
    have kp8 := Keep.trans (Keep.refl h0 []) Kp6 all0
    exact o_retA X6 hx hrt hlk rfl rfl rfl (y_ oD36_57) (by decide) (by decide) ⟨x6, t6, kd6, rfl, N6, kp8, g_x6, (Nat.le_trans (Keep.refl h0 []).1 hx6), g_t6, (Nat.le_trans (Keep.refl h0 []).1 ht6), hne6, Sf6⟩
  have hc12 := o_h_ne.2 hq
  refine o_iloadN X3 hx (y_ oD36_15) rfl ?_
  refine o_iloadN X3 hx (y_ oD36_16) rfl ?_
  refine o_iC (t := 22) X3 hx (y_ oD36_17) (fun hq => ?_) (fun hq => ?_)
  · have hc17 := o_c_ne.1 hq
    refine o_iloadN X3 hx (y_ oD36_22) rfl ?_
    refine o_iloadN X3 hx (y_ oD36_23) rfl ?_
    refine o_isub X3 hx (y_ oD36_24) ?_
    refine o_valE (z := Int32.ofNat ds.length) (by rw [hbj, he]; exact o_osub _ _) ?_
    refine o_istore X3 hx (y_ oD36_25) (A' := #[vR x, vI bj, vI ej, vI (Int32.ofNat (pr ++ ds ++ po).length), vI (Int32.ofNat ds.length)]) rfl ?_
    refine o_aloadN X3 hx (y_ oD36_27) rfl rfl ?_
    refine o_vir (y := o_m5) (b := x) (argsL := []) (S := []) (W := 0) X3 hx hZ hown (k_ 87 rfl) (k_ 88 rfl) (k_ 90 rfl) (k_ 89 rfl) (backOf (W := 0) (rmisu l Z a0 hw [] x zC_ h0 n0 O0 S_x.2.1 SC_ hC_) hZ (k_ 91 rfl) (k_ 6 rfl) (by decide) (by decide)) hh3 S_x.1 hml (lenOf o_pd__28_29Z rfl) (y_ oD36_28) (fun T9 L9 v9 X9 hQ9 => ?_)
    obtain ⟨rfl, N9q, hh9⟩ := hQ9
    have N9 := Fr.app N3 N9q
    show o_G p e below _ T9 (mkF m 31 #[vR x, vI bj, vI ej, vI (Int32.ofNat (pr ++ ds ++ po).length), vI (Int32.ofNat ds.length)] [(.int 0)])
    refine o_iFT (t := 47) X9 hx (y_ oD36_31) ?_
    refine o_aloadN X9 hx (y_ oD36_47) rfl rfl ?_
    refine o_getF X9 hx hZ hown (host := "") (Or.inl (k_ 26 rfl)) Via.refl hh9 S_x.2.2.1 (y_ oD36_48) (fun T10 X10 e10 => ?_)
    refine o_iloadN X10 hx (y_ oD36_51) rfl ?_
    refine o_iload X10 hx (y_ oD36_52) rfl ?_
    refine o_sta (y := o_m35) (argsL := [(.ref t), (.int bj), (.int (Int32.ofNat ds.length))]) (S := []) (W := 0) X10 hx hZ hown (k_ 318 rfl) (k_ 319 rfl) (k_ 247 rfl) (k_ 320 rfl) (backOf (W := 0) (rmuns l Z a0 hw [] t bj (Int32.ofNat ds.length) ks1 pr ds po fm zC_ h0 n0 O0 Sa1 S_x.ak.2.1 hbig hqq hbj rfl hl1 hl hnq S_u S_f hfm SC_ hC_) hZ (k_ 320 rfl) (k_ 247 rfl) (by decide) (by decide)) e10 hml (lenOf o_pd__28_5bBII_29Ljava_2flang_2fString_3b rfl) (y_ oD36_54) (fun T11 L11 v11 X11 hQ11 => ?_)
    obtain ⟨x11, t11, kd11, rfl, N11q, Kp11, g_x11, hx11, g_t11, ht11, hne11, Sf11⟩ := hQ11
    have N11 := Fr.app N9 N11q
    have O12 := Old.keep O0 Kp11 all0
    show o_G p e below _ T11 (mkF m 57 #[vR x, vI bj, vI ej, vI (Int32.ofNat (pr ++ ds ++ po).length), vI (Int32.ofNat ds.length)] [(.ref x11)])
    have kp13 := Keep.trans (Keep.refl h0 []) Kp11 all0
    exact o_retA X11 hx hrt hlk rfl rfl rfl (y_ oD36_57) (by decide) (by decide) ⟨x11, t11, kd11, rfl, N11, kp13, g_x11, (Nat.le_trans (Keep.refl h0 []).1 hx11), g_t11, (Nat.le_trans (Keep.refl h0 []).1 ht11), hne11, Sf11⟩
  have hc17 := o_c_ne.2 hq
  exact absurd ⟨o_oinj (b := 0) (by omega) (by decide) (hbj.symm.trans hc12), by have q := o_oinj (by omega) (by omega) (he.symm.trans hc17); simp only [List.length_append] at q; omega⟩ hnq
theorem rmsba (hw : o_HW Z a0) (ws : o_LC) (x : Addr) (bj : Int32) (ej : Int32) (t : Addr) (kd : Int32) (pr : List Int32) (ds : List Int32) (po : List Int32) (fm : Value) (zC_ : Int32) (h0 : Heap) (n0 : Nat) (O0 : Old Z n0 h0) (S_x : o_A Z h0 x t kd (pr ++ ds ++ po)) (hlo : o_chs (pr ++ po)) (hbj : bj = Int32.ofNat pr.length) (he : ej = Int32.ofNat (pr.length + ds.length)) (hqq : ds.length ≤ 3) (hl1 : 1 ≤ ds.length) (hl : (pr ++ ds ++ po).length ≤ 8) (hnq : ¬ (pr.length = 0 ∧ po.length = 0)) (S_u : o_SU Z) (S_f : o_SF Z fm) (hfm : fm.isRef = true) (SC_ : o_SC Z zC_) (hC_ : ¬ zC_ = 0) :
    o_Met l Z o_m36 oJ4 5 (some (.object "java/lang/String")) ws o_R19 #[(.ref x), (.int bj), (.int ej)] h0 (Qsba Z x bj ej t kd pr ds po fm zC_ h0 n0) := by
  rcases S_x.ak.k01 with rfl | rfl
  · exact rmsbl l Z a0 hw ws x bj ej t pr ds po fm zC_ h0 n0 O0 S_x.str hbj he hqq hl1 hl hnq S_u S_f hfm SC_ hC_
  · exact rmsbu l Z a0 hw ws x bj ej t pr ds po fm zC_ h0 n0 O0 S_x (o_bigM S_x.ak.big hlo) hbj he hqq hl1 hl hnq S_u S_f hfm SC_ hC_
theorem rmcci (hw : o_HW Z a0) (ws : o_LC) (a : Addr) (d : Addr) (nn : Int32) (ka : ClassId) (kb : ClassId) (cs : List Int32) (h0 : Heap) (n0 : Nat) (O0 : Old Z n0 h0) (V_a : Arv Z h0 a ka .char nn (cs.map Value.int) (.int 0)) (hn : nn = (Int32.ofNat cs.length)) (V_d : Arv Z h0 d kb .byte nn [] (.int 0)) (g_d : n0 ≤ d) (hnad : a ≠ d) (hl : cs.length ≤ 8) :
    o_Met l Z o_m37 oJ17 7 (some .int) ws o_R0 #[(.ref a), (.int 0), (.ref d), (.int 0), (.int nn)] h0 (Qcci Z a d nn ka kb cs h0 n0) := by
  refine o_enter o_pn_0 (fun m => o_ef21 m a d nn) (fun p e s m below meth c s₁ hx hby hml hZ hown hnm hlk hrt X0 e0 => ?_)
  have N0 := Fr.nil n0
  have y_ := @hb _ _ hby
  have k_ := @o_k _ _ hw
  refine o_iconst X0 hx (y_ oD37_0) (x := 0) rfl ?_
  refine o_istore X0 hx (y_ oD37_1) (A' := #[vR a, vI 0, vR d, vI 0, vI nn, vI 0, .unset]) rfl ?_
  have hloop : ∀ (kq i : Nat) (xs : Slot) (T_ : State) (h_ : Heap) (L_ : List Loc), i + kq = cs.length → (xs = .unset ∨ ∃ q, xs = vI q) → Stand p l e o_R0 s m #[(.ref a), (.int 0), (.ref d), (.int 0), (.int nn)] below meth c T_ L_ (0) (0) → T_.heap = h_ → Fr n0 L_ → Old Z n0 h_ → Keep h0 h_ [d] → (∀ c ∈ cs.take i, ¬ (255 : Int32) < c) → Arv Z h_ d kb .byte nn (o_V8 (cs.take i)) (.int 0) → o_G p e below (o_E s (Qcci Z a d nn ka kb cs h0 n0) o_R0.cells o_R0.slots) T_ (mkF m 3 #[vR a, vI (Int32.ofNat i), vR d, vI (Int32.ofNat i), vI nn, vI (Int32.ofNat i), xs] []) := by
    intro kq
    induction kq with
    | zero =>
      intro i xs T_ h_ L_ hik hxs X_ e_ N_ O_ K_ hal Vd_
      refine o_iload X_ hx (y_ oD37_3) rfl ?_
      refine o_iload X_ hx (y_ oD37_5) rfl ?_
      refine o_iC (t := 44) X_ hx (y_ oD37_7) (fun hq => ?_) (fun hq => ?_)
      · have hc7 := o_c_ge.1 hq
        refine o_iload X_ hx (y_ oD37_44) rfl ?_
        have kp1 := Keep.trans (Keep.refl h0 [d]) K_ (allS (Or.inl (List.mem_of_getElem? (i := 0) rfl)) all0)
        exact o_retI X_ hx hrt hlk (y_ oD37_46) (by decide) (by decide) (o_hQ e_ ⟨i, by rw [hn, show cs.length = i by omega], N_, kp1, ⟨by omega, hal, fun q => absurd q (by omega)⟩, Vd_⟩)
      have hc7 := o_c_ge.2 hq
      exact absurd hc7 (by rw [hn]; exact o_nltO hik)
    | succ kq ih =>
      intro i xs T_ h_ L_ hik hxs X_ e_ N_ O_ K_ hal Vd_
      have hi : i < cs.length := by omega
      refine o_iload X_ hx (y_ oD37_3) rfl ?_
      refine o_iload X_ hx (y_ oD37_5) rfl ?_
      refine o_iC (t := 44) X_ hx (y_ oD37_7) (fun hq => ?_) (fun hq => ?_)
      · have hc7 := o_c_ge.1 hq
        exact absurd (by rw [hn]; exact o_ltO hi (by omega)) hc7
      have hc7 := o_c_ge.2 hq
      refine o_aloadN X_ hx (y_ oD37_10) rfl rfl ?_
      refine o_iloadN X_ hx (y_ oD37_11) rfl ?_
      have c2 := (Arv.keep V_a K_ (ninS hnad nin0))
      refine o_cload (v := (.int (cs.getD i 0))) X_ hx hZ e_ c2 (y_ oD37_12) ⟨o_on (by omega), by rw [hn]; exact o_ltO hi (by omega)⟩ (by rw [o_oc (by omega)]; exact o_mget hi) ?_
      refine o_istore X_ hx (y_ oD37_13) (A' := #[vR a, vI (Int32.ofNat i), vR d, vI (Int32.ofNat i), vI nn, vI (Int32.ofNat i), vI (cs.getD i 0)]) (by rcases hxs with rfl | ⟨_, rfl⟩ <;> rfl) ?_
      refine o_iload X_ hx (y_ oD37_15) rfl ?_
      refine o_sipush X_ hx (y_ oD37_17) (x := 255) rfl ?_
      refine o_iC (t := 26) X_ hx (y_ oD37_20) (fun hq => ?_) (fun hq => ?_)
      · have hc20 := o_c_le.1 hq
        refine o_aloadN X_ hx (y_ oD37_26) rfl rfl ?_
        refine o_iloadN X_ hx (y_ oD37_27) rfl ?_
        refine o_iload X_ hx (y_ oD37_28) rfl ?_
        refine o_i2b X_ hx (y_ oD37_30) ?_
        refine o_stBp (zz := ((cs.getD i 0).toInt8.toInt32)) X_ hx hZ e_ Vd_ (y_ oD37_31) ⟨o_on (by omega), by rw [hn]; exact o_ltO hi (by omega)⟩ (by rw [o_oc (by omega), o_V8len, o_tkl (by omega)]) (o_nb8 _) (fun T3 h3 X3 e3 W3 V3 => ?_)
        have N3 := Fr.snoc X3 N_ g_d
        have O3 := Old.wr O_ W3 g_d
        refine o_iinc X3 hx (y_ oD37_32) (y := 1) rfl rfl (A' := #[vR a, vI ((Int32.ofNat i) + (1 : Int32)), vR d, vI (Int32.ofNat i), vI nn, vI (Int32.ofNat i), vI (cs.getD i 0)]) rfl ?_
        refine o_iinc X3 hx (y_ oD37_35) (y := 1) rfl rfl (A' := #[vR a, vI ((Int32.ofNat i) + (1 : Int32)), vR d, vI ((Int32.ofNat i) + (1 : Int32)), vI nn, vI (Int32.ofNat i), vI (cs.getD i 0)]) rfl ?_
        refine o_iinc X3 hx (y_ oD37_38) (y := 1) rfl rfl (A' := #[vR a, vI ((Int32.ofNat i) + (1 : Int32)), vR d, vI ((Int32.ofNat i) + (1 : Int32)), vI nn, vI ((Int32.ofNat i) + (1 : Int32)), vI (cs.getD i 0)]) rfl ?_
        refine o_gO (t := 3) X3 hx (y_ oD37_41) ?_
        rw [show (Int32.ofNat i + 1 : Int32) = Int32.ofNat (i + 1) from o_oadd i 1]
        have kp4 := Keep.trans (Keep.refl h0 [d]) K_ (allS (Or.inl (List.mem_of_getElem? (i := 0) rfl)) all0)
        have kp5 := Keep.wr kp4 W3 (Or.inl (List.mem_of_getElem? (i := 0) rfl))
        exact ih (i + 1) _ _ _ _ (by omega) (Or.inr ⟨_, rfl⟩) X3 e3 N3 O3 kp5 (o_alS hi hal hc20) (by rw [o_tks hi, o_V8app]; exact V3)
      have hc20 := o_c_le.2 hq
      refine o_iload X_ hx (y_ oD37_23) rfl ?_
      have kp6 := Keep.trans (Keep.refl h0 [d]) K_ (allS (Or.inl (List.mem_of_getElem? (i := 0) rfl)) all0)
      exact o_retI X_ hx hrt hlk (y_ oD37_25) (by decide) (by decide) (o_hQ e_ ⟨i, rfl, N_, kp6, ⟨by omega, hal, fun _ => hc20⟩, Vd_⟩)
  exact hloop _ 0 _ _ _ _ (Nat.zero_add _) (Or.inl rfl) X0 e0 N0 O0 (Keep.refl h0 [d]) o_nl0 V_d
theorem rmnbh (hw : o_HW Z a0) (ws : o_LC) (nn : Int32) (k : Nat) (h0 : Heap) (n0 : Nat) (O0 : Old Z n0 h0) (hn : nn = Int32.ofNat k) (hk : k ≤ 5) :
    o_Met l Z o_m3 jdk_52_method_2_code 1 (some (.array .byte)) ws o_R20 #[(.int nn)] h0 (Qnbh Z nn k h0 n0) := by
  refine o_enter o_pn_0 (fun m => o_ef17 m nn) (fun p e s m below meth c s₁ hx hby hml hZ hown hnm hlk hrt X0 e0 => ?_)
  have N0 := Fr.nil n0
  have y_ := @hb _ _ hby
  have k_ := @o_k _ _ hw
  refine o_iloadN X0 hx (y_ oD3_0) rfl ?_
  refine o_sta (y := o_m2) (argsL := [(.int nn)]) (S := []) (W := 0) X0 hx hZ hown (k_ 304 rfl) (k_ 305 rfl) (k_ 247 rfl) (k_ 306 rfl) (backOf (W := 0) (rmnbg l Z a0 hw [] nn k h0 n0 O0 hn (by omega)) hZ (k_ 306 rfl) (k_ 247 rfl) (by decide) (by decide)) e0 hml (lenOf o_pd__28I_29I rfl) (y_ oD3_1) (fun T1 L1 v1 X1 hQ1 => ?_)
  obtain ⟨rfl, N1q, hh1⟩ := hQ1
  have N1 := Fr.app N0 N1q
  show o_G p e below _ T1 (mkF m 4 #[vI nn] [(.int (Int32.ofNat (2 * k)))])
  refine o_newE (cap := 10) X1 hx hZ (k_ 18 rfl) hh1 (y_ oD3_4) (o_on (by omega)) (by rw [o_oc (by omega)]; omega) (fun T2 h2 k2 b2 X2 e2 gg2 E2 V2 A2 => ?_)
  have g_b2 := o_fresh O0 gg2
  have O2 := Old.ext O0 E2
  have kp3 := Keep.ext (Keep.refl h0 []) E2
  exact o_retA X2 hx hrt hlk rfl rfl rfl (y_ oD3_6) (by decide) (by decide) (o_hQ e2 ⟨b2, rfl, N1, kp3, g_b2, (Nat.le_trans (Keep.refl h0 []).1 (Nat.le_of_eq gg2.symm)), A2, _, V2⟩)
theorem rmtby (hw : o_HW Z a0) (ws : o_LC) (a : Addr) (nn : Int32) (ka : ClassId) (cs : List Int32) (h0 : Heap) (n0 : Nat) (O0 : Old Z n0 h0) (V_a : Arv Z h0 a ka .char nn (cs.map Value.int) (.int 0)) (hn : nn = (Int32.ofNat cs.length)) (h16 : o_c16 cs) (hl : cs.length ≤ 5) (S_u : o_SU Z) :
    o_Met l Z o_m38 oJ24 5 (some (.array .byte)) ws o_R21 #[(.ref a), (.int 0), (.int nn)] h0 (Qtby Z a nn ka cs h0 n0) := by
  refine o_enter o_pn_0 (fun m => o_ef20 m a nn) (fun p e s m below meth c s₁ hx hby hml hZ hown hnm hlk hrt X0 e0 => ?_)
  have N0 := Fr.nil n0
  have y_ := @hb _ _ hby
  have k_ := @o_k _ _ hw
  refine o_iloadN X0 hx (y_ oD38_0) rfl ?_
  refine o_sta (y := o_m3) (argsL := [(.int nn)]) (S := []) (W := 0) X0 hx hZ hown (k_ 301 rfl) (k_ 302 rfl) (k_ 247 rfl) (k_ 303 rfl) (backOf (W := 0) (rmnbh l Z a0 hw [] nn cs.length h0 n0 O0 hn hl) hZ (k_ 303 rfl) (k_ 247 rfl) (by decide) (by decide)) e0 hml (lenOf o_pd__28I_29_5bB rfl) (y_ oD38_1) (fun T1 L1 v1 X1 hQ1 => ?_)
  obtain ⟨t1, rfl, N1q, Kp1, g_t1, ht1, Et1, ka1, Va1⟩ := hQ1
  have N1 := Fr.app N0 N1q
  have O2 := Old.keep O0 Kp1 all0
  show o_G p e below _ T1 (mkF m 4 #[vR a, vI 0, vI nn, .unset, .unset] [(.ref t1)])
  refine o_astoreN X1 hx (y_ oD38_4) rfl (A' := #[vR a, vI 0, vI nn, vR t1, .unset]) rfl ?_
  refine o_iconst X1 hx (y_ oD38_5) (x := 0) rfl ?_
  refine o_istore X1 hx (y_ oD38_6) (A' := #[vR a, vI 0, vI nn, vR t1, vI 0]) rfl ?_
  have kp3 := Keep.trans (Keep.refl h0 []) Kp1 all0
  have hloop : ∀ (kq i : Nat) (T_ : State) (h_ : Heap) (L_ : List Loc), i + kq = cs.length → Stand p l e o_R21 s m #[(.ref a), (.int 0), (.int nn)] below meth c T_ L_ (0 + 1) (0 + 10) → T_.heap = h_ → Fr n0 L_ → Old Z n0 h_ → Keep h0 h_ [] → Exa Z h_ t1 "[B" → Arv Z h_ t1 ka1 .byte (Int32.ofNat (2 * cs.length)) (o_V16 (cs.take i)) (.int 0) → o_G p e below (o_E s (Qtby Z a nn ka cs h0 n0) o_R21.cells o_R21.slots) T_ (mkF m 8 #[vR a, vI (Int32.ofNat i), vI nn, vR t1, vI (Int32.ofNat i)] []) := by
    intro kq
    induction kq with
    | zero =>
      intro i T_ h_ L_ hik X_ e_ N_ O_ K_ Et_ Vt_
      refine o_iload X_ hx (y_ oD38_8) rfl ?_
      refine o_iloadN X_ hx (y_ oD38_10) rfl ?_
      refine o_iC (t := 32) X_ hx (y_ oD38_11) (fun hq => ?_) (fun hq => ?_)
      · have hc11 := o_c_ge.1 hq
        refine o_aloadN X_ hx (y_ oD38_32) rfl rfl ?_
        have kp4 := Keep.trans (Keep.refl h0 []) K_ all0
        exact o_retA X_ hx hrt hlk rfl rfl rfl (y_ oD38_33) (by decide) (by decide) (o_hQ e_ ⟨t1, rfl, N_, kp4, g_t1, (Nat.le_trans (Keep.refl h0 []).1 ht1), Et_, _, by have q := Vt_; rw [o_tk (by omega)] at q; exact q⟩)
      have hc11 := o_c_ge.2 hq
      exact absurd hc11 (by rw [hn]; exact o_nltO hik)
    | succ kq ih =>
      intro i T_ h_ L_ hik X_ e_ N_ O_ K_ Et_ Vt_
      have hi : i < cs.length := by omega
      refine o_iload X_ hx (y_ oD38_8) rfl ?_
      refine o_iloadN X_ hx (y_ oD38_10) rfl ?_
      refine o_iC (t := 32) X_ hx (y_ oD38_11) (fun hq => ?_) (fun hq => ?_)
      · have hc11 := o_c_ge.1 hq
        exact absurd (by rw [hn]; exact o_ltO hi (by omega)) hc11
      have hc11 := o_c_ge.2 hq
      refine o_aloadN X_ hx (y_ oD38_14) rfl rfl ?_
      refine o_iload X_ hx (y_ oD38_15) rfl ?_
      refine o_aloadN X_ hx (y_ oD38_17) rfl rfl ?_
      refine o_iloadN X_ hx (y_ oD38_18) rfl ?_
      have c5 := (Arv.keep V_a K_ nin0)
      refine o_cload (v := (.int (cs.getD i 0))) X_ hx hZ e_ c5 (y_ oD38_19) ⟨o_on (by omega), by rw [hn]; exact o_ltO hi (by omega)⟩ (by rw [o_oc (by omega)]; exact o_mget hi) ?_
      refine o_sta (y := o_m1) (argsL := [(.ref t1), (.int (Int32.ofNat i)), (.int (cs.getD i 0))]) (S := []) (W := 0) X_ hx hZ hown (k_ 308 rfl) (k_ 309 rfl) (k_ 247 rfl) (k_ 310 rfl) (backOf (W := 0) (rmpch l Z a0 hw [] t1 (Int32.ofNat i) (cs.getD i 0) ka1 (Int32.ofNat (2 * cs.length)) (cs.take i) h_ n0 O_ Vt_ (o_on (by omega)) (fun c hc => h16 c (List.mem_of_mem_take hc)) (by rw [o_tkl (by omega)]) g_t1 (by rw [o_tkl (by omega), o_oc (by omega)]; omega) S_u) hZ (k_ 310 rfl) (k_ 247 rfl) (by decide) (by decide)) e_ hml (lenOf o_pd__28_5bBII_29V rfl) (y_ oD38_20) (fun T6 L6 v6 X6 hQ6 => ?_)
      obtain ⟨rfl, N6q, Kp6, Va6⟩ := hQ6
      have N6 := Fr.app N_ N6q
      have O7 := Old.keep O_ Kp6 (allS g_t1 all0)
      show o_G p e below _ T6 (mkF m 23 #[vR a, vI (Int32.ofNat i), vI nn, vR t1, vI (Int32.ofNat i)] [])
      refine o_iinc X6 hx (y_ oD38_23) (y := 1) rfl rfl (A' := #[vR a, vI ((Int32.ofNat i) + (1 : Int32)), vI nn, vR t1, vI (Int32.ofNat i)]) rfl ?_
      refine o_iinc X6 hx (y_ oD38_26) (y := 1) rfl rfl (A' := #[vR a, vI ((Int32.ofNat i) + (1 : Int32)), vI nn, vR t1, vI ((Int32.ofNat i) + (1 : Int32))]) rfl ?_
      refine o_gO (t := 8) X6 hx (y_ oD38_29) ?_
      rw [show (Int32.ofNat i + 1 : Int32) = Int32.ofNat (i + 1) from o_oadd i 1]
      have kp8 := Keep.trans (Keep.refl h0 []) K_ all0
      have kp9 := Keep.trans kp8 Kp6 (allS (Or.inr (Nat.le_trans (Keep.refl h0 []).1 ht1)) all0)
      have c10 := (Exa.keep Et_ Kp6)
      exact ih (i + 1) _ _ _ (by omega) X6 rfl N6 O7 kp9 c10 (by rw [o_tks hi]; exact Va6)
  exact hloop _ 0 _ _ _ (Nat.zero_add _) X1 rfl N1 O2 kp3 Et1 Va1
theorem rmcpg (hw : o_HW Z a0) (ws : o_LC) (a : Addr) (nn : Int32) (ka : ClassId) (cs : List Int32) (h0 : Heap) (n0 : Nat) (O0 : Old Z n0 h0) (V_a : Arv Z h0 a ka .char nn (cs.map Value.int) (.int 0)) (hn : nn = (Int32.ofNat cs.length)) (h16 : o_c16 cs) (hl1 : 1 ≤ cs.length) (hqq : cs.length ≤ 5) (S_u : o_SU Z) :
    o_Met l Z o_m39 oJ13 6 (some (.array .byte)) ws o_R22 #[(.ref a), (.int 0), (.int nn)] h0 (Qcpg Z a nn ka cs h0 n0) := by
  refine o_enter o_pn_0 (fun m => o_ef22 m a nn) (fun p e s m below meth c s₁ hx hby hml hZ hown hnm hlk hrt X0 e0 => ?_)
  have N0 := Fr.nil n0
  have y_ := @hb _ _ hby
  have k_ := @o_k _ _ hw
  refine o_iloadN X0 hx (y_ oD39_0) rfl ?_
  refine o_newE (cap := 5) X0 hx hZ (k_ 18 rfl) e0 (y_ oD39_1) (by rw [hn]; exact o_on (by omega)) (by rw [hn, o_oc (by omega)]; exact hqq) (fun T1 h1 k1 b1 X1 e1 gg1 E1 V1 A1 => ?_)
  have g_b1 := o_fresh O0 gg1
  have O1 := Old.ext O0 E1
  refine o_astoreN X1 hx (y_ oD39_3) rfl (A' := #[vR a, vI 0, vI nn, vR b1, .unset, .unset]) rfl ?_
  refine o_aloadN X1 hx (y_ oD39_4) rfl rfl ?_
  refine o_iloadN X1 hx (y_ oD39_5) rfl ?_
  refine o_aloadN X1 hx (y_ oD39_6) rfl rfl ?_
  refine o_iconst X1 hx (y_ oD39_7) (x := 0) rfl ?_
  refine o_iloadN X1 hx (y_ oD39_8) rfl ?_
  have c2 := (Arv.ext V_a E1)
  refine o_sta (y := o_m37) (argsL := [(.ref a), (.int 0), (.ref b1), (.int 0), (.int nn)]) (S := []) (W := 0) X1 hx hZ hown (k_ 249 rfl) (k_ 250 rfl) (k_ 247 rfl) (k_ 251 rfl) (backOf (W := 0) (rmcci l Z a0 hw [] a b1 nn ka k1 cs h1 n0 O1 c2 hn V1 g_b1 (o_ng V_a.lt gg1) (by omega)) hZ (k_ 251 rfl) (k_ 247 rfl) (by decide) (by decide)) e1 hml (lenOf o_pd__28_5bCI_5bBII_29I rfl) (y_ oD39_9) (fun T3 L3 v3 X3 hQ3 => ?_)
  obtain ⟨j3, rfl, N3q, Kp3, hcut3, Vd3⟩ := hQ3
  have N3 := Fr.app N0 N3q
  have O4 := Old.keep O1 Kp3 (allS g_b1 all0)
  show o_G p e below _ T3 (mkF m 12 #[vR a, vI 0, vI nn, vR b1, .unset, .unset] [(.int (Int32.ofNat j3))])
  refine o_istore X3 hx (y_ oD39_12) (A' := #[vR a, vI 0, vI nn, vR b1, vI (Int32.ofNat j3), .unset]) rfl ?_
  refine o_iload X3 hx (y_ oD39_14) rfl ?_
  refine o_iloadN X3 hx (y_ oD39_16) rfl ?_
  refine o_iC (t := 57) X3 hx (y_ oD39_17) (fun hq => ?_) (fun hq => ?_)
  · have hc17 := o_c_eq.1 hq
    refine o_aloadN X3 hx (y_ oD39_57) rfl rfl ?_
    have kp5 := Keep.ext (Keep.refl h0 []) E1
    have kp6 := Keep.trans kp5 Kp3 (allS (Or.inr (Nat.le_trans (Keep.refl h0 []).1 (Nat.le_of_eq gg1.symm))) all0)
    have c7 := (Exa.keep A1 Kp3)
    exact o_retA X3 hx hrt hlk rfl rfl rfl (y_ oD39_58) (by decide) (by decide) ⟨b1, 0, _, rfl, N3, kp6, g_b1, (Nat.le_trans (Keep.refl h0 []).1 (Nat.le_of_eq gg1.symm)), c7, (by rw [o_vi0, o_vl0]; have q := Vd3; rw [(o_cutT hcut3 h16 (by omega) (hc17.trans hn)).2, hn] at q; exact q), by omega, h16, Or.inl ⟨rfl, (o_cutT hcut3 h16 (by omega) (hc17.trans hn)).1⟩⟩
  have hc17 := o_c_eq.2 hq
  refine o_aloadN X3 hx (y_ oD39_20) rfl rfl ?_
  refine o_iloadN X3 hx (y_ oD39_21) rfl ?_
  refine o_iloadN X3 hx (y_ oD39_22) rfl ?_
  have c8 := (Arv.keep c2 Kp3 (ninS (o_ng V_a.lt gg1) nin0))
  refine o_sta (y := o_m38) (argsL := [(.ref a), (.int 0), (.int nn)]) (S := []) (W := 0) X3 hx hZ hown (k_ 298 rfl) (k_ 299 rfl) (k_ 247 rfl) (k_ 300 rfl) (backOf (W := 0) (rmtby l Z a0 hw [] a nn ka cs T3.heap n0 O4 c8 hn h16 hqq S_u) hZ (k_ 300 rfl) (k_ 247 rfl) (by decide) (by decide)) rfl hml (lenOf o_pd__28_5bCII_29_5bB rfl) (y_ oD39_23) (fun T9 L9 v9 X9 hQ9 => ?_)
  obtain ⟨t9, rfl, N9q, Kp9, g_t9, ht9, Et9, ka9, Va9⟩ := hQ9
  have N9 := Fr.app N3 N9q
  have O10 := Old.keep O4 Kp9 all0
  show o_G p e below _ T9 (mkF m 26 #[vR a, vI 0, vI nn, vR b1, vI (Int32.ofNat j3), .unset] [(.ref t9)])
  refine o_astore X9 hx (y_ oD39_26) rfl (A' := #[vR a, vI 0, vI nn, vR b1, vI (Int32.ofNat j3), vR t9]) rfl ?_
  refine o_aload X9 hx (y_ oD39_28) rfl rfl ?_
  refine o_iload X9 hx (y_ oD39_30) rfl ?_
  refine o_sta (y := o_m0) (argsL := [(.ref t9), (.int (Int32.ofNat j3))]) (S := []) (W := 0) X9 hx hZ hown (k_ 314 rfl) (k_ 315 rfl) (k_ 247 rfl) (k_ 316 rfl) (backOf (W := 0) (rmgch l Z a0 hw [] t9 (Int32.ofNat j3) ka9 (Int32.ofNat (2 * cs.length)) cs j3 T9.heap n0 O10 Va9 (o_on (by omega)) h16 rfl (o_cutF hcut3 (hn ▸ hc17)) (o_zs (by omega)) S_u) hZ (k_ 316 rfl) (k_ 247 rfl) (by decide) (by decide)) rfl hml (lenOf o_pd__28_5bBI_29C rfl) (y_ oD39_32) (fun T11 L11 v11 X11 hQ11 => ?_)
  obtain ⟨rfl, N11q, hh11⟩ := hQ11
  have N11 := Fr.app N9 N11q
  show o_G p e below _ T11 (mkF m 35 #[vR a, vI 0, vI nn, vR b1, vI (Int32.ofNat j3), vR t9] [(.int (cs.getD j3 0))])
  refine o_sipush X11 hx (y_ oD39_35) (x := 255) rfl ?_
  refine o_iC (t := 54) X11 hx (y_ oD39_38) (fun hq => ?_) (fun hq => ?_)
  · have hc38 := o_c_gt.1 hq
    refine o_aload X11 hx (y_ oD39_54) rfl rfl ?_
    have kp12 := Keep.ext (Keep.refl h0 []) E1
    have kp13 := Keep.trans kp12 Kp3 (allS (Or.inr (Nat.le_trans (Keep.refl h0 []).1 (Nat.le_of_eq gg1.symm))) all0)
    have kp14 := Keep.trans kp13 Kp9 all0
    exact o_retA X11 hx hrt hlk rfl rfl rfl (y_ oD39_56) (by decide) (by decide) (o_hQ hh11 ⟨t9, 1, _, rfl, N11, kp14, g_t9, (Nat.le_trans kp13.1 ht9), Et9, (by rw [o_vi1, o_vl1]; exact Va9), by omega, h16, Or.inr ⟨rfl, o_bigOf (o_cutF hcut3 (hn ▸ hc17)) (hcut3.2.2 (o_cutF hcut3 (hn ▸ hc17)))⟩⟩)
  have hc38 := o_c_gt.2 hq
  exact absurd (hcut3.2.2 (o_cutF hcut3 (hn ▸ hc17))) hc38
theorem rmsif (hw : o_HW Z a0) (ws : o_LC) (x : Addr) (a : Addr) (nn : Int32) (ka : ClassId) (cs : List Int32) (zC_ : Int32) (h0 : Heap) (n0 : Nat) (O0 : Old Z n0 h0) (E_x : Exa Z h0 x "java/lang/String") (F_v : o_FV Z h0 x .null) (F_c : o_FC Z h0 x (.int 0)) (g_x : n0 ≤ x) (V_a : Arv Z h0 a ka .char nn (cs.map Value.int) (.int 0)) (hn : nn = (Int32.ofNat cs.length)) (h16 : o_c16 cs) (hl1 : 1 ≤ cs.length) (hqq : cs.length ≤ 5) (S_u : o_SU Z) (SC_ : o_SC Z zC_) (hC_ : ¬ zC_ = 0) :
    o_Met l Z o_m40 oJ23 6 none ws o_R23 #[(.ref x), (.ref a), (.int 0), (.int nn), .null] h0 (Qsif Z x a nn ka cs zC_ h0 n0) := by
  refine o_enter o_pn_1 (fun m => o_ef23 m x a nn) (fun p e s m below meth c s₁ hx hby hml hZ hown hnm hlk hrt X0 e0 => ?_)
  have N0 := Fr.nil n0
  have y_ := @hb _ _ hby
  have k_ := @o_k _ _ hw
  refine o_aloadN X0 hx (y_ oD40_0) rfl rfl ?_
  refine o_initO (W := 0) X0 hx hZ hown (k_ 23 rfl) (k_ 24 rfl) (k_ 25 rfl) e0 (by rw [hml]; rfl) (y_ oD40_1) (by decide) (Nat.le_of_eq rfl) (by decide) (fun T1 X1 e1 => ?_)
  refine o_iloadN X1 hx (y_ oD40_4) rfl ?_
  refine o_iF (t := 27) X1 hx (y_ oD40_5) (fun hq => ?_) (fun hq => ?_)
  · have hc5 := o_h_ne.1 hq
    refine o_getS X1 hx hZ hown (host := "") (Or.inl (k_ 8 rfl)) Via.refl e1 (Sta.ext O0.2 SC_) (y_ oD40_27) (fun T2 X2 e2 => ?_)
    refine o_iF (t := 58) X2 hx (y_ oD40_30) (fun hq => ?_) (fun hq => ?_)
    · have hc30 := o_h_eq.1 hq
      exact absurd hc30 hC_
    have hc30 := o_h_eq.2 hq
    refine o_aloadN X2 hx (y_ oD40_33) rfl rfl ?_
    refine o_iloadN X2 hx (y_ oD40_34) rfl ?_
    refine o_iloadN X2 hx (y_ oD40_35) rfl ?_
    refine o_sta (y := o_m39) (argsL := [(.ref a), (.int 0), (.int nn)]) (S := []) (W := 0) X2 hx hZ hown (k_ 245 rfl) (k_ 246 rfl) (k_ 247 rfl) (k_ 248 rfl) (backOf (W := 0) (rmcpg l Z a0 hw [] a nn ka cs h0 n0 O0 V_a hn h16 hl1 hqq S_u) hZ (k_ 248 rfl) (k_ 247 rfl) (by decide) (by decide)) e2 hml (lenOf o_pd__28_5bCII_29_5bB rfl) (y_ oD40_36) (fun T3 L3 v3 X3 hQ3 => ?_)
    obtain ⟨t3, kd3, ka3, rfl, N3q, Kp3, g_t3, ht3, Et3, Va3, AK3⟩ := hQ3
    have N3 := Fr.app N0 N3q
    have O4 := Old.keep O0 Kp3 all0
    show o_G p e below _ T3 (mkF m 39 #[vR x, vR a, vI 0, vI nn, .val .null, .unset] [(.ref t3)])
    refine o_astore X3 hx (y_ oD40_39) rfl (A' := #[vR x, vR a, vI 0, vI nn, .val .null, vR t3]) rfl ?_
    refine o_aloadN X3 hx (y_ oD40_41) rfl rfl ?_
    refine o_aload X3 hx (y_ oD40_42) rfl rfl ?_
    refine o_iloadN X3 hx (y_ oD40_44) rfl ?_
    refine o_sta (y := o_m31) (argsL := [(.ref t3), (.int nn)]) (S := [(.ref x)]) (W := 1) X3 hx hZ hown (k_ 252 rfl) (k_ 253 rfl) (k_ 247 rfl) (k_ 254 rfl) (backOf (W := 1) (rmcfl l Z a0 hw [] t3 nn ka3 (Int32.ofNat (o_vi kd3 cs).length) ((o_vi kd3 cs).map Value.int) kd3 T3.heap n0 O4 Va3 (by rw [hn]; exact AK3.cfl hl1) AK3.k01) hZ (k_ 254 rfl) (k_ 247 rfl) (by decide) (by decide)) rfl hml (lenOf o_pd__28_5bBI_29B rfl) (y_ oD40_45) (fun T5 L5 v5 X5 hQ5 => ?_)
    obtain ⟨rfl, N5q, hh5⟩ := hQ5
    have N5 := Fr.app N3 N5q
    show o_G p e below _ T5 (mkF m 48 #[vR x, vR a, vI 0, vI nn, .val .null, vR t3] [(.int kd3), (.ref x)])
    have c6 := (Exa.keep E_x Kp3)
    have c7 := (Fld.keep F_c Kp3 nin0)
    refine o_putFN (v' := (.int kd3)) X5 hx hZ hown (k_ 28 rfl) Via.refl hh5 c7 c6 (Or.inr ⟨(k_ 29 rfl), rfl, hnm⟩) (k_ 14 rfl) (ty := .byte) (by decide) (o_nrwK AK3.k01) (o_fitK AK3.k01) (y_ oD40_48) (fun T8 h8 X8 e8 W8 => ?_)
    have F8 := Fld.same W8 c7
    have N8 := Fr.snoc X8 N5 g_x
    have O8 := Old.wr O4 W8 g_x
    refine o_aloadN X8 hx (y_ oD40_51) rfl rfl ?_
    refine o_aload X8 hx (y_ oD40_52) rfl rfl ?_
    have c9 := (Exa.wr W8 c6)
    have c10 := (Fld.other W8 (Fld.keep F_v Kp3 nin0) (Or.inr (slot_ne (Or.inr (k_ 27 rfl)) (Or.inr (k_ 29 rfl)) (by decide) (t := (.array .byte)) (t' := .byte) (by decide) (by decide))))
    refine o_putF X8 hx hZ hown (host := "") (Or.inl (k_ 26 rfl)) Via.refl e8 c10 c9 (Or.inr ⟨(k_ 27 rfl), rfl, hnm⟩) (k_ 14 rfl) (ty := (.array .byte)) (by decide) rfl rfl (y_ oD40_54) (fun T11 h11 X11 e11 W11 => ?_)
    have F11 := Fld.same W11 c10
    have N11 := Fr.snoc X11 N8 g_x
    have O11 := Old.wr O8 W11 g_x
    have kp12 := Keep.trans (Keep.refl h0 [x]) Kp3 all0
    have kp13 := Keep.wr kp12 W8 (Or.inl (List.mem_of_getElem? (i := 0) rfl))
    have kp14 := Keep.wr kp13 W11 (Or.inl (List.mem_of_getElem? (i := 0) rfl))
    have c15 := (Exa.wr W11 c9)
    have c16 := (Fld.other W11 F8 (Or.inr (slot_ne (Or.inr (k_ 29 rfl)) (Or.inr (k_ 27 rfl)) (by decide) (t := .byte) (t' := (.array .byte)) (by decide) (by decide))))
    have c17 := (Arv.other (Arv.other Va3 W8 (Ne.symm (Nat.ne_of_lt (Nat.lt_of_lt_of_le E_x.lt ht3)))) W11 (Ne.symm (Nat.ne_of_lt (Nat.lt_of_lt_of_le E_x.lt ht3))))
    exact o_retV X11 hx hrt hlk (y_ oD40_57) (by decide) (by decide) (o_hQ e11 ⟨rfl, N11, kp14, t3, kd3, g_t3, (Nat.le_trans (Keep.refl h0 [x]).1 ht3), (Ne.symm (Nat.ne_of_lt (Nat.lt_of_lt_of_le E_x.lt ht3))), c15, c16, F11, ⟨_, c17⟩, AK3⟩)
  have hc5 := o_h_ne.2 hq
  exact absurd hc5 (by rw [hn]; exact o_nz hl1 (by omega))
theorem rmstc (hw : o_HW Z a0) (ws : o_LC) (x : Addr) (a : Addr) (nn : Int32) (ka : ClassId) (cs : List Int32) (zC_ : Int32) (h0 : Heap) (n0 : Nat) (O0 : Old Z n0 h0) (E_x : Exa Z h0 x "java/lang/String") (F_v : o_FV Z h0 x .null) (F_c : o_FC Z h0 x (.int 0)) (g_x : n0 ≤ x) (V_a : Arv Z h0 a ka .char nn (cs.map Value.int) (.int 0)) (hn : nn = (Int32.ofNat cs.length)) (h16 : o_c16 cs) (hl1 : 1 ≤ cs.length) (hqq : cs.length ≤ 5) (S_u : o_SU Z) (SC_ : o_SC Z zC_) (hC_ : ¬ zC_ = 0) :
    o_Met l Z o_m41 oJ46 2 none ws o_R24 #[(.ref x), (.ref a)] h0 (Qstc Z x a nn ka cs zC_ h0 n0) := by
  refine o_enter o_pn_1 (fun m => o_ef5 m x a) (fun p e s m below meth c s₁ hx hby hml hZ hown hnm hlk hrt X0 e0 => ?_)
  have N0 := Fr.nil n0
  have y_ := @hb _ _ hby
  have k_ := @o_k _ _ hw
  refine o_aloadN X0 hx (y_ oD41_0) rfl rfl ?_
  refine o_aloadN X0 hx (y_ oD41_1) rfl rfl ?_
  refine o_iconst X0 hx (y_ oD41_2) (x := 0) rfl ?_
  refine o_aloadN X0 hx (y_ oD41_3) rfl rfl ?_
  refine o_alen (n := nn) X0 hx hZ e0 V_a (y_ oD41_4) ?_
  refine o_anull X0 hx (y_ oD41_5) ?_
  refine o_ini (y := o_m40) (b := x) (argsL := [(.ref a), (.int 0), (.int nn), .null]) (S := []) (W := 0) rfl X0 hx hZ hown (k_ 242 rfl) (k_ 243 rfl) (k_ 244 rfl) (backOf (W := 0) (rmsif l Z a0 hw [] x a nn ka cs zC_ h0 n0 O0 E_x F_v F_c g_x V_a hn h16 hl1 hqq S_u SC_ hC_) hZ (k_ 244 rfl) (k_ 6 rfl) (by decide) (by decide)) e0 hml (lenOf o_pd__28_5bCIILjava_2flang_2fVoid_3b_29V rfl) (y_ oD41_6) (fun T1 L1 v1 X1 hQ1 => ?_)
  obtain ⟨rfl, N1q, Kp1, t1, kd1, g_t1, ht1, hne1, Sf1⟩ := hQ1
  have N1 := Fr.app N0 N1q
  have O2 := Old.keep O0 Kp1 (allS g_x all0)
  show o_G p e below _ T1 (mkF m 9 #[vR x, vR a] [])
  have kp3 := Keep.trans (Keep.refl h0 [x]) Kp1 (allS (Or.inl (List.mem_of_getElem? (i := 0) rfl)) all0)
  exact o_retV X1 hx hrt hlk (y_ oD41_9) (by decide) (by decide) ⟨rfl, N1, kp3, t1, kd1, g_t1, (Nat.le_trans (Keep.refl h0 [x]).1 ht1), hne1, Sf1⟩
theorem rmixa (hw : o_HW Z a0) (ws : o_LC) (a : Addr) (ln : Int32) (b : Addr) (ka : ClassId) (kb : ClassId) (cs : List Int32) (h0 : Heap) (n0 : Nat) (O0 : Old Z n0 h0) (V_a : Arv Z h0 a ka .byte (Int32.ofNat cs.length) (o_V8 cs) (.int 0)) (V_b : Arv Z h0 b kb .byte 1 [.int 42] (.int 0)) (hcs : o_chs cs) (hl1 : 1 ≤ cs.length) (hl : cs.length ≤ 8) (hns : ∀ c ∈ cs, ¬ c = 42) (hln : ln = (Int32.ofNat cs.length)) :
    o_Met l Z o_m42 oJ5 11 (some .int) ws o_R0 #[(.ref a), (.int ln), (.ref b), (.int 1), (.int 0)] h0 (o_P (some (.int (-1))) h0 n0) := by
  refine o_enter o_pn_4 (fun m => o_ef24 m a ln b) (fun p e s m below meth c s₁ hx hby hml hZ hown hnm hlk hrt X0 e0 => ?_)
  have N0 := Fr.nil n0
  have y_ := @hb _ _ hby
  have k_ := @o_k _ _ hw
  refine o_aloadN X0 hx (y_ oD42_0) rfl rfl ?_
  refine o_iconst X0 hx (y_ oD42_1) (x := 0) rfl ?_
  refine o_bload (v := (.int 42)) X0 hx hZ e0 V_b (y_ oD42_2) ⟨by decide, by decide⟩ rfl ?_
  refine o_istore X0 hx (y_ oD42_3) (A' := #[vR a, vI ln, vR b, vI 1, vI 0, vI 42, .unset, .unset, .unset, .unset, .unset]) rfl ?_
  refine o_iloadN X0 hx (y_ oD42_5) rfl ?_
  refine o_iloadN X0 hx (y_ oD42_6) rfl ?_
  refine o_isub X0 hx (y_ oD42_7) ?_
  refine o_valE (z := Int32.ofNat (cs.length - 1)) (by rw [hln]; exact o_osub1 hl1) ?_
  refine o_istore X0 hx (y_ oD42_8) (A' := #[vR a, vI ln, vR b, vI 1, vI 0, vI 42, vI (Int32.ofNat (cs.length - 1)), .unset, .unset, .unset, .unset]) rfl ?_
  refine o_iload X0 hx (y_ oD42_10) rfl ?_
  refine o_istore X0 hx (y_ oD42_12) (A' := #[vR a, vI ln, vR b, vI 1, vI 0, vI 42, vI (Int32.ofNat (cs.length - 1)), vI 0, .unset, .unset, .unset]) rfl ?_
  refine o_iload X0 hx (y_ oD42_14) rfl ?_
  refine o_iload X0 hx (y_ oD42_16) rfl ?_
  refine o_iC (t := 119) X0 hx (y_ oD42_18) (fun hq => ?_) (fun hq => ?_)
  · have hc18 := o_c_gt.1 hq
    exact absurd hc18 (o_on (by omega))
  have hc18 := o_c_gt.2 hq
  refine o_aloadN X0 hx (y_ oD42_21) rfl rfl ?_
  refine o_iload X0 hx (y_ oD42_22) rfl ?_
  refine o_bload (v := (.int ((cs.getD 0 0).toInt8.toInt32))) X0 hx hZ e0 V_a (y_ oD42_24) ⟨by decide, o_ltO (i := 0) hl1 (by omega)⟩ (o_V8get (i := 0) hl1) ?_
  refine o_iload X0 hx (y_ oD42_25) rfl ?_
  refine o_iC (t := 52) X0 hx (y_ oD42_27) (fun hq => ?_) (fun hq => ?_)
  · have hc27 := o_c_eq.1 hq
    exact absurd ((o_c42 hcs hl1).mp hc27) (o_nsg hns hl1)
  have hc27 := o_c_eq.2 hq
  have hloop : ∀ (k i : Nat), i + k + 1 = cs.length → o_G p e below (o_E s (o_P (some (.int (-1))) h0 n0) o_R0.cells o_R0.slots) s₁ (mkF m 30 #[vR a, vI ln, vR b, vI 1, vI 0, vI 42, vI (Int32.ofNat (cs.length - 1)), vI (Int32.ofNat i), .unset, .unset, .unset] []) := by
    intro k
    induction k with
    | zero =>
      intro i hik
      refine o_iinc X0 hx (y_ oD42_30) (y := 1) rfl rfl (A' := #[vR a, vI ln, vR b, vI 1, vI 0, vI 42, vI (Int32.ofNat (cs.length - 1)), vI ((Int32.ofNat i) + (1 : Int32)), .unset, .unset, .unset]) rfl ?_
      rw [show (Int32.ofNat i + 1 : Int32) = Int32.ofNat (i + 1) from o_oadd i 1]
      refine o_iload X0 hx (y_ oD42_33) rfl ?_
      refine o_iload X0 hx (y_ oD42_35) rfl ?_
      refine o_iC (t := 52) X0 hx (y_ oD42_37) (fun hq => ?_) (fun hq => ?_)
      · have hc37 := o_c_gt.1 hq
        refine o_iload X0 hx (y_ oD42_52) rfl ?_
        refine o_iload X0 hx (y_ oD42_54) rfl ?_
        refine o_iC (t := 113) X0 hx (y_ oD42_56) (fun hq => ?_) (fun hq => ?_)
        · have hc56 := o_c_gt.1 hq
          refine o_iinc X0 hx (y_ oD42_113) (y := 1) rfl rfl (A' := #[vR a, vI ln, vR b, vI 1, vI 0, vI 42, vI (Int32.ofNat (cs.length - 1)), vI ((Int32.ofNat (i + 1)) + (1 : Int32)), .unset, .unset, .unset]) rfl ?_
          rw [show (Int32.ofNat (i + 1) + 1 : Int32) = Int32.ofNat (i + 2) from o_oadd (i + 1) 1]
          refine o_gO (t := 14) X0 hx (y_ oD42_116) ?_
          refine o_iload X0 hx (y_ oD42_14) rfl ?_
          refine o_iload X0 hx (y_ oD42_16) rfl ?_
          refine o_iC (t := 119) X0 hx (y_ oD42_18) (fun hq => ?_) (fun hq => ?_)
          · have hc18 := o_c_gt.1 hq
            refine o_iconst X0 hx (y_ oD42_119) (x := (-1 : Int32)) rfl ?_
            exact o_retI X0 hx hrt hlk (y_ oD42_120) (by decide) (by decide) (o_hQ e0 ⟨rfl, N0, rfl⟩)
          have hc18 := o_c_gt.2 hq
          exact absurd (o_ltO (by omega) (by omega)) hc18
        have hc56 := o_c_gt.2 hq
        exact absurd (o_ltO (by omega) (by omega)) hc56
      have hc37 := o_c_gt.2 hq
      exact absurd (o_ltO (by omega) (by omega)) hc37
    | succ k ih =>
      intro i hik
      refine o_iinc X0 hx (y_ oD42_30) (y := 1) rfl rfl (A' := #[vR a, vI ln, vR b, vI 1, vI 0, vI 42, vI (Int32.ofNat (cs.length - 1)), vI ((Int32.ofNat i) + (1 : Int32)), .unset, .unset, .unset]) rfl ?_
      rw [show (Int32.ofNat i + 1 : Int32) = Int32.ofNat (i + 1) from o_oadd i 1]
      refine o_iload X0 hx (y_ oD42_33) rfl ?_
      refine o_iload X0 hx (y_ oD42_35) rfl ?_
      refine o_iC (t := 52) X0 hx (y_ oD42_37) (fun hq => ?_) (fun hq => ?_)
      · have hc37 := o_c_gt.1 hq
        exact absurd hc37 (o_nlt (by omega) (by omega))
      have hc37 := o_c_gt.2 hq
      refine o_aloadN X0 hx (y_ oD42_40) rfl rfl ?_
      refine o_iload X0 hx (y_ oD42_41) rfl ?_
      refine o_bload (v := (.int ((cs.getD (i + 1) 0).toInt8.toInt32))) X0 hx hZ e0 V_a (y_ oD42_43) ⟨o_on (by omega), o_ltO (by omega) (by omega)⟩ (by rw [o_oc (by omega)]; exact o_V8get (by omega)) ?_
      refine o_iload X0 hx (y_ oD42_44) rfl ?_
      refine o_iC (t := 52) X0 hx (y_ oD42_46) (fun hq => ?_) (fun hq => ?_)
      · have hc46 := o_c_eq.1 hq
        exact absurd ((o_c42 hcs (show i + 1 < cs.length by omega)).mp hc46) (o_nsg hns (show i + 1 < cs.length by omega))
      have hc46 := o_c_eq.2 hq
      refine o_gO (t := 30) X0 hx (y_ oD42_49) ?_
      exact ih (i + 1) (by omega)
  exact hloop (cs.length - 1) 0 (by omega)
theorem rmixb (hw : o_HW Z a0) (ws : o_LC) (a : Addr) (b : Addr) (ka : ClassId) (kb : ClassId) (cs : List Int32) (h0 : Heap) (n0 : Nat) (O0 : Old Z n0 h0) (V_a : Arv Z h0 a ka .byte (Int32.ofNat cs.length) (o_V8 cs) (.int 0)) (V_b : Arv Z h0 b kb .byte 1 [.int 42] (.int 0)) (hcs : o_chs cs) (hl1 : 1 ≤ cs.length) (hl : cs.length ≤ 8) (hns : ∀ c ∈ cs, ¬ c = 42) :
    o_Met l Z o_m43 oJ26 2 (some .int) ws o_R25 #[(.ref a), (.ref b)] h0 (o_P (some (.int (-1))) h0 n0) := by
  refine o_enter o_pn_4 (fun m => o_ef5 m a b) (fun p e s m below meth c s₁ hx hby hml hZ hown hnm hlk hrt X0 e0 => ?_)
  have N0 := Fr.nil n0
  have y_ := @hb _ _ hby
  have k_ := @o_k _ _ hw
  refine o_aloadN X0 hx (y_ oD43_0) rfl rfl ?_
  refine o_alen (n := 1) X0 hx hZ e0 V_b (y_ oD43_1) ?_
  refine o_iFT (t := 7) X0 hx (y_ oD43_2) ?_
  refine o_aloadN X0 hx (y_ oD43_7) rfl rfl ?_
  refine o_alen (n := (Int32.ofNat cs.length)) X0 hx hZ e0 V_a (y_ oD43_8) ?_
  refine o_iF (t := 14) X0 hx (y_ oD43_9) (fun hq => ?_) (fun hq => ?_)
  · have hc9 := o_h_ne.1 hq
    refine o_aloadN X0 hx (y_ oD43_14) rfl rfl ?_
    refine o_aloadN X0 hx (y_ oD43_15) rfl rfl ?_
    refine o_alen (n := (Int32.ofNat cs.length)) X0 hx hZ e0 V_a (y_ oD43_16) ?_
    refine o_aloadN X0 hx (y_ oD43_17) rfl rfl ?_
    refine o_aloadN X0 hx (y_ oD43_18) rfl rfl ?_
    refine o_alen (n := 1) X0 hx hZ e0 V_b (y_ oD43_19) ?_
    refine o_iconst X0 hx (y_ oD43_20) (x := 0) rfl ?_
    refine o_sta (y := o_m42) (argsL := [(.ref a), (.int (Int32.ofNat cs.length)), (.ref b), (.int 1), (.int 0)]) (S := []) (W := 0) X0 hx hZ hown (k_ 295 rfl) (k_ 296 rfl) (k_ 11 rfl) (k_ 297 rfl) (backOf (W := 0) (rmixa l Z a0 hw [] a (Int32.ofNat cs.length) b ka kb cs h0 n0 O0 V_a V_b hcs hl1 hl hns rfl) hZ (k_ 297 rfl) (k_ 11 rfl) (by decide) (by decide)) e0 hml (lenOf o_pd__28_5bBI_5bBII_29I rfl) (y_ oD43_21) (fun T1 L1 v1 X1 hQ1 => ?_)
    obtain ⟨rfl, N1q, hh1⟩ := hQ1
    have N1 := Fr.app N0 N1q
    show o_G p e below _ T1 (mkF m 24 #[vR a, vR b] [(.int (-1))])
    exact o_retI X1 hx hrt hlk (y_ oD43_24) (by decide) (by decide) (o_hQ hh1 ⟨rfl, N1, rfl⟩)
  have hc9 := o_h_ne.2 hq
  exact absurd hc9 (o_nz hl1 hl)
theorem rmixc (hw : o_HW Z a0) (ws : o_LC) (x : Addr) (y : Addr) (t : Addr) (u : Addr) (cs : List Int32) (zC_ : Int32) (h0 : Heap) (n0 : Nat) (O0 : Old Z n0 h0) (S_x : o_Str Z h0 x t cs) (S_y : o_Str Z h0 y u [42]) (hl1 : 1 ≤ cs.length) (hl : cs.length ≤ 8) (hns : ∀ c ∈ cs, ¬ c = 42) (SC_ : o_SC Z zC_) (hC_ : ¬ zC_ = 0) :
    o_Met l Z o_m44 oJ11 3 (some .int) ws o_R26 #[(.ref x), (.ref y)] h0 (o_P (some (.int (-1))) h0 n0) := by
  refine o_enter o_pn_1 (fun m => o_ef8 m x y) (fun p e s m below meth c s₁ hx hby hml hZ hown hnm hlk hrt X0 e0 => ?_)
  have N0 := Fr.nil n0
  have y_ := @hb _ _ hby
  have k_ := @o_k _ _ hw
  obtain ⟨ks1, Sa1⟩ := S_x.2.2.2.1
  obtain ⟨ks2, Sb2⟩ := S_y.2.2.2.1
  have Sa2 : Arv Z h0 u ks2 .byte (1 : Int32) [.int 42] (.int 0) := Sb2
  refine o_aloadN X0 hx (y_ oD44_0) rfl rfl ?_
  refine o_vir (y := o_m4) (b := x) (argsL := []) (S := []) (W := 0) X0 hx hZ hown (k_ 82 rfl) (k_ 83 rfl) (k_ 85 rfl) (k_ 84 rfl) (backOf (W := 0) (rmcod l Z a0 hw [] x zC_ h0 n0 O0 S_x.2.1 SC_ hC_) hZ (k_ 86 rfl) (k_ 6 rfl) (by decide) (by decide)) e0 S_x.1 hml (lenOf o_pd__28_29B rfl) (y_ oD44_1) (fun T3 L3 v3 X3 hQ3 => ?_)
  obtain ⟨rfl, N3q, hh3⟩ := hQ3
  have N3 := Fr.app N0 N3q
  show o_G p e below _ T3 (mkF m 4 #[vR x, vR y, .unset] [(.int 0)])
  refine o_istoreN X3 hx (y_ oD44_4) (A' := #[vR x, vR y, vI 0]) rfl ?_
  refine o_iloadN X3 hx (y_ oD44_5) rfl ?_
  refine o_aloadN X3 hx (y_ oD44_6) rfl rfl ?_
  refine o_vir (y := o_m4) (b := y) (argsL := []) (S := [(.int 0)]) (W := 1) X3 hx hZ hown (k_ 82 rfl) (k_ 83 rfl) (k_ 85 rfl) (k_ 84 rfl) (backOf (W := 1) (rmcod l Z a0 hw [] y zC_ h0 n0 O0 S_y.2.1 SC_ hC_) hZ (k_ 86 rfl) (k_ 6 rfl) (by decide) (by decide)) hh3 S_y.1 hml (lenOf o_pd__28_29B rfl) (y_ oD44_7) (fun T4 L4 v4 X4 hQ4 => ?_)
  obtain ⟨rfl, N4q, hh4⟩ := hQ4
  have N4 := Fr.app N3 N4q
  show o_G p e below _ T4 (mkF m 10 #[vR x, vR y, vI 0] [(.int 0), (.int 0)])
  refine o_iCF X4 hx (y_ oD44_10) ?_
  refine o_aloadN X4 hx (y_ oD44_13) rfl rfl ?_
  refine o_vir (y := o_m5) (b := x) (argsL := []) (S := []) (W := 0) X4 hx hZ hown (k_ 87 rfl) (k_ 88 rfl) (k_ 90 rfl) (k_ 89 rfl) (backOf (W := 0) (rmisl l Z a0 hw [] x zC_ h0 n0 O0 S_x.2.1 SC_ hC_) hZ (k_ 91 rfl) (k_ 6 rfl) (by decide) (by decide)) hh4 S_x.1 hml (lenOf o_pd__28_29Z rfl) (y_ oD44_14) (fun T5 L5 v5 X5 hQ5 => ?_)
  obtain ⟨rfl, N5q, hh5⟩ := hQ5
  have N5 := Fr.app N4 N5q
  show o_G p e below _ T5 (mkF m 17 #[vR x, vR y, vI 0] [(.int 1)])
  refine o_iFF X5 hx (y_ oD44_17) ?_
  refine o_aloadN X5 hx (y_ oD44_20) rfl rfl ?_
  refine o_getF X5 hx hZ hown (host := "") (Or.inl (k_ 26 rfl)) Via.refl hh5 S_x.2.2.1 (y_ oD44_21) (fun T6 X6 e6 => ?_)
  refine o_aloadN X6 hx (y_ oD44_24) rfl rfl ?_
  refine o_getF X6 hx hZ hown (host := "") (Or.inl (k_ 26 rfl)) Via.refl e6 S_y.2.2.1 (y_ oD44_25) (fun T7 X7 e7 => ?_)
  refine o_sta (y := o_m43) (argsL := [(.ref t), (.ref u)]) (S := []) (W := 0) X7 hx hZ hown (k_ 92 rfl) (k_ 93 rfl) (k_ 11 rfl) (k_ 94 rfl) (backOf (W := 0) (rmixb l Z a0 hw [] t u ks1 ks2 cs h0 n0 O0 Sa1 Sa2 S_x.2.2.2.2.1 hl1 hl hns) hZ (k_ 94 rfl) (k_ 11 rfl) (by decide) (by decide)) e7 hml (lenOf o_pd__28_5bB_5bB_29I rfl) (y_ oD44_28) (fun T8 L8 v8 X8 hQ8 => ?_)
  obtain ⟨rfl, N8q, hh8⟩ := hQ8
  have N8 := Fr.app N5 N8q
  show o_G p e below _ T8 (mkF m 31 #[vR x, vR y, vI 0] [(.int (-1))])
  refine o_gO (t := 45) X8 hx (y_ oD44_31) ?_
  exact o_retI X8 hx hrt hlk (y_ oD44_45) (by decide) (by decide) (o_hQ hh8 ⟨rfl, N8, rfl⟩)
theorem rmtos (hw : o_HW Z a0) (ws : o_LC) (x : Addr) (h0 : Heap) (n0 : Nat) (O0 : Old Z n0 h0) :
    o_Met l Z o_m46 jdk_42_method_126_code 1 (some (.object "java/lang/String")) ws o_R0 #[(.ref x)] h0 (o_P (some (.ref x)) h0 n0) := by
  refine o_enter o_pn_1 (fun m => o_ef3 m x) (fun p e s m below meth c s₁ hx hby hml hZ hown hnm hlk hrt X0 e0 => ?_)
  have N0 := Fr.nil n0
  have y_ := @hb _ _ hby
  have k_ := @o_k _ _ hw
  refine o_aloadN X0 hx (y_ oD45_0) rfl rfl ?_
  exact o_retA X0 hx hrt hlk rfl rfl rfl (y_ oD45_1) (by decide) (by decide) (o_hQ e0 ⟨rfl, N0, rfl⟩)
theorem rmixu (hw : o_HW Z a0) (ws : o_LC) (a : Addr) (ln : Int32) (b : Addr) (ka : ClassId) (kb : ClassId) (cs : List Int32) (h0 : Heap) (n0 : Nat) (O0 : Old Z n0 h0) (V_a : Arv Z h0 a ka .byte (Int32.ofNat (2 * cs.length)) (o_V16 cs) (.int 0)) (V_b : Arv Z h0 b kb .byte 1 [.int 42] (.int 0)) (h16 : o_c16 cs) (hl1 : 1 ≤ cs.length) (hl : cs.length ≤ 8) (hns : ∀ c ∈ cs, ¬ c = 42) (S_u : o_SU Z) (hln : ln = (Int32.ofNat cs.length)) :
    o_Met l Z o_m48 oJ2 11 (some .int) ws o_R2 #[(.ref a), (.int ln), (.ref b), (.int 1), (.int 0)] h0 (o_P (some (.int (-1))) h0 n0) := by
  refine o_enter o_pn_0 (fun m => o_ef24 m a ln b) (fun p e s m below meth c s₁ hx hby hml hZ hown hnm hlk hrt X0 e0 => ?_)
  have N0 := Fr.nil n0
  have y_ := @hb _ _ hby
  have k_ := @o_k _ _ hw
  refine o_getS X0 hx hZ hown (host := "") (Or.inl (k_ 311 rfl)) Via.refl e0 (Sta.ext O0.2 S_u.1) (y_ oD47_0) (fun T1 X1 e1 => ?_)
  refine o_iFT (t := 19) X1 hx (y_ oD47_3) ?_
  refine o_getS X1 hx hZ hown (host := "") (Or.inl (k_ 311 rfl)) Via.refl e1 (Sta.ext O0.2 S_u.1) (y_ oD47_19) (fun T2 X2 e2 => ?_)
  refine o_iFT (t := 37) X2 hx (y_ oD47_22) ?_
  refine o_getS X2 hx hZ hown (host := "") (Or.inl (k_ 311 rfl)) Via.refl e2 (Sta.ext O0.2 S_u.1) (y_ oD47_37) (fun T3 X3 e3 => ?_)
  refine o_iFT (t := 57) X3 hx (y_ oD47_40) ?_
  refine o_getS X3 hx hZ hown (host := "") (Or.inl (k_ 311 rfl)) Via.refl e3 (Sta.ext O0.2 S_u.1) (y_ oD47_57) (fun T4 X4 e4 => ?_)
  refine o_iFT (t := 76) X4 hx (y_ oD47_60) ?_
  refine o_aloadN X4 hx (y_ oD47_76) rfl rfl ?_
  refine o_iconst X4 hx (y_ oD47_77) (x := 0) rfl ?_
  refine o_bload (v := (.int 42)) X4 hx hZ e4 V_b (y_ oD47_78) ⟨by decide, by decide⟩ rfl ?_
  refine o_sipush X4 hx (y_ oD47_79) (x := 255) rfl ?_
  refine o_iand X4 hx (y_ oD47_82) ?_
  refine o_valE (z := 42) (by decide) ?_
  refine o_i2c X4 hx (y_ oD47_83) ?_
  refine o_valE (z := 42) (by decide) ?_
  refine o_istore X4 hx (y_ oD47_84) (A' := #[vR a, vI ln, vR b, vI 1, vI 0, vI 42, .unset, .unset, .unset, .unset, .unset]) rfl ?_
  refine o_iloadN X4 hx (y_ oD47_86) rfl ?_
  refine o_iloadN X4 hx (y_ oD47_87) rfl ?_
  refine o_isub X4 hx (y_ oD47_88) ?_
  refine o_valE (z := Int32.ofNat (cs.length - 1)) (by rw [hln]; exact o_osub1 hl1) ?_
  refine o_istore X4 hx (y_ oD47_89) (A' := #[vR a, vI ln, vR b, vI 1, vI 0, vI 42, vI (Int32.ofNat (cs.length - 1)), .unset, .unset, .unset, .unset]) rfl ?_
  refine o_iload X4 hx (y_ oD47_91) rfl ?_
  refine o_istore X4 hx (y_ oD47_93) (A' := #[vR a, vI ln, vR b, vI 1, vI 0, vI 42, vI (Int32.ofNat (cs.length - 1)), vI 0, .unset, .unset, .unset]) rfl ?_
  refine o_iload X4 hx (y_ oD47_95) rfl ?_
  refine o_iload X4 hx (y_ oD47_97) rfl ?_
  refine o_iC (t := 210) X4 hx (y_ oD47_99) (fun hq => ?_) (fun hq => ?_)
  · have hc99 := o_c_gt.1 hq
    exact absurd hc99 (o_on (by omega))
  have hc99 := o_c_gt.2 hq
  refine o_aloadN X4 hx (y_ oD47_102) rfl rfl ?_
  refine o_iload X4 hx (y_ oD47_103) rfl ?_
  refine o_sta (y := o_m0) (argsL := [(.ref a), (.int 0)]) (S := []) (W := 0) X4 hx hZ hown (k_ 314 rfl) (k_ 315 rfl) (k_ 247 rfl) (k_ 316 rfl) (backOf (W := 0) (rmgch l Z a0 hw [] a (0 : Int32) ka (Int32.ofNat (2 * cs.length)) cs 0 h0 n0 O0 V_a (o_zz hl) h16 rfl hl1 (o_zs hl) S_u) hZ (k_ 316 rfl) (k_ 247 rfl) (by decide) (by decide)) e4 hml (lenOf o_pd__28_5bBI_29C rfl) (y_ oD47_105) (fun T5 L5 v5 X5 hQ5 => ?_)
  obtain ⟨rfl, N5q, hh5⟩ := hQ5
  have N5 := Fr.app N0 N5q
  show o_G p e below _ T5 (mkF m 108 #[vR a, vI ln, vR b, vI 1, vI 0, vI 42, vI (Int32.ofNat (cs.length - 1)), vI 0, .unset, .unset, .unset] [(.int (cs.getD 0 0))])
  refine o_iload X5 hx (y_ oD47_108) rfl ?_
  refine o_iC (t := 137) X5 hx (y_ oD47_110) (fun hq => ?_) (fun hq => ?_)
  · have hc110 := o_c_eq.1 hq
    exact absurd hc110 (o_nsg hns hl1)
  have hc110 := o_c_eq.2 hq
  have hloop : ∀ (k i : Nat) (T_ : State) (L_ : List Loc), i + k + 1 = cs.length → Stand p l e o_R2 s m #[(.ref a), (.int ln), (.ref b), (.int 1), (.int 0)] below meth c T_ L_ (0 + 0) (0 + 0) → T_.heap = h0 → Fr n0 L_ → o_G p e below (o_E s (o_P (some (.int (-1))) h0 n0) o_R2.cells o_R2.slots) T_ (mkF m 113 #[vR a, vI ln, vR b, vI 1, vI 0, vI 42, vI (Int32.ofNat (cs.length - 1)), vI (Int32.ofNat i), .unset, .unset, .unset] []) := by
    intro k
    induction k with
    | zero =>
      intro i T_ L_ hik X_ e_ N_
      refine o_iinc X_ hx (y_ oD47_113) (y := 1) rfl rfl (A' := #[vR a, vI ln, vR b, vI 1, vI 0, vI 42, vI (Int32.ofNat (cs.length - 1)), vI ((Int32.ofNat i) + (1 : Int32)), .unset, .unset, .unset]) rfl ?_
      rw [show (Int32.ofNat i + 1 : Int32) = Int32.ofNat (i + 1) from o_oadd i 1]
      refine o_iload X_ hx (y_ oD47_116) rfl ?_
      refine o_iload X_ hx (y_ oD47_118) rfl ?_
      refine o_iC (t := 137) X_ hx (y_ oD47_120) (fun hq => ?_) (fun hq => ?_)
      · have hc120 := o_c_gt.1 hq
        refine o_iload X_ hx (y_ oD47_137) rfl ?_
        refine o_iload X_ hx (y_ oD47_139) rfl ?_
        refine o_iC (t := 204) X_ hx (y_ oD47_141) (fun hq => ?_) (fun hq => ?_)
        · have hc141 := o_c_gt.1 hq
          refine o_iinc X_ hx (y_ oD47_204) (y := 1) rfl rfl (A' := #[vR a, vI ln, vR b, vI 1, vI 0, vI 42, vI (Int32.ofNat (cs.length - 1)), vI ((Int32.ofNat (i + 1)) + (1 : Int32)), .unset, .unset, .unset]) rfl ?_
          rw [show (Int32.ofNat (i + 1) + 1 : Int32) = Int32.ofNat (i + 2) from o_oadd (i + 1) 1]
          refine o_gO (t := 95) X_ hx (y_ oD47_207) ?_
          refine o_iload X_ hx (y_ oD47_95) rfl ?_
          refine o_iload X_ hx (y_ oD47_97) rfl ?_
          refine o_iC (t := 210) X_ hx (y_ oD47_99) (fun hq => ?_) (fun hq => ?_)
          · have hc99 := o_c_gt.1 hq
            refine o_iconst X_ hx (y_ oD47_210) (x := (-1 : Int32)) rfl ?_
            exact o_retI X_ hx hrt hlk (y_ oD47_211) (by decide) (by decide) (o_hQ e_ ⟨rfl, N_, rfl⟩)
          have hc99 := o_c_gt.2 hq
          exact absurd (o_ltO (by omega) (by omega)) hc99
        have hc141 := o_c_gt.2 hq
        exact absurd (o_ltO (by omega) (by omega)) hc141
      have hc120 := o_c_gt.2 hq
      exact absurd (o_ltO (by omega) (by omega)) hc120
    | succ k ih =>
      intro i T_ L_ hik X_ e_ N_
      refine o_iinc X_ hx (y_ oD47_113) (y := 1) rfl rfl (A' := #[vR a, vI ln, vR b, vI 1, vI 0, vI 42, vI (Int32.ofNat (cs.length - 1)), vI ((Int32.ofNat i) + (1 : Int32)), .unset, .unset, .unset]) rfl ?_
      rw [show (Int32.ofNat i + 1 : Int32) = Int32.ofNat (i + 1) from o_oadd i 1]
      refine o_iload X_ hx (y_ oD47_116) rfl ?_
      refine o_iload X_ hx (y_ oD47_118) rfl ?_
      refine o_iC (t := 137) X_ hx (y_ oD47_120) (fun hq => ?_) (fun hq => ?_)
      · have hc120 := o_c_gt.1 hq
        exact absurd hc120 (o_nlt (by omega) (by omega))
      have hc120 := o_c_gt.2 hq
      refine o_aloadN X_ hx (y_ oD47_123) rfl rfl ?_
      refine o_iload X_ hx (y_ oD47_124) rfl ?_
      refine o_sta (y := o_m0) (argsL := [(.ref a), (.int (Int32.ofNat (i + 1)))]) (S := []) (W := 0) X_ hx hZ hown (k_ 314 rfl) (k_ 315 rfl) (k_ 247 rfl) (k_ 316 rfl) (backOf (W := 0) (rmgch l Z a0 hw [] a (Int32.ofNat (i + 1)) ka (Int32.ofNat (2 * cs.length)) cs (i + 1) h0 n0 O0 V_a (o_zz hl) h16 rfl (by omega) (o_zs hl) S_u) hZ (k_ 316 rfl) (k_ 247 rfl) (by decide) (by decide)) e_ hml (lenOf o_pd__28_5bBI_29C rfl) (y_ oD47_126) (fun T6 L6 v6 X6 hQ6 => ?_)
      obtain ⟨rfl, N6q, hh6⟩ := hQ6
      have N6 := Fr.app N_ N6q
      show o_G p e below _ T6 (mkF m 129 #[vR a, vI ln, vR b, vI 1, vI 0, vI 42, vI (Int32.ofNat (cs.length - 1)), vI (Int32.ofNat (i + 1)), .unset, .unset, .unset] [(.int (cs.getD (i + 1) 0))])
      refine o_iload X6 hx (y_ oD47_129) rfl ?_
      refine o_iC (t := 137) X6 hx (y_ oD47_131) (fun hq => ?_) (fun hq => ?_)
      · have hc131 := o_c_eq.1 hq
        exact absurd hc131 (o_nsg hns (show i + 1 < cs.length by omega))
      have hc131 := o_c_eq.2 hq
      refine o_gO (t := 113) X6 hx (y_ oD47_134) ?_
      exact ih (i + 1) _ _ (by omega) X6 hh6 N6
  exact hloop (cs.length - 1) 0 _ _ (by omega) X5 hh5 N5
theorem rmixl (hw : o_HW Z a0) (ws : o_LC) (a : Addr) (b : Addr) (ka : ClassId) (kb : ClassId) (cs : List Int32) (h0 : Heap) (n0 : Nat) (O0 : Old Z n0 h0) (V_a : Arv Z h0 a ka .byte (Int32.ofNat (2 * cs.length)) (o_V16 cs) (.int 0)) (V_b : Arv Z h0 b kb .byte 1 [.int 42] (.int 0)) (h16 : o_c16 cs) (hl1 : 1 ≤ cs.length) (hl : cs.length ≤ 8) (hns : ∀ c ∈ cs, ¬ c = 42) (S_u : o_SU Z) :
    o_Met l Z o_m49 oJ27 2 (some .int) ws o_R26 #[(.ref a), (.ref b)] h0 (o_P (some (.int (-1))) h0 n0) := by
  refine o_enter o_pn_0 (fun m => o_ef5 m a b) (fun p e s m below meth c s₁ hx hby hml hZ hown hnm hlk hrt X0 e0 => ?_)
  have N0 := Fr.nil n0
  have y_ := @hb _ _ hby
  have k_ := @o_k _ _ hw
  refine o_aloadN X0 hx (y_ oD48_0) rfl rfl ?_
  refine o_alen (n := 1) X0 hx hZ e0 V_b (y_ oD48_1) ?_
  refine o_iFT (t := 7) X0 hx (y_ oD48_2) ?_
  refine o_aloadN X0 hx (y_ oD48_7) rfl rfl ?_
  refine o_sta (y := o_m22) (argsL := [(.ref a)]) (S := []) (W := 0) X0 hx hZ hown (k_ 331 rfl) (k_ 332 rfl) (k_ 247 rfl) (k_ 333 rfl) (backOf (W := 0) (rmuln l Z a0 hw [] a ka (Int32.ofNat (2 * cs.length)) (o_V16 cs) cs.length h0 n0 O0 V_a (o_shr1 (by omega))) hZ (k_ 333 rfl) (k_ 247 rfl) (by decide) (by decide)) e0 hml (lenOf o_pd__28_5bB_29I rfl) (y_ oD48_8) (fun T1 L1 v1 X1 hQ1 => ?_)
  obtain ⟨rfl, N1q, hh1⟩ := hQ1
  have N1 := Fr.app N0 N1q
  show o_G p e below _ T1 (mkF m 11 #[vR a, vR b] [(.int (Int32.ofNat cs.length))])
  refine o_aloadN X1 hx (y_ oD48_11) rfl rfl ?_
  refine o_alen (n := 1) X1 hx hZ hh1 V_b (y_ oD48_12) ?_
  refine o_iC (t := 18) X1 hx (y_ oD48_13) (fun hq => ?_) (fun hq => ?_)
  · have hc13 := o_c_ge.1 hq
    refine o_aloadN X1 hx (y_ oD48_18) rfl rfl ?_
    refine o_aloadN X1 hx (y_ oD48_19) rfl rfl ?_
    refine o_sta (y := o_m22) (argsL := [(.ref a)]) (S := [(.ref a)]) (W := 1) X1 hx hZ hown (k_ 331 rfl) (k_ 332 rfl) (k_ 247 rfl) (k_ 333 rfl) (backOf (W := 1) (rmuln l Z a0 hw [] a ka (Int32.ofNat (2 * cs.length)) (o_V16 cs) cs.length h0 n0 O0 V_a (o_shr1 (by omega))) hZ (k_ 333 rfl) (k_ 247 rfl) (by decide) (by decide)) hh1 hml (lenOf o_pd__28_5bB_29I rfl) (y_ oD48_20) (fun T2 L2 v2 X2 hQ2 => ?_)
    obtain ⟨rfl, N2q, hh2⟩ := hQ2
    have N2 := Fr.app N1 N2q
    show o_G p e below _ T2 (mkF m 23 #[vR a, vR b] [(.int (Int32.ofNat cs.length)), (.ref a)])
    refine o_aloadN X2 hx (y_ oD48_23) rfl rfl ?_
    refine o_aloadN X2 hx (y_ oD48_24) rfl rfl ?_
    refine o_alen (n := 1) X2 hx hZ hh2 V_b (y_ oD48_25) ?_
    refine o_iconst X2 hx (y_ oD48_26) (x := 0) rfl ?_
    refine o_sta (y := o_m48) (argsL := [(.ref a), (.int (Int32.ofNat cs.length)), (.ref b), (.int 1), (.int 0)]) (S := []) (W := 0) X2 hx hZ hown (k_ 347 rfl) (k_ 348 rfl) (k_ 247 rfl) (k_ 349 rfl) (backOf (W := 0) (rmixu l Z a0 hw [] a (Int32.ofNat cs.length) b ka kb cs h0 n0 O0 V_a V_b h16 hl1 hl hns S_u rfl) hZ (k_ 349 rfl) (k_ 247 rfl) (by decide) (by decide)) hh2 hml (lenOf o_pd__28_5bBI_5bBII_29I rfl) (y_ oD48_27) (fun T3 L3 v3 X3 hQ3 => ?_)
    obtain ⟨rfl, N3q, hh3⟩ := hQ3
    have N3 := Fr.app N2 N3q
    show o_G p e below _ T3 (mkF m 30 #[vR a, vR b] [(.int (-1))])
    exact o_retI X3 hx hrt hlk (y_ oD48_30) (by decide) (by decide) (o_hQ hh3 ⟨rfl, N3, rfl⟩)
  have hc13 := o_c_ge.2 hq
  exact absurd hc13 (o_nlt (b := 1) hl1 (by omega))
theorem rmixd (hw : o_HW Z a0) (ws : o_LC) (x : Addr) (y : Addr) (t : Addr) (u : Addr) (cs : List Int32) (zC_ : Int32) (h0 : Heap) (n0 : Nat) (O0 : Old Z n0 h0) (S_x : o_A Z h0 x t 1 cs) (S_y : o_Str Z h0 y u [42]) (hl1 : 1 ≤ cs.length) (hl : cs.length ≤ 8) (hns : ∀ c ∈ cs, ¬ c = 42) (S_u : o_SU Z) (SC_ : o_SC Z zC_) (hC_ : ¬ zC_ = 0) :
    o_Met l Z o_m44 oJ11 3 (some .int) ws o_R27 #[(.ref x), (.ref y)] h0 (o_P (some (.int (-1))) h0 n0) := by
  refine o_enter o_pn_1 (fun m => o_ef8 m x y) (fun p e s m below meth c s₁ hx hby hml hZ hown hnm hlk hrt X0 e0 => ?_)
  have N0 := Fr.nil n0
  have y_ := @hb _ _ hby
  have k_ := @o_k _ _ hw
  obtain ⟨ks1, Sa1⟩ := S_x.uv
  obtain ⟨ks2, Sb2⟩ := S_y.2.2.2.1
  have Sa2 : Arv Z h0 u ks2 .byte (1 : Int32) [.int 42] (.int 0) := Sb2
  refine o_aloadN X0 hx (y_ oD44_0) rfl rfl ?_
  refine o_vir (y := o_m4) (b := x) (argsL := []) (S := []) (W := 0) X0 hx hZ hown (k_ 82 rfl) (k_ 83 rfl) (k_ 85 rfl) (k_ 84 rfl) (backOf (W := 0) (rmcoa l Z a0 hw [] x (1 : Int32) zC_ h0 n0 O0 S_x.2.1 S_x.ak.k01 SC_ hC_) hZ (k_ 86 rfl) (k_ 6 rfl) (by decide) (by decide)) e0 S_x.1 hml (lenOf o_pd__28_29B rfl) (y_ oD44_1) (fun T3 L3 v3 X3 hQ3 => ?_)
  obtain ⟨rfl, N3q, hh3⟩ := hQ3
  have N3 := Fr.app N0 N3q
  show o_G p e below _ T3 (mkF m 4 #[vR x, vR y, .unset] [(.int 1)])
  refine o_istoreN X3 hx (y_ oD44_4) (A' := #[vR x, vR y, vI 1]) rfl ?_
  refine o_iloadN X3 hx (y_ oD44_5) rfl ?_
  refine o_aloadN X3 hx (y_ oD44_6) rfl rfl ?_
  refine o_vir (y := o_m4) (b := y) (argsL := []) (S := [(.int 1)]) (W := 1) X3 hx hZ hown (k_ 82 rfl) (k_ 83 rfl) (k_ 85 rfl) (k_ 84 rfl) (backOf (W := 1) (rmcod l Z a0 hw [] y zC_ h0 n0 O0 S_y.2.1 SC_ hC_) hZ (k_ 86 rfl) (k_ 6 rfl) (by decide) (by decide)) hh3 S_y.1 hml (lenOf o_pd__28_29B rfl) (y_ oD44_7) (fun T4 L4 v4 X4 hQ4 => ?_)
  obtain ⟨rfl, N4q, hh4⟩ := hQ4
  have N4 := Fr.app N3 N4q
  show o_G p e below _ T4 (mkF m 10 #[vR x, vR y, vI 1] [(.int 0), (.int 1)])
  refine o_iCT (t := 46) X4 hx (y_ oD44_10) ?_
  refine o_iloadN X4 hx (y_ oD44_46) rfl ?_
  refine o_iFT (t := 52) X4 hx (y_ oD44_47) ?_
  refine o_aloadN X4 hx (y_ oD44_52) rfl rfl ?_
  refine o_getF X4 hx hZ hown (host := "") (Or.inl (k_ 26 rfl)) Via.refl hh4 S_x.2.2.1 (y_ oD44_53) (fun T5 X5 e5 => ?_)
  refine o_aloadN X5 hx (y_ oD44_56) rfl rfl ?_
  refine o_getF X5 hx hZ hown (host := "") (Or.inl (k_ 26 rfl)) Via.refl e5 S_y.2.2.1 (y_ oD44_57) (fun T6 X6 e6 => ?_)
  refine o_sta (y := o_m49) (argsL := [(.ref t), (.ref u)]) (S := []) (W := 0) X6 hx hZ hown (k_ 344 rfl) (k_ 345 rfl) (k_ 247 rfl) (k_ 346 rfl) (backOf (W := 0) (rmixl l Z a0 hw [] t u ks1 ks2 cs h0 n0 O0 Sa1 Sa2 S_x.ak.2.1 hl1 hl hns S_u) hZ (k_ 346 rfl) (k_ 247 rfl) (by decide) (by decide)) e6 hml (lenOf o_pd__28_5bB_5bB_29I rfl) (y_ oD44_60) (fun T7 L7 v7 X7 hQ7 => ?_)
  obtain ⟨rfl, N7q, hh7⟩ := hQ7
  have N7 := Fr.app N4 N7q
  show o_G p e below _ T7 (mkF m 63 #[vR x, vR y, vI 1] [(.int (-1))])
  exact o_retI X7 hx hrt hlk (y_ oD44_63) (by decide) (by decide) (o_hQ hh7 ⟨rfl, N7, rfl⟩)
theorem rmcnl (hw : o_HW Z a0) (ws : o_LC) (x : Addr) (y : Addr) (t : Addr) (u : Addr) (cs : List Int32) (zC_ : Int32) (h0 : Heap) (n0 : Nat) (O0 : Old Z n0 h0) (S_x : o_Str Z h0 x t cs) (S_y : o_Str Z h0 y u [42]) (hl1 : 1 ≤ cs.length) (hl : cs.length ≤ 8) (hns : ∀ c ∈ cs, ¬ c = 42) (SC_ : o_SC Z zC_) (hC_ : ¬ zC_ = 0) :
    o_Met l Z o_m45 oJ38 2 (some .boolean) ws o_R28 #[(.ref x), (.ref y)] h0 (o_P (some (.int 0)) h0 n0) := by
  refine o_enter o_pn_1 (fun m => o_ef5 m x y) (fun p e s m below meth c s₁ hx hby hml hZ hown hnm hlk hrt X0 e0 => ?_)
  have N0 := Fr.nil n0
  have y_ := @hb _ _ hby
  have k_ := @o_k _ _ hw
  refine o_aloadN X0 hx (y_ oD46_0) rfl rfl ?_
  refine o_aloadN X0 hx (y_ oD46_1) rfl rfl ?_
  refine o_iface (xi := o_m47) (y := o_m46) (b := y) (argsL := []) (S := [(.ref x)]) (W := 1) X0 hx hZ hown (k_ 68 rfl) (k_ 69 rfl) (mvT hZ (k_ 70 rfl)) (k_ 71 rfl) (k_ 72 rfl) (k_ 73 rfl) (k_ 74 rfl) (k_ 75 rfl) (by decide) (backOf (W := 1) (rmtos l Z a0 hw [] y h0 n0 O0) hZ (k_ 76 rfl) (k_ 6 rfl) (by decide) (by decide)) e0 S_y.1 (by rw [hml]; rfl) (lenOf o_pd__28_29Ljava_2flang_2fString_3b rfl) rfl (Nat.le_of_eq rfl) (y_ oD46_2) (by decide) (by decide) (fun T1 L1 v1 X1 hQ1 => ?_)
  obtain ⟨rfl, N1q, hh1⟩ := hQ1
  have N1 := Fr.app N0 N1q
  show o_G p e below _ T1 (mkF m 7 #[vR x, vR y] [(.ref y), (.ref x)])
  refine o_vir (y := o_m44) (b := x) (argsL := [(.ref y)]) (S := []) (W := 0) X1 hx hZ hown (k_ 77 rfl) (k_ 78 rfl) (k_ 80 rfl) (k_ 79 rfl) (backOf (W := 0) (rmixc l Z a0 hw [] x y t u cs zC_ h0 n0 O0 S_x S_y hl1 hl hns SC_ hC_) hZ (k_ 81 rfl) (k_ 6 rfl) (by decide) (by decide)) hh1 S_x.1 hml (lenOf o_pd__28Ljava_2flang_2fString_3b_29I rfl) (y_ oD46_7) (fun T2 L2 v2 X2 hQ2 => ?_)
  obtain ⟨rfl, N2q, hh2⟩ := hQ2
  have N2 := Fr.app N1 N2q
  show o_G p e below _ T2 (mkF m 10 #[vR x, vR y] [(.int (-1))])
  refine o_iFT (t := 17) X2 hx (y_ oD46_10) ?_
  refine o_iconst X2 hx (y_ oD46_17) (x := 0) rfl ?_
  exact o_retN X2 hx (t := .boolean) hrt hlk (by simp) (y_ oD46_18) rfl (by decide) (by decide) (o_hQ hh2 ⟨rfl, N2, rfl⟩)
theorem rmcnu (hw : o_HW Z a0) (ws : o_LC) (x : Addr) (y : Addr) (t : Addr) (u : Addr) (cs : List Int32) (zC_ : Int32) (h0 : Heap) (n0 : Nat) (O0 : Old Z n0 h0) (S_x : o_A Z h0 x t 1 cs) (S_y : o_Str Z h0 y u [42]) (hl1 : 1 ≤ cs.length) (hl : cs.length ≤ 8) (hns : ∀ c ∈ cs, ¬ c = 42) (S_u : o_SU Z) (SC_ : o_SC Z zC_) (hC_ : ¬ zC_ = 0) :
    o_Met l Z o_m45 oJ38 2 (some .boolean) ws o_R28 #[(.ref x), (.ref y)] h0 (o_P (some (.int 0)) h0 n0) := by
  refine o_enter o_pn_1 (fun m => o_ef5 m x y) (fun p e s m below meth c s₁ hx hby hml hZ hown hnm hlk hrt X0 e0 => ?_)
  have N0 := Fr.nil n0
  have y_ := @hb _ _ hby
  have k_ := @o_k _ _ hw
  refine o_aloadN X0 hx (y_ oD46_0) rfl rfl ?_
  refine o_aloadN X0 hx (y_ oD46_1) rfl rfl ?_
  refine o_iface (xi := o_m47) (y := o_m46) (b := y) (argsL := []) (S := [(.ref x)]) (W := 1) X0 hx hZ hown (k_ 68 rfl) (k_ 69 rfl) (mvT hZ (k_ 70 rfl)) (k_ 71 rfl) (k_ 72 rfl) (k_ 73 rfl) (k_ 74 rfl) (k_ 75 rfl) (by decide) (backOf (W := 1) (rmtos l Z a0 hw [] y h0 n0 O0) hZ (k_ 76 rfl) (k_ 6 rfl) (by decide) (by decide)) e0 S_y.1 (by rw [hml]; rfl) (lenOf o_pd__28_29Ljava_2flang_2fString_3b rfl) rfl (Nat.le_of_eq rfl) (y_ oD46_2) (by decide) (by decide) (fun T1 L1 v1 X1 hQ1 => ?_)
  obtain ⟨rfl, N1q, hh1⟩ := hQ1
  have N1 := Fr.app N0 N1q
  show o_G p e below _ T1 (mkF m 7 #[vR x, vR y] [(.ref y), (.ref x)])
  refine o_vir (y := o_m44) (b := x) (argsL := [(.ref y)]) (S := []) (W := 0) X1 hx hZ hown (k_ 77 rfl) (k_ 78 rfl) (k_ 80 rfl) (k_ 79 rfl) (backOf (W := 0) (rmixd l Z a0 hw [] x y t u cs zC_ h0 n0 O0 S_x S_y hl1 hl hns S_u SC_ hC_) hZ (k_ 81 rfl) (k_ 6 rfl) (by decide) (by decide)) hh1 S_x.1 hml (lenOf o_pd__28Ljava_2flang_2fString_3b_29I rfl) (y_ oD46_7) (fun T2 L2 v2 X2 hQ2 => ?_)
  obtain ⟨rfl, N2q, hh2⟩ := hQ2
  have N2 := Fr.app N1 N2q
  show o_G p e below _ T2 (mkF m 10 #[vR x, vR y] [(.int (-1))])
  refine o_iFT (t := 17) X2 hx (y_ oD46_10) ?_
  refine o_iconst X2 hx (y_ oD46_17) (x := 0) rfl ?_
  exact o_retN X2 hx (t := .boolean) hrt hlk (by simp) (y_ oD46_18) rfl (by decide) (by decide) (o_hQ hh2 ⟨rfl, N2, rfl⟩)
theorem rmcna (hw : o_HW Z a0) (ws : o_LC) (x : Addr) (y : Addr) (t : Addr) (u : Addr) (kd : Int32) (ds : List Int32) (zC_ : Int32) (h0 : Heap) (n0 : Nat) (O0 : Old Z n0 h0) (S_x : o_A Z h0 x t kd ds) (S_y : o_Str Z h0 y u [42]) (hns : ∀ c ∈ ds, ¬ c = 42) (hl1 : 1 ≤ ds.length) (hqq : ds.length ≤ 3) (S_u : o_SU Z) (SC_ : o_SC Z zC_) (hC_ : ¬ zC_ = 0) :
    o_Met l Z o_m45 oJ38 2 (some .boolean) ws o_R28 #[(.ref x), (.ref y)] h0 (o_P (some (.int 0)) h0 n0) := by
  rcases S_x.ak.k01 with rfl | rfl
  · exact rmcnl l Z a0 hw ws x y t u ds zC_ h0 n0 O0 S_x.str S_y hl1 S_x.ak.1 hns SC_ hC_
  · exact rmcnu l Z a0 hw ws x y t u ds zC_ h0 n0 O0 S_x S_y hl1 S_x.ak.1 hns S_u SC_ hC_
theorem rmixz (hw : o_HW Z a0) (ws : o_LC) (a : Addr) (b : Addr) (ka : ClassId) (kb : ClassId) (h0 : Heap) (n0 : Nat) (O0 : Old Z n0 h0) (V_a : Arv Z h0 a ka .byte 0 [] (.int 0)) (V_b : Arv Z h0 b kb .byte 1 [.int 42] (.int 0)) :
    o_Met l Z o_m43 oJ26 2 (some .int) ws o_R0 #[(.ref a), (.ref b)] h0 (o_P (some (.int (-1))) h0 n0) := by
  refine o_enter o_pn_4 (fun m => o_ef5 m a b) (fun p e s m below meth c s₁ hx hby hml hZ hown hnm hlk hrt X0 e0 => ?_)
  have N0 := Fr.nil n0
  have y_ := @hb _ _ hby
  have k_ := @o_k _ _ hw
  refine o_aloadN X0 hx (y_ oD43_0) rfl rfl ?_
  refine o_alen (n := 1) X0 hx hZ e0 V_b (y_ oD43_1) ?_
  refine o_iFT (t := 7) X0 hx (y_ oD43_2) ?_
  refine o_aloadN X0 hx (y_ oD43_7) rfl rfl ?_
  refine o_alen (n := 0) X0 hx hZ e0 V_a (y_ oD43_8) ?_
  refine o_iFF X0 hx (y_ oD43_9) ?_
  refine o_iconst X0 hx (y_ oD43_12) (x := (-1 : Int32)) rfl ?_
  exact o_retI X0 hx hrt hlk (y_ oD43_13) (by decide) (by decide) (o_hQ e0 ⟨rfl, N0, rfl⟩)
theorem rmiyz (hw : o_HW Z a0) (ws : o_LC) (x : Addr) (y : Addr) (t : Addr) (u : Addr) (zC_ : Int32) (h0 : Heap) (n0 : Nat) (O0 : Old Z n0 h0) (S_x : o_Str Z h0 x t []) (S_y : o_Str Z h0 y u [42]) (SC_ : o_SC Z zC_) (hC_ : ¬ zC_ = 0) :
    o_Met l Z o_m44 oJ11 3 (some .int) ws o_R2 #[(.ref x), (.ref y)] h0 (o_P (some (.int (-1))) h0 n0) := by
  refine o_enter o_pn_1 (fun m => o_ef8 m x y) (fun p e s m below meth c s₁ hx hby hml hZ hown hnm hlk hrt X0 e0 => ?_)
  have N0 := Fr.nil n0
  have y_ := @hb _ _ hby
  have k_ := @o_k _ _ hw
  obtain ⟨ks1, Sb1⟩ := S_x.2.2.2.1
  have Sa1 : Arv Z h0 t ks1 .byte (0 : Int32) [] (.int 0) := Sb1
  obtain ⟨ks2, Sb2⟩ := S_y.2.2.2.1
  have Sa2 : Arv Z h0 u ks2 .byte (1 : Int32) [.int 42] (.int 0) := Sb2
  refine o_aloadN X0 hx (y_ oD44_0) rfl rfl ?_
  refine o_vir (y := o_m4) (b := x) (argsL := []) (S := []) (W := 0) X0 hx hZ hown (k_ 82 rfl) (k_ 83 rfl) (k_ 85 rfl) (k_ 84 rfl) (backOf (W := 0) (rmcod l Z a0 hw [] x zC_ h0 n0 O0 S_x.2.1 SC_ hC_) hZ (k_ 86 rfl) (k_ 6 rfl) (by decide) (by decide)) e0 S_x.1 hml (lenOf o_pd__28_29B rfl) (y_ oD44_1) (fun T3 L3 v3 X3 hQ3 => ?_)
  obtain ⟨rfl, N3q, hh3⟩ := hQ3
  have N3 := Fr.app N0 N3q
  show o_G p e below _ T3 (mkF m 4 #[vR x, vR y, .unset] [(.int 0)])
  refine o_istoreN X3 hx (y_ oD44_4) (A' := #[vR x, vR y, vI 0]) rfl ?_
  refine o_iloadN X3 hx (y_ oD44_5) rfl ?_
  refine o_aloadN X3 hx (y_ oD44_6) rfl rfl ?_
  refine o_vir (y := o_m4) (b := y) (argsL := []) (S := [(.int 0)]) (W := 1) X3 hx hZ hown (k_ 82 rfl) (k_ 83 rfl) (k_ 85 rfl) (k_ 84 rfl) (backOf (W := 1) (rmcod l Z a0 hw [] y zC_ h0 n0 O0 S_y.2.1 SC_ hC_) hZ (k_ 86 rfl) (k_ 6 rfl) (by decide) (by decide)) hh3 S_y.1 hml (lenOf o_pd__28_29B rfl) (y_ oD44_7) (fun T4 L4 v4 X4 hQ4 => ?_)
  obtain ⟨rfl, N4q, hh4⟩ := hQ4
  have N4 := Fr.app N3 N4q
  show o_G p e below _ T4 (mkF m 10 #[vR x, vR y, vI 0] [(.int 0), (.int 0)])
  refine o_iCF X4 hx (y_ oD44_10) ?_
  refine o_aloadN X4 hx (y_ oD44_13) rfl rfl ?_
  refine o_vir (y := o_m5) (b := x) (argsL := []) (S := []) (W := 0) X4 hx hZ hown (k_ 87 rfl) (k_ 88 rfl) (k_ 90 rfl) (k_ 89 rfl) (backOf (W := 0) (rmisl l Z a0 hw [] x zC_ h0 n0 O0 S_x.2.1 SC_ hC_) hZ (k_ 91 rfl) (k_ 6 rfl) (by decide) (by decide)) hh4 S_x.1 hml (lenOf o_pd__28_29Z rfl) (y_ oD44_14) (fun T5 L5 v5 X5 hQ5 => ?_)
  obtain ⟨rfl, N5q, hh5⟩ := hQ5
  have N5 := Fr.app N4 N5q
  show o_G p e below _ T5 (mkF m 17 #[vR x, vR y, vI 0] [(.int 1)])
  refine o_iFF X5 hx (y_ oD44_17) ?_
  refine o_aloadN X5 hx (y_ oD44_20) rfl rfl ?_
  refine o_getF X5 hx hZ hown (host := "") (Or.inl (k_ 26 rfl)) Via.refl hh5 S_x.2.2.1 (y_ oD44_21) (fun T6 X6 e6 => ?_)
  refine o_aloadN X6 hx (y_ oD44_24) rfl rfl ?_
  refine o_getF X6 hx hZ hown (host := "") (Or.inl (k_ 26 rfl)) Via.refl e6 S_y.2.2.1 (y_ oD44_25) (fun T7 X7 e7 => ?_)
  refine o_sta (y := o_m43) (argsL := [(.ref t), (.ref u)]) (S := []) (W := 0) X7 hx hZ hown (k_ 92 rfl) (k_ 93 rfl) (k_ 11 rfl) (k_ 94 rfl) (backOf (W := 0) (rmixz l Z a0 hw [] t u ks1 ks2 h0 n0 O0 Sa1 Sa2) hZ (k_ 94 rfl) (k_ 11 rfl) (by decide) (by decide)) e7 hml (lenOf o_pd__28_5bB_5bB_29I rfl) (y_ oD44_28) (fun T8 L8 v8 X8 hQ8 => ?_)
  obtain ⟨rfl, N8q, hh8⟩ := hQ8
  have N8 := Fr.app N5 N8q
  show o_G p e below _ T8 (mkF m 31 #[vR x, vR y, vI 0] [(.int (-1))])
  refine o_gO (t := 45) X8 hx (y_ oD44_31) ?_
  exact o_retI X8 hx hrt hlk (y_ oD44_45) (by decide) (by decide) (o_hQ hh8 ⟨rfl, N8, rfl⟩)
theorem rmcnl0 (hw : o_HW Z a0) (ws : o_LC) (x : Addr) (y : Addr) (t : Addr) (u : Addr) (zC_ : Int32) (h0 : Heap) (n0 : Nat) (O0 : Old Z n0 h0) (S_x : o_Str Z h0 x t []) (S_y : o_Str Z h0 y u [42]) (SC_ : o_SC Z zC_) (hC_ : ¬ zC_ = 0) :
    o_Met l Z o_m45 oJ38 2 (some .boolean) ws o_R8 #[(.ref x), (.ref y)] h0 (o_P (some (.int 0)) h0 n0) := by
  refine o_enter o_pn_1 (fun m => o_ef5 m x y) (fun p e s m below meth c s₁ hx hby hml hZ hown hnm hlk hrt X0 e0 => ?_)
  have N0 := Fr.nil n0
  have y_ := @hb _ _ hby
  have k_ := @o_k _ _ hw
  refine o_aloadN X0 hx (y_ oD46_0) rfl rfl ?_
  refine o_aloadN X0 hx (y_ oD46_1) rfl rfl ?_
  refine o_iface (xi := o_m47) (y := o_m46) (b := y) (argsL := []) (S := [(.ref x)]) (W := 1) X0 hx hZ hown (k_ 68 rfl) (k_ 69 rfl) (mvT hZ (k_ 70 rfl)) (k_ 71 rfl) (k_ 72 rfl) (k_ 73 rfl) (k_ 74 rfl) (k_ 75 rfl) (by decide) (backOf (W := 1) (rmtos l Z a0 hw [] y h0 n0 O0) hZ (k_ 76 rfl) (k_ 6 rfl) (by decide) (by decide)) e0 S_y.1 (by rw [hml]; rfl) (lenOf o_pd__28_29Ljava_2flang_2fString_3b rfl) rfl (Nat.le_of_eq rfl) (y_ oD46_2) (by decide) (by decide) (fun T1 L1 v1 X1 hQ1 => ?_)
  obtain ⟨rfl, N1q, hh1⟩ := hQ1
  have N1 := Fr.app N0 N1q
  show o_G p e below _ T1 (mkF m 7 #[vR x, vR y] [(.ref y), (.ref x)])
  refine o_vir (y := o_m44) (b := x) (argsL := [(.ref y)]) (S := []) (W := 0) X1 hx hZ hown (k_ 77 rfl) (k_ 78 rfl) (k_ 80 rfl) (k_ 79 rfl) (backOf (W := 0) (rmiyz l Z a0 hw [] x y t u zC_ h0 n0 O0 S_x S_y SC_ hC_) hZ (k_ 81 rfl) (k_ 6 rfl) (by decide) (by decide)) hh1 S_x.1 hml (lenOf o_pd__28Ljava_2flang_2fString_3b_29I rfl) (y_ oD46_7) (fun T2 L2 v2 X2 hQ2 => ?_)
  obtain ⟨rfl, N2q, hh2⟩ := hQ2
  have N2 := Fr.app N1 N2q
  show o_G p e below _ T2 (mkF m 10 #[vR x, vR y] [(.int (-1))])
  refine o_iFT (t := 17) X2 hx (y_ oD46_10) ?_
  refine o_iconst X2 hx (y_ oD46_17) (x := 0) rfl ?_
  exact o_retN X2 hx (t := .boolean) hrt hlk (by simp) (y_ oD46_18) rfl (by decide) (by decide) (o_hQ hh2 ⟨rfl, N2, rfl⟩)
theorem rmis0 (hw : o_HW Z a0) (ws : o_LC) (x : Addr) (u : Addr) (h0 : Heap) (n0 : Nat) (O0 : Old Z n0 h0) (S_x : o_Str Z h0 x u []) :
    o_Met l Z o_m13 oJ43 1 (some .boolean) ws o_R0 #[(.ref x)] h0 (o_P (some (.int 1)) h0 n0) := by
  refine o_enter o_pn_1 (fun m => o_ef3 m x) (fun p e s m below meth c s₁ hx hby hml hZ hown hnm hlk hrt X0 e0 => ?_)
  have N0 := Fr.nil n0
  have y_ := @hb _ _ hby
  have k_ := @o_k _ _ hw
  obtain ⟨ks1, Sb1⟩ := S_x.2.2.2.1
  have Sa1 : Arv Z h0 u ks1 .byte (0 : Int32) [] (.int 0) := Sb1
  refine o_aloadN X0 hx (y_ oD13_0) rfl rfl ?_
  refine o_getF X0 hx hZ hown (host := "") (Or.inl (k_ 26 rfl)) Via.refl e0 S_x.2.2.1 (y_ oD13_1) (fun T2 X2 e2 => ?_)
  refine o_alen (n := 0) X2 hx hZ e2 Sa1 (y_ oD13_4) ?_
  refine o_iFF X2 hx (y_ oD13_5) ?_
  refine o_iconst X2 hx (y_ oD13_8) (x := 1) rfl ?_
  refine o_gO (t := 13) X2 hx (y_ oD13_9) ?_
  exact o_retN X2 hx (t := .boolean) hrt hlk (by simp) (y_ oD13_13) rfl (by decide) (by decide) (o_hQ e2 ⟨rfl, N0, rfl⟩)
theorem rmuif0 (hw : o_HW Z a0) (ws : o_LC) (a : Addr) (d : Addr) (ii : Int32) (ka : ClassId) (kb : ClassId) (z : Int32) (cs : List Int32) (fm : Value) (h0 : Heap) (n0 : Nat) (O0 : Old Z n0 h0) (V_a : Arv Z h0 a ka .byte z [] (.int 0)) (V_d : Arv Z h0 d kb .byte 32 (o_V16 cs) (.int 0)) (h16 : o_c16 cs) (hcl : cs.length + 0 ≤ 8) (hi : ii = Int32.ofNat cs.length) (g_d : n0 ≤ d) (hnad : a ≠ d) (S_u : o_SU Z) (S_f : o_SF Z fm) (hfm : fm.isRef = true) :
    o_Met l Z o_m50 oJ20 6 none ws o_R16 #[(.ref a), (.int 0), (.ref d), (.int ii), (.int 0)] h0 (Quif0 Z a d ii ka kb z cs fm h0 n0) := by
  refine o_enter o_pn_0 (fun m => o_ef25 m a d ii) (fun p e s m below meth c s₁ hx hby hml hZ hown hnm hlk hrt X0 e0 => ?_)
  have N0 := Fr.nil n0
  have y_ := @hb _ _ hby
  have k_ := @o_k _ _ hw
  refine o_iloadN X0 hx (y_ oD49_0) rfl ?_
  refine o_iload X0 hx (y_ oD49_1) rfl ?_
  refine o_aloadN X0 hx (y_ oD49_3) rfl rfl ?_
  refine o_sta (y := o_m23) (argsL := [(.int ii), (.int 0), (.ref d)]) (S := []) (W := 0) X0 hx hZ hown (k_ 328 rfl) (k_ 329 rfl) (k_ 247 rfl) (k_ 330 rfl) (backOf (W := 0) (rmcoc l Z a0 hw [] ii (0 : Int32) d kb 32 (o_V16 cs) 16 fm h0 n0 O0 V_d (by decide) (by rw [hi]; exact o_on (by omega)) (by decide) (by decide) (by rw [hi]; exact o_subge (n := 16) (m := 0) (by omega) (by decide)) S_f hfm) hZ (k_ 330 rfl) (k_ 247 rfl) (by decide) (by decide)) e0 hml (lenOf o_pd__28II_5bB_29V rfl) (y_ oD49_4) (fun T1 L1 v1 X1 hQ1 => ?_)
  obtain ⟨rfl, N1q, hh1⟩ := hQ1
  have N1 := Fr.app N0 N1q
  show o_G p e below _ T1 (mkF m 7 #[vR a, vI 0, vR d, vI ii, vI 0, .unset] [])
  refine o_iconst X1 hx (y_ oD49_7) (x := 0) rfl ?_
  refine o_istore X1 hx (y_ oD49_8) (A' := #[vR a, vI 0, vR d, vI ii, vI 0, vI 0]) rfl ?_
  refine o_iload X1 hx (y_ oD49_10) rfl ?_
  refine o_iload X1 hx (y_ oD49_12) rfl ?_
  refine o_iCT (t := 41) X1 hx (y_ oD49_14) ?_
  exact o_retV X1 hx hrt hlk (y_ oD49_41) (by decide) (by decide) (o_hQ hh1 ⟨rfl, N1, (Keep.refl h0 [d]), V_d⟩)
theorem rmlif0 (hw : o_HW Z a0) (ws : o_LC) (a : Addr) (d : Addr) (ii : Int32) (ka : ClassId) (kb : ClassId) (z : Int32) (cs : List Int32) (fm : Value) (h0 : Heap) (n0 : Nat) (O0 : Old Z n0 h0) (V_a : Arv Z h0 a ka .byte z [] (.int 0)) (V_d : Arv Z h0 d kb .byte 32 (o_V16 cs) (.int 0)) (h16 : o_c16 cs) (hcl : cs.length + 0 ≤ 8) (hi : ii = Int32.ofNat cs.length) (g_d : n0 ≤ d) (hnad : a ≠ d) (S_u : o_SU Z) (S_f : o_SF Z fm) (hfm : fm.isRef = true) :
    o_Met l Z o_m51 oJ49 5 none ws o_R29 #[(.ref a), (.int 0), (.ref d), (.int ii), (.int 0)] h0 (Qlif0 Z a d ii ka kb z cs fm h0 n0) := by
  refine o_enter o_pn_4 (fun m => o_ef26 m a d ii) (fun p e s m below meth c s₁ hx hby hml hZ hown hnm hlk hrt X0 e0 => ?_)
  have N0 := Fr.nil n0
  have y_ := @hb _ _ hby
  have k_ := @o_k _ _ hw
  refine o_aloadN X0 hx (y_ oD50_0) rfl rfl ?_
  refine o_iloadN X0 hx (y_ oD50_1) rfl ?_
  refine o_aloadN X0 hx (y_ oD50_2) rfl rfl ?_
  refine o_iloadN X0 hx (y_ oD50_3) rfl ?_
  refine o_iload X0 hx (y_ oD50_4) rfl ?_
  refine o_sta (y := o_m50) (argsL := [(.ref a), (.int 0), (.ref d), (.int ii), (.int 0)]) (S := []) (W := 0) X0 hx hZ hown (k_ 360 rfl) (k_ 361 rfl) (k_ 247 rfl) (k_ 362 rfl) (backOf (W := 0) (rmuif0 l Z a0 hw [] a d ii ka kb z cs fm h0 n0 O0 V_a V_d h16 hcl hi g_d hnad S_u S_f hfm) hZ (k_ 362 rfl) (k_ 247 rfl) (by decide) (by decide)) e0 hml (lenOf o_pd__28_5bBI_5bBII_29V rfl) (y_ oD50_6) (fun T1 L1 v1 X1 hQ1 => ?_)
  obtain ⟨rfl, N1q, Kp1, Va1⟩ := hQ1
  have N1 := Fr.app N0 N1q
  have O2 := Old.keep O0 Kp1 (allS g_d all0)
  show o_G p e below _ T1 (mkF m 9 #[vR a, vI 0, vR d, vI ii, vI 0] [])
  have kp3 := Keep.trans (Keep.refl h0 [d]) Kp1 (allS (Or.inl (List.mem_of_getElem? (i := 0) rfl)) all0)
  exact o_retV X1 hx hrt hlk (y_ oD50_9) (by decide) (by decide) ⟨rfl, N1, kp3, Va1⟩
theorem rmuif1 (hw : o_HW Z a0) (ws : o_LC) (a : Addr) (d : Addr) (ii : Int32) (ka : ClassId) (kb : ClassId) (z : Int32) (cs : List Int32) (fm : Value) (h0 : Heap) (n0 : Nat) (O0 : Old Z n0 h0) (V_a : Arv Z h0 a ka .byte z [.int 42] (.int 0)) (hza : (0 : Int32) < z) (V_d : Arv Z h0 d kb .byte 32 (o_V16 cs) (.int 0)) (h16 : o_c16 cs) (hcl : cs.length + 1 ≤ 8) (hi : ii = Int32.ofNat cs.length) (g_d : n0 ≤ d) (hnad : a ≠ d) (S_u : o_SU Z) (S_f : o_SF Z fm) (hfm : fm.isRef = true) :
    o_Met l Z o_m50 oJ20 6 none ws o_R16 #[(.ref a), (.int 0), (.ref d), (.int ii), (.int 1)] h0 (Quif1 Z a d ii ka kb z cs fm h0 n0) := by
  refine o_enter o_pn_0 (fun m => o_ef27 m a d ii) (fun p e s m below meth c s₁ hx hby hml hZ hown hnm hlk hrt X0 e0 => ?_)
  have N0 := Fr.nil n0
  have y_ := @hb _ _ hby
  have k_ := @o_k _ _ hw
  refine o_iloadN X0 hx (y_ oD49_0) rfl ?_
  refine o_iload X0 hx (y_ oD49_1) rfl ?_
  refine o_aloadN X0 hx (y_ oD49_3) rfl rfl ?_
  refine o_sta (y := o_m23) (argsL := [(.int ii), (.int 1), (.ref d)]) (S := []) (W := 0) X0 hx hZ hown (k_ 328 rfl) (k_ 329 rfl) (k_ 247 rfl) (k_ 330 rfl) (backOf (W := 0) (rmcoc l Z a0 hw [] ii (1 : Int32) d kb 32 (o_V16 cs) 16 fm h0 n0 O0 V_d (by decide) (by rw [hi]; exact o_on (by omega)) (by decide) (by decide) (by rw [hi]; exact o_subge (n := 16) (m := 1) (by omega) (by decide)) S_f hfm) hZ (k_ 330 rfl) (k_ 247 rfl) (by decide) (by decide)) e0 hml (lenOf o_pd__28II_5bB_29V rfl) (y_ oD49_4) (fun T1 L1 v1 X1 hQ1 => ?_)
  obtain ⟨rfl, N1q, hh1⟩ := hQ1
  have N1 := Fr.app N0 N1q
  show o_G p e below _ T1 (mkF m 7 #[vR a, vI 0, vR d, vI ii, vI 1, .unset] [])
  refine o_iconst X1 hx (y_ oD49_7) (x := 0) rfl ?_
  refine o_istore X1 hx (y_ oD49_8) (A' := #[vR a, vI 0, vR d, vI ii, vI 1, vI 0]) rfl ?_
  refine o_iload X1 hx (y_ oD49_10) rfl ?_
  refine o_iload X1 hx (y_ oD49_12) rfl ?_
  refine o_iCF X1 hx (y_ oD49_14) ?_
  refine o_aloadN X1 hx (y_ oD49_17) rfl rfl ?_
  refine o_iloadN X1 hx (y_ oD49_18) rfl ?_
  refine o_iinc X1 hx (y_ oD49_19) (y := 1) rfl rfl (A' := #[vR a, vI 0, vR d, vI (ii + (1 : Int32)), vI 1, vI 0]) rfl ?_
  refine o_aloadN X1 hx (y_ oD49_22) rfl rfl ?_
  refine o_iloadN X1 hx (y_ oD49_23) rfl ?_
  refine o_iincK X1 hx (y_ oD49_24) (y := 1) rfl rfl (z := 1) (by decide) (A' := #[vR a, vI 1, vR d, vI (ii + (1 : Int32)), vI 1, vI 0]) rfl ?_
  refine o_bload (v := (.int 42)) X1 hx hZ hh1 V_a (y_ oD49_27) ⟨by decide, hza⟩ rfl ?_
  refine o_sipush X1 hx (y_ oD49_28) (x := 255) rfl ?_
  refine o_iand X1 hx (y_ oD49_31) ?_
  refine o_valE (z := 42) (by decide) ?_
  refine o_sta (y := o_m1) (argsL := [(.ref d), (.int ii), (.int 42)]) (S := []) (W := 0) X1 hx hZ hown (k_ 308 rfl) (k_ 309 rfl) (k_ 247 rfl) (k_ 310 rfl) (backOf (W := 0) (rmpch l Z a0 hw [] d ii (42 : Int32) kb 32 cs h0 n0 O0 V_d (by decide) h16 hi g_d (show 2 * (cs.length + 1) ≤ 32 by omega) S_u) hZ (k_ 310 rfl) (k_ 247 rfl) (by decide) (by decide)) hh1 hml (lenOf o_pd__28_5bBII_29V rfl) (y_ oD49_32) (fun T2 L2 v2 X2 hQ2 => ?_)
  obtain ⟨rfl, N2q, Kp2, Va2⟩ := hQ2
  have N2 := Fr.app N1 N2q
  have O3 := Old.keep O0 Kp2 (allS g_d all0)
  show o_G p e below _ T2 (mkF m 35 #[vR a, vI 1, vR d, vI (ii + (1 : Int32)), vI 1, vI 0] [])
  refine o_iincK X2 hx (y_ oD49_35) (y := 1) rfl rfl (z := 1) (by decide) (A' := #[vR a, vI 1, vR d, vI (ii + (1 : Int32)), vI 1, vI 1]) rfl ?_
  refine o_gO (t := 10) X2 hx (y_ oD49_38) ?_
  refine o_iload X2 hx (y_ oD49_10) rfl ?_
  refine o_iload X2 hx (y_ oD49_12) rfl ?_
  refine o_iCT (t := 41) X2 hx (y_ oD49_14) ?_
  have kp4 := Keep.trans (Keep.refl h0 [d]) Kp2 (allS (Or.inl (List.mem_of_getElem? (i := 0) rfl)) all0)
  exact o_retV X2 hx hrt hlk (y_ oD49_41) (by decide) (by decide) ⟨rfl, N2, kp4, Va2⟩
theorem rmlif1 (hw : o_HW Z a0) (ws : o_LC) (a : Addr) (d : Addr) (ii : Int32) (ka : ClassId) (kb : ClassId) (z : Int32) (cs : List Int32) (fm : Value) (h0 : Heap) (n0 : Nat) (O0 : Old Z n0 h0) (V_a : Arv Z h0 a ka .byte z [.int 42] (.int 0)) (hza : (0 : Int32) < z) (V_d : Arv Z h0 d kb .byte 32 (o_V16 cs) (.int 0)) (h16 : o_c16 cs) (hcl : cs.length + 1 ≤ 8) (hi : ii = Int32.ofNat cs.length) (g_d : n0 ≤ d) (hnad : a ≠ d) (S_u : o_SU Z) (S_f : o_SF Z fm) (hfm : fm.isRef = true) :
    o_Met l Z o_m51 oJ49 5 none ws o_R29 #[(.ref a), (.int 0), (.ref d), (.int ii), (.int 1)] h0 (Qlif1 Z a d ii ka kb z cs fm h0 n0) := by
  refine o_enter o_pn_4 (fun m => o_ef28 m a d ii) (fun p e s m below meth c s₁ hx hby hml hZ hown hnm hlk hrt X0 e0 => ?_)
  have N0 := Fr.nil n0
  have y_ := @hb _ _ hby
  have k_ := @o_k _ _ hw
  refine o_aloadN X0 hx (y_ oD50_0) rfl rfl ?_
  refine o_iloadN X0 hx (y_ oD50_1) rfl ?_
  refine o_aloadN X0 hx (y_ oD50_2) rfl rfl ?_
  refine o_iloadN X0 hx (y_ oD50_3) rfl ?_
  refine o_iload X0 hx (y_ oD50_4) rfl ?_
  refine o_sta (y := o_m50) (argsL := [(.ref a), (.int 0), (.ref d), (.int ii), (.int 1)]) (S := []) (W := 0) X0 hx hZ hown (k_ 360 rfl) (k_ 361 rfl) (k_ 247 rfl) (k_ 362 rfl) (backOf (W := 0) (rmuif1 l Z a0 hw [] a d ii ka kb z cs fm h0 n0 O0 V_a hza V_d h16 hcl hi g_d hnad S_u S_f hfm) hZ (k_ 362 rfl) (k_ 247 rfl) (by decide) (by decide)) e0 hml (lenOf o_pd__28_5bBI_5bBII_29V rfl) (y_ oD50_6) (fun T1 L1 v1 X1 hQ1 => ?_)
  obtain ⟨rfl, N1q, Kp1, Va1⟩ := hQ1
  have N1 := Fr.app N0 N1q
  have O2 := Old.keep O0 Kp1 (allS g_d all0)
  show o_G p e below _ T1 (mkF m 9 #[vR a, vI 0, vR d, vI ii, vI 1] [])
  have kp3 := Keep.trans (Keep.refl h0 [d]) Kp1 (allS (Or.inl (List.mem_of_getElem? (i := 0) rfl)) all0)
  exact o_retV X1 hx hrt hlk (y_ oD50_9) (by decide) (by decide) ⟨rfl, N1, kp3, Va1⟩
theorem rmail (hw : o_HW Z a0) (ws : o_LC) (b : Addr) (t : Addr) (z : Int32) (cs : List Int32) (zC_ : Int32) (h0 : Heap) (n0 : Nat) (O0 : Old Z n0 h0) (B_b : o_Bl Z h0 b t z cs) (SC_ : o_SC Z zC_) (hC_ : ¬ zC_ = 0) :
    o_Met l Z o_m52 oJ41 1 (some .boolean) ws o_R0 #[(.ref b)] h0 (o_P (some (.int 1)) h0 n0) := by
  refine o_enter o_pn_2 (fun m => o_ef3 m b) (fun p e s m below meth c s₁ hx hby hml hZ hown hnm hlk hrt X0 e0 => ?_)
  have N0 := Fr.nil n0
  have y_ := @hb _ _ hby
  have k_ := @o_k _ _ hw
  obtain ⟨Be1, Bc1, Bv1, Bn1, ⟨kb1, Ba1⟩, Bh1, Bs1, Bm1⟩ := id B_b
  refine o_getS X0 hx hZ hown (host := "") (Or.inl (k_ 143 rfl)) Via.refl e0 (Sta.ext O0.2 SC_) (y_ oD51_0) (fun T2 X2 e2 => ?_)
  refine o_iF (t := 17) X2 hx (y_ oD51_3) (fun hq => ?_) (fun hq => ?_)
  · have hc3 := o_h_eq.1 hq
    exact absurd hc3 hC_
  have hc3 := o_h_eq.2 hq
  refine o_aloadN X2 hx (y_ oD51_6) rfl rfl ?_
  refine o_getF X2 hx hZ hown (host := "") (Or.inl (k_ 146 rfl)) Via.refl e2 Bc1 (y_ oD51_7) (fun T3 X3 e3 => ?_)
  refine o_iFF X3 hx (y_ oD51_10) ?_
  refine o_iconst X3 hx (y_ oD51_13) (x := 1) rfl ?_
  refine o_gO (t := 18) X3 hx (y_ oD51_14) ?_
  exact o_retN X3 hx (t := .boolean) hrt hlk (by simp) (y_ oD51_18) rfl (by decide) (by decide) (o_hQ e3 ⟨rfl, N0, rfl⟩)
theorem rmalu (hw : o_HW Z a0) (ws : o_LC) (b : Addr) (t : Addr) (cs : List Int32) (zC_ : Int32) (h0 : Heap) (n0 : Nat) (O0 : Old Z n0 h0) (D_b : o_Bv Z h0 b t cs.length cs) (SC_ : o_SC Z zC_) (hC_ : ¬ zC_ = 0) :
    o_Met l Z o_m52 oJ41 1 (some .boolean) ws o_R0 #[(.ref b)] h0 (o_P (some (.int 0)) h0 n0) := by
  refine o_enter o_pn_2 (fun m => o_ef3 m b) (fun p e s m below meth c s₁ hx hby hml hZ hown hnm hlk hrt X0 e0 => ?_)
  have N0 := Fr.nil n0
  have y_ := @hb _ _ hby
  have k_ := @o_k _ _ hw
  obtain ⟨De1, Dc1, Dv1, Dn1, ⟨kb1, Da1⟩, Dh1, Ds1, Dm1⟩ := id D_b
  refine o_getS X0 hx hZ hown (host := "") (Or.inl (k_ 143 rfl)) Via.refl e0 (Sta.ext O0.2 SC_) (y_ oD51_0) (fun T2 X2 e2 => ?_)
  refine o_iF (t := 17) X2 hx (y_ oD51_3) (fun hq => ?_) (fun hq => ?_)
  · have hc3 := o_h_eq.1 hq
    exact absurd hc3 hC_
  have hc3 := o_h_eq.2 hq
  refine o_aloadN X2 hx (y_ oD51_6) rfl rfl ?_
  refine o_getF X2 hx hZ hown (host := "") (Or.inl (k_ 146 rfl)) Via.refl e2 Dc1 (y_ oD51_7) (fun T3 X3 e3 => ?_)
  refine o_iFT (t := 17) X3 hx (y_ oD51_10) ?_
  refine o_iconst X3 hx (y_ oD51_17) (x := 0) rfl ?_
  exact o_retN X3 hx (t := .boolean) hrt hlk (by simp) (y_ oD51_18) rfl (by decide) (by decide) (o_hQ e3 ⟨rfl, N0, rfl⟩)
theorem rmifv (hw : o_HW Z a0) (ws : o_LC) (b : Addr) (t : Addr) (cs : List Int32) (zC_ : Int32) (h0 : Heap) (n0 : Nat) (O0 : Old Z n0 h0) (D_b : o_Bv Z h0 b t cs.length cs) (SC_ : o_SC Z zC_) (hC_ : ¬ zC_ = 0) :
    o_Met l Z o_m53 oJ15 2 none ws o_R14 #[(.ref b)] h0 (o_P (none) h0 n0) := by
  refine o_enter o_pn_2 (fun m => o_ef29 m b) (fun p e s m below meth c s₁ hx hby hml hZ hown hnm hlk hrt X0 e0 => ?_)
  have N0 := Fr.nil n0
  have y_ := @hb _ _ hby
  have k_ := @o_k _ _ hw
  refine o_aloadN X0 hx (y_ oD52_0) rfl rfl ?_
  refine o_vir (y := o_m52) (b := b) (argsL := []) (S := []) (W := 0) X0 hx hZ hown (k_ 355 rfl) (k_ 216 rfl) (k_ 218 rfl) (k_ 217 rfl) (backOf (W := 0) (rmalu l Z a0 hw [] b t cs zC_ h0 n0 O0 D_b SC_ hC_) hZ (k_ 219 rfl) (k_ 140 rfl) (by decide) (by decide)) e0 D_b.1 hml (lenOf o_pd__28_29Z rfl) (y_ oD52_1) (fun T1 L1 v1 X1 hQ1 => ?_)
  obtain ⟨rfl, N1q, hh1⟩ := hQ1
  have N1 := Fr.app N0 N1q
  show o_G p e below _ T1 (mkF m 4 #[vR b, .unset] [(.int 0)])
  refine o_iFF X1 hx (y_ oD52_4) ?_
  exact o_retV X1 hx hrt hlk (y_ oD52_7) (by decide) (by decide) (o_hQ hh1 ⟨rfl, N1, rfl⟩)
theorem rmifl0 (hw : o_HW Z a0) (ws : o_LC) (b : Addr) (t : Addr) (fm : Value) (zC_ : Int32) (h0 : Heap) (n0 : Nat) (O0 : Old Z n0 h0) (B_b : o_Bl Z h0 b t 16 ([] : List Int32)) (g_b : n0 ≤ b) (S_u : o_SU Z) (S_f : o_SF Z fm) (hfm : fm.isRef = true) (SC_ : o_SC Z zC_) (hC_ : ¬ zC_ = 0) :
    o_Met l Z o_m53 oJ15 2 none ws o_R30 #[(.ref b)] h0 (Qifl0 Z b t fm zC_ h0 n0) := by
  refine o_enter o_pn_2 (fun m => o_ef29 m b) (fun p e s m below meth c s₁ hx hby hml hZ hown hnm hlk hrt X0 e0 => ?_)
  have N0 := Fr.nil n0
  have y_ := @hb _ _ hby
  have k_ := @o_k _ _ hw
  obtain ⟨Be1, Bc1, Bv1, Bn1, ⟨kb1, Ba1⟩, Bh1, Bs1, Bm1⟩ := id B_b
  refine o_aloadN X0 hx (y_ oD52_0) rfl rfl ?_
  refine o_vir (y := o_m52) (b := b) (argsL := []) (S := []) (W := 0) X0 hx hZ hown (k_ 355 rfl) (k_ 216 rfl) (k_ 218 rfl) (k_ 217 rfl) (backOf (W := 0) (rmail l Z a0 hw [] b t (16 : Int32) ([] : List Int32) zC_ h0 n0 O0 B_b SC_ hC_) hZ (k_ 219 rfl) (k_ 140 rfl) (by decide) (by decide)) e0 Be1 hml (lenOf o_pd__28_29Z rfl) (y_ oD52_1) (fun T2 L2 v2 X2 hQ2 => ?_)
  obtain ⟨rfl, N2q, hh2⟩ := hQ2
  have N2 := Fr.app N0 N2q
  show o_G p e below _ T2 (mkF m 4 #[vR b, .unset] [(.int 1)])
  refine o_iFT (t := 8) X2 hx (y_ oD52_4) ?_
  refine o_aloadN X2 hx (y_ oD52_8) rfl rfl ?_
  refine o_getF X2 hx hZ hown (host := "") (Or.inl (k_ 144 rfl)) Via.refl hh2 Bv1 (y_ oD52_9) (fun T3 X3 e3 => ?_)
  refine o_alen (n := 16) X3 hx hZ e3 Ba1 (y_ oD52_12) ?_
  refine o_sta (y := o_m3) (argsL := [(.int 16)]) (S := []) (W := 0) X3 hx hZ hown (k_ 356 rfl) (k_ 302 rfl) (k_ 247 rfl) (k_ 303 rfl) (backOf (W := 0) (rmnbf16 l Z a0 hw [] h0 n0 O0) hZ (k_ 303 rfl) (k_ 247 rfl) (by decide) (by decide)) e3 hml (lenOf o_pd__28I_29_5bB rfl) (y_ oD52_13) (fun T4 L4 v4 X4 hQ4 => ?_)
  obtain ⟨t4, rfl, N4q, Kp4, g_t4, ht4, Et4, ka4, Va4⟩ := hQ4
  have N4 := Fr.app N2 N4q
  have O5 := Old.keep O0 Kp4 all0
  show o_G p e below _ T4 (mkF m 16 #[vR b, .unset] [(.ref t4)])
  refine o_astoreN X4 hx (y_ oD52_16) rfl (A' := #[vR b, vR t4]) rfl ?_
  refine o_aloadN X4 hx (y_ oD52_17) rfl rfl ?_
  have c6 := (Fld.keep Bv1 Kp4 nin0)
  refine o_getF X4 hx hZ hown (host := "") (Or.inl (k_ 144 rfl)) Via.refl rfl c6 (y_ oD52_18) (fun T7 X7 e7 => ?_)
  refine o_iconst X7 hx (y_ oD52_21) (x := 0) rfl ?_
  refine o_aloadN X7 hx (y_ oD52_22) rfl rfl ?_
  refine o_iconst X7 hx (y_ oD52_23) (x := 0) rfl ?_
  refine o_aloadN X7 hx (y_ oD52_24) rfl rfl ?_
  have c8 := (Fld.keep Bn1 Kp4 nin0)
  refine o_getF X7 hx hZ hown (host := "") (Or.inl (k_ 163 rfl)) Via.refl e7 c8 (y_ oD52_25) (fun T9 X9 e9 => ?_)
  refine o_valE (z := 0) rfl ?_
  have c10 := (Arv.keep Ba1 Kp4 nin0)
  refine o_sta (y := o_m51) (argsL := [(.ref t), (.int 0), (.ref t4), (.int 0), (.int 0)]) (S := []) (W := 0) X9 hx hZ hown (k_ 357 rfl) (k_ 358 rfl) (k_ 11 rfl) (k_ 359 rfl) (backOf (W := 0) (rmlif0 l Z a0 hw [] t t4 (0 : Int32) kb1 ka4 (16 : Int32) ([] : List Int32) fm T4.heap n0 O5 c10 Va4 (by decide) (by decide) rfl g_t4 (Nat.ne_of_lt (Nat.lt_of_lt_of_le B_b.lt2 ht4)) S_u S_f hfm) hZ (k_ 359 rfl) (k_ 11 rfl) (by decide) (by decide)) e9 hml (lenOf o_pd__28_5bBI_5bBII_29V rfl) (y_ oD52_28) (fun T11 L11 v11 X11 hQ11 => ?_)
  obtain ⟨rfl, N11q, Kp11, Va11⟩ := hQ11
  have N11 := Fr.app N4 N11q
  have O12 := Old.keep O5 Kp11 (allS g_t4 all0)
  show o_G p e below _ T11 (mkF m 31 #[vR b, vR t4] [])
  refine o_aloadN X11 hx (y_ oD52_31) rfl rfl ?_
  refine o_aloadN X11 hx (y_ oD52_32) rfl rfl ?_
  have c13 := (Exa.keep (Exa.keep Be1 Kp4) Kp11)
  have c14 := (Fld.keep c6 Kp11 (ninS (Nat.ne_of_lt (Nat.lt_of_lt_of_le B_b.lt ht4)) nin0))
  refine o_putF X11 hx hZ hown (host := "") (Or.inl (k_ 144 rfl)) Via.refl rfl c14 c13 (Or.inl (k_ 145 rfl)) (k_ 131 rfl) (ty := (.array .byte)) (by decide) rfl rfl (y_ oD52_33) (fun T15 h15 X15 e15 W15 => ?_)
  have F15 := Fld.same W15 c14
  have N15 := Fr.snoc X15 N11 g_b
  have O15 := Old.wr O12 W15 g_b
  refine o_aloadN X15 hx (y_ oD52_36) rfl rfl ?_
  refine o_iconst X15 hx (y_ oD52_37) (x := 1) rfl ?_
  have c16 := (Exa.wr W15 c13)
  have c17 := (Fld.other W15 (Fld.keep (Fld.keep Bc1 Kp4 nin0) Kp11 (ninS (Nat.ne_of_lt (Nat.lt_of_lt_of_le B_b.lt ht4)) nin0)) (Or.inr (slot_ne (Or.inl (k_ 147 rfl)) (Or.inl (k_ 145 rfl)) (by decide) (t := .byte) (t' := (.array .byte)) (by decide) (by decide))))
  refine o_putFN (v' := (.int 1)) X15 hx hZ hown (k_ 146 rfl) Via.refl e15 c17 c16 (Or.inl (k_ 147 rfl)) (k_ 131 rfl) (ty := .byte) (by decide) rfl rfl (y_ oD52_38) (fun T18 h18 X18 e18 W18 => ?_)
  have F18 := Fld.same W18 c17
  have N18 := Fr.snoc X18 N15 g_b
  have O18 := Old.wr O15 W18 g_b
  have kp19 := Keep.trans (Keep.refl h0 [b]) Kp4 all0
  have kp20 := Keep.trans kp19 Kp11 (allS (Or.inr (Nat.le_trans (Keep.refl h0 [b]).1 ht4)) all0)
  have kp21 := Keep.wr kp20 W15 (Or.inl (List.mem_of_getElem? (i := 0) rfl))
  have kp22 := Keep.wr kp21 W18 (Or.inl (List.mem_of_getElem? (i := 0) rfl))
  have c23 := (Exa.wr W18 c16)
  have c24 := (Fld.other W18 F15 (Or.inr (slot_ne (Or.inl (k_ 145 rfl)) (Or.inl (k_ 147 rfl)) (by decide) (t := (.array .byte)) (t' := .byte) (by decide) (by decide))))
  have c25 := (Fld.other W18 (Fld.other W15 (Fld.keep c8 Kp11 (ninS (Nat.ne_of_lt (Nat.lt_of_lt_of_le B_b.lt ht4)) nin0)) (Or.inr (slot_ne (Or.inl (k_ 164 rfl)) (Or.inl (k_ 145 rfl)) (by decide) (t := .int) (t' := (.array .byte)) (by decide) (by decide)))) (Or.inr (slot_ne (Or.inl (k_ 164 rfl)) (Or.inl (k_ 147 rfl)) (by decide) (t := .int) (t' := .byte) (by decide) (by decide))))
  have c26 := (Arv.other (Arv.other Va11 W15 (Ne.symm (Nat.ne_of_lt (Nat.lt_of_lt_of_le B_b.lt ht4)))) W18 (Ne.symm (Nat.ne_of_lt (Nat.lt_of_lt_of_le B_b.lt ht4))))
  have c27 := (Fld.other W18 (Fld.other W15 (Fld.keep (Fld.keep Bm1 Kp4 nin0) Kp11 (ninS (Nat.ne_of_lt (Nat.lt_of_lt_of_le B_b.lt ht4)) nin0)) (Or.inr (slot_ne (Or.inl (k_ 365 rfl)) (Or.inl (k_ 145 rfl)) (by decide) (t := .boolean) (t' := (.array .byte)) (by decide) (by decide)))) (Or.inr (slot_ne (Or.inl (k_ 365 rfl)) (Or.inl (k_ 147 rfl)) (by decide) (t := .boolean) (t' := .byte) (by decide) (by decide))))
  exact o_retV X18 hx hrt hlk (y_ oD52_41) (by decide) (by decide) (o_hQ e18 ⟨rfl, N18, kp22, t4, g_t4, (Nat.le_trans (Keep.refl h0 [b]).1 ht4), ⟨c23, F18, c24, c25, ⟨_, c26⟩, (by decide), (by decide), c27⟩⟩)
theorem rminu0 (hw : o_HW Z a0) (ws : o_LC) (b : Addr) (x : Addr) (t : Addr) (u : Addr) (ds : List Int32) (fm : Value) (zC_ : Int32) (h0 : Heap) (n0 : Nat) (O0 : Old Z n0 h0) (B_b : o_Bl Z h0 b t 16 ([] : List Int32)) (S_x : o_A Z h0 x u 1 ds) (g_b : n0 ≤ b) (S_u : o_SU Z) (S_f : o_SF Z fm) (hfm : fm.isRef = true) (SC_ : o_SC Z zC_) (hC_ : ¬ zC_ = 0) :
    o_Met l Z o_m8 oJ32 2 none ws o_R31 #[(.ref b), (.ref x)] h0 (Qinu0 Z b x t u ds fm zC_ h0 n0) := by
  refine o_enter o_pn_2 (fun m => o_ef5 m b x) (fun p e s m below meth c s₁ hx hby hml hZ hown hnm hlk hrt X0 e0 => ?_)
  have N0 := Fr.nil n0
  have y_ := @hb _ _ hby
  have k_ := @o_k _ _ hw
  obtain ⟨Be1, Bc1, Bv1, Bn1, ⟨kb1, Ba1⟩, Bh1, Bs1, Bm1⟩ := id B_b
  refine o_getS X0 hx hZ hown (host := "") (Or.inl (k_ 143 rfl)) Via.refl e0 (Sta.ext O0.2 SC_) (y_ oD8_0) (fun T2 X2 e2 => ?_)
  refine o_iF (t := 21) X2 hx (y_ oD8_3) (fun hq => ?_) (fun hq => ?_)
  · have hc3 := o_h_eq.1 hq
    exact absurd hc3 hC_
  have hc3 := o_h_eq.2 hq
  refine o_aloadN X2 hx (y_ oD8_6) rfl rfl ?_
  refine o_getF X2 hx hZ hown (host := "") (Or.inl (k_ 146 rfl)) Via.refl e2 Bc1 (y_ oD8_7) (fun T3 X3 e3 => ?_)
  refine o_aloadN X3 hx (y_ oD8_10) rfl rfl ?_
  refine o_vir (y := o_m4) (b := x) (argsL := []) (S := [(.int 0)]) (W := 1) X3 hx hZ hown (k_ 180 rfl) (k_ 83 rfl) (k_ 85 rfl) (k_ 84 rfl) (backOf (W := 1) (rmcoa l Z a0 hw [] x (1 : Int32) zC_ h0 n0 O0 S_x.2.1 S_x.ak.k01 SC_ hC_) hZ (k_ 86 rfl) (k_ 6 rfl) (by decide) (by decide)) e3 S_x.1 hml (lenOf o_pd__28_29B rfl) (y_ oD8_11) (fun T4 L4 v4 X4 hQ4 => ?_)
  obtain ⟨rfl, N4q, hh4⟩ := hQ4
  have N4 := Fr.app N0 N4q
  show o_G p e below _ T4 (mkF m 14 #[vR b, vR x] [(.int 1), (.int 0)])
  refine o_iCF X4 hx (y_ oD8_14) ?_
  refine o_aloadN X4 hx (y_ oD8_17) rfl rfl ?_
  refine o_vir (y := o_m53) (b := b) (argsL := []) (S := []) (W := 0) X4 hx hZ hown (k_ 350 rfl) (o_decl (k_ 351 rfl) (k_ 354 rfl)) (k_ 353 rfl) (k_ 351 rfl) (backOf (W := 0) (rmifl0 l Z a0 hw [] b t fm zC_ h0 n0 O0 B_b g_b S_u S_f hfm SC_ hC_) hZ (k_ 354 rfl) (k_ 140 rfl) (by decide) (by decide)) hh4 Be1 hml (lenOf o_pd__28_29V rfl) (y_ oD8_18) (fun T5 L5 v5 X5 hQ5 => ?_)
  obtain ⟨rfl, N5q, Kp5, t5, g_t5, ht5, Dq5⟩ := hQ5
  have N5 := Fr.app N4 N5q
  have O6 := Old.keep O0 Kp5 (allS g_b all0)
  show o_G p e below _ T5 (mkF m 21 #[vR b, vR x] [])
  have kp7 := Keep.trans (Keep.refl h0 [b]) Kp5 (allS (Or.inl (List.mem_of_getElem? (i := 0) rfl)) all0)
  exact o_retV X5 hx hrt hlk (y_ oD8_21) (by decide) (by decide) ⟨rfl, N5, kp7, t5, g_t5, (Nat.le_trans (Keep.refl h0 [b]).1 ht5), Dq5⟩
theorem rmifl1 (hw : o_HW Z a0) (ws : o_LC) (b : Addr) (t : Addr) (fm : Value) (zC_ : Int32) (h0 : Heap) (n0 : Nat) (O0 : Old Z n0 h0) (B_b : o_Bl Z h0 b t 16 ([42] : List Int32)) (g_b : n0 ≤ b) (S_u : o_SU Z) (S_f : o_SF Z fm) (hfm : fm.isRef = true) (SC_ : o_SC Z zC_) (hC_ : ¬ zC_ = 0) :
    o_Met l Z o_m53 oJ15 2 none ws o_R30 #[(.ref b)] h0 (Qifl1 Z b t fm zC_ h0 n0) := by
  refine o_enter o_pn_2 (fun m => o_ef29 m b) (fun p e s m below meth c s₁ hx hby hml hZ hown hnm hlk hrt X0 e0 => ?_)
  have N0 := Fr.nil n0
  have y_ := @hb _ _ hby
  have k_ := @o_k _ _ hw
  obtain ⟨Be1, Bc1, Bv1, Bn1, ⟨kb1, Ba1⟩, Bh1, Bs1, Bm1⟩ := id B_b
  refine o_aloadN X0 hx (y_ oD52_0) rfl rfl ?_
  refine o_vir (y := o_m52) (b := b) (argsL := []) (S := []) (W := 0) X0 hx hZ hown (k_ 355 rfl) (k_ 216 rfl) (k_ 218 rfl) (k_ 217 rfl) (backOf (W := 0) (rmail l Z a0 hw [] b t (16 : Int32) ([42] : List Int32) zC_ h0 n0 O0 B_b SC_ hC_) hZ (k_ 219 rfl) (k_ 140 rfl) (by decide) (by decide)) e0 Be1 hml (lenOf o_pd__28_29Z rfl) (y_ oD52_1) (fun T2 L2 v2 X2 hQ2 => ?_)
  obtain ⟨rfl, N2q, hh2⟩ := hQ2
  have N2 := Fr.app N0 N2q
  show o_G p e below _ T2 (mkF m 4 #[vR b, .unset] [(.int 1)])
  refine o_iFT (t := 8) X2 hx (y_ oD52_4) ?_
  refine o_aloadN X2 hx (y_ oD52_8) rfl rfl ?_
  refine o_getF X2 hx hZ hown (host := "") (Or.inl (k_ 144 rfl)) Via.refl hh2 Bv1 (y_ oD52_9) (fun T3 X3 e3 => ?_)
  refine o_alen (n := 16) X3 hx hZ e3 Ba1 (y_ oD52_12) ?_
  refine o_sta (y := o_m3) (argsL := [(.int 16)]) (S := []) (W := 0) X3 hx hZ hown (k_ 356 rfl) (k_ 302 rfl) (k_ 247 rfl) (k_ 303 rfl) (backOf (W := 0) (rmnbf16 l Z a0 hw [] h0 n0 O0) hZ (k_ 303 rfl) (k_ 247 rfl) (by decide) (by decide)) e3 hml (lenOf o_pd__28I_29_5bB rfl) (y_ oD52_13) (fun T4 L4 v4 X4 hQ4 => ?_)
  obtain ⟨t4, rfl, N4q, Kp4, g_t4, ht4, Et4, ka4, Va4⟩ := hQ4
  have N4 := Fr.app N2 N4q
  have O5 := Old.keep O0 Kp4 all0
  show o_G p e below _ T4 (mkF m 16 #[vR b, .unset] [(.ref t4)])
  refine o_astoreN X4 hx (y_ oD52_16) rfl (A' := #[vR b, vR t4]) rfl ?_
  refine o_aloadN X4 hx (y_ oD52_17) rfl rfl ?_
  have c6 := (Fld.keep Bv1 Kp4 nin0)
  refine o_getF X4 hx hZ hown (host := "") (Or.inl (k_ 144 rfl)) Via.refl rfl c6 (y_ oD52_18) (fun T7 X7 e7 => ?_)
  refine o_iconst X7 hx (y_ oD52_21) (x := 0) rfl ?_
  refine o_aloadN X7 hx (y_ oD52_22) rfl rfl ?_
  refine o_iconst X7 hx (y_ oD52_23) (x := 0) rfl ?_
  refine o_aloadN X7 hx (y_ oD52_24) rfl rfl ?_
  have c8 := (Fld.keep Bn1 Kp4 nin0)
  refine o_getF X7 hx hZ hown (host := "") (Or.inl (k_ 163 rfl)) Via.refl e7 c8 (y_ oD52_25) (fun T9 X9 e9 => ?_)
  refine o_valE (z := 1) rfl ?_
  have c10 := (Arv.keep Ba1 Kp4 nin0)
  refine o_sta (y := o_m51) (argsL := [(.ref t), (.int 0), (.ref t4), (.int 0), (.int 1)]) (S := []) (W := 0) X9 hx hZ hown (k_ 357 rfl) (k_ 358 rfl) (k_ 11 rfl) (k_ 359 rfl) (backOf (W := 0) (rmlif1 l Z a0 hw [] t t4 (0 : Int32) kb1 ka4 (16 : Int32) ([] : List Int32) fm T4.heap n0 O5 c10 (by decide) Va4 (by decide) (by decide) rfl g_t4 (Nat.ne_of_lt (Nat.lt_of_lt_of_le B_b.lt2 ht4)) S_u S_f hfm) hZ (k_ 359 rfl) (k_ 11 rfl) (by decide) (by decide)) e9 hml (lenOf o_pd__28_5bBI_5bBII_29V rfl) (y_ oD52_28) (fun T11 L11 v11 X11 hQ11 => ?_)
  obtain ⟨rfl, N11q, Kp11, Va11⟩ := hQ11
  have N11 := Fr.app N4 N11q
  have O12 := Old.keep O5 Kp11 (allS g_t4 all0)
  show o_G p e below _ T11 (mkF m 31 #[vR b, vR t4] [])
  refine o_aloadN X11 hx (y_ oD52_31) rfl rfl ?_
  refine o_aloadN X11 hx (y_ oD52_32) rfl rfl ?_
  have c13 := (Exa.keep (Exa.keep Be1 Kp4) Kp11)
  have c14 := (Fld.keep c6 Kp11 (ninS (Nat.ne_of_lt (Nat.lt_of_lt_of_le B_b.lt ht4)) nin0))
  refine o_putF X11 hx hZ hown (host := "") (Or.inl (k_ 144 rfl)) Via.refl rfl c14 c13 (Or.inl (k_ 145 rfl)) (k_ 131 rfl) (ty := (.array .byte)) (by decide) rfl rfl (y_ oD52_33) (fun T15 h15 X15 e15 W15 => ?_)
  have F15 := Fld.same W15 c14
  have N15 := Fr.snoc X15 N11 g_b
  have O15 := Old.wr O12 W15 g_b
  refine o_aloadN X15 hx (y_ oD52_36) rfl rfl ?_
  refine o_iconst X15 hx (y_ oD52_37) (x := 1) rfl ?_
  have c16 := (Exa.wr W15 c13)
  have c17 := (Fld.other W15 (Fld.keep (Fld.keep Bc1 Kp4 nin0) Kp11 (ninS (Nat.ne_of_lt (Nat.lt_of_lt_of_le B_b.lt ht4)) nin0)) (Or.inr (slot_ne (Or.inl (k_ 147 rfl)) (Or.inl (k_ 145 rfl)) (by decide) (t := .byte) (t' := (.array .byte)) (by decide) (by decide))))
  refine o_putFN (v' := (.int 1)) X15 hx hZ hown (k_ 146 rfl) Via.refl e15 c17 c16 (Or.inl (k_ 147 rfl)) (k_ 131 rfl) (ty := .byte) (by decide) rfl rfl (y_ oD52_38) (fun T18 h18 X18 e18 W18 => ?_)
  have F18 := Fld.same W18 c17
  have N18 := Fr.snoc X18 N15 g_b
  have O18 := Old.wr O15 W18 g_b
  have kp19 := Keep.trans (Keep.refl h0 [b]) Kp4 all0
  have kp20 := Keep.trans kp19 Kp11 (allS (Or.inr (Nat.le_trans (Keep.refl h0 [b]).1 ht4)) all0)
  have kp21 := Keep.wr kp20 W15 (Or.inl (List.mem_of_getElem? (i := 0) rfl))
  have kp22 := Keep.wr kp21 W18 (Or.inl (List.mem_of_getElem? (i := 0) rfl))
  have c23 := (Exa.wr W18 c16)
  have c24 := (Fld.other W18 F15 (Or.inr (slot_ne (Or.inl (k_ 145 rfl)) (Or.inl (k_ 147 rfl)) (by decide) (t := (.array .byte)) (t' := .byte) (by decide) (by decide))))
  have c25 := (Fld.other W18 (Fld.other W15 (Fld.keep c8 Kp11 (ninS (Nat.ne_of_lt (Nat.lt_of_lt_of_le B_b.lt ht4)) nin0)) (Or.inr (slot_ne (Or.inl (k_ 164 rfl)) (Or.inl (k_ 145 rfl)) (by decide) (t := .int) (t' := (.array .byte)) (by decide) (by decide)))) (Or.inr (slot_ne (Or.inl (k_ 164 rfl)) (Or.inl (k_ 147 rfl)) (by decide) (t := .int) (t' := .byte) (by decide) (by decide))))
  have c26 := (Arv.other (Arv.other Va11 W15 (Ne.symm (Nat.ne_of_lt (Nat.lt_of_lt_of_le B_b.lt ht4)))) W18 (Ne.symm (Nat.ne_of_lt (Nat.lt_of_lt_of_le B_b.lt ht4))))
  have c27 := (Fld.other W18 (Fld.other W15 (Fld.keep (Fld.keep Bm1 Kp4 nin0) Kp11 (ninS (Nat.ne_of_lt (Nat.lt_of_lt_of_le B_b.lt ht4)) nin0)) (Or.inr (slot_ne (Or.inl (k_ 365 rfl)) (Or.inl (k_ 145 rfl)) (by decide) (t := .boolean) (t' := (.array .byte)) (by decide) (by decide)))) (Or.inr (slot_ne (Or.inl (k_ 365 rfl)) (Or.inl (k_ 147 rfl)) (by decide) (t := .boolean) (t' := .byte) (by decide) (by decide))))
  exact o_retV X18 hx hrt hlk (y_ oD52_41) (by decide) (by decide) (o_hQ e18 ⟨rfl, N18, kp22, t4, g_t4, (Nat.le_trans (Keep.refl h0 [b]).1 ht4), ⟨c23, F18, c24, c25, ⟨_, c26⟩, (by decide), (by decide), c27⟩⟩)
theorem rminu1 (hw : o_HW Z a0) (ws : o_LC) (b : Addr) (x : Addr) (t : Addr) (u : Addr) (ds : List Int32) (fm : Value) (zC_ : Int32) (h0 : Heap) (n0 : Nat) (O0 : Old Z n0 h0) (B_b : o_Bl Z h0 b t 16 ([42] : List Int32)) (S_x : o_A Z h0 x u 1 ds) (g_b : n0 ≤ b) (S_u : o_SU Z) (S_f : o_SF Z fm) (hfm : fm.isRef = true) (SC_ : o_SC Z zC_) (hC_ : ¬ zC_ = 0) :
    o_Met l Z o_m8 oJ32 2 none ws o_R31 #[(.ref b), (.ref x)] h0 (Qinu1 Z b x t u ds fm zC_ h0 n0) := by
  refine o_enter o_pn_2 (fun m => o_ef5 m b x) (fun p e s m below meth c s₁ hx hby hml hZ hown hnm hlk hrt X0 e0 => ?_)
  have N0 := Fr.nil n0
  have y_ := @hb _ _ hby
  have k_ := @o_k _ _ hw
  obtain ⟨Be1, Bc1, Bv1, Bn1, ⟨kb1, Ba1⟩, Bh1, Bs1, Bm1⟩ := id B_b
  refine o_getS X0 hx hZ hown (host := "") (Or.inl (k_ 143 rfl)) Via.refl e0 (Sta.ext O0.2 SC_) (y_ oD8_0) (fun T2 X2 e2 => ?_)
  refine o_iF (t := 21) X2 hx (y_ oD8_3) (fun hq => ?_) (fun hq => ?_)
  · have hc3 := o_h_eq.1 hq
    exact absurd hc3 hC_
  have hc3 := o_h_eq.2 hq
  refine o_aloadN X2 hx (y_ oD8_6) rfl rfl ?_
  refine o_getF X2 hx hZ hown (host := "") (Or.inl (k_ 146 rfl)) Via.refl e2 Bc1 (y_ oD8_7) (fun T3 X3 e3 => ?_)
  refine o_aloadN X3 hx (y_ oD8_10) rfl rfl ?_
  refine o_vir (y := o_m4) (b := x) (argsL := []) (S := [(.int 0)]) (W := 1) X3 hx hZ hown (k_ 180 rfl) (k_ 83 rfl) (k_ 85 rfl) (k_ 84 rfl) (backOf (W := 1) (rmcoa l Z a0 hw [] x (1 : Int32) zC_ h0 n0 O0 S_x.2.1 S_x.ak.k01 SC_ hC_) hZ (k_ 86 rfl) (k_ 6 rfl) (by decide) (by decide)) e3 S_x.1 hml (lenOf o_pd__28_29B rfl) (y_ oD8_11) (fun T4 L4 v4 X4 hQ4 => ?_)
  obtain ⟨rfl, N4q, hh4⟩ := hQ4
  have N4 := Fr.app N0 N4q
  show o_G p e below _ T4 (mkF m 14 #[vR b, vR x] [(.int 1), (.int 0)])
  refine o_iCF X4 hx (y_ oD8_14) ?_
  refine o_aloadN X4 hx (y_ oD8_17) rfl rfl ?_
  refine o_vir (y := o_m53) (b := b) (argsL := []) (S := []) (W := 0) X4 hx hZ hown (k_ 350 rfl) (o_decl (k_ 351 rfl) (k_ 354 rfl)) (k_ 353 rfl) (k_ 351 rfl) (backOf (W := 0) (rmifl1 l Z a0 hw [] b t fm zC_ h0 n0 O0 B_b g_b S_u S_f hfm SC_ hC_) hZ (k_ 354 rfl) (k_ 140 rfl) (by decide) (by decide)) hh4 Be1 hml (lenOf o_pd__28_29V rfl) (y_ oD8_18) (fun T5 L5 v5 X5 hQ5 => ?_)
  obtain ⟨rfl, N5q, Kp5, t5, g_t5, ht5, Dq5⟩ := hQ5
  have N5 := Fr.app N4 N5q
  have O6 := Old.keep O0 Kp5 (allS g_b all0)
  show o_G p e below _ T5 (mkF m 21 #[vR b, vR x] [])
  have kp7 := Keep.trans (Keep.refl h0 [b]) Kp5 (allS (Or.inl (List.mem_of_getElem? (i := 0) rfl)) all0)
  exact o_retV X5 hx hrt hlk (y_ oD8_21) (by decide) (by decide) ⟨rfl, N5, kp7, t5, g_t5, (Nat.le_trans (Keep.refl h0 [b]).1 ht5), Dq5⟩
theorem rminv (hw : o_HW Z a0) (ws : o_LC) (b : Addr) (x : Addr) (t : Addr) (cs : List Int32) (u : Addr) (ds : List Int32) (zC_ : Int32) (h0 : Heap) (n0 : Nat) (O0 : Old Z n0 h0) (D_b : o_Bv Z h0 b t cs.length cs) (S_x : o_Str Z h0 x u ds) (SC_ : o_SC Z zC_) (hC_ : ¬ zC_ = 0) :
    o_Met l Z o_m8 oJ32 2 none ws o_R32 #[(.ref b), (.ref x)] h0 (o_P (none) h0 n0) := by
  refine o_enter o_pn_2 (fun m => o_ef5 m b x) (fun p e s m below meth c s₁ hx hby hml hZ hown hnm hlk hrt X0 e0 => ?_)
  have N0 := Fr.nil n0
  have y_ := @hb _ _ hby
  have k_ := @o_k _ _ hw
  obtain ⟨De1, Dc1, Dv1, Dn1, ⟨kb1, Da1⟩, Dh1, Ds1, Dm1⟩ := id D_b
  refine o_getS X0 hx hZ hown (host := "") (Or.inl (k_ 143 rfl)) Via.refl e0 (Sta.ext O0.2 SC_) (y_ oD8_0) (fun T2 X2 e2 => ?_)
  refine o_iF (t := 21) X2 hx (y_ oD8_3) (fun hq => ?_) (fun hq => ?_)
  · have hc3 := o_h_eq.1 hq
    exact absurd hc3 hC_
  have hc3 := o_h_eq.2 hq
  refine o_aloadN X2 hx (y_ oD8_6) rfl rfl ?_
  refine o_getF X2 hx hZ hown (host := "") (Or.inl (k_ 146 rfl)) Via.refl e2 Dc1 (y_ oD8_7) (fun T3 X3 e3 => ?_)
  refine o_aloadN X3 hx (y_ oD8_10) rfl rfl ?_
  refine o_vir (y := o_m4) (b := x) (argsL := []) (S := [(.int 1)]) (W := 1) X3 hx hZ hown (k_ 180 rfl) (k_ 83 rfl) (k_ 85 rfl) (k_ 84 rfl) (backOf (W := 1) (rmcod l Z a0 hw [] x zC_ h0 n0 O0 S_x.2.1 SC_ hC_) hZ (k_ 86 rfl) (k_ 6 rfl) (by decide) (by decide)) e3 S_x.1 hml (lenOf o_pd__28_29B rfl) (y_ oD8_11) (fun T4 L4 v4 X4 hQ4 => ?_)
  obtain ⟨rfl, N4q, hh4⟩ := hQ4
  have N4 := Fr.app N0 N4q
  show o_G p e below _ T4 (mkF m 14 #[vR b, vR x] [(.int 0), (.int 1)])
  refine o_iCF X4 hx (y_ oD8_14) ?_
  refine o_aloadN X4 hx (y_ oD8_17) rfl rfl ?_
  refine o_vir (y := o_m53) (b := b) (argsL := []) (S := []) (W := 0) X4 hx hZ hown (k_ 350 rfl) (o_decl (k_ 351 rfl) (k_ 354 rfl)) (k_ 353 rfl) (k_ 351 rfl) (backOf (W := 0) (rmifv l Z a0 hw [] b t cs zC_ h0 n0 O0 D_b SC_ hC_) hZ (k_ 354 rfl) (k_ 140 rfl) (by decide) (by decide)) hh4 De1 hml (lenOf o_pd__28_29V rfl) (y_ oD8_18) (fun T5 L5 v5 X5 hQ5 => ?_)
  obtain ⟨rfl, N5q, hh5⟩ := hQ5
  have N5 := Fr.app N4 N5q
  show o_G p e below _ T5 (mkF m 21 #[vR b, vR x] [])
  exact o_retV X5 hx hrt hlk (y_ oD8_21) (by decide) (by decide) (o_hQ hh5 ⟨rfl, N5, rfl⟩)
theorem rmgbu (hw : o_HW Z a0) (ws : o_LC) (x : Addr) (d : Addr) (ii : Int32) (u : Addr) (ds : List Int32) (kb : ClassId) (cs : List Int32) (zC_ : Int32) (h0 : Heap) (n0 : Nat) (O0 : Old Z n0 h0) (S_x : o_A Z h0 x u 1 ds) (V_d : Arv Z h0 d kb .byte 32 (o_V16 cs) (.int 0)) (g_d : n0 ≤ d) (hi : ii = Int32.ofNat cs.length) (h16 : o_c16 cs) (hs : cs.length + ds.length ≤ 8) (SC_ : o_SC Z zC_) (hC_ : ¬ zC_ = 0) :
    o_Met l Z o_m9 oJ7 4 none ws o_R3 #[(.ref x), (.ref d), (.int ii), (.int 1)] h0 (Qgbu Z x d ii u ds kb cs zC_ h0 n0) := by
  refine o_enter o_pn_1 (fun m => o_ef30 m x d ii) (fun p e s m below meth c s₁ hx hby hml hZ hown hnm hlk hrt X0 e0 => ?_)
  have N0 := Fr.nil n0
  have y_ := @hb _ _ hby
  have k_ := @o_k _ _ hw
  obtain ⟨ks1, Sa1⟩ := S_x.uv
  refine o_aloadN X0 hx (y_ oD9_0) rfl rfl ?_
  refine o_vir (y := o_m4) (b := x) (argsL := []) (S := []) (W := 0) X0 hx hZ hown (k_ 82 rfl) (k_ 83 rfl) (k_ 85 rfl) (k_ 84 rfl) (backOf (W := 0) (rmcoa l Z a0 hw [] x (1 : Int32) zC_ h0 n0 O0 S_x.2.1 S_x.ak.k01 SC_ hC_) hZ (k_ 86 rfl) (k_ 6 rfl) (by decide) (by decide)) e0 S_x.1 hml (lenOf o_pd__28_29B rfl) (y_ oD9_1) (fun T2 L2 v2 X2 hQ2 => ?_)
  obtain ⟨rfl, N2q, hh2⟩ := hQ2
  have N2 := Fr.app N0 N2q
  show o_G p e below _ T2 (mkF m 4 #[vR x, vR d, vI ii, vI 1] [(.int 1)])
  refine o_iloadN X2 hx (y_ oD9_4) rfl ?_
  refine o_iCF X2 hx (y_ oD9_5) ?_
  refine o_aloadN X2 hx (y_ oD9_8) rfl rfl ?_
  refine o_getF X2 hx hZ hown (host := "") (Or.inl (k_ 26 rfl)) Via.refl hh2 S_x.2.2.1 (y_ oD9_9) (fun T3 X3 e3 => ?_)
  refine o_iconst X3 hx (y_ oD9_12) (x := 0) rfl ?_
  refine o_aloadN X3 hx (y_ oD9_13) rfl rfl ?_
  refine o_iloadN X3 hx (y_ oD9_14) rfl ?_
  refine o_iloadN X3 hx (y_ oD9_15) rfl ?_
  refine o_ishl X3 hx (y_ oD9_16) ?_
  refine o_valE (z := Int32.ofNat (2 * cs.length)) (by rw [hi]; exact o_shl1 (by omega)) ?_
  refine o_aloadN X3 hx (y_ oD9_17) rfl rfl ?_
  refine o_getF X3 hx hZ hown (host := "") (Or.inl (k_ 26 rfl)) Via.refl e3 S_x.2.2.1 (y_ oD9_18) (fun T4 X4 e4 => ?_)
  refine o_alen (n := (Int32.ofNat (2 * ds.length))) X4 hx hZ e4 Sa1 (y_ oD9_21) ?_
  refine o_cpB (W := 0) (us := (o_V16 ds)) X4 hx hZ hown (k_ 186 rfl) (k_ 189 rfl) (k_ 187 rfl) (k_ 188 rfl) e4 Sa1 V_d (by decide) (o_on (by omega)) (o_on (by omega)) (by rw [o_oc (by omega)]; exact Nat.le_of_eq (Nat.zero_add _)) (by rw [o_oc (by omega), o_oc (by omega)]; show _ ≤ 32; omega) (by rw [o_oc (by omega)]; exact o_V16range ds) (by rw [o_oc (by omega)]; exact (o_V16len cs).symm) N2 g_d (by rw [hml]; rfl) (y_ oD9_22) (by decide) (Nat.le_of_eq rfl) (by rw [nativeFrameWords_plain 5 (by decide)]; decide) (fun T5 h5 L5 X5 e5 N5 Kp5 V5 => ?_)
  have O6 := Old.keep O0 Kp5 (allS g_d all0)
  refine o_gO (t := 43) X5 hx (y_ oD9_25) ?_
  have kp7 := Keep.trans (Keep.refl h0 [d]) Kp5 (allS (Or.inl (List.mem_of_getElem? (i := 0) rfl)) all0)
  exact o_retV X5 hx hrt hlk (y_ oD9_43) (by decide) (by decide) (o_hQ e5 ⟨rfl, N5, kp7, by rw [o_V16app]; exact V5⟩)
theorem rmgbv0 (hw : o_HW Z a0) (ws : o_LC) (x : Addr) (d : Addr) (ii : Int32) (u : Addr) (kb : ClassId) (cs : List Int32) (fm : Value) (zC_ : Int32) (h0 : Heap) (n0 : Nat) (O0 : Old Z n0 h0) (S_x : o_Str Z h0 x u ([] : List Int32)) (V_d : Arv Z h0 d kb .byte 32 (o_V16 cs) (.int 0)) (g_d : n0 ≤ d) (hi : ii = Int32.ofNat cs.length) (h16 : o_c16 cs) (hcl : cs.length + 0 ≤ 8) (hnud : u ≠ d) (S_u : o_SU Z) (S_f : o_SF Z fm) (hfm : fm.isRef = true) (SC_ : o_SC Z zC_) (hC_ : ¬ zC_ = 0) :
    o_Met l Z o_m9 oJ7 4 none ws o_R33 #[(.ref x), (.ref d), (.int ii), (.int 1)] h0 (Qgbv0 Z x d ii u kb cs fm zC_ h0 n0) := by
  refine o_enter o_pn_1 (fun m => o_ef30 m x d ii) (fun p e s m below meth c s₁ hx hby hml hZ hown hnm hlk hrt X0 e0 => ?_)
  have N0 := Fr.nil n0
  have y_ := @hb _ _ hby
  have k_ := @o_k _ _ hw
  obtain ⟨ks1, Sb1⟩ := S_x.2.2.2.1
  have Sa1 : Arv Z h0 u ks1 .byte (0 : Int32) [] (.int 0) := Sb1
  refine o_aloadN X0 hx (y_ oD9_0) rfl rfl ?_
  refine o_vir (y := o_m4) (b := x) (argsL := []) (S := []) (W := 0) X0 hx hZ hown (k_ 82 rfl) (k_ 83 rfl) (k_ 85 rfl) (k_ 84 rfl) (backOf (W := 0) (rmcod l Z a0 hw [] x zC_ h0 n0 O0 S_x.2.1 SC_ hC_) hZ (k_ 86 rfl) (k_ 6 rfl) (by decide) (by decide)) e0 S_x.1 hml (lenOf o_pd__28_29B rfl) (y_ oD9_1) (fun T2 L2 v2 X2 hQ2 => ?_)
  obtain ⟨rfl, N2q, hh2⟩ := hQ2
  have N2 := Fr.app N0 N2q
  show o_G p e below _ T2 (mkF m 4 #[vR x, vR d, vI ii, vI 1] [(.int 0)])
  refine o_iloadN X2 hx (y_ oD9_4) rfl ?_
  refine o_iCT (t := 28) X2 hx (y_ oD9_5) ?_
  refine o_aloadN X2 hx (y_ oD9_28) rfl rfl ?_
  refine o_getF X2 hx hZ hown (host := "") (Or.inl (k_ 26 rfl)) Via.refl hh2 S_x.2.2.1 (y_ oD9_29) (fun T3 X3 e3 => ?_)
  refine o_iconst X3 hx (y_ oD9_32) (x := 0) rfl ?_
  refine o_aloadN X3 hx (y_ oD9_33) rfl rfl ?_
  refine o_iloadN X3 hx (y_ oD9_34) rfl ?_
  refine o_aloadN X3 hx (y_ oD9_35) rfl rfl ?_
  refine o_getF X3 hx hZ hown (host := "") (Or.inl (k_ 26 rfl)) Via.refl e3 S_x.2.2.1 (y_ oD9_36) (fun T4 X4 e4 => ?_)
  refine o_alen (n := 0) X4 hx hZ e4 Sa1 (y_ oD9_39) ?_
  refine o_sta (y := o_m51) (argsL := [(.ref u), (.int 0), (.ref d), (.int ii), (.int 0)]) (S := []) (W := 0) X4 hx hZ hown (k_ 363 rfl) (k_ 358 rfl) (k_ 11 rfl) (k_ 359 rfl) (backOf (W := 0) (rmlif0 l Z a0 hw [] u d ii ks1 kb (0 : Int32) cs fm h0 n0 O0 Sa1 V_d h16 hcl hi g_d hnud S_u S_f hfm) hZ (k_ 359 rfl) (k_ 11 rfl) (by decide) (by decide)) e4 hml (lenOf o_pd__28_5bBI_5bBII_29V rfl) (y_ oD9_40) (fun T5 L5 v5 X5 hQ5 => ?_)
  obtain ⟨rfl, N5q, Kp5, Va5⟩ := hQ5
  have N5 := Fr.app N2 N5q
  have O6 := Old.keep O0 Kp5 (allS g_d all0)
  show o_G p e below _ T5 (mkF m 43 #[vR x, vR d, vI ii, vI 1] [])
  have kp7 := Keep.trans (Keep.refl h0 [d]) Kp5 (allS (Or.inl (List.mem_of_getElem? (i := 0) rfl)) all0)
  exact o_retV X5 hx hrt hlk (y_ oD9_43) (by decide) (by decide) ⟨rfl, N5, kp7, Va5⟩
theorem rmgbv1 (hw : o_HW Z a0) (ws : o_LC) (x : Addr) (d : Addr) (ii : Int32) (u : Addr) (kb : ClassId) (cs : List Int32) (fm : Value) (zC_ : Int32) (h0 : Heap) (n0 : Nat) (O0 : Old Z n0 h0) (S_x : o_Str Z h0 x u ([42] : List Int32)) (V_d : Arv Z h0 d kb .byte 32 (o_V16 cs) (.int 0)) (g_d : n0 ≤ d) (hi : ii = Int32.ofNat cs.length) (h16 : o_c16 cs) (hcl : cs.length + 1 ≤ 8) (hnud : u ≠ d) (S_u : o_SU Z) (S_f : o_SF Z fm) (hfm : fm.isRef = true) (SC_ : o_SC Z zC_) (hC_ : ¬ zC_ = 0) :
    o_Met l Z o_m9 oJ7 4 none ws o_R33 #[(.ref x), (.ref d), (.int ii), (.int 1)] h0 (Qgbv1 Z x d ii u kb cs fm zC_ h0 n0) := by
  refine o_enter o_pn_1 (fun m => o_ef30 m x d ii) (fun p e s m below meth c s₁ hx hby hml hZ hown hnm hlk hrt X0 e0 => ?_)
  have N0 := Fr.nil n0
  have y_ := @hb _ _ hby
  have k_ := @o_k _ _ hw
  obtain ⟨ks1, Sb1⟩ := S_x.2.2.2.1
  have Sa1 : Arv Z h0 u ks1 .byte (1 : Int32) [.int 42] (.int 0) := Sb1
  refine o_aloadN X0 hx (y_ oD9_0) rfl rfl ?_
  refine o_vir (y := o_m4) (b := x) (argsL := []) (S := []) (W := 0) X0 hx hZ hown (k_ 82 rfl) (k_ 83 rfl) (k_ 85 rfl) (k_ 84 rfl) (backOf (W := 0) (rmcod l Z a0 hw [] x zC_ h0 n0 O0 S_x.2.1 SC_ hC_) hZ (k_ 86 rfl) (k_ 6 rfl) (by decide) (by decide)) e0 S_x.1 hml (lenOf o_pd__28_29B rfl) (y_ oD9_1) (fun T2 L2 v2 X2 hQ2 => ?_)
  obtain ⟨rfl, N2q, hh2⟩ := hQ2
  have N2 := Fr.app N0 N2q
  show o_G p e below _ T2 (mkF m 4 #[vR x, vR d, vI ii, vI 1] [(.int 0)])
  refine o_iloadN X2 hx (y_ oD9_4) rfl ?_
  refine o_iCT (t := 28) X2 hx (y_ oD9_5) ?_
  refine o_aloadN X2 hx (y_ oD9_28) rfl rfl ?_
  refine o_getF X2 hx hZ hown (host := "") (Or.inl (k_ 26 rfl)) Via.refl hh2 S_x.2.2.1 (y_ oD9_29) (fun T3 X3 e3 => ?_)
  refine o_iconst X3 hx (y_ oD9_32) (x := 0) rfl ?_
  refine o_aloadN X3 hx (y_ oD9_33) rfl rfl ?_
  refine o_iloadN X3 hx (y_ oD9_34) rfl ?_
  refine o_aloadN X3 hx (y_ oD9_35) rfl rfl ?_
  refine o_getF X3 hx hZ hown (host := "") (Or.inl (k_ 26 rfl)) Via.refl e3 S_x.2.2.1 (y_ oD9_36) (fun T4 X4 e4 => ?_)
  refine o_alen (n := 1) X4 hx hZ e4 Sa1 (y_ oD9_39) ?_
  refine o_sta (y := o_m51) (argsL := [(.ref u), (.int 0), (.ref d), (.int ii), (.int 1)]) (S := []) (W := 0) X4 hx hZ hown (k_ 363 rfl) (k_ 358 rfl) (k_ 11 rfl) (k_ 359 rfl) (backOf (W := 0) (rmlif1 l Z a0 hw [] u d ii ks1 kb (1 : Int32) cs fm h0 n0 O0 Sa1 (by decide) V_d h16 hcl hi g_d hnud S_u S_f hfm) hZ (k_ 359 rfl) (k_ 11 rfl) (by decide) (by decide)) e4 hml (lenOf o_pd__28_5bBI_5bBII_29V rfl) (y_ oD9_40) (fun T5 L5 v5 X5 hQ5 => ?_)
  obtain ⟨rfl, N5q, Kp5, Va5⟩ := hQ5
  have N5 := Fr.app N2 N5q
  have O6 := Old.keep O0 Kp5 (allS g_d all0)
  show o_G p e below _ T5 (mkF m 43 #[vR x, vR d, vI ii, vI 1] [])
  have kp7 := Keep.trans (Keep.refl h0 [d]) Kp5 (allS (Or.inl (List.mem_of_getElem? (i := 0) rfl)) all0)
  exact o_retV X5 hx hrt hlk (y_ oD9_43) (by decide) (by decide) ⟨rfl, N5, kp7, Va5⟩
theorem rmecv (hw : o_HW Z a0) (ws : o_LC) (b : Addr) (mn : Int32) (t : Addr) (cs : List Int32) (h0 : Heap) (n0 : Nat) (O0 : Old Z n0 h0) (D_b : o_Bv Z h0 b t cs.length cs) (hcap : ¬ (0 : Int32) < mn - 16) :
    o_Met l Z o_m7 oJ33 3 none ws o_R0 #[(.ref b), (.int mn)] h0 (o_P (none) h0 n0) := by
  refine o_enter o_pn_2 (fun m => o_ef4 m b mn) (fun p e s m below meth c s₁ hx hby hml hZ hown hnm hlk hrt X0 e0 => ?_)
  have N0 := Fr.nil n0
  have y_ := @hb _ _ hby
  have k_ := @o_k _ _ hw
  obtain ⟨De1, Dc1, Dv1, Dn1, ⟨kb1, Da1⟩, Dh1, Ds1, Dm1⟩ := id D_b
  refine o_aloadN X0 hx (y_ oD7_0) rfl rfl ?_
  refine o_getF X0 hx hZ hown (host := "") (Or.inl (k_ 144 rfl)) Via.refl e0 Dv1 (y_ oD7_1) (fun T2 X2 e2 => ?_)
  refine o_alen (n := 32) X2 hx hZ e2 Da1 (y_ oD7_4) ?_
  refine o_aloadN X2 hx (y_ oD7_5) rfl rfl ?_
  refine o_getF X2 hx hZ hown (host := "") (Or.inl (k_ 146 rfl)) Via.refl e2 Dc1 (y_ oD7_6) (fun T3 X3 e3 => ?_)
  refine o_ishr X3 hx (y_ oD7_9) ?_
  refine o_valE (z := 16) (by decide) ?_
  refine o_istoreN X3 hx (y_ oD7_10) (A' := #[vR b, vI mn, vI 16]) rfl ?_
  refine o_iloadN X3 hx (y_ oD7_11) rfl ?_
  refine o_iloadN X3 hx (y_ oD7_12) rfl ?_
  refine o_isub X3 hx (y_ oD7_13) ?_
  refine o_iF (t := 38) X3 hx (y_ oD7_14) (fun hq => ?_) (fun hq => ?_)
  · have hc14 := o_h_le.1 hq
    exact o_retV X3 hx hrt hlk (y_ oD7_38) (by decide) (by decide) (o_hQ e3 ⟨rfl, N0, rfl⟩)
  have hc14 := o_h_le.2 hq
  exact absurd hc14 hcap
theorem rmpsu0 (hw : o_HW Z a0) (ws : o_LC) (b : Addr) (x : Addr) (t : Addr) (u : Addr) (ds : List Int32) (fm : Value) (zC_ : Int32) (h0 : Heap) (n0 : Nat) (O0 : Old Z n0 h0) (B_b : o_Bl Z h0 b t 16 ([] : List Int32)) (S_x : o_A Z h0 x u 1 ds) (g_b : n0 ≤ b) (hs : ds.length ≤ 5) (S_u : o_SU Z) (S_f : o_SF Z fm) (hfm : fm.isRef = true) (SC_ : o_SC Z zC_) (hC_ : ¬ zC_ = 0) :
    o_Met l Z o_m10 oJ28 3 none ws o_R34 #[(.ref b), (.int 0), (.ref x)] h0 (Qpsu0 Z b x t u ds fm zC_ h0 n0) := by
  refine o_enter o_pn_2 (fun m => o_ef31 m b x) (fun p e s m below meth c s₁ hx hby hml hZ hown hnm hlk hrt X0 e0 => ?_)
  have N0 := Fr.nil n0
  have y_ := @hb _ _ hby
  have k_ := @o_k _ _ hw
  refine o_aloadN X0 hx (y_ oD10_0) rfl rfl ?_
  refine o_aloadN X0 hx (y_ oD10_1) rfl rfl ?_
  refine o_vir (y := o_m8) (b := b) (argsL := [(.ref x)]) (S := []) (W := 0) X0 hx hZ hown (k_ 175 rfl) (o_decl (k_ 176 rfl) (k_ 179 rfl)) (k_ 178 rfl) (k_ 176 rfl) (backOf (W := 0) (rminu0 l Z a0 hw [] b x t u ds fm zC_ h0 n0 O0 B_b S_x g_b S_u S_f hfm SC_ hC_) hZ (k_ 179 rfl) (k_ 140 rfl) (by decide) (by decide)) e0 B_b.1 hml (lenOf o_pd__28Ljava_2flang_2fString_3b_29V rfl) (y_ oD10_2) (fun T1 L1 v1 X1 hQ1 => ?_)
  obtain ⟨rfl, N1q, Kp1, t1, g_t1, ht1, Dq1⟩ := hQ1
  have N1 := Fr.app N0 N1q
  have O2 := Old.keep O0 Kp1 (allS g_b all0)
  show o_G p e below _ T1 (mkF m 5 #[vR b, vI 0, vR x] [])
  refine o_aloadN X1 hx (y_ oD10_5) rfl rfl ?_
  obtain ⟨De3, Dc3, Dv3, Dn3, ⟨kb3, Da3⟩, Dh3, Ds3, Dm3⟩ := id Dq1
  refine o_aloadN X1 hx (y_ oD10_6) rfl rfl ?_
  refine o_getF X1 hx hZ hown (host := "") (Or.inl (k_ 144 rfl)) Via.refl rfl Dv3 (y_ oD10_7) (fun T4 X4 e4 => ?_)
  refine o_iloadN X4 hx (y_ oD10_10) rfl ?_
  refine o_aloadN X4 hx (y_ oD10_11) rfl rfl ?_
  refine o_getF X4 hx hZ hown (host := "") (Or.inl (k_ 146 rfl)) Via.refl e4 Dc3 (y_ oD10_12) (fun T5 X5 e5 => ?_)
  have c6 := (o_A.keep S_x Kp1 (ninS (Exa.ne S_x.1 B_b.1 (by decide)) nin0) (ninS (Ne.symm (o_A.neT S_x B_b.1 (k_ 131 rfl))) nin0))
  refine o_vir (y := o_m9) (b := x) (argsL := [(.ref t1), (.int 0), (.int 1)]) (S := []) (W := 0) X5 hx hZ hown (k_ 181 rfl) (k_ 182 rfl) (k_ 184 rfl) (k_ 183 rfl) (backOf (W := 0) (rmgbu l Z a0 hw [] x t1 (0 : Int32) u ds kb3 ([] : List Int32) zC_ T1.heap n0 O2 c6 Da3 g_t1 rfl (by decide) (by simp only [List.length_nil, List.length_cons]; omega) SC_ hC_) hZ (k_ 185 rfl) (k_ 6 rfl) (by decide) (by decide)) e5 c6.1 hml (lenOf o_pd__28_5bBIB_29V rfl) (y_ oD10_15) (fun T7 L7 v7 X7 hQ7 => ?_)
  obtain ⟨rfl, N7q, Kp7, Va7⟩ := hQ7
  have N7 := Fr.app N1 N7q
  have O8 := Old.keep O2 Kp7 (allS g_t1 all0)
  show o_G p e below _ T7 (mkF m 18 #[vR b, vI 0, vR x] [])
  have kp9 := Keep.trans (Keep.refl h0 [b]) Kp1 (allS (Or.inl (List.mem_of_getElem? (i := 0) rfl)) all0)
  have kp10 := Keep.trans kp9 Kp7 (allS (Or.inr (Nat.le_trans (Keep.refl h0 [b]).1 ht1)) all0)
  have c11 := (Exa.keep De3 Kp7)
  have c12 := (Fld.keep Dc3 Kp7 (ninS (Nat.ne_of_lt (Nat.lt_of_lt_of_le B_b.lt ht1)) nin0))
  have c13 := (Fld.keep Dv3 Kp7 (ninS (Nat.ne_of_lt (Nat.lt_of_lt_of_le B_b.lt ht1)) nin0))
  have c14 := (Fld.keep Dn3 Kp7 (ninS (Nat.ne_of_lt (Nat.lt_of_lt_of_le B_b.lt ht1)) nin0))
  have c15 := (Fld.keep Dm3 Kp7 (ninS (Nat.ne_of_lt (Nat.lt_of_lt_of_le B_b.lt ht1)) nin0))
  exact o_retV X7 hx hrt hlk (y_ oD10_18) (by decide) (by decide) ⟨rfl, N7, kp10, t1, g_t1, (Nat.le_trans (Keep.refl h0 [b]).1 ht1), ⟨c11, c12, c13, c14, ⟨_, Va7⟩, (o_c16A (by decide) S_x.ak.2.1), (by rw [List.length_append]; simp only [List.length_nil, List.length_cons]; omega), c15⟩⟩
theorem rmaau0 (hw : o_HW Z a0) (ws : o_LC) (b : Addr) (x : Addr) (t : Addr) (u : Addr) (ds : List Int32) (fm : Value) (zC_ : Int32) (h0 : Heap) (n0 : Nat) (O0 : Old Z n0 h0) (B_b : o_Bl Z h0 b t 16 ([] : List Int32)) (S_x : o_A Z h0 x u 1 ds) (g_b : n0 ≤ b) (hs : ds.length ≤ 5) (S_u : o_SU Z) (S_f : o_SF Z fm) (hfm : fm.isRef = true) (SC_ : o_SC Z zC_) (hC_ : ¬ zC_ = 0) :
    o_Met l Z o_m11 oJ9 3 (some (.object "java/lang/AbstractStringBuilder")) ws o_R35 #[(.ref b), (.ref x)] h0 (Qaau0 Z b x t u ds fm zC_ h0 n0) := by
  refine o_enter o_pn_2 (fun m => o_ef8 m b x) (fun p e s m below meth c s₁ hx hby hml hZ hown hnm hlk hrt X0 e0 => ?_)
  have N0 := Fr.nil n0
  have y_ := @hb _ _ hby
  have k_ := @o_k _ _ hw
  obtain ⟨Be1, Bc1, Bv1, Bn1, ⟨kb1, Ba1⟩, Bh1, Bs1, Bm1⟩ := id B_b
  refine o_aloadN X0 hx (y_ oD11_0) rfl rfl ?_
  refine o_nonnullY (t := 9) X0 hx (y_ oD11_1) (by decide) (by decide) ?_
  refine o_aloadN X0 hx (y_ oD11_9) rfl rfl ?_
  refine o_vir (y := o_m6) (b := x) (argsL := []) (S := []) (W := 0) X0 hx hZ hown (k_ 158 rfl) (k_ 159 rfl) (k_ 161 rfl) (k_ 160 rfl) (backOf (W := 0) (rmlna l Z a0 hw [] x u (1 : Int32) ds zC_ h0 n0 O0 S_x SC_ hC_) hZ (k_ 162 rfl) (k_ 6 rfl) (by decide) (by decide)) e0 S_x.1 hml (lenOf o_pd__28_29I rfl) (y_ oD11_10) (fun T2 L2 v2 X2 hQ2 => ?_)
  obtain ⟨rfl, N2q, hh2⟩ := hQ2
  have N2 := Fr.app N0 N2q
  show o_G p e below _ T2 (mkF m 13 #[vR b, vR x, .unset] [(.int (Int32.ofNat ds.length))])
  refine o_istoreN X2 hx (y_ oD11_13) (A' := #[vR b, vR x, vI (Int32.ofNat ds.length)]) rfl ?_
  refine o_aloadN X2 hx (y_ oD11_14) rfl rfl ?_
  refine o_aloadN X2 hx (y_ oD11_15) rfl rfl ?_
  refine o_getF X2 hx hZ hown (host := "") (Or.inl (k_ 163 rfl)) Via.refl hh2 Bn1 (y_ oD11_16) (fun T3 X3 e3 => ?_)
  refine o_iloadN X3 hx (y_ oD11_19) rfl ?_
  refine o_iadd X3 hx (y_ oD11_20) ?_
  refine o_vir (y := o_m7) (b := b) (argsL := [(.int ((Int32.ofNat ([] : List Int32).length) + (Int32.ofNat ds.length)))]) (S := []) (W := 0) X3 hx hZ hown (k_ 165 rfl) (o_decl (k_ 166 rfl) (k_ 169 rfl)) (k_ 168 rfl) (k_ 166 rfl) (backOf (W := 0) (rmeci l Z a0 hw [] b ((Int32.ofNat ([] : List Int32).length) + (Int32.ofNat ds.length)) t (16 : Int32) ([] : List Int32) h0 n0 O0 B_b (o_cap (a := 0) (z := 16) (by decide) (show 0 + ds.length ≤ 16 by omega))) hZ (k_ 169 rfl) (k_ 140 rfl) (by decide) (by decide)) e3 Be1 hml (lenOf o_pd__28I_29V rfl) (y_ oD11_21) (fun T4 L4 v4 X4 hQ4 => ?_)
  obtain ⟨rfl, N4q, hh4⟩ := hQ4
  have N4 := Fr.app N2 N4q
  show o_G p e below _ T4 (mkF m 24 #[vR b, vR x, vI (Int32.ofNat ds.length)] [])
  refine o_aloadN X4 hx (y_ oD11_24) rfl rfl ?_
  refine o_aloadN X4 hx (y_ oD11_25) rfl rfl ?_
  refine o_getF X4 hx hZ hown (host := "") (Or.inl (k_ 163 rfl)) Via.refl hh4 Bn1 (y_ oD11_26) (fun T5 X5 e5 => ?_)
  refine o_valE (z := 0) rfl ?_
  refine o_aloadN X5 hx (y_ oD11_29) rfl rfl ?_
  refine o_vir (y := o_m10) (b := b) (argsL := [(.int 0), (.ref x)]) (S := []) (W := 0) X5 hx hZ hown (k_ 170 rfl) (o_decl (k_ 171 rfl) (k_ 174 rfl)) (k_ 173 rfl) (k_ 171 rfl) (backOf (W := 0) (rmpsu0 l Z a0 hw [] b x t u ds fm zC_ h0 n0 O0 B_b S_x g_b hs S_u S_f hfm SC_ hC_) hZ (k_ 174 rfl) (k_ 140 rfl) (by decide) (by decide)) e5 Be1 hml (lenOf o_pd__28ILjava_2flang_2fString_3b_29V rfl) (y_ oD11_30) (fun T6 L6 v6 X6 hQ6 => ?_)
  obtain ⟨rfl, N6q, Kp6, t6, g_t6, ht6, Dq6⟩ := hQ6
  have N6 := Fr.app N4 N6q
  have O7 := Old.keep O0 Kp6 (allS g_b all0)
  show o_G p e below _ T6 (mkF m 33 #[vR b, vR x, vI (Int32.ofNat ds.length)] [])
  obtain ⟨De8, Dc8, Dv8, Dn8, ⟨kb8, Da8⟩, Dh8, Ds8, Dm8⟩ := id Dq6
  refine o_aloadN X6 hx (y_ oD11_33) rfl rfl ?_
  refine o_dup X6 hx (y_ oD11_34) rfl ?_
  refine o_getF X6 hx hZ hown (host := "") (Or.inl (k_ 163 rfl)) Via.refl rfl Dn8 (y_ oD11_35) (fun T9 X9 e9 => ?_)
  refine o_iloadN X9 hx (y_ oD11_38) rfl ?_
  refine o_iadd X9 hx (y_ oD11_39) ?_
  refine o_putF X9 hx hZ hown (host := "") (Or.inl (k_ 163 rfl)) Via.refl e9 Dn8 De8 (Or.inl (k_ 164 rfl)) (k_ 131 rfl) (ty := .int) (by decide) rfl rfl (y_ oD11_40) (fun T10 h10 X10 e10 W10 => ?_)
  have F10 := Fld.same W10 Dn8
  have N10 := Fr.snoc X10 N6 g_b
  have O10 := Old.wr O7 W10 g_b
  refine o_aloadN X10 hx (y_ oD11_43) rfl rfl ?_
  have kp11 := Keep.trans (Keep.refl h0 [b]) Kp6 (allS (Or.inl (List.mem_of_getElem? (i := 0) rfl)) all0)
  have kp12 := Keep.wr kp11 W10 (Or.inl (List.mem_of_getElem? (i := 0) rfl))
  have c13 := (Exa.wr W10 De8)
  have c14 := (Fld.other W10 Dc8 (Or.inr (slot_ne (Or.inl (k_ 147 rfl)) (Or.inl (k_ 164 rfl)) (by decide) (t := .byte) (t' := .int) (by decide) (by decide))))
  have c15 := (Fld.other W10 Dv8 (Or.inr (slot_ne (Or.inl (k_ 145 rfl)) (Or.inl (k_ 164 rfl)) (by decide) (t := (.array .byte)) (t' := .int) (by decide) (by decide))))
  have c16 := (Arv.other Da8 W10 (Ne.symm (Nat.ne_of_lt (Nat.lt_of_lt_of_le B_b.lt ht6))))
  have c17 := (Fld.other W10 Dm8 (Or.inr (slot_ne (Or.inl (k_ 365 rfl)) (Or.inl (k_ 164 rfl)) (by decide) (t := .boolean) (t' := .int) (by decide) (by decide))))
  exact o_retA X10 hx hrt hlk rfl rfl rfl (y_ oD11_44) (by decide) (by decide) (o_hQ e10 ⟨rfl, N10, kp12, t6, g_t6, (Nat.le_trans (Keep.refl h0 [b]).1 ht6), ⟨c13, c14, c15, (by rw [List.length_append, ← o_oadd]; exact F10), ⟨_, c16⟩, (o_c16A (by decide) S_x.ak.2.1), (by rw [List.length_append]; simp only [List.length_nil, List.length_cons]; omega), c17⟩⟩)
theorem rmsau0 (hw : o_HW Z a0) (ws : o_LC) (b : Addr) (x : Addr) (t : Addr) (u : Addr) (ds : List Int32) (fm : Value) (zC_ : Int32) (h0 : Heap) (n0 : Nat) (O0 : Old Z n0 h0) (B_b : o_Bl Z h0 b t 16 ([] : List Int32)) (S_x : o_A Z h0 x u 1 ds) (g_b : n0 ≤ b) (hs : ds.length ≤ 5) (S_u : o_SU Z) (S_f : o_SF Z fm) (hfm : fm.isRef = true) (SC_ : o_SC Z zC_) (hC_ : ¬ zC_ = 0) :
    o_Met l Z o_m12 oJ40 2 (some (.object "java/lang/StringBuilder")) ws o_R36 #[(.ref b), (.ref x)] h0 (Qsau0 Z b x t u ds fm zC_ h0 n0) := by
  refine o_enter o_pn_3 (fun m => o_ef5 m b x) (fun p e s m below meth c s₁ hx hby hml hZ hown hnm hlk hrt X0 e0 => ?_)
  have N0 := Fr.nil n0
  have y_ := @hb _ _ hby
  have k_ := @o_k _ _ hw
  refine o_aloadN X0 hx (y_ oD12_0) rfl rfl ?_
  refine o_aloadN X0 hx (y_ oD12_1) rfl rfl ?_
  refine o_sup (y := o_m11) (b := b) (argsL := [(.ref x)]) (S := []) (W := 0) X0 hx hZ hown (k_ 153 rfl) (o_same (y2 := o_m7) (k_ 154 rfl) (k_ 168 rfl) rfl (by decide)) (k_ 154 rfl) (k_ 155 rfl) (k_ 157 rfl) (backOf (W := 0) (rmaau0 l Z a0 hw [] b x t u ds fm zC_ h0 n0 O0 B_b S_x g_b hs S_u S_f hfm SC_ hC_) hZ (k_ 157 rfl) (k_ 140 rfl) (by decide) (by decide)) e0 B_b.1 hml (lenOf o_pd__28Ljava_2flang_2fString_3b_29Ljava_2flang_2fAbstractStringBuilder_3b rfl) (y_ oD12_2) (fun T1 L1 v1 X1 hQ1 => ?_)
  obtain ⟨rfl, N1q, Kp1, t1, g_t1, ht1, Dq1⟩ := hQ1
  have N1 := Fr.app N0 N1q
  have O2 := Old.keep O0 Kp1 (allS g_b all0)
  show o_G p e below _ T1 (mkF m 5 #[vR b, vR x] [(.ref b)])
  refine o_pop X1 hx (y_ oD12_5) rfl ?_
  refine o_aloadN X1 hx (y_ oD12_6) rfl rfl ?_
  have kp3 := Keep.trans (Keep.refl h0 [b]) Kp1 (allS (Or.inl (List.mem_of_getElem? (i := 0) rfl)) all0)
  exact o_retA X1 hx hrt hlk rfl rfl rfl (y_ oD12_7) (by decide) (by decide) ⟨rfl, N1, kp3, t1, g_t1, (Nat.le_trans (Keep.refl h0 [b]).1 ht1), Dq1⟩
theorem rmpsv0 (hw : o_HW Z a0) (ws : o_LC) (b : Addr) (ii : Int32) (x : Addr) (t : Addr) (cs : List Int32) (u : Addr) (fm : Value) (zC_ : Int32) (h0 : Heap) (n0 : Nat) (O0 : Old Z n0 h0) (D_b : o_Bv Z h0 b t cs.length cs) (S_x : o_Str Z h0 x u ([] : List Int32)) (g_t : n0 ≤ t) (hcl : cs.length + 0 ≤ 8) (hnut : u ≠ t) (S_u : o_SU Z) (S_f : o_SF Z fm) (hfm : fm.isRef = true) (SC_ : o_SC Z zC_) (hC_ : ¬ zC_ = 0) (hi : ii = Int32.ofNat cs.length) :
    o_Met l Z o_m10 oJ28 3 none ws o_R37 #[(.ref b), (.int ii), (.ref x)] h0 (Qpsv0 Z b ii x t cs u fm zC_ h0 n0) := by
  refine o_enter o_pn_2 (fun m => o_ef7 m b ii x) (fun p e s m below meth c s₁ hx hby hml hZ hown hnm hlk hrt X0 e0 => ?_)
  have N0 := Fr.nil n0
  have y_ := @hb _ _ hby
  have k_ := @o_k _ _ hw
  refine o_aloadN X0 hx (y_ oD10_0) rfl rfl ?_
  refine o_aloadN X0 hx (y_ oD10_1) rfl rfl ?_
  refine o_vir (y := o_m8) (b := b) (argsL := [(.ref x)]) (S := []) (W := 0) X0 hx hZ hown (k_ 175 rfl) (o_decl (k_ 176 rfl) (k_ 179 rfl)) (k_ 178 rfl) (k_ 176 rfl) (backOf (W := 0) (rminv l Z a0 hw [] b x t cs u ([] : List Int32) zC_ h0 n0 O0 D_b S_x SC_ hC_) hZ (k_ 179 rfl) (k_ 140 rfl) (by decide) (by decide)) e0 D_b.1 hml (lenOf o_pd__28Ljava_2flang_2fString_3b_29V rfl) (y_ oD10_2) (fun T1 L1 v1 X1 hQ1 => ?_)
  obtain ⟨rfl, N1q, hh1⟩ := hQ1
  have N1 := Fr.app N0 N1q
  show o_G p e below _ T1 (mkF m 5 #[vR b, vI ii, vR x] [])
  refine o_aloadN X1 hx (y_ oD10_5) rfl rfl ?_
  obtain ⟨De2, Dc2, Dv2, Dn2, ⟨kb2, Da2⟩, Dh2, Ds2, Dm2⟩ := id D_b
  refine o_aloadN X1 hx (y_ oD10_6) rfl rfl ?_
  refine o_getF X1 hx hZ hown (host := "") (Or.inl (k_ 144 rfl)) Via.refl hh1 Dv2 (y_ oD10_7) (fun T3 X3 e3 => ?_)
  refine o_iloadN X3 hx (y_ oD10_10) rfl ?_
  refine o_aloadN X3 hx (y_ oD10_11) rfl rfl ?_
  refine o_getF X3 hx hZ hown (host := "") (Or.inl (k_ 146 rfl)) Via.refl e3 Dc2 (y_ oD10_12) (fun T4 X4 e4 => ?_)
  refine o_vir (y := o_m9) (b := x) (argsL := [(.ref t), (.int ii), (.int 1)]) (S := []) (W := 0) X4 hx hZ hown (k_ 181 rfl) (k_ 182 rfl) (k_ 184 rfl) (k_ 183 rfl) (backOf (W := 0) (rmgbv0 l Z a0 hw [] x t ii u kb2 cs fm zC_ h0 n0 O0 S_x Da2 g_t hi D_b.2.2.2.2.2.1 hcl hnut S_u S_f hfm SC_ hC_) hZ (k_ 185 rfl) (k_ 6 rfl) (by decide) (by decide)) e4 S_x.1 hml (lenOf o_pd__28_5bBIB_29V rfl) (y_ oD10_15) (fun T5 L5 v5 X5 hQ5 => ?_)
  obtain ⟨rfl, N5q, Kp5, Va5⟩ := hQ5
  have N5 := Fr.app N1 N5q
  have O6 := Old.keep O0 Kp5 (allS g_t all0)
  show o_G p e below _ T5 (mkF m 18 #[vR b, vI ii, vR x] [])
  have kp7 := Keep.trans (Keep.refl h0 [t]) Kp5 (allS (Or.inl (List.mem_of_getElem? (i := 0) rfl)) all0)
  have c8 := (Exa.keep De2 Kp5)
  have c9 := (Fld.keep Dc2 Kp5 (ninS (Exa.neArv De2 Da2 (k_ 131 rfl)) nin0))
  have c10 := (Fld.keep Dv2 Kp5 (ninS (Exa.neArv De2 Da2 (k_ 131 rfl)) nin0))
  have c11 := (Fld.keep Dn2 Kp5 (ninS (Exa.neArv De2 Da2 (k_ 131 rfl)) nin0))
  have c12 := (Fld.keep Dm2 Kp5 (ninS (Exa.neArv De2 Da2 (k_ 131 rfl)) nin0))
  exact o_retV X5 hx hrt hlk (y_ oD10_18) (by decide) (by decide) ⟨rfl, N5, kp7, ⟨c8, c9, c10, c11, ⟨_, Va5⟩, D_b.2.2.2.2.2.1, (by omega), c12⟩⟩
theorem rmaav0 (hw : o_HW Z a0) (ws : o_LC) (b : Addr) (x : Addr) (t : Addr) (cs : List Int32) (u : Addr) (fm : Value) (zC_ : Int32) (h0 : Heap) (n0 : Nat) (O0 : Old Z n0 h0) (D_b : o_Bv Z h0 b t cs.length cs) (S_x : o_Str Z h0 x u ([] : List Int32)) (g_t : n0 ≤ t) (hcl : cs.length + 0 ≤ 8) (hnut : u ≠ t) (S_u : o_SU Z) (S_f : o_SF Z fm) (hfm : fm.isRef = true) (SC_ : o_SC Z zC_) (hC_ : ¬ zC_ = 0) (g_b : n0 ≤ b) :
    o_Met l Z o_m11 oJ9 3 (some (.object "java/lang/AbstractStringBuilder")) ws o_R38 #[(.ref b), (.ref x)] h0 (Qaav0 Z b x t cs u fm zC_ h0 n0) := by
  refine o_enter o_pn_2 (fun m => o_ef8 m b x) (fun p e s m below meth c s₁ hx hby hml hZ hown hnm hlk hrt X0 e0 => ?_)
  have N0 := Fr.nil n0
  have y_ := @hb _ _ hby
  have k_ := @o_k _ _ hw
  obtain ⟨De1, Dc1, Dv1, Dn1, ⟨kb1, Da1⟩, Dh1, Ds1, Dm1⟩ := id D_b
  refine o_aloadN X0 hx (y_ oD11_0) rfl rfl ?_
  refine o_nonnullY (t := 9) X0 hx (y_ oD11_1) (by decide) (by decide) ?_
  refine o_aloadN X0 hx (y_ oD11_9) rfl rfl ?_
  refine o_vir (y := o_m6) (b := x) (argsL := []) (S := []) (W := 0) X0 hx hZ hown (k_ 158 rfl) (k_ 159 rfl) (k_ 161 rfl) (k_ 160 rfl) (backOf (W := 0) (rmlen l Z a0 hw [] x u ([] : List Int32) zC_ h0 n0 O0 S_x SC_ hC_) hZ (k_ 162 rfl) (k_ 6 rfl) (by decide) (by decide)) e0 S_x.1 hml (lenOf o_pd__28_29I rfl) (y_ oD11_10) (fun T2 L2 v2 X2 hQ2 => ?_)
  obtain ⟨rfl, N2q, hh2⟩ := hQ2
  have N2 := Fr.app N0 N2q
  show o_G p e below _ T2 (mkF m 13 #[vR b, vR x, .unset] [(.int (Int32.ofNat ([] : List Int32).length))])
  refine o_istoreN X2 hx (y_ oD11_13) (A' := #[vR b, vR x, vI (Int32.ofNat ([] : List Int32).length)]) rfl ?_
  refine o_aloadN X2 hx (y_ oD11_14) rfl rfl ?_
  refine o_aloadN X2 hx (y_ oD11_15) rfl rfl ?_
  refine o_getF X2 hx hZ hown (host := "") (Or.inl (k_ 163 rfl)) Via.refl hh2 Dn1 (y_ oD11_16) (fun T3 X3 e3 => ?_)
  refine o_iloadN X3 hx (y_ oD11_19) rfl ?_
  refine o_iadd X3 hx (y_ oD11_20) ?_
  refine o_vir (y := o_m7) (b := b) (argsL := [(.int ((Int32.ofNat cs.length) + (Int32.ofNat ([] : List Int32).length)))]) (S := []) (W := 0) X3 hx hZ hown (k_ 165 rfl) (o_decl (k_ 166 rfl) (k_ 169 rfl)) (k_ 168 rfl) (k_ 166 rfl) (backOf (W := 0) (rmecv l Z a0 hw [] b ((Int32.ofNat cs.length) + (Int32.ofNat ([] : List Int32).length)) t cs h0 n0 O0 D_b (o_cap (b := 0) (z := 16) (by decide) (show cs.length + 0 ≤ 16 by omega))) hZ (k_ 169 rfl) (k_ 140 rfl) (by decide) (by decide)) e3 De1 hml (lenOf o_pd__28I_29V rfl) (y_ oD11_21) (fun T4 L4 v4 X4 hQ4 => ?_)
  obtain ⟨rfl, N4q, hh4⟩ := hQ4
  have N4 := Fr.app N2 N4q
  show o_G p e below _ T4 (mkF m 24 #[vR b, vR x, vI (Int32.ofNat ([] : List Int32).length)] [])
  refine o_aloadN X4 hx (y_ oD11_24) rfl rfl ?_
  refine o_aloadN X4 hx (y_ oD11_25) rfl rfl ?_
  refine o_getF X4 hx hZ hown (host := "") (Or.inl (k_ 163 rfl)) Via.refl hh4 Dn1 (y_ oD11_26) (fun T5 X5 e5 => ?_)
  refine o_aloadN X5 hx (y_ oD11_29) rfl rfl ?_
  refine o_vir (y := o_m10) (b := b) (argsL := [(.int (Int32.ofNat cs.length)), (.ref x)]) (S := []) (W := 0) X5 hx hZ hown (k_ 170 rfl) (o_decl (k_ 171 rfl) (k_ 174 rfl)) (k_ 173 rfl) (k_ 171 rfl) (backOf (W := 0) (rmpsv0 l Z a0 hw [] b (Int32.ofNat cs.length) x t cs u fm zC_ h0 n0 O0 D_b S_x g_t hcl hnut S_u S_f hfm SC_ hC_ rfl) hZ (k_ 174 rfl) (k_ 140 rfl) (by decide) (by decide)) e5 De1 hml (lenOf o_pd__28ILjava_2flang_2fString_3b_29V rfl) (y_ oD11_30) (fun T6 L6 v6 X6 hQ6 => ?_)
  obtain ⟨rfl, N6q, Kp6, Dq6⟩ := hQ6
  have N6 := Fr.app N4 N6q
  have O7 := Old.keep O0 Kp6 (allS g_t all0)
  show o_G p e below _ T6 (mkF m 33 #[vR b, vR x, vI (Int32.ofNat ([] : List Int32).length)] [])
  obtain ⟨De8, Dc8, Dv8, Dn8, ⟨kb8, Da8⟩, Dh8, Ds8, Dm8⟩ := id Dq6
  refine o_aloadN X6 hx (y_ oD11_33) rfl rfl ?_
  refine o_dup X6 hx (y_ oD11_34) rfl ?_
  refine o_getF X6 hx hZ hown (host := "") (Or.inl (k_ 163 rfl)) Via.refl rfl Dn8 (y_ oD11_35) (fun T9 X9 e9 => ?_)
  refine o_iloadN X9 hx (y_ oD11_38) rfl ?_
  refine o_iadd X9 hx (y_ oD11_39) ?_
  refine o_putF X9 hx hZ hown (host := "") (Or.inl (k_ 163 rfl)) Via.refl e9 Dn8 De8 (Or.inl (k_ 164 rfl)) (k_ 131 rfl) (ty := .int) (by decide) rfl rfl (y_ oD11_40) (fun T10 h10 X10 e10 W10 => ?_)
  have F10 := Fld.same W10 Dn8
  have N10 := Fr.snoc X10 N6 g_b
  have O10 := Old.wr O7 W10 g_b
  refine o_aloadN X10 hx (y_ oD11_43) rfl rfl ?_
  have kp11 := Keep.trans (Keep.refl h0 [b, t]) Kp6 (allS (Or.inl (List.mem_of_getElem? (i := 1) rfl)) all0)
  have kp12 := Keep.wr kp11 W10 (Or.inl (List.mem_of_getElem? (i := 0) rfl))
  have c13 := (Exa.wr W10 De8)
  have c14 := (Fld.other W10 Dc8 (Or.inr (slot_ne (Or.inl (k_ 147 rfl)) (Or.inl (k_ 164 rfl)) (by decide) (t := .byte) (t' := .int) (by decide) (by decide))))
  have c15 := (Fld.other W10 Dv8 (Or.inr (slot_ne (Or.inl (k_ 145 rfl)) (Or.inl (k_ 164 rfl)) (by decide) (t := (.array .byte)) (t' := .int) (by decide) (by decide))))
  have c16 := (Arv.other Da8 W10 (Ne.symm (Exa.neArv De8 Da8 (k_ 131 rfl))))
  have c17 := (Fld.other W10 Dm8 (Or.inr (slot_ne (Or.inl (k_ 365 rfl)) (Or.inl (k_ 164 rfl)) (by decide) (t := .boolean) (t' := .int) (by decide) (by decide))))
  exact o_retA X10 hx hrt hlk rfl rfl rfl (y_ oD11_44) (by decide) (by decide) (o_hQ e10 ⟨rfl, N10, kp12, ⟨c13, c14, c15, (by have q := F10; rw [show (Int32.ofNat cs.length + Int32.ofNat ([] : List Int32).length : Int32) = Int32.ofNat cs.length from Int32.add_zero _] at q; exact q), ⟨_, c16⟩, D_b.2.2.2.2.2.1, (by omega), c17⟩⟩)
theorem rmsav0 (hw : o_HW Z a0) (ws : o_LC) (b : Addr) (x : Addr) (t : Addr) (cs : List Int32) (u : Addr) (fm : Value) (zC_ : Int32) (h0 : Heap) (n0 : Nat) (O0 : Old Z n0 h0) (D_b : o_Bv Z h0 b t cs.length cs) (S_x : o_Str Z h0 x u ([] : List Int32)) (g_t : n0 ≤ t) (hcl : cs.length + 0 ≤ 8) (hnut : u ≠ t) (S_u : o_SU Z) (S_f : o_SF Z fm) (hfm : fm.isRef = true) (SC_ : o_SC Z zC_) (hC_ : ¬ zC_ = 0) (g_b : n0 ≤ b) :
    o_Met l Z o_m12 oJ40 2 (some (.object "java/lang/StringBuilder")) ws o_R39 #[(.ref b), (.ref x)] h0 (Qsav0 Z b x t cs u fm zC_ h0 n0) := by
  refine o_enter o_pn_3 (fun m => o_ef5 m b x) (fun p e s m below meth c s₁ hx hby hml hZ hown hnm hlk hrt X0 e0 => ?_)
  have N0 := Fr.nil n0
  have y_ := @hb _ _ hby
  have k_ := @o_k _ _ hw
  refine o_aloadN X0 hx (y_ oD12_0) rfl rfl ?_
  refine o_aloadN X0 hx (y_ oD12_1) rfl rfl ?_
  refine o_sup (y := o_m11) (b := b) (argsL := [(.ref x)]) (S := []) (W := 0) X0 hx hZ hown (k_ 153 rfl) (o_same (y2 := o_m7) (k_ 154 rfl) (k_ 168 rfl) rfl (by decide)) (k_ 154 rfl) (k_ 155 rfl) (k_ 157 rfl) (backOf (W := 0) (rmaav0 l Z a0 hw [] b x t cs u fm zC_ h0 n0 O0 D_b S_x g_t hcl hnut S_u S_f hfm SC_ hC_ g_b) hZ (k_ 157 rfl) (k_ 140 rfl) (by decide) (by decide)) e0 D_b.1 hml (lenOf o_pd__28Ljava_2flang_2fString_3b_29Ljava_2flang_2fAbstractStringBuilder_3b rfl) (y_ oD12_2) (fun T1 L1 v1 X1 hQ1 => ?_)
  obtain ⟨rfl, N1q, Kp1, Dq1⟩ := hQ1
  have N1 := Fr.app N0 N1q
  have O2 := Old.keep O0 Kp1 (allS g_b (allS g_t all0))
  show o_G p e below _ T1 (mkF m 5 #[vR b, vR x] [(.ref b)])
  refine o_pop X1 hx (y_ oD12_5) rfl ?_
  refine o_aloadN X1 hx (y_ oD12_6) rfl rfl ?_
  have kp3 := Keep.trans (Keep.refl h0 [b, t]) Kp1 (allS (Or.inl (List.mem_of_getElem? (i := 0) rfl)) (allS (Or.inl (List.mem_of_getElem? (i := 1) rfl)) all0))
  exact o_retA X1 hx hrt hlk rfl rfl rfl (y_ oD12_7) (by decide) (by decide) ⟨rfl, N1, kp3, Dq1⟩
theorem rmpsu1 (hw : o_HW Z a0) (ws : o_LC) (b : Addr) (x : Addr) (t : Addr) (u : Addr) (ds : List Int32) (fm : Value) (zC_ : Int32) (h0 : Heap) (n0 : Nat) (O0 : Old Z n0 h0) (B_b : o_Bl Z h0 b t 16 ([42] : List Int32)) (S_x : o_A Z h0 x u 1 ds) (g_b : n0 ≤ b) (hs : ds.length ≤ 5) (S_u : o_SU Z) (S_f : o_SF Z fm) (hfm : fm.isRef = true) (SC_ : o_SC Z zC_) (hC_ : ¬ zC_ = 0) :
    o_Met l Z o_m10 oJ28 3 none ws o_R34 #[(.ref b), (.int 1), (.ref x)] h0 (Qpsu1 Z b x t u ds fm zC_ h0 n0) := by
  refine o_enter o_pn_2 (fun m => o_ef32 m b x) (fun p e s m below meth c s₁ hx hby hml hZ hown hnm hlk hrt X0 e0 => ?_)
  have N0 := Fr.nil n0
  have y_ := @hb _ _ hby
  have k_ := @o_k _ _ hw
  refine o_aloadN X0 hx (y_ oD10_0) rfl rfl ?_
  refine o_aloadN X0 hx (y_ oD10_1) rfl rfl ?_
  refine o_vir (y := o_m8) (b := b) (argsL := [(.ref x)]) (S := []) (W := 0) X0 hx hZ hown (k_ 175 rfl) (o_decl (k_ 176 rfl) (k_ 179 rfl)) (k_ 178 rfl) (k_ 176 rfl) (backOf (W := 0) (rminu1 l Z a0 hw [] b x t u ds fm zC_ h0 n0 O0 B_b S_x g_b S_u S_f hfm SC_ hC_) hZ (k_ 179 rfl) (k_ 140 rfl) (by decide) (by decide)) e0 B_b.1 hml (lenOf o_pd__28Ljava_2flang_2fString_3b_29V rfl) (y_ oD10_2) (fun T1 L1 v1 X1 hQ1 => ?_)
  obtain ⟨rfl, N1q, Kp1, t1, g_t1, ht1, Dq1⟩ := hQ1
  have N1 := Fr.app N0 N1q
  have O2 := Old.keep O0 Kp1 (allS g_b all0)
  show o_G p e below _ T1 (mkF m 5 #[vR b, vI 1, vR x] [])
  refine o_aloadN X1 hx (y_ oD10_5) rfl rfl ?_
  obtain ⟨De3, Dc3, Dv3, Dn3, ⟨kb3, Da3⟩, Dh3, Ds3, Dm3⟩ := id Dq1
  refine o_aloadN X1 hx (y_ oD10_6) rfl rfl ?_
  refine o_getF X1 hx hZ hown (host := "") (Or.inl (k_ 144 rfl)) Via.refl rfl Dv3 (y_ oD10_7) (fun T4 X4 e4 => ?_)
  refine o_iloadN X4 hx (y_ oD10_10) rfl ?_
  refine o_aloadN X4 hx (y_ oD10_11) rfl rfl ?_
  refine o_getF X4 hx hZ hown (host := "") (Or.inl (k_ 146 rfl)) Via.refl e4 Dc3 (y_ oD10_12) (fun T5 X5 e5 => ?_)
  have c6 := (o_A.keep S_x Kp1 (ninS (Exa.ne S_x.1 B_b.1 (by decide)) nin0) (ninS (Ne.symm (o_A.neT S_x B_b.1 (k_ 131 rfl))) nin0))
  refine o_vir (y := o_m9) (b := x) (argsL := [(.ref t1), (.int 1), (.int 1)]) (S := []) (W := 0) X5 hx hZ hown (k_ 181 rfl) (k_ 182 rfl) (k_ 184 rfl) (k_ 183 rfl) (backOf (W := 0) (rmgbu l Z a0 hw [] x t1 (1 : Int32) u ds kb3 ([42] : List Int32) zC_ T1.heap n0 O2 c6 Da3 g_t1 rfl (by decide) (by simp only [List.length_nil, List.length_cons]; omega) SC_ hC_) hZ (k_ 185 rfl) (k_ 6 rfl) (by decide) (by decide)) e5 c6.1 hml (lenOf o_pd__28_5bBIB_29V rfl) (y_ oD10_15) (fun T7 L7 v7 X7 hQ7 => ?_)
  obtain ⟨rfl, N7q, Kp7, Va7⟩ := hQ7
  have N7 := Fr.app N1 N7q
  have O8 := Old.keep O2 Kp7 (allS g_t1 all0)
  show o_G p e below _ T7 (mkF m 18 #[vR b, vI 1, vR x] [])
  have kp9 := Keep.trans (Keep.refl h0 [b]) Kp1 (allS (Or.inl (List.mem_of_getElem? (i := 0) rfl)) all0)
  have kp10 := Keep.trans kp9 Kp7 (allS (Or.inr (Nat.le_trans (Keep.refl h0 [b]).1 ht1)) all0)
  have c11 := (Exa.keep De3 Kp7)
  have c12 := (Fld.keep Dc3 Kp7 (ninS (Nat.ne_of_lt (Nat.lt_of_lt_of_le B_b.lt ht1)) nin0))
  have c13 := (Fld.keep Dv3 Kp7 (ninS (Nat.ne_of_lt (Nat.lt_of_lt_of_le B_b.lt ht1)) nin0))
  have c14 := (Fld.keep Dn3 Kp7 (ninS (Nat.ne_of_lt (Nat.lt_of_lt_of_le B_b.lt ht1)) nin0))
  have c15 := (Fld.keep Dm3 Kp7 (ninS (Nat.ne_of_lt (Nat.lt_of_lt_of_le B_b.lt ht1)) nin0))
  exact o_retV X7 hx hrt hlk (y_ oD10_18) (by decide) (by decide) ⟨rfl, N7, kp10, t1, g_t1, (Nat.le_trans (Keep.refl h0 [b]).1 ht1), ⟨c11, c12, c13, c14, ⟨_, Va7⟩, (o_c16A (by decide) S_x.ak.2.1), (by rw [List.length_append]; simp only [List.length_nil, List.length_cons]; omega), c15⟩⟩
theorem rmaau1 (hw : o_HW Z a0) (ws : o_LC) (b : Addr) (x : Addr) (t : Addr) (u : Addr) (ds : List Int32) (fm : Value) (zC_ : Int32) (h0 : Heap) (n0 : Nat) (O0 : Old Z n0 h0) (B_b : o_Bl Z h0 b t 16 ([42] : List Int32)) (S_x : o_A Z h0 x u 1 ds) (g_b : n0 ≤ b) (hs : ds.length ≤ 5) (S_u : o_SU Z) (S_f : o_SF Z fm) (hfm : fm.isRef = true) (SC_ : o_SC Z zC_) (hC_ : ¬ zC_ = 0) :
    o_Met l Z o_m11 oJ9 3 (some (.object "java/lang/AbstractStringBuilder")) ws o_R35 #[(.ref b), (.ref x)] h0 (Qaau1 Z b x t u ds fm zC_ h0 n0) := by
  refine o_enter o_pn_2 (fun m => o_ef8 m b x) (fun p e s m below meth c s₁ hx hby hml hZ hown hnm hlk hrt X0 e0 => ?_)
  have N0 := Fr.nil n0
  have y_ := @hb _ _ hby
  have k_ := @o_k _ _ hw
  obtain ⟨Be1, Bc1, Bv1, Bn1, ⟨kb1, Ba1⟩, Bh1, Bs1, Bm1⟩ := id B_b
  refine o_aloadN X0 hx (y_ oD11_0) rfl rfl ?_
  refine o_nonnullY (t := 9) X0 hx (y_ oD11_1) (by decide) (by decide) ?_
  refine o_aloadN X0 hx (y_ oD11_9) rfl rfl ?_
  refine o_vir (y := o_m6) (b := x) (argsL := []) (S := []) (W := 0) X0 hx hZ hown (k_ 158 rfl) (k_ 159 rfl) (k_ 161 rfl) (k_ 160 rfl) (backOf (W := 0) (rmlna l Z a0 hw [] x u (1 : Int32) ds zC_ h0 n0 O0 S_x SC_ hC_) hZ (k_ 162 rfl) (k_ 6 rfl) (by decide) (by decide)) e0 S_x.1 hml (lenOf o_pd__28_29I rfl) (y_ oD11_10) (fun T2 L2 v2 X2 hQ2 => ?_)
  obtain ⟨rfl, N2q, hh2⟩ := hQ2
  have N2 := Fr.app N0 N2q
  show o_G p e below _ T2 (mkF m 13 #[vR b, vR x, .unset] [(.int (Int32.ofNat ds.length))])
  refine o_istoreN X2 hx (y_ oD11_13) (A' := #[vR b, vR x, vI (Int32.ofNat ds.length)]) rfl ?_
  refine o_aloadN X2 hx (y_ oD11_14) rfl rfl ?_
  refine o_aloadN X2 hx (y_ oD11_15) rfl rfl ?_
  refine o_getF X2 hx hZ hown (host := "") (Or.inl (k_ 163 rfl)) Via.refl hh2 Bn1 (y_ oD11_16) (fun T3 X3 e3 => ?_)
  refine o_iloadN X3 hx (y_ oD11_19) rfl ?_
  refine o_iadd X3 hx (y_ oD11_20) ?_
  refine o_vir (y := o_m7) (b := b) (argsL := [(.int ((Int32.ofNat ([42] : List Int32).length) + (Int32.ofNat ds.length)))]) (S := []) (W := 0) X3 hx hZ hown (k_ 165 rfl) (o_decl (k_ 166 rfl) (k_ 169 rfl)) (k_ 168 rfl) (k_ 166 rfl) (backOf (W := 0) (rmeci l Z a0 hw [] b ((Int32.ofNat ([42] : List Int32).length) + (Int32.ofNat ds.length)) t (16 : Int32) ([42] : List Int32) h0 n0 O0 B_b (o_cap (a := 1) (z := 16) (by decide) (show 1 + ds.length ≤ 16 by omega))) hZ (k_ 169 rfl) (k_ 140 rfl) (by decide) (by decide)) e3 Be1 hml (lenOf o_pd__28I_29V rfl) (y_ oD11_21) (fun T4 L4 v4 X4 hQ4 => ?_)
  obtain ⟨rfl, N4q, hh4⟩ := hQ4
  have N4 := Fr.app N2 N4q
  show o_G p e below _ T4 (mkF m 24 #[vR b, vR x, vI (Int32.ofNat ds.length)] [])
  refine o_aloadN X4 hx (y_ oD11_24) rfl rfl ?_
  refine o_aloadN X4 hx (y_ oD11_25) rfl rfl ?_
  refine o_getF X4 hx hZ hown (host := "") (Or.inl (k_ 163 rfl)) Via.refl hh4 Bn1 (y_ oD11_26) (fun T5 X5 e5 => ?_)
  refine o_valE (z := 1) rfl ?_
  refine o_aloadN X5 hx (y_ oD11_29) rfl rfl ?_
  refine o_vir (y := o_m10) (b := b) (argsL := [(.int 1), (.ref x)]) (S := []) (W := 0) X5 hx hZ hown (k_ 170 rfl) (o_decl (k_ 171 rfl) (k_ 174 rfl)) (k_ 173 rfl) (k_ 171 rfl) (backOf (W := 0) (rmpsu1 l Z a0 hw [] b x t u ds fm zC_ h0 n0 O0 B_b S_x g_b hs S_u S_f hfm SC_ hC_) hZ (k_ 174 rfl) (k_ 140 rfl) (by decide) (by decide)) e5 Be1 hml (lenOf o_pd__28ILjava_2flang_2fString_3b_29V rfl) (y_ oD11_30) (fun T6 L6 v6 X6 hQ6 => ?_)
  obtain ⟨rfl, N6q, Kp6, t6, g_t6, ht6, Dq6⟩ := hQ6
  have N6 := Fr.app N4 N6q
  have O7 := Old.keep O0 Kp6 (allS g_b all0)
  show o_G p e below _ T6 (mkF m 33 #[vR b, vR x, vI (Int32.ofNat ds.length)] [])
  obtain ⟨De8, Dc8, Dv8, Dn8, ⟨kb8, Da8⟩, Dh8, Ds8, Dm8⟩ := id Dq6
  refine o_aloadN X6 hx (y_ oD11_33) rfl rfl ?_
  refine o_dup X6 hx (y_ oD11_34) rfl ?_
  refine o_getF X6 hx hZ hown (host := "") (Or.inl (k_ 163 rfl)) Via.refl rfl Dn8 (y_ oD11_35) (fun T9 X9 e9 => ?_)
  refine o_iloadN X9 hx (y_ oD11_38) rfl ?_
  refine o_iadd X9 hx (y_ oD11_39) ?_
  refine o_putF X9 hx hZ hown (host := "") (Or.inl (k_ 163 rfl)) Via.refl e9 Dn8 De8 (Or.inl (k_ 164 rfl)) (k_ 131 rfl) (ty := .int) (by decide) rfl rfl (y_ oD11_40) (fun T10 h10 X10 e10 W10 => ?_)
  have F10 := Fld.same W10 Dn8
  have N10 := Fr.snoc X10 N6 g_b
  have O10 := Old.wr O7 W10 g_b
  refine o_aloadN X10 hx (y_ oD11_43) rfl rfl ?_
  have kp11 := Keep.trans (Keep.refl h0 [b]) Kp6 (allS (Or.inl (List.mem_of_getElem? (i := 0) rfl)) all0)
  have kp12 := Keep.wr kp11 W10 (Or.inl (List.mem_of_getElem? (i := 0) rfl))
  have c13 := (Exa.wr W10 De8)
  have c14 := (Fld.other W10 Dc8 (Or.inr (slot_ne (Or.inl (k_ 147 rfl)) (Or.inl (k_ 164 rfl)) (by decide) (t := .byte) (t' := .int) (by decide) (by decide))))
  have c15 := (Fld.other W10 Dv8 (Or.inr (slot_ne (Or.inl (k_ 145 rfl)) (Or.inl (k_ 164 rfl)) (by decide) (t := (.array .byte)) (t' := .int) (by decide) (by decide))))
  have c16 := (Arv.other Da8 W10 (Ne.symm (Nat.ne_of_lt (Nat.lt_of_lt_of_le B_b.lt ht6))))
  have c17 := (Fld.other W10 Dm8 (Or.inr (slot_ne (Or.inl (k_ 365 rfl)) (Or.inl (k_ 164 rfl)) (by decide) (t := .boolean) (t' := .int) (by decide) (by decide))))
  exact o_retA X10 hx hrt hlk rfl rfl rfl (y_ oD11_44) (by decide) (by decide) (o_hQ e10 ⟨rfl, N10, kp12, t6, g_t6, (Nat.le_trans (Keep.refl h0 [b]).1 ht6), ⟨c13, c14, c15, (by rw [List.length_append, ← o_oadd]; exact F10), ⟨_, c16⟩, (o_c16A (by decide) S_x.ak.2.1), (by rw [List.length_append]; simp only [List.length_nil, List.length_cons]; omega), c17⟩⟩)
theorem rmsau1 (hw : o_HW Z a0) (ws : o_LC) (b : Addr) (x : Addr) (t : Addr) (u : Addr) (ds : List Int32) (fm : Value) (zC_ : Int32) (h0 : Heap) (n0 : Nat) (O0 : Old Z n0 h0) (B_b : o_Bl Z h0 b t 16 ([42] : List Int32)) (S_x : o_A Z h0 x u 1 ds) (g_b : n0 ≤ b) (hs : ds.length ≤ 5) (S_u : o_SU Z) (S_f : o_SF Z fm) (hfm : fm.isRef = true) (SC_ : o_SC Z zC_) (hC_ : ¬ zC_ = 0) :
    o_Met l Z o_m12 oJ40 2 (some (.object "java/lang/StringBuilder")) ws o_R36 #[(.ref b), (.ref x)] h0 (Qsau1 Z b x t u ds fm zC_ h0 n0) := by
  refine o_enter o_pn_3 (fun m => o_ef5 m b x) (fun p e s m below meth c s₁ hx hby hml hZ hown hnm hlk hrt X0 e0 => ?_)
  have N0 := Fr.nil n0
  have y_ := @hb _ _ hby
  have k_ := @o_k _ _ hw
  refine o_aloadN X0 hx (y_ oD12_0) rfl rfl ?_
  refine o_aloadN X0 hx (y_ oD12_1) rfl rfl ?_
  refine o_sup (y := o_m11) (b := b) (argsL := [(.ref x)]) (S := []) (W := 0) X0 hx hZ hown (k_ 153 rfl) (o_same (y2 := o_m7) (k_ 154 rfl) (k_ 168 rfl) rfl (by decide)) (k_ 154 rfl) (k_ 155 rfl) (k_ 157 rfl) (backOf (W := 0) (rmaau1 l Z a0 hw [] b x t u ds fm zC_ h0 n0 O0 B_b S_x g_b hs S_u S_f hfm SC_ hC_) hZ (k_ 157 rfl) (k_ 140 rfl) (by decide) (by decide)) e0 B_b.1 hml (lenOf o_pd__28Ljava_2flang_2fString_3b_29Ljava_2flang_2fAbstractStringBuilder_3b rfl) (y_ oD12_2) (fun T1 L1 v1 X1 hQ1 => ?_)
  obtain ⟨rfl, N1q, Kp1, t1, g_t1, ht1, Dq1⟩ := hQ1
  have N1 := Fr.app N0 N1q
  have O2 := Old.keep O0 Kp1 (allS g_b all0)
  show o_G p e below _ T1 (mkF m 5 #[vR b, vR x] [(.ref b)])
  refine o_pop X1 hx (y_ oD12_5) rfl ?_
  refine o_aloadN X1 hx (y_ oD12_6) rfl rfl ?_
  have kp3 := Keep.trans (Keep.refl h0 [b]) Kp1 (allS (Or.inl (List.mem_of_getElem? (i := 0) rfl)) all0)
  exact o_retA X1 hx hrt hlk rfl rfl rfl (y_ oD12_7) (by decide) (by decide) ⟨rfl, N1, kp3, t1, g_t1, (Nat.le_trans (Keep.refl h0 [b]).1 ht1), Dq1⟩
theorem rmpsv1 (hw : o_HW Z a0) (ws : o_LC) (b : Addr) (ii : Int32) (x : Addr) (t : Addr) (cs : List Int32) (u : Addr) (fm : Value) (zC_ : Int32) (h0 : Heap) (n0 : Nat) (O0 : Old Z n0 h0) (D_b : o_Bv Z h0 b t cs.length cs) (S_x : o_Str Z h0 x u ([42] : List Int32)) (g_t : n0 ≤ t) (hcl : cs.length + 1 ≤ 8) (hnut : u ≠ t) (S_u : o_SU Z) (S_f : o_SF Z fm) (hfm : fm.isRef = true) (SC_ : o_SC Z zC_) (hC_ : ¬ zC_ = 0) (hi : ii = Int32.ofNat cs.length) :
    o_Met l Z o_m10 oJ28 3 none ws o_R37 #[(.ref b), (.int ii), (.ref x)] h0 (Qpsv1 Z b ii x t cs u fm zC_ h0 n0) := by
  refine o_enter o_pn_2 (fun m => o_ef7 m b ii x) (fun p e s m below meth c s₁ hx hby hml hZ hown hnm hlk hrt X0 e0 => ?_)
  have N0 := Fr.nil n0
  have y_ := @hb _ _ hby
  have k_ := @o_k _ _ hw
  refine o_aloadN X0 hx (y_ oD10_0) rfl rfl ?_
  refine o_aloadN X0 hx (y_ oD10_1) rfl rfl ?_
  refine o_vir (y := o_m8) (b := b) (argsL := [(.ref x)]) (S := []) (W := 0) X0 hx hZ hown (k_ 175 rfl) (o_decl (k_ 176 rfl) (k_ 179 rfl)) (k_ 178 rfl) (k_ 176 rfl) (backOf (W := 0) (rminv l Z a0 hw [] b x t cs u ([42] : List Int32) zC_ h0 n0 O0 D_b S_x SC_ hC_) hZ (k_ 179 rfl) (k_ 140 rfl) (by decide) (by decide)) e0 D_b.1 hml (lenOf o_pd__28Ljava_2flang_2fString_3b_29V rfl) (y_ oD10_2) (fun T1 L1 v1 X1 hQ1 => ?_)
  obtain ⟨rfl, N1q, hh1⟩ := hQ1
  have N1 := Fr.app N0 N1q
  show o_G p e below _ T1 (mkF m 5 #[vR b, vI ii, vR x] [])
  refine o_aloadN X1 hx (y_ oD10_5) rfl rfl ?_
  obtain ⟨De2, Dc2, Dv2, Dn2, ⟨kb2, Da2⟩, Dh2, Ds2, Dm2⟩ := id D_b
  refine o_aloadN X1 hx (y_ oD10_6) rfl rfl ?_
  refine o_getF X1 hx hZ hown (host := "") (Or.inl (k_ 144 rfl)) Via.refl hh1 Dv2 (y_ oD10_7) (fun T3 X3 e3 => ?_)
  refine o_iloadN X3 hx (y_ oD10_10) rfl ?_
  refine o_aloadN X3 hx (y_ oD10_11) rfl rfl ?_
  refine o_getF X3 hx hZ hown (host := "") (Or.inl (k_ 146 rfl)) Via.refl e3 Dc2 (y_ oD10_12) (fun T4 X4 e4 => ?_)
  refine o_vir (y := o_m9) (b := x) (argsL := [(.ref t), (.int ii), (.int 1)]) (S := []) (W := 0) X4 hx hZ hown (k_ 181 rfl) (k_ 182 rfl) (k_ 184 rfl) (k_ 183 rfl) (backOf (W := 0) (rmgbv1 l Z a0 hw [] x t ii u kb2 cs fm zC_ h0 n0 O0 S_x Da2 g_t hi D_b.2.2.2.2.2.1 hcl hnut S_u S_f hfm SC_ hC_) hZ (k_ 185 rfl) (k_ 6 rfl) (by decide) (by decide)) e4 S_x.1 hml (lenOf o_pd__28_5bBIB_29V rfl) (y_ oD10_15) (fun T5 L5 v5 X5 hQ5 => ?_)
  obtain ⟨rfl, N5q, Kp5, Va5⟩ := hQ5
  have N5 := Fr.app N1 N5q
  have O6 := Old.keep O0 Kp5 (allS g_t all0)
  show o_G p e below _ T5 (mkF m 18 #[vR b, vI ii, vR x] [])
  have kp7 := Keep.trans (Keep.refl h0 [t]) Kp5 (allS (Or.inl (List.mem_of_getElem? (i := 0) rfl)) all0)
  have c8 := (Exa.keep De2 Kp5)
  have c9 := (Fld.keep Dc2 Kp5 (ninS (Exa.neArv De2 Da2 (k_ 131 rfl)) nin0))
  have c10 := (Fld.keep Dv2 Kp5 (ninS (Exa.neArv De2 Da2 (k_ 131 rfl)) nin0))
  have c11 := (Fld.keep Dn2 Kp5 (ninS (Exa.neArv De2 Da2 (k_ 131 rfl)) nin0))
  have c12 := (Fld.keep Dm2 Kp5 (ninS (Exa.neArv De2 Da2 (k_ 131 rfl)) nin0))
  exact o_retV X5 hx hrt hlk (y_ oD10_18) (by decide) (by decide) ⟨rfl, N5, kp7, ⟨c8, c9, c10, c11, ⟨_, Va5⟩, (o_c16A D_b.2.2.2.2.2.1 (by decide)), (by rw [List.length_append]; exact hcl), c12⟩⟩
theorem rmaav1 (hw : o_HW Z a0) (ws : o_LC) (b : Addr) (x : Addr) (t : Addr) (cs : List Int32) (u : Addr) (fm : Value) (zC_ : Int32) (h0 : Heap) (n0 : Nat) (O0 : Old Z n0 h0) (D_b : o_Bv Z h0 b t cs.length cs) (S_x : o_Str Z h0 x u ([42] : List Int32)) (g_t : n0 ≤ t) (hcl : cs.length + 1 ≤ 8) (hnut : u ≠ t) (S_u : o_SU Z) (S_f : o_SF Z fm) (hfm : fm.isRef = true) (SC_ : o_SC Z zC_) (hC_ : ¬ zC_ = 0) (g_b : n0 ≤ b) :
    o_Met l Z o_m11 oJ9 3 (some (.object "java/lang/AbstractStringBuilder")) ws o_R38 #[(.ref b), (.ref x)] h0 (Qaav1 Z b x t cs u fm zC_ h0 n0) := by
  refine o_enter o_pn_2 (fun m => o_ef8 m b x) (fun p e s m below meth c s₁ hx hby hml hZ hown hnm hlk hrt X0 e0 => ?_)
  have N0 := Fr.nil n0
  have y_ := @hb _ _ hby
  have k_ := @o_k _ _ hw
  obtain ⟨De1, Dc1, Dv1, Dn1, ⟨kb1, Da1⟩, Dh1, Ds1, Dm1⟩ := id D_b
  refine o_aloadN X0 hx (y_ oD11_0) rfl rfl ?_
  refine o_nonnullY (t := 9) X0 hx (y_ oD11_1) (by decide) (by decide) ?_
  refine o_aloadN X0 hx (y_ oD11_9) rfl rfl ?_
  refine o_vir (y := o_m6) (b := x) (argsL := []) (S := []) (W := 0) X0 hx hZ hown (k_ 158 rfl) (k_ 159 rfl) (k_ 161 rfl) (k_ 160 rfl) (backOf (W := 0) (rmlen l Z a0 hw [] x u ([42] : List Int32) zC_ h0 n0 O0 S_x SC_ hC_) hZ (k_ 162 rfl) (k_ 6 rfl) (by decide) (by decide)) e0 S_x.1 hml (lenOf o_pd__28_29I rfl) (y_ oD11_10) (fun T2 L2 v2 X2 hQ2 => ?_)
  obtain ⟨rfl, N2q, hh2⟩ := hQ2
  have N2 := Fr.app N0 N2q
  show o_G p e below _ T2 (mkF m 13 #[vR b, vR x, .unset] [(.int (Int32.ofNat ([42] : List Int32).length))])
  refine o_istoreN X2 hx (y_ oD11_13) (A' := #[vR b, vR x, vI (Int32.ofNat ([42] : List Int32).length)]) rfl ?_
  refine o_aloadN X2 hx (y_ oD11_14) rfl rfl ?_
  refine o_aloadN X2 hx (y_ oD11_15) rfl rfl ?_
  refine o_getF X2 hx hZ hown (host := "") (Or.inl (k_ 163 rfl)) Via.refl hh2 Dn1 (y_ oD11_16) (fun T3 X3 e3 => ?_)
  refine o_iloadN X3 hx (y_ oD11_19) rfl ?_
  refine o_iadd X3 hx (y_ oD11_20) ?_
  refine o_vir (y := o_m7) (b := b) (argsL := [(.int ((Int32.ofNat cs.length) + (Int32.ofNat ([42] : List Int32).length)))]) (S := []) (W := 0) X3 hx hZ hown (k_ 165 rfl) (o_decl (k_ 166 rfl) (k_ 169 rfl)) (k_ 168 rfl) (k_ 166 rfl) (backOf (W := 0) (rmecv l Z a0 hw [] b ((Int32.ofNat cs.length) + (Int32.ofNat ([42] : List Int32).length)) t cs h0 n0 O0 D_b (o_cap (b := 1) (z := 16) (by decide) (show cs.length + 1 ≤ 16 by omega))) hZ (k_ 169 rfl) (k_ 140 rfl) (by decide) (by decide)) e3 De1 hml (lenOf o_pd__28I_29V rfl) (y_ oD11_21) (fun T4 L4 v4 X4 hQ4 => ?_)
  obtain ⟨rfl, N4q, hh4⟩ := hQ4
  have N4 := Fr.app N2 N4q
  show o_G p e below _ T4 (mkF m 24 #[vR b, vR x, vI (Int32.ofNat ([42] : List Int32).length)] [])
  refine o_aloadN X4 hx (y_ oD11_24) rfl rfl ?_
  refine o_aloadN X4 hx (y_ oD11_25) rfl rfl ?_
  refine o_getF X4 hx hZ hown (host := "") (Or.inl (k_ 163 rfl)) Via.refl hh4 Dn1 (y_ oD11_26) (fun T5 X5 e5 => ?_)
  refine o_aloadN X5 hx (y_ oD11_29) rfl rfl ?_
  refine o_vir (y := o_m10) (b := b) (argsL := [(.int (Int32.ofNat cs.length)), (.ref x)]) (S := []) (W := 0) X5 hx hZ hown (k_ 170 rfl) (o_decl (k_ 171 rfl) (k_ 174 rfl)) (k_ 173 rfl) (k_ 171 rfl) (backOf (W := 0) (rmpsv1 l Z a0 hw [] b (Int32.ofNat cs.length) x t cs u fm zC_ h0 n0 O0 D_b S_x g_t hcl hnut S_u S_f hfm SC_ hC_ rfl) hZ (k_ 174 rfl) (k_ 140 rfl) (by decide) (by decide)) e5 De1 hml (lenOf o_pd__28ILjava_2flang_2fString_3b_29V rfl) (y_ oD11_30) (fun T6 L6 v6 X6 hQ6 => ?_)
  obtain ⟨rfl, N6q, Kp6, Dq6⟩ := hQ6
  have N6 := Fr.app N4 N6q
  have O7 := Old.keep O0 Kp6 (allS g_t all0)
  show o_G p e below _ T6 (mkF m 33 #[vR b, vR x, vI (Int32.ofNat ([42] : List Int32).length)] [])
  obtain ⟨De8, Dc8, Dv8, Dn8, ⟨kb8, Da8⟩, Dh8, Ds8, Dm8⟩ := id Dq6
  refine o_aloadN X6 hx (y_ oD11_33) rfl rfl ?_
  refine o_dup X6 hx (y_ oD11_34) rfl ?_
  refine o_getF X6 hx hZ hown (host := "") (Or.inl (k_ 163 rfl)) Via.refl rfl Dn8 (y_ oD11_35) (fun T9 X9 e9 => ?_)
  refine o_iloadN X9 hx (y_ oD11_38) rfl ?_
  refine o_iadd X9 hx (y_ oD11_39) ?_
  refine o_putF X9 hx hZ hown (host := "") (Or.inl (k_ 163 rfl)) Via.refl e9 Dn8 De8 (Or.inl (k_ 164 rfl)) (k_ 131 rfl) (ty := .int) (by decide) rfl rfl (y_ oD11_40) (fun T10 h10 X10 e10 W10 => ?_)
  have F10 := Fld.same W10 Dn8
  have N10 := Fr.snoc X10 N6 g_b
  have O10 := Old.wr O7 W10 g_b
  refine o_aloadN X10 hx (y_ oD11_43) rfl rfl ?_
  have kp11 := Keep.trans (Keep.refl h0 [b, t]) Kp6 (allS (Or.inl (List.mem_of_getElem? (i := 1) rfl)) all0)
  have kp12 := Keep.wr kp11 W10 (Or.inl (List.mem_of_getElem? (i := 0) rfl))
  have c13 := (Exa.wr W10 De8)
  have c14 := (Fld.other W10 Dc8 (Or.inr (slot_ne (Or.inl (k_ 147 rfl)) (Or.inl (k_ 164 rfl)) (by decide) (t := .byte) (t' := .int) (by decide) (by decide))))
  have c15 := (Fld.other W10 Dv8 (Or.inr (slot_ne (Or.inl (k_ 145 rfl)) (Or.inl (k_ 164 rfl)) (by decide) (t := (.array .byte)) (t' := .int) (by decide) (by decide))))
  have c16 := (Arv.other Da8 W10 (Ne.symm (Exa.neArv De8 Da8 (k_ 131 rfl))))
  have c17 := (Fld.other W10 Dm8 (Or.inr (slot_ne (Or.inl (k_ 365 rfl)) (Or.inl (k_ 164 rfl)) (by decide) (t := .boolean) (t' := .int) (by decide) (by decide))))
  exact o_retA X10 hx hrt hlk rfl rfl rfl (y_ oD11_44) (by decide) (by decide) (o_hQ e10 ⟨rfl, N10, kp12, ⟨c13, c14, c15, (by have q := F10; rw [show (Int32.ofNat cs.length + Int32.ofNat ([42] : List Int32).length : Int32) = Int32.ofNat (cs ++ [42]).length from by rw [List.length_append]; exact o_oadd _ _] at q; exact q), ⟨_, c16⟩, (o_c16A D_b.2.2.2.2.2.1 (by decide)), (by rw [List.length_append]; exact hcl), c17⟩⟩)
theorem rmsav1 (hw : o_HW Z a0) (ws : o_LC) (b : Addr) (x : Addr) (t : Addr) (cs : List Int32) (u : Addr) (fm : Value) (zC_ : Int32) (h0 : Heap) (n0 : Nat) (O0 : Old Z n0 h0) (D_b : o_Bv Z h0 b t cs.length cs) (S_x : o_Str Z h0 x u ([42] : List Int32)) (g_t : n0 ≤ t) (hcl : cs.length + 1 ≤ 8) (hnut : u ≠ t) (S_u : o_SU Z) (S_f : o_SF Z fm) (hfm : fm.isRef = true) (SC_ : o_SC Z zC_) (hC_ : ¬ zC_ = 0) (g_b : n0 ≤ b) :
    o_Met l Z o_m12 oJ40 2 (some (.object "java/lang/StringBuilder")) ws o_R39 #[(.ref b), (.ref x)] h0 (Qsav1 Z b x t cs u fm zC_ h0 n0) := by
  refine o_enter o_pn_3 (fun m => o_ef5 m b x) (fun p e s m below meth c s₁ hx hby hml hZ hown hnm hlk hrt X0 e0 => ?_)
  have N0 := Fr.nil n0
  have y_ := @hb _ _ hby
  have k_ := @o_k _ _ hw
  refine o_aloadN X0 hx (y_ oD12_0) rfl rfl ?_
  refine o_aloadN X0 hx (y_ oD12_1) rfl rfl ?_
  refine o_sup (y := o_m11) (b := b) (argsL := [(.ref x)]) (S := []) (W := 0) X0 hx hZ hown (k_ 153 rfl) (o_same (y2 := o_m7) (k_ 154 rfl) (k_ 168 rfl) rfl (by decide)) (k_ 154 rfl) (k_ 155 rfl) (k_ 157 rfl) (backOf (W := 0) (rmaav1 l Z a0 hw [] b x t cs u fm zC_ h0 n0 O0 D_b S_x g_t hcl hnut S_u S_f hfm SC_ hC_ g_b) hZ (k_ 157 rfl) (k_ 140 rfl) (by decide) (by decide)) e0 D_b.1 hml (lenOf o_pd__28Ljava_2flang_2fString_3b_29Ljava_2flang_2fAbstractStringBuilder_3b rfl) (y_ oD12_2) (fun T1 L1 v1 X1 hQ1 => ?_)
  obtain ⟨rfl, N1q, Kp1, Dq1⟩ := hQ1
  have N1 := Fr.app N0 N1q
  have O2 := Old.keep O0 Kp1 (allS g_b (allS g_t all0))
  show o_G p e below _ T1 (mkF m 5 #[vR b, vR x] [(.ref b)])
  refine o_pop X1 hx (y_ oD12_5) rfl ?_
  refine o_aloadN X1 hx (y_ oD12_6) rfl rfl ?_
  have kp3 := Keep.trans (Keep.refl h0 [b, t]) Kp1 (allS (Or.inl (List.mem_of_getElem? (i := 0) rfl)) (allS (Or.inl (List.mem_of_getElem? (i := 1) rfl)) all0))
  exact o_retA X1 hx hrt hlk rfl rfl rfl (y_ oD12_7) (by decide) (by decide) ⟨rfl, N1, kp3, Dq1⟩
theorem rmgvu (hw : o_HW Z a0) (ws : o_LC) (b : Addr) (t : Addr) (cs : List Int32) (h0 : Heap) (n0 : Nat) (O0 : Old Z n0 h0) (D_b : o_Bv Z h0 b t cs.length cs) :
    o_Met l Z o_m54 jdk_68_method_64_code 1 (some (.array .byte)) ws o_R0 #[(.ref b)] h0 (o_P (some (.ref t)) h0 n0) := by
  refine o_enter o_pn_2 (fun m => o_ef3 m b) (fun p e s m below meth c s₁ hx hby hml hZ hown hnm hlk hrt X0 e0 => ?_)
  have N0 := Fr.nil n0
  have y_ := @hb _ _ hby
  have k_ := @o_k _ _ hw
  obtain ⟨De1, Dc1, Dv1, Dn1, ⟨kb1, Da1⟩, Dh1, Ds1, Dm1⟩ := id D_b
  refine o_aloadN X0 hx (y_ oD53_0) rfl rfl ?_
  refine o_getF X0 hx hZ hown (host := "") (Or.inl (k_ 144 rfl)) Via.refl e0 Dv1 (y_ oD53_1) (fun T2 X2 e2 => ?_)
  exact o_retA X2 hx hrt hlk rfl rfl rfl (y_ oD53_4) (by decide) (by decide) (o_hQ e2 ⟨rfl, N0, rfl⟩)
theorem rmalv (hw : o_HW Z a0) (ws : o_LC) (b : Addr) (t : Addr) (cs : List Int32) (h0 : Heap) (n0 : Nat) (O0 : Old Z n0 h0) (D_b : o_Bv Z h0 b t cs.length cs) :
    o_Met l Z o_m55 jdk_68_method_6_code 1 (some .int) ws o_R0 #[(.ref b)] h0 (o_P (some (.int (Int32.ofNat cs.length))) h0 n0) := by
  refine o_enter o_pn_2 (fun m => o_ef3 m b) (fun p e s m below meth c s₁ hx hby hml hZ hown hnm hlk hrt X0 e0 => ?_)
  have N0 := Fr.nil n0
  have y_ := @hb _ _ hby
  have k_ := @o_k _ _ hw
  obtain ⟨De1, Dc1, Dv1, Dn1, ⟨kb1, Da1⟩, Dh1, Ds1, Dm1⟩ := id D_b
  refine o_aloadN X0 hx (y_ oD54_0) rfl rfl ?_
  refine o_getF X0 hx hZ hown (host := "") (Or.inl (k_ 163 rfl)) Via.refl e0 Dn1 (y_ oD54_1) (fun T2 X2 e2 => ?_)
  exact o_retI X2 hx hrt hlk (y_ oD54_4) (by decide) (by decide) (o_hQ e2 ⟨rfl, N0, rfl⟩)
theorem rmslu (hw : o_HW Z a0) (ws : o_LC) (b : Addr) (t : Addr) (cs : List Int32) (h0 : Heap) (n0 : Nat) (O0 : Old Z n0 h0) (D_b : o_Bv Z h0 b t cs.length cs) :
    o_Met l Z o_m56 jdk_67_method_93_code 1 (some .int) ws o_R14 #[(.ref b)] h0 (o_P (some (.int (Int32.ofNat cs.length))) h0 n0) := by
  refine o_enter o_pn_3 (fun m => o_ef3 m b) (fun p e s m below meth c s₁ hx hby hml hZ hown hnm hlk hrt X0 e0 => ?_)
  have N0 := Fr.nil n0
  have y_ := @hb _ _ hby
  have k_ := @o_k _ _ hw
  refine o_aloadN X0 hx (y_ oD55_0) rfl rfl ?_
  refine o_sup (y := o_m55) (b := b) (argsL := []) (S := []) (W := 0) X0 hx hZ hown (k_ 213 rfl) (o_same (y2 := o_m7) (k_ 209 rfl) (k_ 168 rfl) rfl (by decide)) (k_ 209 rfl) (k_ 155 rfl) (k_ 214 rfl) (backOf (W := 0) (rmalv l Z a0 hw [] b t cs h0 n0 O0 D_b) hZ (k_ 214 rfl) (k_ 140 rfl) (by decide) (by decide)) e0 D_b.1 hml (lenOf o_pd__28_29I rfl) (y_ oD55_1) (fun T1 L1 v1 X1 hQ1 => ?_)
  obtain ⟨rfl, N1q, hh1⟩ := hQ1
  have N1 := Fr.app N0 N1q
  show o_G p e below _ T1 (mkF m 4 #[vR b] [(.int (Int32.ofNat cs.length))])
  exact o_retI X1 hx hrt hlk (y_ oD55_4) (by decide) (by decide) (o_hQ hh1 ⟨rfl, N1, rfl⟩)
theorem rmsiu (hw : o_HW Z a0) (ws : o_LC) (x : Addr) (b : Addr) (t : Addr) (cs : List Int32) (zC_ : Int32) (h0 : Heap) (n0 : Nat) (O0 : Old Z n0 h0) (E_x : Exa Z h0 x "java/lang/String") (F_v : o_FV Z h0 x .null) (F_c : o_FC Z h0 x (.int 0)) (g_x : n0 ≤ x) (D_b : o_Bv Z h0 b t cs.length cs) (hbig : o_big cs) (SC_ : o_SC Z zC_) (hC_ : ¬ zC_ = 0) :
    o_Met l Z o_m57 oJ3 5 none ws o_R40 #[(.ref x), (.ref b), .null] h0 (Qsiu Z x b t cs zC_ h0 n0) := by
  refine o_enter o_pn_1 (fun m => o_ef33 m x b) (fun p e s m below meth c s₁ hx hby hml hZ hown hnm hlk hrt X0 e0 => ?_)
  have N0 := Fr.nil n0
  have y_ := @hb _ _ hby
  have k_ := @o_k _ _ hw
  obtain ⟨De1, Dc1, Dv1, Dn1, ⟨kb1, Da1⟩, Dh1, Ds1, Dm1⟩ := id D_b
  have hL := D_b.2.2.2.2.2.2.1
  refine o_aloadN X0 hx (y_ oD56_0) rfl rfl ?_
  refine o_initO (W := 0) X0 hx hZ hown (k_ 23 rfl) (k_ 24 rfl) (k_ 25 rfl) e0 (by rw [hml]; rfl) (y_ oD56_1) (by decide) (Nat.le_of_eq rfl) (by decide) (fun T2 X2 e2 => ?_)
  refine o_aloadN X2 hx (y_ oD56_4) rfl rfl ?_
  refine o_vir (y := o_m54) (b := b) (argsL := []) (S := []) (W := 0) X2 hx hZ hown (k_ 202 rfl) (k_ 203 rfl) (k_ 205 rfl) (k_ 204 rfl) (backOf (W := 0) (rmgvu l Z a0 hw [] b t cs h0 n0 O0 D_b) hZ (k_ 206 rfl) (k_ 140 rfl) (by decide) (by decide)) e2 De1 hml (lenOf o_pd__28_29_5bB rfl) (y_ oD56_5) (fun T3 L3 v3 X3 hQ3 => ?_)
  obtain ⟨rfl, N3q, hh3⟩ := hQ3
  have N3 := Fr.app N0 N3q
  show o_G p e below _ T3 (mkF m 8 #[vR x, vR b, .val .null, .unset, .unset] [(.ref t)])
  refine o_astoreN X3 hx (y_ oD56_8) rfl (A' := #[vR x, vR b, .val .null, vR t, .unset]) rfl ?_
  refine o_aloadN X3 hx (y_ oD56_9) rfl rfl ?_
  refine o_virtual (y := o_m55) (z := o_m56) (b := b) (argsL := []) (S := []) (W := 0) X3 hx hZ hown (k_ 207 rfl) (k_ 208 rfl) (o_nf (y2 := o_m7) hZ (k_ 168 rfl) rfl) (k_ 210 rfl) (k_ 211 rfl) (by decide) (backOf (W := 0) (rmslu l Z a0 hw [] b t cs h0 n0 O0 D_b) hZ (k_ 212 rfl) (k_ 132 rfl) (by decide) (by decide)) hh3 De1 (by rw [hml]; rfl) (lenOf o_pd__28_29I rfl) rfl (Nat.le_of_eq rfl) (y_ oD56_10) (by decide) (by decide) (fun T4 L4 v4 X4 hQ4 => ?_)
  obtain ⟨rfl, N4q, hh4⟩ := hQ4
  have N4 := Fr.app N3 N4q
  show o_G p e below _ T4 (mkF m 13 #[vR x, vR b, .val .null, vR t, .unset] [(.int (Int32.ofNat cs.length))])
  refine o_istore X4 hx (y_ oD56_13) (A' := #[vR x, vR b, .val .null, vR t, vI (Int32.ofNat cs.length)]) rfl ?_
  refine o_aloadN X4 hx (y_ oD56_15) rfl rfl ?_
  refine o_vir (y := o_m52) (b := b) (argsL := []) (S := []) (W := 0) X4 hx hZ hown (k_ 215 rfl) (k_ 216 rfl) (k_ 218 rfl) (k_ 217 rfl) (backOf (W := 0) (rmalu l Z a0 hw [] b t cs zC_ h0 n0 O0 D_b SC_ hC_) hZ (k_ 219 rfl) (k_ 140 rfl) (by decide) (by decide)) hh4 De1 hml (lenOf o_pd__28_29Z rfl) (y_ oD56_16) (fun T5 L5 v5 X5 hQ5 => ?_)
  obtain ⟨rfl, N5q, hh5⟩ := hQ5
  have N5 := Fr.app N4 N5q
  show o_G p e below _ T5 (mkF m 19 #[vR x, vR b, .val .null, vR t, vI (Int32.ofNat cs.length)] [(.int 0)])
  refine o_iFT (t := 41) X5 hx (y_ oD56_19) ?_
  refine o_getS X5 hx hZ hown (host := "") (Or.inl (k_ 8 rfl)) Via.refl hh5 (Sta.ext O0.2 SC_) (y_ oD56_41) (fun T6 X6 e6 => ?_)
  refine o_iF (t := 79) X6 hx (y_ oD56_44) (fun hq => ?_) (fun hq => ?_)
  · have hc44 := o_h_eq.1 hq
    exact absurd hc44 hC_
  have hc44 := o_h_eq.2 hq
  refine o_aloadN X6 hx (y_ oD56_47) rfl rfl ?_
  refine o_getF X6 hx hZ hown (host := "") (Or.inl (k_ 364 rfl)) Via.refl e6 Dm1 (y_ oD56_48) (fun T7 X7 e7 => ?_)
  refine o_iFT (t := 79) X7 hx (y_ oD56_51) ?_
  refine o_aloadN X7 hx (y_ oD56_79) rfl rfl ?_
  refine o_iconst X7 hx (y_ oD56_80) (x := 1) rfl ?_
  refine o_putFN (v' := (.int 1)) X7 hx hZ hown (k_ 28 rfl) Via.refl e7 F_c E_x (Or.inr ⟨(k_ 29 rfl), rfl, hnm⟩) (k_ 14 rfl) (ty := .byte) (by decide) rfl rfl (y_ oD56_81) (fun T8 h8 X8 e8 W8 => ?_)
  have F8 := Fld.same W8 F_c
  have N8 := Fr.snoc X8 N5 g_x
  have O8 := Old.wr O0 W8 g_x
  refine o_aloadN X8 hx (y_ oD56_84) rfl rfl ?_
  refine o_aloadN X8 hx (y_ oD56_85) rfl rfl ?_
  refine o_iconst X8 hx (y_ oD56_86) (x := 0) rfl ?_
  refine o_iload X8 hx (y_ oD56_87) rfl ?_
  refine o_iconst X8 hx (y_ oD56_89) (x := 1) rfl ?_
  refine o_ishl X8 hx (y_ oD56_90) ?_
  refine o_valE (z := Int32.ofNat (2 * cs.length)) (o_shl1 (by omega)) ?_
  have c9 := (Arv.other Da1 W8 (Ne.symm (Exa.neArv E_x Da1 (k_ 14 rfl))))
  refine o_sta (y := o_m29) (argsL := [(.ref t), (.int 0), (.int (Int32.ofNat (2 * cs.length)))]) (S := [(.ref x)]) (W := 1) X8 hx hZ hown (k_ 220 rfl) (k_ 221 rfl) (k_ 222 rfl) (k_ 223 rfl) (backOf (W := 1) (rmcog l Z a0 hw [] t 0 (Int32.ofNat (2 * cs.length)) kb1 32 [] (o_V16 cs) [] h8 n0 O8 (by rw [List.nil_append, List.append_nil]; exact c9) rfl (by rw [o_V16len, List.length_nil, Nat.zero_add]) (by decide) (by rw [o_V16len, List.length_nil]; show _ ≤ 32; omega) (by rw [o_V16len]; omega) (fun q => absurd (o_oinj (b := 32) (by omega) (by decide) q.2) (by omega))) hZ (k_ 223 rfl) (k_ 222 rfl) (by decide) (by decide)) e8 hml (lenOf o_pd__28_5bBII_29_5bB rfl) (y_ oD56_91) (fun T10 L10 v10 X10 hQ10 => ?_)
  obtain ⟨t10, rfl, N10q, Kp10, g_t10, ht10, Et10, ka10, Va10⟩ := hQ10
  have N10 := Fr.app N8 N10q
  have O11 := Old.keep O8 Kp10 all0
  show o_G p e below _ T10 (mkF m 94 #[vR x, vR b, .val .null, vR t, vI (Int32.ofNat cs.length)] [(.ref t10), (.ref x)])
  have c12 := (Exa.keep (Exa.wr W8 E_x) Kp10)
  have c13 := (Fld.keep (Fld.other W8 F_v (Or.inr (slot_ne (Or.inr (k_ 27 rfl)) (Or.inr (k_ 29 rfl)) (by decide) (t := (.array .byte)) (t' := .byte) (by decide) (by decide)))) Kp10 nin0)
  refine o_putF X10 hx hZ hown (host := "") (Or.inl (k_ 26 rfl)) Via.refl rfl c13 c12 (Or.inr ⟨(k_ 27 rfl), rfl, hnm⟩) (k_ 14 rfl) (ty := (.array .byte)) (by decide) rfl rfl (y_ oD56_94) (fun T14 h14 X14 e14 W14 => ?_)
  have F14 := Fld.same W14 c13
  have N14 := Fr.snoc X14 N10 g_x
  have O14 := Old.wr O11 W14 g_x
  have kp15 := Keep.wr (Keep.refl h0 [x]) W8 (Or.inl (List.mem_of_getElem? (i := 0) rfl))
  have kp16 := Keep.trans kp15 Kp10 all0
  have kp17 := Keep.wr kp16 W14 (Or.inl (List.mem_of_getElem? (i := 0) rfl))
  have c18 := (Exa.wr W14 c12)
  have c19 := (Fld.other W14 (Fld.keep F8 Kp10 nin0) (Or.inr (slot_ne (Or.inr (k_ 29 rfl)) (Or.inr (k_ 27 rfl)) (by decide) (t := .byte) (t' := (.array .byte)) (by decide) (by decide))))
  have c20 := (Arv.other Va10 W14 (Ne.symm (Nat.ne_of_lt (Nat.lt_of_lt_of_le F8.lt ht10))))
  exact o_retV X14 hx hrt hlk (y_ oD56_97) (by decide) (by decide) (o_hQ e14 ⟨rfl, N14, kp17, t10, g_t10, (Nat.le_trans kp15.1 ht10), (Ne.symm (Nat.ne_of_lt (Nat.lt_of_lt_of_le F8.lt ht10))), o_aMk1 c18 c19 F14 (by have q := c20; rw [o_V16len] at q; exact q) D_b.2.2.2.2.2.1 hbig hL⟩)
theorem rmsju (hw : o_HW Z a0) (ws : o_LC) (x : Addr) (b : Addr) (t : Addr) (cs : List Int32) (zC_ : Int32) (h0 : Heap) (n0 : Nat) (O0 : Old Z n0 h0) (E_x : Exa Z h0 x "java/lang/String") (F_v : o_FV Z h0 x .null) (F_c : o_FC Z h0 x (.int 0)) (g_x : n0 ≤ x) (D_b : o_Bv Z h0 b t cs.length cs) (hbig : o_big cs) (SC_ : o_SC Z zC_) (hC_ : ¬ zC_ = 0) :
    o_Met l Z o_m58 oJ56 2 none ws o_R41 #[(.ref x), (.ref b)] h0 (Qsju Z x b t cs zC_ h0 n0) := by
  refine o_enter o_pn_1 (fun m => o_ef5 m x b) (fun p e s m below meth c s₁ hx hby hml hZ hown hnm hlk hrt X0 e0 => ?_)
  have N0 := Fr.nil n0
  have y_ := @hb _ _ hby
  have k_ := @o_k _ _ hw
  refine o_aloadN X0 hx (y_ oD57_0) rfl rfl ?_
  refine o_aloadN X0 hx (y_ oD57_1) rfl rfl ?_
  refine o_anull X0 hx (y_ oD57_2) ?_
  refine o_ini (y := o_m57) (b := x) (argsL := [(.ref b), .null]) (S := []) (W := 0) rfl X0 hx hZ hown (k_ 199 rfl) (k_ 200 rfl) (k_ 201 rfl) (backOf (W := 0) (rmsiu l Z a0 hw [] x b t cs zC_ h0 n0 O0 E_x F_v F_c g_x D_b hbig SC_ hC_) hZ (k_ 201 rfl) (k_ 6 rfl) (by decide) (by decide)) e0 hml (lenOf o_pd__28Ljava_2flang_2fAbstractStringBuilder_3bLjava_2flang_2fVoid_3b_29V rfl) (y_ oD57_3) (fun T1 L1 v1 X1 hQ1 => ?_)
  obtain ⟨rfl, N1q, Kp1, t1, g_t1, ht1, hne1, Sf1⟩ := hQ1
  have N1 := Fr.app N0 N1q
  have O2 := Old.keep O0 Kp1 (allS g_x all0)
  show o_G p e below _ T1 (mkF m 6 #[vR x, vR b] [])
  have kp3 := Keep.trans (Keep.refl h0 [x]) Kp1 (allS (Or.inl (List.mem_of_getElem? (i := 0) rfl)) all0)
  exact o_retV X1 hx hrt hlk (y_ oD57_6) (by decide) (by decide) ⟨rfl, N1, kp3, t1, g_t1, (Nat.le_trans (Keep.refl h0 [x]).1 ht1), hne1, Sf1⟩
theorem rmstu (hw : o_HW Z a0) (ws : o_LC) (b : Addr) (t : Addr) (cs : List Int32) (zC_ : Int32) (h0 : Heap) (n0 : Nat) (O0 : Old Z n0 h0) (D_b : o_Bv Z h0 b t cs.length cs) (hbig : o_big cs) (SC_ : o_SC Z zC_) (hC_ : ¬ zC_ = 0) :
    o_Met l Z o_m59 oJ58 1 (some (.object "java/lang/String")) ws o_R42 #[(.ref b)] h0 (Qstu Z b t cs zC_ h0 n0) := by
  refine o_enter o_pn_3 (fun m => o_ef3 m b) (fun p e s m below meth c s₁ hx hby hml hZ hown hnm hlk hrt X0 e0 => ?_)
  have N0 := Fr.nil n0
  have y_ := @hb _ _ hby
  have k_ := @o_k _ _ hw
  refine o_new X0 hx hZ hown (k_ 195 rfl) (k_ 14 rfl) (k_ 6 rfl) e0 (y_ oD58_0) (by decide) (by decide) (fun T1 h1 b1 X1 e1 gg1 E1 A1 D1 => ?_)
  have g_b1 := o_fresh O0 gg1
  have O1 := Old.ext O0 E1
  have F1_value : o_FV Z h1 b1 .null := D1 (Or.inr (k_ 27 rfl)) (ty := (.array .byte)) (by decide)
  have F1_coder : o_FC Z h1 b1 (.int 0) := D1 (Or.inr (k_ 29 rfl)) (ty := .byte) (by decide)
  refine o_dup X1 hx (y_ oD58_3) rfl ?_
  refine o_aloadN X1 hx (y_ oD58_4) rfl rfl ?_
  have c2 := (o_Bv.ext E1 D_b)
  refine o_ini (y := o_m58) (b := b1) (argsL := [(.ref b)]) (S := [(.ref b1)]) (W := 1) rfl X1 hx hZ hown (k_ 196 rfl) (k_ 197 rfl) (k_ 198 rfl) (backOf (W := 1) (rmsju l Z a0 hw [] b1 b t cs zC_ h1 n0 O1 A1 F1_value F1_coder g_b1 c2 hbig SC_ hC_) hZ (k_ 198 rfl) (k_ 6 rfl) (by decide) (by decide)) e1 hml (lenOf o_pd__28Ljava_2flang_2fStringBuilder_3b_29V rfl) (y_ oD58_5) (fun T3 L3 v3 X3 hQ3 => ?_)
  obtain ⟨rfl, N3q, Kp3, t3, g_t3, ht3, hne3, Sf3⟩ := hQ3
  have N3 := Fr.app N0 N3q
  have O4 := Old.keep O1 Kp3 (allS g_b1 all0)
  show o_G p e below _ T3 (mkF m 8 #[vR b] [(.ref b1)])
  have kp5 := Keep.ext (Keep.refl h0 []) E1
  have kp6 := Keep.trans kp5 Kp3 (allS (Or.inr (Nat.le_trans (Keep.refl h0 []).1 (Nat.le_of_eq gg1.symm))) all0)
  exact o_retA X3 hx hrt hlk rfl rfl rfl (y_ oD58_8) (by decide) (by decide) ⟨b1, t3, (1 : Int32), rfl, N3, kp6, g_b1, (Nat.le_trans (Keep.refl h0 []).1 (Nat.le_of_eq gg1.symm)), g_t3, (Nat.le_trans kp5.1 ht3), hne3, Sf3⟩
theorem rmgva (hw : o_HW Z a0) (ws : o_LC) (b : Addr) (t : Addr) (z : Int32) (cs : List Int32) (h0 : Heap) (n0 : Nat) (O0 : Old Z n0 h0) (B_b : o_Bl Z h0 b t z cs) :
    o_Met l Z o_m54 jdk_68_method_64_code 1 (some (.array .byte)) ws o_R0 #[(.ref b)] h0 (o_P (some (.ref t)) h0 n0) := by
  refine o_enter o_pn_2 (fun m => o_ef3 m b) (fun p e s m below meth c s₁ hx hby hml hZ hown hnm hlk hrt X0 e0 => ?_)
  have N0 := Fr.nil n0
  have y_ := @hb _ _ hby
  have k_ := @o_k _ _ hw
  obtain ⟨Be1, Bc1, Bv1, Bn1, ⟨kb1, Ba1⟩, Bh1, Bs1, Bm1⟩ := id B_b
  refine o_aloadN X0 hx (y_ oD53_0) rfl rfl ?_
  refine o_getF X0 hx hZ hown (host := "") (Or.inl (k_ 144 rfl)) Via.refl e0 Bv1 (y_ oD53_1) (fun T2 X2 e2 => ?_)
  exact o_retA X2 hx hrt hlk rfl rfl rfl (y_ oD53_4) (by decide) (by decide) (o_hQ e2 ⟨rfl, N0, rfl⟩)
theorem rmale (hw : o_HW Z a0) (ws : o_LC) (b : Addr) (t : Addr) (z : Int32) (cs : List Int32) (h0 : Heap) (n0 : Nat) (O0 : Old Z n0 h0) (B_b : o_Bl Z h0 b t z cs) :
    o_Met l Z o_m55 jdk_68_method_6_code 1 (some .int) ws o_R0 #[(.ref b)] h0 (o_P (some (.int (Int32.ofNat cs.length))) h0 n0) := by
  refine o_enter o_pn_2 (fun m => o_ef3 m b) (fun p e s m below meth c s₁ hx hby hml hZ hown hnm hlk hrt X0 e0 => ?_)
  have N0 := Fr.nil n0
  have y_ := @hb _ _ hby
  have k_ := @o_k _ _ hw
  obtain ⟨Be1, Bc1, Bv1, Bn1, ⟨kb1, Ba1⟩, Bh1, Bs1, Bm1⟩ := id B_b
  refine o_aloadN X0 hx (y_ oD54_0) rfl rfl ?_
  refine o_getF X0 hx hZ hown (host := "") (Or.inl (k_ 163 rfl)) Via.refl e0 Bn1 (y_ oD54_1) (fun T2 X2 e2 => ?_)
  exact o_retI X2 hx hrt hlk (y_ oD54_4) (by decide) (by decide) (o_hQ e2 ⟨rfl, N0, rfl⟩)
theorem rmsle (hw : o_HW Z a0) (ws : o_LC) (b : Addr) (t : Addr) (z : Int32) (cs : List Int32) (h0 : Heap) (n0 : Nat) (O0 : Old Z n0 h0) (B_b : o_Bl Z h0 b t z cs) :
    o_Met l Z o_m56 jdk_67_method_93_code 1 (some .int) ws o_R2 #[(.ref b)] h0 (o_P (some (.int (Int32.ofNat cs.length))) h0 n0) := by
  refine o_enter o_pn_3 (fun m => o_ef3 m b) (fun p e s m below meth c s₁ hx hby hml hZ hown hnm hlk hrt X0 e0 => ?_)
  have N0 := Fr.nil n0
  have y_ := @hb _ _ hby
  have k_ := @o_k _ _ hw
  refine o_aloadN X0 hx (y_ oD55_0) rfl rfl ?_
  refine o_sup (y := o_m55) (b := b) (argsL := []) (S := []) (W := 0) X0 hx hZ hown (k_ 213 rfl) (o_same (y2 := o_m7) (k_ 209 rfl) (k_ 168 rfl) rfl (by decide)) (k_ 209 rfl) (k_ 155 rfl) (k_ 214 rfl) (backOf (W := 0) (rmale l Z a0 hw [] b t z cs h0 n0 O0 B_b) hZ (k_ 214 rfl) (k_ 140 rfl) (by decide) (by decide)) e0 B_b.1 hml (lenOf o_pd__28_29I rfl) (y_ oD55_1) (fun T1 L1 v1 X1 hQ1 => ?_)
  obtain ⟨rfl, N1q, hh1⟩ := hQ1
  have N1 := Fr.app N0 N1q
  show o_G p e below _ T1 (mkF m 4 #[vR b] [(.int (Int32.ofNat cs.length))])
  exact o_retI X1 hx hrt hlk (y_ oD55_4) (by decide) (by decide) (o_hQ hh1 ⟨rfl, N1, rfl⟩)
theorem rmmin (hw : o_HW Z a0) (ws : o_LC) (x1 : Int32) (x2 : Int32) (h0 : Heap) (n0 : Nat) (O0 : Old Z n0 h0) (hlt : x2 < x1) :
    o_Met l Z o_m26 oJ45 2 (some .int) ws o_R0 #[(.int x1), (.int x2)] h0 (o_P (some (.int x2)) h0 n0) := by
  refine o_enterM (Jvm.Free.JP.mathPlain rfl (by decide)) (fun m => o_ef14 m x1 x2) (fun p e s m below meth c s₁ hx hby hml hZ hown hnm hlk hrt X0 e0 => ?_)
  have N0 := Fr.nil n0
  have y_ := @hb _ _ hby
  have k_ := @o_k _ _ hw
  refine o_iloadN X0 hx (y_ oD26_0) rfl ?_
  refine o_iloadN X0 hx (y_ oD26_1) rfl ?_
  refine o_iC (t := 9) X0 hx (y_ oD26_2) (fun hq => ?_) (fun hq => ?_)
  · have hc2 := o_c_gt.1 hq
    refine o_iloadN X0 hx (y_ oD26_9) rfl ?_
    exact o_retI X0 hx hrt hlk (y_ oD26_10) (by decide) (by decide) (o_hQ e0 ⟨rfl, N0, rfl⟩)
  have hc2 := o_c_gt.2 hq
  exact absurd hlt hc2
theorem rmchk (hw : o_HW Z a0) (ws : o_LC) (nn : Int32) (h0 : Heap) (n0 : Nat) (O0 : Old Z n0 h0) (hn : ¬ nn < 0) :
    o_Met l Z o_m27 jdk_65_method_131_code 2 none ws o_R0 #[(.int 0), (.int nn)] h0 (o_P (none) h0 n0) := by
  refine o_enter o_pn_7 (fun m => o_ef34 m nn) (fun p e s m below meth c s₁ hx hby hml hZ hown hnm hlk hrt X0 e0 => ?_)
  have N0 := Fr.nil n0
  have y_ := @hb _ _ hby
  have k_ := @o_k _ _ hw
  refine o_iloadN X0 hx (y_ oD27_0) rfl ?_
  refine o_iloadN X0 hx (y_ oD27_1) rfl ?_
  refine o_iC (t := 37) X0 hx (y_ oD27_2) (fun hq => ?_) (fun hq => ?_)
  · have hc2 := o_c_ge.1 hq
    exact o_retV X0 hx hrt hlk (y_ oD27_37) (by decide) (by decide) (o_hQ e0 ⟨rfl, N0, rfl⟩)
  have hc2 := o_c_ge.2 hq
  exact absurd hc2 hn
theorem rmcob (hw : o_HW Z a0) (ws : o_LC) (d : Addr) (nn : Int32) (kd : ClassId) (z : Int32) (cs : List Int32) (h0 : Heap) (n0 : Nat) (O0 : Old Z n0 h0) (V_d : Arv Z h0 d kd .byte z (o_V8 cs) (.int 0)) (hn : nn = (Int32.ofNat cs.length)) (hlt : cs.length < z.toNatClampNeg) (hcap : cs.length ≤ 8) (hz : ¬ z < 0) :
    o_Met l Z o_m28 oJ19 5 (some (.array .byte)) ws o_R43 #[(.ref d), (.int 0), (.int nn)] h0 (Qcob Z d nn kd z cs h0 n0) := by
  refine o_enter o_pn_7 (fun m => o_ef20 m d nn) (fun p e s m below meth c s₁ hx hby hml hZ hown hnm hlk hrt X0 e0 => ?_)
  have N0 := Fr.nil n0
  have y_ := @hb _ _ hby
  have k_ := @o_k _ _ hw
  refine o_iloadN X0 hx (y_ oD28_0) rfl ?_
  refine o_iloadN X0 hx (y_ oD28_1) rfl ?_
  refine o_sta (y := o_m27) (argsL := [(.int 0), (.int nn)]) (S := []) (W := 0) X0 hx hZ hown (k_ 227 rfl) (k_ 228 rfl) (k_ 222 rfl) (k_ 229 rfl) (backOf (W := 0) (rmchk l Z a0 hw [] nn h0 n0 O0 (by rw [hn]; exact o_on (Nat.lt_of_le_of_lt hcap (by decide)))) hZ (k_ 229 rfl) (k_ 222 rfl) (by decide) (by decide)) e0 hml (lenOf o_pd__28II_29V rfl) (y_ oD28_2) (fun T1 L1 v1 X1 hQ1 => ?_)
  obtain ⟨rfl, N1q, hh1⟩ := hQ1
  have N1 := Fr.app N0 N1q
  show o_G p e below _ T1 (mkF m 5 #[vR d, vI 0, vI nn, .unset, .unset] [])
  refine o_iloadN X1 hx (y_ oD28_5) rfl ?_
  refine o_iloadN X1 hx (y_ oD28_6) rfl ?_
  refine o_isub X1 hx (y_ oD28_7) ?_
  refine o_valE (z := nn) (Int32.sub_zero _) ?_
  refine o_istoreN X1 hx (y_ oD28_8) (A' := #[vR d, vI 0, vI nn, vI nn, .unset]) rfl ?_
  refine o_iloadN X1 hx (y_ oD28_9) rfl ?_
  refine o_newE (cap := 8) X1 hx hZ (k_ 18 rfl) hh1 (y_ oD28_10) (by rw [hn]; exact o_on (Nat.lt_of_le_of_lt hcap (by decide))) (by rw [hn, o_oc (Nat.lt_of_le_of_lt hcap (by decide))]; exact hcap) (fun T2 h2 k2 b2 X2 e2 gg2 E2 V2 A2 => ?_)
  have g_b2 := o_fresh O0 gg2
  have O2 := Old.ext O0 E2
  refine o_astore X2 hx (y_ oD28_12) rfl (A' := #[vR d, vI 0, vI nn, vI nn, vR b2]) rfl ?_
  refine o_aloadN X2 hx (y_ oD28_14) rfl rfl ?_
  refine o_iloadN X2 hx (y_ oD28_15) rfl ?_
  refine o_aload X2 hx (y_ oD28_16) rfl rfl ?_
  refine o_iconst X2 hx (y_ oD28_18) (x := 0) rfl ?_
  refine o_aloadN X2 hx (y_ oD28_19) rfl rfl ?_
  have c3 := (Arv.ext V_d E2)
  refine o_alen (n := z) X2 hx hZ e2 c3 (y_ oD28_20) ?_
  refine o_iloadN X2 hx (y_ oD28_21) rfl ?_
  refine o_isub X2 hx (y_ oD28_22) ?_
  refine o_valE (z := z) (Int32.sub_zero _) ?_
  refine o_iloadN X2 hx (y_ oD28_23) rfl ?_
  refine o_sta (y := o_m26) (argsL := [(.int z), (.int nn)]) (S := [(.int 0), (.ref b2), (.int 0), (.ref d)]) (W := 4) X2 hx hZ hown (k_ 230 rfl) (k_ 231 rfl) (k_ 232 rfl) (k_ 233 rfl) (backOf (W := 4) (rmmin l Z a0 hw [] z nn h2 n0 O2 (by rw [hn]; exact o_olt hz hlt)) hZ (k_ 233 rfl) (k_ 232 rfl) (by decide) (by decide)) e2 hml (lenOf o_pd__28II_29I rfl) (y_ oD28_24) (fun T4 L4 v4 X4 hQ4 => ?_)
  obtain ⟨rfl, N4q, hh4⟩ := hQ4
  have N4 := Fr.app N1 N4q
  show o_G p e below _ T4 (mkF m 27 #[vR d, vI 0, vI nn, vI nn, vR b2] [(.int nn), (.int 0), (.ref b2), (.int 0), (.ref d)])
  refine o_cpB (W := 0) (us := (o_V8 cs)) X4 hx hZ hown (k_ 234 rfl) (k_ 189 rfl) (k_ 187 rfl) (k_ 188 rfl) hh4 c3 V2 (by decide) (by decide) (by rw [hn]; exact o_on (Nat.lt_of_le_of_lt hcap (by decide))) (by rw [hn, o_oc (Nat.lt_of_le_of_lt hcap (by decide))]; exact Nat.le_of_lt (Nat.lt_of_le_of_lt (Nat.le_of_eq (Nat.zero_add _)) hlt)) (Nat.le_of_eq (Nat.zero_add _)) (by rw [hn, o_oc (Nat.lt_of_le_of_lt hcap (by decide))]; exact o_V8range cs) rfl N4 g_b2 (by rw [hml]; rfl) (y_ oD28_27) (by decide) (Nat.le_of_eq rfl) (by rw [nativeFrameWords_plain 5 (by decide)]; decide) (fun T5 h5 L5 X5 e5 N5 Kp5 V5 => ?_)
  have O6 := Old.keep O2 Kp5 (allS g_b2 all0)
  refine o_aload X5 hx (y_ oD28_30) rfl rfl ?_
  have kp7 := Keep.ext (Keep.refl h0 []) E2
  have kp8 := Keep.trans kp7 Kp5 (allS (Or.inr (Nat.le_trans (Keep.refl h0 []).1 (Nat.le_of_eq gg2.symm))) all0)
  have c9 := (Exa.keep A2 Kp5)
  exact o_retA X5 hx hrt hlk rfl rfl rfl (y_ oD28_32) (by decide) (by decide) (o_hQ e5 ⟨b2, rfl, N5, kp8, g_b2, (Nat.le_trans (Keep.refl h0 []).1 (Nat.le_of_eq gg2.symm)), c9, _, V5⟩)
theorem rmcor (hw : o_HW Z a0) (ws : o_LC) (d : Addr) (nn : Int32) (kd : ClassId) (z : Int32) (cs : List Int32) (h0 : Heap) (n0 : Nat) (O0 : Old Z n0 h0) (V_d : Arv Z h0 d kd .byte z (o_V8 cs) (.int 0)) (hn : nn = (Int32.ofNat cs.length)) (hlt : cs.length < z.toNatClampNeg) (hcap : cs.length ≤ 8) (hz : ¬ z < 0) :
    o_Met l Z o_m29 oJ35 3 (some (.array .byte)) ws o_R44 #[(.ref d), (.int 0), (.int nn)] h0 (Qcor Z d nn kd z cs h0 n0) := by
  refine o_enter o_pn_7 (fun m => o_ef35 m d nn) (fun p e s m below meth c s₁ hx hby hml hZ hown hnm hlk hrt X0 e0 => ?_)
  have N0 := Fr.nil n0
  have y_ := @hb _ _ hby
  have k_ := @o_k _ _ hw
  refine o_iloadN X0 hx (y_ oD29_0) rfl ?_
  refine o_iFF X0 hx (y_ oD29_1) ?_
  refine o_iloadN X0 hx (y_ oD29_4) rfl ?_
  refine o_aloadN X0 hx (y_ oD29_5) rfl rfl ?_
  refine o_alen (n := z) X0 hx hZ e0 V_d (y_ oD29_6) ?_
  refine o_iC (t := 17) X0 hx (y_ oD29_7) (fun hq => ?_) (fun hq => ?_)
  · have hc7 := o_c_eq.1 hq
    exact absurd hc7 (by rw [hn]; exact o_one hz hlt)
  have hc7 := o_c_eq.2 hq
  refine o_aloadN X0 hx (y_ oD29_10) rfl rfl ?_
  refine o_iloadN X0 hx (y_ oD29_11) rfl ?_
  refine o_iloadN X0 hx (y_ oD29_12) rfl ?_
  refine o_sta (y := o_m28) (argsL := [(.ref d), (.int 0), (.int nn)]) (S := []) (W := 0) X0 hx hZ hown (k_ 224 rfl) (k_ 225 rfl) (k_ 222 rfl) (k_ 226 rfl) (backOf (W := 0) (rmcob l Z a0 hw [] d nn kd z cs h0 n0 O0 V_d hn hlt hcap hz) hZ (k_ 226 rfl) (k_ 222 rfl) (by decide) (by decide)) e0 hml (lenOf o_pd__28_5bBII_29_5bB rfl) (y_ oD29_13) (fun T1 L1 v1 X1 hQ1 => ?_)
  obtain ⟨t1, rfl, N1q, Kp1, g_t1, ht1, Et1, ka1, Va1⟩ := hQ1
  have N1 := Fr.app N0 N1q
  have O2 := Old.keep O0 Kp1 all0
  show o_G p e below _ T1 (mkF m 16 #[vR d, vI 0, vI nn] [(.ref t1)])
  have kp3 := Keep.trans (Keep.refl h0 []) Kp1 all0
  exact o_retA X1 hx hrt hlk rfl rfl rfl (y_ oD29_16) (by decide) (by decide) ⟨t1, rfl, N1, kp3, g_t1, (Nat.le_trans (Keep.refl h0 []).1 ht1), Et1, _, Va1⟩
theorem rmsia (hw : o_HW Z a0) (ws : o_LC) (x : Addr) (b : Addr) (t : Addr) (z : Int32) (cs : List Int32) (zC_ : Int32) (h0 : Heap) (n0 : Nat) (O0 : Old Z n0 h0) (E_x : Exa Z h0 x "java/lang/String") (F_v : o_FV Z h0 x .null) (F_c : o_FC Z h0 x (.int 0)) (g_x : n0 ≤ x) (B_b : o_Bl Z h0 b t z cs) (hlt : cs.length < z.toNatClampNeg) (hcap : cs.length ≤ 8) (SC_ : o_SC Z zC_) (hC_ : ¬ zC_ = 0) :
    o_Met l Z o_m57 oJ3 5 none ws o_R45 #[(.ref x), (.ref b), .null] h0 (Qsia Z x b t z cs zC_ h0 n0) := by
  refine o_enter o_pn_1 (fun m => o_ef33 m x b) (fun p e s m below meth c s₁ hx hby hml hZ hown hnm hlk hrt X0 e0 => ?_)
  have N0 := Fr.nil n0
  have y_ := @hb _ _ hby
  have k_ := @o_k _ _ hw
  obtain ⟨Be1, Bc1, Bv1, Bn1, ⟨kb1, Ba1⟩, Bh1, Bs1, Bm1⟩ := id B_b
  refine o_aloadN X0 hx (y_ oD56_0) rfl rfl ?_
  refine o_initO (W := 0) X0 hx hZ hown (k_ 23 rfl) (k_ 24 rfl) (k_ 25 rfl) e0 (by rw [hml]; rfl) (y_ oD56_1) (by decide) (Nat.le_of_eq rfl) (by decide) (fun T2 X2 e2 => ?_)
  refine o_aloadN X2 hx (y_ oD56_4) rfl rfl ?_
  refine o_vir (y := o_m54) (b := b) (argsL := []) (S := []) (W := 0) X2 hx hZ hown (k_ 202 rfl) (k_ 203 rfl) (k_ 205 rfl) (k_ 204 rfl) (backOf (W := 0) (rmgva l Z a0 hw [] b t z cs h0 n0 O0 B_b) hZ (k_ 206 rfl) (k_ 140 rfl) (by decide) (by decide)) e2 Be1 hml (lenOf o_pd__28_29_5bB rfl) (y_ oD56_5) (fun T3 L3 v3 X3 hQ3 => ?_)
  obtain ⟨rfl, N3q, hh3⟩ := hQ3
  have N3 := Fr.app N0 N3q
  show o_G p e below _ T3 (mkF m 8 #[vR x, vR b, .val .null, .unset, .unset] [(.ref t)])
  refine o_astoreN X3 hx (y_ oD56_8) rfl (A' := #[vR x, vR b, .val .null, vR t, .unset]) rfl ?_
  refine o_aloadN X3 hx (y_ oD56_9) rfl rfl ?_
  refine o_virtual (y := o_m55) (z := o_m56) (b := b) (argsL := []) (S := []) (W := 0) X3 hx hZ hown (k_ 207 rfl) (k_ 208 rfl) (o_nf (y2 := o_m7) hZ (k_ 168 rfl) rfl) (k_ 210 rfl) (k_ 211 rfl) (by decide) (backOf (W := 0) (rmsle l Z a0 hw [] b t z cs h0 n0 O0 B_b) hZ (k_ 212 rfl) (k_ 132 rfl) (by decide) (by decide)) hh3 Be1 (by rw [hml]; rfl) (lenOf o_pd__28_29I rfl) rfl (Nat.le_of_eq rfl) (y_ oD56_10) (by decide) (by decide) (fun T4 L4 v4 X4 hQ4 => ?_)
  obtain ⟨rfl, N4q, hh4⟩ := hQ4
  have N4 := Fr.app N3 N4q
  show o_G p e below _ T4 (mkF m 13 #[vR x, vR b, .val .null, vR t, .unset] [(.int (Int32.ofNat cs.length))])
  refine o_istore X4 hx (y_ oD56_13) (A' := #[vR x, vR b, .val .null, vR t, vI (Int32.ofNat cs.length)]) rfl ?_
  refine o_aloadN X4 hx (y_ oD56_15) rfl rfl ?_
  refine o_vir (y := o_m52) (b := b) (argsL := []) (S := []) (W := 0) X4 hx hZ hown (k_ 215 rfl) (k_ 216 rfl) (k_ 218 rfl) (k_ 217 rfl) (backOf (W := 0) (rmail l Z a0 hw [] b t z cs zC_ h0 n0 O0 B_b SC_ hC_) hZ (k_ 219 rfl) (k_ 140 rfl) (by decide) (by decide)) hh4 Be1 hml (lenOf o_pd__28_29Z rfl) (y_ oD56_16) (fun T5 L5 v5 X5 hQ5 => ?_)
  obtain ⟨rfl, N5q, hh5⟩ := hQ5
  have N5 := Fr.app N4 N5q
  show o_G p e below _ T5 (mkF m 19 #[vR x, vR b, .val .null, vR t, vI (Int32.ofNat cs.length)] [(.int 1)])
  refine o_iFF X5 hx (y_ oD56_19) ?_
  refine o_aloadN X5 hx (y_ oD56_22) rfl rfl ?_
  refine o_iconst X5 hx (y_ oD56_23) (x := 0) rfl ?_
  refine o_putFN (v' := (.int 0)) X5 hx hZ hown (k_ 28 rfl) Via.refl hh5 F_c E_x (Or.inr ⟨(k_ 29 rfl), rfl, hnm⟩) (k_ 14 rfl) (ty := .byte) (by decide) rfl rfl (y_ oD56_24) (fun T6 h6 X6 e6 W6 => ?_)
  have F6 := Fld.same W6 F_c
  have N6 := Fr.snoc X6 N5 g_x
  have O6 := Old.wr O0 W6 g_x
  refine o_aloadN X6 hx (y_ oD56_27) rfl rfl ?_
  refine o_aloadN X6 hx (y_ oD56_28) rfl rfl ?_
  refine o_iconst X6 hx (y_ oD56_29) (x := 0) rfl ?_
  refine o_iload X6 hx (y_ oD56_30) rfl ?_
  have c7 := (Arv.other Ba1 W6 (Ne.symm (Exa.neArv E_x Ba1 (k_ 14 rfl))))
  refine o_sta (y := o_m29) (argsL := [(.ref t), (.int 0), (.int (Int32.ofNat cs.length))]) (S := [(.ref x)]) (W := 1) X6 hx hZ hown (k_ 220 rfl) (k_ 221 rfl) (k_ 222 rfl) (k_ 223 rfl) (backOf (W := 1) (rmcor l Z a0 hw [] t (Int32.ofNat cs.length) kb1 z cs h6 n0 O6 c7 rfl hlt hcap B_b.nn) hZ (k_ 223 rfl) (k_ 222 rfl) (by decide) (by decide)) e6 hml (lenOf o_pd__28_5bBII_29_5bB rfl) (y_ oD56_32) (fun T8 L8 v8 X8 hQ8 => ?_)
  obtain ⟨t8, rfl, N8q, Kp8, g_t8, ht8, Et8, ka8, Va8⟩ := hQ8
  have N8 := Fr.app N6 N8q
  have O9 := Old.keep O6 Kp8 all0
  show o_G p e below _ T8 (mkF m 35 #[vR x, vR b, .val .null, vR t, vI (Int32.ofNat cs.length)] [(.ref t8), (.ref x)])
  have c10 := (Exa.keep (Exa.wr W6 E_x) Kp8)
  have c11 := (Fld.keep (Fld.other W6 F_v (Or.inr (slot_ne (Or.inr (k_ 27 rfl)) (Or.inr (k_ 29 rfl)) (by decide) (t := (.array .byte)) (t' := .byte) (by decide) (by decide)))) Kp8 nin0)
  refine o_putF X8 hx hZ hown (host := "") (Or.inl (k_ 26 rfl)) Via.refl rfl c11 c10 (Or.inr ⟨(k_ 27 rfl), rfl, hnm⟩) (k_ 14 rfl) (ty := (.array .byte)) (by decide) rfl rfl (y_ oD56_35) (fun T12 h12 X12 e12 W12 => ?_)
  have F12 := Fld.same W12 c11
  have N12 := Fr.snoc X12 N8 g_x
  have O12 := Old.wr O9 W12 g_x
  refine o_gO (t := 97) X12 hx (y_ oD56_38) ?_
  have kp13 := Keep.wr (Keep.refl h0 [x]) W6 (Or.inl (List.mem_of_getElem? (i := 0) rfl))
  have kp14 := Keep.trans kp13 Kp8 all0
  have kp15 := Keep.wr kp14 W12 (Or.inl (List.mem_of_getElem? (i := 0) rfl))
  have c16 := (Exa.wr W12 Et8)
  have c17 := (Exa.wr W12 c10)
  have c18 := (Fld.other W12 (Fld.keep F6 Kp8 nin0) (Or.inr (slot_ne (Or.inr (k_ 29 rfl)) (Or.inr (k_ 27 rfl)) (by decide) (t := .byte) (t' := (.array .byte)) (by decide) (by decide))))
  have c19 := (Arv.other Va8 W12 (Ne.symm (Nat.ne_of_lt (Nat.lt_of_lt_of_le F6.lt ht8))))
  exact o_retV X12 hx hrt hlk (y_ oD56_97) (by decide) (by decide) (o_hQ e12 ⟨rfl, N12, kp15, t8, g_t8, (Nat.le_trans kp13.1 ht8), (Ne.symm (Nat.ne_of_lt (Nat.lt_of_lt_of_le F6.lt ht8))), c16, c17, c18, F12, ⟨_, c19⟩, B_b.2.2.2.2.2.1, Nat.le_trans hcap (by decide)⟩)
theorem rmsib (hw : o_HW Z a0) (ws : o_LC) (x : Addr) (b : Addr) (t : Addr) (z : Int32) (cs : List Int32) (zC_ : Int32) (h0 : Heap) (n0 : Nat) (O0 : Old Z n0 h0) (E_x : Exa Z h0 x "java/lang/String") (F_v : o_FV Z h0 x .null) (F_c : o_FC Z h0 x (.int 0)) (g_x : n0 ≤ x) (B_b : o_Bl Z h0 b t z cs) (hlt : cs.length < z.toNatClampNeg) (hcap : cs.length ≤ 8) (SC_ : o_SC Z zC_) (hC_ : ¬ zC_ = 0) :
    o_Met l Z o_m58 oJ56 2 none ws o_R46 #[(.ref x), (.ref b)] h0 (Qsib Z x b t z cs zC_ h0 n0) := by
  refine o_enter o_pn_1 (fun m => o_ef5 m x b) (fun p e s m below meth c s₁ hx hby hml hZ hown hnm hlk hrt X0 e0 => ?_)
  have N0 := Fr.nil n0
  have y_ := @hb _ _ hby
  have k_ := @o_k _ _ hw
  refine o_aloadN X0 hx (y_ oD57_0) rfl rfl ?_
  refine o_aloadN X0 hx (y_ oD57_1) rfl rfl ?_
  refine o_anull X0 hx (y_ oD57_2) ?_
  refine o_ini (y := o_m57) (b := x) (argsL := [(.ref b), .null]) (S := []) (W := 0) rfl X0 hx hZ hown (k_ 199 rfl) (k_ 200 rfl) (k_ 201 rfl) (backOf (W := 0) (rmsia l Z a0 hw [] x b t z cs zC_ h0 n0 O0 E_x F_v F_c g_x B_b hlt hcap SC_ hC_) hZ (k_ 201 rfl) (k_ 6 rfl) (by decide) (by decide)) e0 hml (lenOf o_pd__28Ljava_2flang_2fAbstractStringBuilder_3bLjava_2flang_2fVoid_3b_29V rfl) (y_ oD57_3) (fun T1 L1 v1 X1 hQ1 => ?_)
  obtain ⟨rfl, N1q, Kp1, t1, g_t1, ht1, hne1, Et1, Sf1⟩ := hQ1
  have N1 := Fr.app N0 N1q
  have O2 := Old.keep O0 Kp1 (allS g_x all0)
  show o_G p e below _ T1 (mkF m 6 #[vR x, vR b] [])
  have kp3 := Keep.trans (Keep.refl h0 [x]) Kp1 (allS (Or.inl (List.mem_of_getElem? (i := 0) rfl)) all0)
  exact o_retV X1 hx hrt hlk (y_ oD57_6) (by decide) (by decide) ⟨rfl, N1, kp3, t1, g_t1, (Nat.le_trans (Keep.refl h0 [x]).1 ht1), hne1, Et1, Sf1⟩
theorem rmsts (hw : o_HW Z a0) (ws : o_LC) (b : Addr) (t : Addr) (z : Int32) (cs : List Int32) (zC_ : Int32) (h0 : Heap) (n0 : Nat) (O0 : Old Z n0 h0) (B_b : o_Bl Z h0 b t z cs) (hlt : cs.length < z.toNatClampNeg) (hcap : cs.length ≤ 8) (SC_ : o_SC Z zC_) (hC_ : ¬ zC_ = 0) :
    o_Met l Z o_m59 oJ58 1 (some (.object "java/lang/String")) ws o_R47 #[(.ref b)] h0 (Qsts Z b t z cs zC_ h0 n0) := by
  refine o_enter o_pn_3 (fun m => o_ef3 m b) (fun p e s m below meth c s₁ hx hby hml hZ hown hnm hlk hrt X0 e0 => ?_)
  have N0 := Fr.nil n0
  have y_ := @hb _ _ hby
  have k_ := @o_k _ _ hw
  refine o_new X0 hx hZ hown (k_ 195 rfl) (k_ 14 rfl) (k_ 6 rfl) e0 (y_ oD58_0) (by decide) (by decide) (fun T1 h1 b1 X1 e1 gg1 E1 A1 D1 => ?_)
  have g_b1 := o_fresh O0 gg1
  have O1 := Old.ext O0 E1
  have F1_value : o_FV Z h1 b1 .null := D1 (Or.inr (k_ 27 rfl)) (ty := (.array .byte)) (by decide)
  have F1_coder : o_FC Z h1 b1 (.int 0) := D1 (Or.inr (k_ 29 rfl)) (ty := .byte) (by decide)
  refine o_dup X1 hx (y_ oD58_3) rfl ?_
  refine o_aloadN X1 hx (y_ oD58_4) rfl rfl ?_
  have c2 := (o_Bl.ext E1 B_b)
  refine o_ini (y := o_m58) (b := b1) (argsL := [(.ref b)]) (S := [(.ref b1)]) (W := 1) rfl X1 hx hZ hown (k_ 196 rfl) (k_ 197 rfl) (k_ 198 rfl) (backOf (W := 1) (rmsib l Z a0 hw [] b1 b t z cs zC_ h1 n0 O1 A1 F1_value F1_coder g_b1 c2 hlt hcap SC_ hC_) hZ (k_ 198 rfl) (k_ 6 rfl) (by decide) (by decide)) e1 hml (lenOf o_pd__28Ljava_2flang_2fStringBuilder_3b_29V rfl) (y_ oD58_5) (fun T3 L3 v3 X3 hQ3 => ?_)
  obtain ⟨rfl, N3q, Kp3, t3, g_t3, ht3, hne3, Et3, Sf3⟩ := hQ3
  have N3 := Fr.app N0 N3q
  have O4 := Old.keep O1 Kp3 (allS g_b1 all0)
  show o_G p e below _ T3 (mkF m 8 #[vR b] [(.ref b1)])
  have kp5 := Keep.ext (Keep.refl h0 []) E1
  have kp6 := Keep.trans kp5 Kp3 (allS (Or.inr (Nat.le_trans (Keep.refl h0 []).1 (Nat.le_of_eq gg1.symm))) all0)
  exact o_retA X3 hx hrt hlk rfl rfl rfl (y_ oD58_8) (by decide) (by decide) ⟨b1, t3, rfl, N3, kp6, g_b1, (Nat.le_trans (Keep.refl h0 []).1 (Nat.le_of_eq gg1.symm)), g_t3, (Nat.le_trans kp5.1 ht3), hne3, Et3, Sf3⟩
theorem rmrec (hw : o_HW Z a0) (ws : o_LC) (b : Addr) (h0 : Heap) (n0 : Nat) (O0 : Old Z n0 h0) :
    o_Met l Z o_m60 jdk_30_method_1_code 1 none ws o_R14 #[(.ref b)] h0 (o_P (none) h0 n0) := by
  refine o_enter o_pn_8 (fun m => o_ef3 m b) (fun p e s m below meth c s₁ hx hby hml hZ hown hnm hlk hrt X0 e0 => ?_)
  have N0 := Fr.nil n0
  have y_ := @hb _ _ hby
  have k_ := @o_k _ _ hw
  refine o_aloadN X0 hx (y_ oD59_0) rfl rfl ?_
  refine o_initO (W := 0) X0 hx hZ hown (k_ 61 rfl) (k_ 24 rfl) (k_ 25 rfl) e0 (by rw [hml]; rfl) (y_ oD59_1) (by decide) (Nat.le_of_eq rfl) (by decide) (fun T1 X1 e1 => ?_)
  exact o_retV X1 hx hrt hlk (y_ oD59_4) (by decide) (by decide) (o_hQ e1 ⟨rfl, N0, rfl⟩)
theorem rmrnn (hw : o_HW Z a0) (ws : o_LC) (x : Addr) (y : Addr) (h0 : Heap) (n0 : Nat) (O0 : Old Z n0 h0) :
    o_Met l Z o_m61 jdk_31_method_11_code 2 (some (.object "java/lang/Object")) ws o_R0 #[(.ref x), (.ref y)] h0 (o_P (some (.ref x)) h0 n0) := by
  refine o_enter o_pn_9 (fun m => o_ef5 m x y) (fun p e s m below meth c s₁ hx hby hml hZ hown hnm hlk hrt X0 e0 => ?_)
  have N0 := Fr.nil n0
  have y_ := @hb _ _ hby
  have k_ := @o_k _ _ hw
  refine o_aloadN X0 hx (y_ oD60_0) rfl rfl ?_
  refine o_nonnullY (t := 13) X0 hx (y_ oD60_1) (by decide) (by decide) ?_
  refine o_aloadN X0 hx (y_ oD60_13) rfl rfl ?_
  exact o_retA X0 hx hrt hlk rfl rfl rfl (y_ oD60_14) (by decide) (by decide) (o_hQ e0 ⟨rfl, N0, rfl⟩)
theorem rmdra (hw : o_HW Z a0) (ws : o_LC) (p9 : Int32) (h0 : Heap) (n0 : Nat) (O0 : Old Z n0 h0) :
    o_Met l Z o_m62 method_3_code 2 (some .char) ws o_R0 #[(.int p9)] h0 (o_P (some (.int (o_dr p9))) h0 n0) := by
  refine o_enter o_pn_10 (fun m => o_ef36 m p9) (fun p e s m below meth c s₁ hx hby hml hZ hown hnm hlk hrt X0 e0 => ?_)
  have N0 := Fr.nil n0
  have y_ := @hb _ _ hby
  have k_ := @o_k _ _ hw
  refine o_iloadN X0 hx (y_ oD61_0) rfl ?_
  refine o_sipush X0 hx (y_ oD61_1) (x := 255) rfl ?_
  refine o_iand X0 hx (y_ oD61_4) ?_
  refine o_istoreN X0 hx (y_ oD61_5) (A' := #[vI p9, vI (p9 &&& (255 : Int32))]) rfl ?_
  refine o_iloadN X0 hx (y_ oD61_6) rfl ?_
  refine o_bipush X0 hx (y_ oD61_7) (x := 42) rfl ?_
  refine o_iC (t := 16) X0 hx (y_ oD61_9) (fun hq => ?_) (fun hq => ?_)
  · have hc9 := o_c_ne.1 hq
    refine o_iloadN X0 hx (y_ oD61_16) rfl ?_
    refine o_i2c X0 hx (y_ oD61_17) ?_
    obtain ⟨cz, e_cz, f_cz, n_cz, l_cz, u_cz⟩ := o_chr p9
    rw [f_cz]
    exact o_retN X0 hx (t := .char) hrt hlk (by simp) (y_ oD61_18) n_cz (by decide) (by decide) (o_hQ e0 ⟨by rw [o_dr, if_neg hc9, e_cz], N0, rfl⟩)
  have hc9 := o_c_ne.2 hq
  refine o_sipush X0 hx (y_ oD61_12) (x := 256) rfl ?_
  exact o_retN X0 hx (t := .char) hrt hlk (by simp) (y_ oD61_15) rfl (by decide) (by decide) (o_hQ e0 ⟨by rw [o_dr, if_pos hc9], N0, rfl⟩)
theorem rmgco (hw : o_HW Z a0) (ws : o_LC) (b : Addr) (x : Addr) (h0 : Heap) (n0 : Nat) (O0 : Old Z n0 h0) (F_k : o_GK Z h0 b (.ref x)) :
    o_Met l Z o_m63 prog_8_method_8_code 1 (some (.object "java/lang/String")) ws o_R0 #[(.ref b)] h0 (o_P (some (.ref x)) h0 n0) := by
  refine o_enter o_pn_11 (fun m => o_ef3 m b) (fun p e s m below meth c s₁ hx hby hml hZ hown hnm hlk hrt X0 e0 => ?_)
  have N0 := Fr.nil n0
  have y_ := @hb _ _ hby
  have k_ := @o_k _ _ hw
  refine o_aloadN X0 hx (y_ oD62_0) rfl rfl ?_
  refine o_getF X0 hx hZ hown (host := "") (Or.inl (k_ 100 rfl)) Via.refl e0 F_k (y_ oD62_1) (fun T1 X1 e1 => ?_)
  exact o_retA X1 hx hrt hlk rfl rfl rfl (y_ oD62_4) (by decide) (by decide) (o_hQ e1 ⟨rfl, N0, rfl⟩)
theorem rmgab (hw : o_HW Z a0) (ws : o_LC) (b : Addr) (B : Int32) (h0 : Heap) (n0 : Nat) (O0 : Old Z n0 h0) (F_b : o_GB Z h0 b (.int B)) (hB : B = 0 ∨ B = 1) :
    o_Met l Z o_m64 prog_8_method_9_code 1 (some .boolean) ws o_R0 #[(.ref b)] h0 (o_P (some (.int B)) h0 n0) := by
  refine o_enter o_pn_11 (fun m => o_ef3 m b) (fun p e s m below meth c s₁ hx hby hml hZ hown hnm hlk hrt X0 e0 => ?_)
  have N0 := Fr.nil n0
  have y_ := @hb _ _ hby
  have k_ := @o_k _ _ hw
  refine o_aloadN X0 hx (y_ oD63_0) rfl rfl ?_
  refine o_getF X0 hx hZ hown (host := "") (Or.inl (k_ 102 rfl)) Via.refl e0 F_b (y_ oD63_1) (fun T1 X1 e1 => ?_)
  exact o_retN X1 hx (t := .boolean) hrt hlk (by simp) (y_ oD63_4) (o_naB hB) (by decide) (by decide) (o_hQ e1 ⟨rfl, N0, rfl⟩)
theorem rmgaa (hw : o_HW Z a0) (ws : o_LC) (b : Addr) (B : Int32) (h0 : Heap) (n0 : Nat) (O0 : Old Z n0 h0) (F_b : o_GA Z h0 b (.int B)) (hB : B = 0 ∨ B = 1) :
    o_Met l Z o_m65 prog_8_method_10_code 1 (some .boolean) ws o_R0 #[(.ref b)] h0 (o_P (some (.int B)) h0 n0) := by
  refine o_enter o_pn_11 (fun m => o_ef3 m b) (fun p e s m below meth c s₁ hx hby hml hZ hown hnm hlk hrt X0 e0 => ?_)
  have N0 := Fr.nil n0
  have y_ := @hb _ _ hby
  have k_ := @o_k _ _ hw
  refine o_aloadN X0 hx (y_ oD64_0) rfl rfl ?_
  refine o_getF X0 hx hZ hown (host := "") (Or.inl (k_ 104 rfl)) Via.refl e0 F_b (y_ oD64_1) (fun T1 X1 e1 => ?_)
  exact o_retN X1 hx (t := .boolean) hrt hlk (by simp) (y_ oD64_4) (o_naB hB) (by decide) (by decide) (o_hQ e1 ⟨rfl, N0, rfl⟩)
theorem rmcen (hw : o_HW Z a0) (ws : o_LC) (ch : Int32) (h0 : Heap) (n0 : Nat) (O0 : Old Z n0 h0) (hch : ¬ (255 : Int32) < ch) :
    o_Met l Z o_m66 oJ57 1 (some .boolean) ws o_R0 #[(.int ch)] h0 (o_P (some (.int 1)) h0 n0) := by
  refine o_enter o_pn_4 (fun m => o_ef17 m ch) (fun p e s m below meth c s₁ hx hby hml hZ hown hnm hlk hrt X0 e0 => ?_)
  have N0 := Fr.nil n0
  have y_ := @hb _ _ hby
  have k_ := @o_k _ _ hw
  refine o_iloadN X0 hx (y_ oD65_0) rfl ?_
  refine o_sipush X0 hx (y_ oD65_1) (x := 255) rfl ?_
  refine o_iC (t := 11) X0 hx (y_ oD65_4) (fun hq => ?_) (fun hq => ?_)
  · have hc4 := o_c_gt.1 hq
    exact absurd hc4 hch
  have hc4 := o_c_gt.2 hq
  refine o_iconst X0 hx (y_ oD65_7) (x := 1) rfl ?_
  refine o_gO (t := 12) X0 hx (y_ oD65_8) ?_
  exact o_retN X0 hx (t := .boolean) hrt hlk (by simp) (y_ oD65_12) rfl (by decide) (by decide) (o_hQ e0 ⟨rfl, N0, rfl⟩)
theorem rmtob (hw : o_HW Z a0) (ws : o_LC) (ch : Int32) (h0 : Heap) (n0 : Nat) (O0 : Old Z n0 h0) :
    o_Met l Z o_m67 oJ48 1 (some (.array .byte)) ws o_R48 #[(.int ch)] h0 (Qtob Z ch h0 n0) := by
  refine o_enter o_pn_4 (fun m => o_ef17 m ch) (fun p e s m below meth c s₁ hx hby hml hZ hown hnm hlk hrt X0 e0 => ?_)
  have N0 := Fr.nil n0
  have y_ := @hb _ _ hby
  have k_ := @o_k _ _ hw
  refine o_iconst X0 hx (y_ oD66_0) (x := 1) rfl ?_
  refine o_newE (cap := 1) X0 hx hZ (k_ 18 rfl) e0 (y_ oD66_1) (by decide) (by decide) (fun T1 h1 k1 b1 X1 e1 gg1 E1 V1 A1 => ?_)
  have g_b1 := o_fresh O0 gg1
  have O1 := Old.ext O0 E1
  refine o_dup X1 hx (y_ oD66_3) rfl ?_
  refine o_iconst X1 hx (y_ oD66_4) (x := 0) rfl ?_
  refine o_iloadN X1 hx (y_ oD66_5) rfl ?_
  refine o_i2b X1 hx (y_ oD66_6) ?_
  refine o_stBp (zz := ch.toInt8.toInt32) X1 hx hZ e1 V1 (y_ oD66_7) ⟨by decide, by decide⟩ rfl (o_nb8 ch) (fun T2 h2 X2 e2 W2 V2 => ?_)
  have N2 := Fr.snoc X2 N0 g_b1
  have O2 := Old.wr O1 W2 g_b1
  have kp3 := Keep.ext (Keep.refl h0 []) E1
  have kp4 := Keep.wr kp3 W2 (Or.inr (Nat.le_trans (Keep.refl h0 []).1 (Nat.le_of_eq gg1.symm)))
  have c5 := (Exa.wr W2 A1)
  exact o_retA X2 hx hrt hlk rfl rfl rfl (y_ oD66_8) (by decide) (by decide) (o_hQ e2 ⟨b1, rfl, N2, kp4, g_b1, (Nat.le_trans (Keep.refl h0 []).1 (Nat.le_of_eq gg1.symm)), c5, _, V2⟩)
theorem rmvoc (hw : o_HW Z a0) (ws : o_LC) (ch : Int32) (zC_ : Int32) (h0 : Heap) (n0 : Nat) (O0 : Old Z n0 h0) (hch : ¬ ch < 0 ∧ ¬ (255 : Int32) < ch) (SC_ : o_SC Z zC_) (hC_ : ¬ zC_ = 0) :
    o_Met l Z o_m68 oJ34 1 (some (.object "java/lang/String")) ws o_R49 #[(.int ch)] h0 (Qvoc Z ch zC_ h0 n0) := by
  refine o_enter o_pn_1 (fun m => o_ef17 m ch) (fun p e s m below meth c s₁ hx hby hml hZ hown hnm hlk hrt X0 e0 => ?_)
  have N0 := Fr.nil n0
  have y_ := @hb _ _ hby
  have k_ := @o_k _ _ hw
  refine o_getS X0 hx hZ hown (host := "") (Or.inl (k_ 8 rfl)) Via.refl e0 (Sta.ext O0.2 SC_) (y_ oD67_0) (fun T1 X1 e1 => ?_)
  refine o_iF (t := 26) X1 hx (y_ oD67_3) (fun hq => ?_) (fun hq => ?_)
  · have hc3 := o_h_eq.1 hq
    exact absurd hc3 hC_
  have hc3 := o_h_eq.2 hq
  refine o_iloadN X1 hx (y_ oD67_6) rfl ?_
  refine o_sta (y := o_m66) (argsL := [(.int ch)]) (S := []) (W := 0) X1 hx hZ hown (k_ 9 rfl) (k_ 10 rfl) (k_ 11 rfl) (k_ 12 rfl) (backOf (W := 0) (rmcen l Z a0 hw [] ch h0 n0 O0 hch.2) hZ (k_ 12 rfl) (k_ 11 rfl) (by decide) (by decide)) e1 hml (lenOf o_pd__28C_29Z rfl) (y_ oD67_7) (fun T2 L2 v2 X2 hQ2 => ?_)
  obtain ⟨rfl, N2q, hh2⟩ := hQ2
  have N2 := Fr.app N0 N2q
  show o_G p e below _ T2 (mkF m 10 #[vI ch] [(.int 1)])
  refine o_iFF X2 hx (y_ oD67_10) ?_
  refine o_new X2 hx hZ hown (k_ 13 rfl) (k_ 14 rfl) (k_ 6 rfl) hh2 (y_ oD67_13) (by decide) (by decide) (fun T3 h3 b3 X3 e3 gg3 E3 A3 D3 => ?_)
  have g_b3 := o_fresh O0 gg3
  have O3 := Old.ext O0 E3
  have F3_value : o_FV Z h3 b3 .null := D3 (Or.inr (k_ 27 rfl)) (ty := (.array .byte)) (by decide)
  have F3_coder : o_FC Z h3 b3 (.int 0) := D3 (Or.inr (k_ 29 rfl)) (ty := .byte) (by decide)
  refine o_dup X3 hx (y_ oD67_16) rfl ?_
  refine o_iloadN X3 hx (y_ oD67_17) rfl ?_
  refine o_sta (y := o_m67) (argsL := [(.int ch)]) (S := [(.ref b3), (.ref b3)]) (W := 2) X3 hx hZ hown (k_ 15 rfl) (k_ 16 rfl) (k_ 11 rfl) (k_ 17 rfl) (backOf (W := 2) (rmtob l Z a0 hw [] ch h3 n0 O3) hZ (k_ 17 rfl) (k_ 11 rfl) (by decide) (by decide)) e3 hml (lenOf o_pd__28C_29_5bB rfl) (y_ oD67_18) (fun T4 L4 v4 X4 hQ4 => ?_)
  obtain ⟨t4, rfl, N4q, Kp4, g_t4, ht4, Et4, ka4, Va4⟩ := hQ4
  have N4 := Fr.app N2 N4q
  have O5 := Old.keep O3 Kp4 all0
  show o_G p e below _ T4 (mkF m 21 #[vI ch] [(.ref t4), (.ref b3), (.ref b3)])
  refine o_iconst X4 hx (y_ oD67_21) (x := 0) rfl ?_
  have c6 := (Exa.keep A3 Kp4)
  have c7 := (Fld.keep F3_value Kp4 nin0)
  have c8 := (Fld.keep F3_coder Kp4 nin0)
  refine o_ini (y := o_m30) (b := b3) (argsL := [(.ref t4), (.int 0)]) (S := [(.ref b3)]) (W := 1) rfl X4 hx hZ hown (k_ 19 rfl) (k_ 20 rfl) (k_ 22 rfl) (backOf (W := 1) (rmsbk l Z a0 hw [] b3 t4 (0 : Int32) T4.heap n0 O5 c6 c7 c8 g_b3 (Or.inl rfl)) hZ (k_ 22 rfl) (k_ 6 rfl) (by decide) (by decide)) rfl hml (lenOf o_pd__28_5bBB_29V rfl) (y_ oD67_22) (fun T9 L9 v9 X9 hQ9 => ?_)
  obtain ⟨rfl, N9q, Kp9, Ex9, Fc9, Fv9⟩ := hQ9
  have N9 := Fr.app N4 N9q
  have O10 := Old.keep O5 Kp9 (allS g_b3 all0)
  show o_G p e below _ T9 (mkF m 25 #[vI ch] [(.ref b3)])
  have kp11 := Keep.ext (Keep.refl h0 []) E3
  have kp12 := Keep.trans kp11 Kp4 all0
  have kp13 := Keep.trans kp12 Kp9 (allS (Or.inr (Nat.le_trans (Keep.refl h0 []).1 (Nat.le_of_eq gg3.symm))) all0)
  have c14 := (Arv.keep Va4 Kp9 (ninS (Ne.symm (Nat.ne_of_lt (Nat.lt_of_lt_of_le A3.lt ht4))) nin0))
  exact o_retA X9 hx hrt hlk rfl rfl rfl (y_ oD67_25) (by decide) (by decide) ⟨b3, t4, 0, rfl, N9, kp13, g_b3, (Nat.le_trans (Keep.refl h0 []).1 (Nat.le_of_eq gg3.symm)), g_t4, (Nat.le_trans kp11.1 ht4), (Ne.symm (Nat.ne_of_lt (Nat.lt_of_lt_of_le A3.lt ht4))), o_aMk0 Ex9 Fc9 Fv9 c14 (o_csS hch o_cs0) (o_b rfl)⟩
theorem rmasi (hw : o_HW Z a0) (ws : o_LC) (b : Addr) (zC_ : Int32) (h0 : Heap) (n0 : Nat) (O0 : Old Z n0 h0) (E_b : Exa Z h0 b "java/lang/StringBuilder") (F_v : o_HV Z h0 b .null) (F_c : o_HC Z h0 b (.int 0)) (F_n : o_HN Z h0 b (.int 0)) (F_m : o_HM Z h0 b (.int 0)) (g_b : n0 ≤ b) (SC_ : o_SC Z zC_) (hC_ : ¬ zC_ = 0) :
    o_Met l Z o_m69 oJ31 2 none ws o_R50 #[(.ref b), (.int 16)] h0 (Qasi Z b zC_ h0 n0) := by
  refine o_enter o_pn_2 (fun m => o_ef37 m b) (fun p e s m below meth c s₁ hx hby hml hZ hown hnm hlk hrt X0 e0 => ?_)
  have N0 := Fr.nil n0
  have y_ := @hb _ _ hby
  have k_ := @o_k _ _ hw
  refine o_aloadN X0 hx (y_ oD68_0) rfl rfl ?_
  refine o_initO (W := 0) X0 hx hZ hown (k_ 142 rfl) (k_ 24 rfl) (k_ 25 rfl) e0 (by rw [hml]; rfl) (y_ oD68_1) (by decide) (Nat.le_of_eq rfl) (by decide) (fun T1 X1 e1 => ?_)
  refine o_getS X1 hx hZ hown (host := "") (Or.inl (k_ 143 rfl)) Via.refl e1 (Sta.ext O0.2 SC_) (y_ oD68_4) (fun T2 X2 e2 => ?_)
  refine o_iF (t := 25) X2 hx (y_ oD68_7) (fun hq => ?_) (fun hq => ?_)
  · have hc7 := o_h_eq.1 hq
    exact absurd hc7 hC_
  have hc7 := o_h_eq.2 hq
  refine o_aloadN X2 hx (y_ oD68_10) rfl rfl ?_
  refine o_iloadN X2 hx (y_ oD68_11) rfl ?_
  refine o_newE (cap := 16) X2 hx hZ (k_ 18 rfl) e2 (y_ oD68_12) (by decide) (by decide) (fun T3 h3 k3 b3 X3 e3 gg3 E3 V3 A3 => ?_)
  have g_b3 := o_fresh O0 gg3
  have O3 := Old.ext O0 E3
  have c4 := (Exa.ext E3 E_b)
  have c5 := (Fld.ext E3 F_v)
  refine o_putF X3 hx hZ hown (host := "") (Or.inl (k_ 144 rfl)) Via.refl e3 c5 c4 (Or.inl (k_ 145 rfl)) (k_ 131 rfl) (ty := (.array .byte)) (by decide) rfl rfl (y_ oD68_14) (fun T6 h6 X6 e6 W6 => ?_)
  have F6 := Fld.same W6 c5
  have N6 := Fr.snoc X6 N0 g_b
  have O6 := Old.wr O3 W6 g_b
  refine o_aloadN X6 hx (y_ oD68_17) rfl rfl ?_
  refine o_iconst X6 hx (y_ oD68_18) (x := 0) rfl ?_
  have c7 := (Exa.wr W6 c4)
  have c8 := (Fld.other W6 (Fld.ext E3 F_c) (Or.inr (slot_ne (Or.inl (k_ 147 rfl)) (Or.inl (k_ 145 rfl)) (by decide) (t := .byte) (t' := (.array .byte)) (by decide) (by decide))))
  refine o_putFN (v' := (.int 0)) X6 hx hZ hown (k_ 146 rfl) Via.refl e6 c8 c7 (Or.inl (k_ 147 rfl)) (k_ 131 rfl) (ty := .byte) (by decide) rfl rfl (y_ oD68_19) (fun T9 h9 X9 e9 W9 => ?_)
  have F9 := Fld.same W9 c8
  have N9 := Fr.snoc X9 N6 g_b
  have O9 := Old.wr O6 W9 g_b
  refine o_gO (t := 38) X9 hx (y_ oD68_22) ?_
  have kp10 := Keep.ext (Keep.refl h0 [b]) E3
  have kp11 := Keep.wr kp10 W6 (Or.inl (List.mem_of_getElem? (i := 0) rfl))
  have kp12 := Keep.wr kp11 W9 (Or.inl (List.mem_of_getElem? (i := 0) rfl))
  have c13 := (Exa.wr W9 c7)
  have c14 := (Fld.other W9 F6 (Or.inr (slot_ne (Or.inl (k_ 145 rfl)) (Or.inl (k_ 147 rfl)) (by decide) (t := (.array .byte)) (t' := .byte) (by decide) (by decide))))
  have c15 := (Fld.other W9 (Fld.other W6 (Fld.ext E3 F_n) (Or.inr (slot_ne (Or.inl (k_ 164 rfl)) (Or.inl (k_ 145 rfl)) (by decide) (t := .int) (t' := (.array .byte)) (by decide) (by decide)))) (Or.inr (slot_ne (Or.inl (k_ 164 rfl)) (Or.inl (k_ 147 rfl)) (by decide) (t := .int) (t' := .byte) (by decide) (by decide))))
  have c16 := (Arv.other (Arv.other V3 W6 (Ne.symm (o_ng E_b.lt gg3))) W9 (Ne.symm (o_ng E_b.lt gg3)))
  have c17 := (Fld.other W9 (Fld.other W6 (Fld.ext E3 F_m) (Or.inr (slot_ne (Or.inl (k_ 365 rfl)) (Or.inl (k_ 145 rfl)) (by decide) (t := .boolean) (t' := (.array .byte)) (by decide) (by decide)))) (Or.inr (slot_ne (Or.inl (k_ 365 rfl)) (Or.inl (k_ 147 rfl)) (by decide) (t := .boolean) (t' := .byte) (by decide) (by decide))))
  exact o_retV X9 hx hrt hlk (y_ oD68_38) (by decide) (by decide) (o_hQ e9 ⟨rfl, N9, kp12, b3, g_b3, (Nat.le_trans (Keep.refl h0 [b]).1 (Nat.le_of_eq gg3.symm)), c13, F9, c14, c15, ⟨_, c16⟩, o_cs0, Nat.zero_le _, c17⟩)
theorem rmsbi (hw : o_HW Z a0) (ws : o_LC) (b : Addr) (zC_ : Int32) (h0 : Heap) (n0 : Nat) (O0 : Old Z n0 h0) (E_b : Exa Z h0 b "java/lang/StringBuilder") (F_v : o_HV Z h0 b .null) (F_c : o_HC Z h0 b (.int 0)) (F_n : o_HN Z h0 b (.int 0)) (F_m : o_HM Z h0 b (.int 0)) (g_b : n0 ≤ b) (SC_ : o_SC Z zC_) (hC_ : ¬ zC_ = 0) :
    o_Met l Z o_m70 jdk_67_method_1_code 1 none ws o_R51 #[(.ref b)] h0 (Qsbi Z b zC_ h0 n0) := by
  refine o_enter o_pn_3 (fun m => o_ef3 m b) (fun p e s m below meth c s₁ hx hby hml hZ hown hnm hlk hrt X0 e0 => ?_)
  have N0 := Fr.nil n0
  have y_ := @hb _ _ hby
  have k_ := @o_k _ _ hw
  refine o_aloadN X0 hx (y_ oD69_0) rfl rfl ?_
  refine o_bipush X0 hx (y_ oD69_1) (x := 16) rfl ?_
  refine o_ini (y := o_m69) (b := b) (argsL := [(.int 16)]) (S := []) (W := 0) rfl X0 hx hZ hown (k_ 136 rfl) (k_ 137 rfl) (k_ 141 rfl) (backOf (W := 0) (rmasi l Z a0 hw [] b zC_ h0 n0 O0 E_b F_v F_c F_n F_m g_b SC_ hC_) hZ (k_ 141 rfl) (k_ 140 rfl) (by decide) (by decide)) e0 hml (lenOf o_pd__28I_29V rfl) (y_ oD69_3) (fun T1 L1 v1 X1 hQ1 => ?_)
  obtain ⟨rfl, N1q, Kp1, t1, g_t1, ht1, Bl1⟩ := hQ1
  have N1 := Fr.app N0 N1q
  have O2 := Old.keep O0 Kp1 (allS g_b all0)
  show o_G p e below _ T1 (mkF m 6 #[vR b] [])
  have kp3 := Keep.trans (Keep.refl h0 [b]) Kp1 (allS (Or.inl (List.mem_of_getElem? (i := 0) rfl)) all0)
  exact o_retV X1 hx hrt hlk (y_ oD69_6) (by decide) (by decide) ⟨rfl, N1, kp3, t1, g_t1, (Nat.le_trans (Keep.refl h0 [b]).1 ht1), Bl1⟩
theorem rmwr0 (hw : o_HW Z a0) (ws : o_LC) (x : Addr) (B : Int32) (A : Int32) (u : Addr) (ds : List Int32) (fm : Value) (zC_ : Int32) (h0 : Heap) (n0 : Nat) (O0 : Old Z n0 h0) (S_x : o_Str Z h0 x u ds) (hqq : ds.length ≤ 3) (S_u : o_SU Z) (S_f : o_SF Z fm) (hfm : fm.isRef = true) (SC_ : o_SC Z zC_) (hC_ : ¬ zC_ = 0) :
    o_MetH o_EL l Z o_m71 oJ22 3 (some (.object "java/lang/String")) ws o_R52 #[(.ref x), (.int B), (.int A)] h0 (Qwr0 Z x B A u ds fm zC_ h0 n0) := by
  refine o_enterH o_pn_11 (fun m => o_ef1 m x B A) (fun p e s m below meth c s₁ hx hby hml hZ hown hnm hlk hrt X0 e0 hS0 hk0 C0 => ?_)
  have N0 := Fr.nil n0
  have y_ := @hb _ _ hby
  have k_ := @o_k _ _ hw
  have hEL := o_EWs hw
  refine o_new X0 hx hZ hown (k_ 130 rfl) (k_ 131 rfl) (k_ 132 rfl) e0 (y_ oD70_0) (by decide) (by decide) (fun T1 h1 b1 X1 e1 gg1 E1 A1 D1 => ?_)
  have g_b1 := o_fresh O0 gg1
  have O1 := Old.ext O0 E1
  have C2 := CHr.trans C0 (CHr.ext E1 C0.1)
  have F1_value : o_HV Z h1 b1 .null := D1 (Or.inl (k_ 145 rfl)) (ty := (.array .byte)) (by decide)
  have F1_coder : o_HC Z h1 b1 (.int 0) := D1 (Or.inl (k_ 147 rfl)) (ty := .byte) (by decide)
  have F1_count : o_HN Z h1 b1 (.int 0) := D1 (Or.inl (k_ 164 rfl)) (ty := .int) (by decide)
  have F1_maybeLatin1 : o_HM Z h1 b1 (.int 0) := D1 (Or.inl (k_ 365 rfl)) (ty := .boolean) (by decide)
  refine o_dup X1 hx (y_ oD70_3) rfl ?_
  refine o_ini (y := o_m70) (b := b1) (argsL := []) (S := [(.ref b1)]) (W := 1) rfl X1 hx hZ hown (k_ 133 rfl) (k_ 134 rfl) (k_ 135 rfl) (backOf (W := 1) (rmsbi l Z a0 hw [] b1 zC_ h1 n0 O1 A1 F1_value F1_coder F1_count F1_maybeLatin1 g_b1 SC_ hC_) hZ (k_ 135 rfl) (k_ 132 rfl) (by decide) (by decide)) e1 hml (lenOf o_pd__28_29V rfl) (y_ oD70_4) (fun T3 L3 v3 X3 hQ3 => ?_)
  obtain ⟨rfl, N3q, Kp3, t3, g_t3, ht3, Bl3⟩ := hQ3
  have N3 := Fr.app N0 N3q
  have O4 := Old.keep O1 Kp3 (allS g_b1 all0)
  have C5 := CHr.trans C2 (CHr.keep Kp3 (sfS (Safe.exa hZ.alike A1 (by decide) (by decide)) sf0) C2.1)
  show o_G p e below _ T3 (mkF m 7 #[vR x, vI B, vI A] [(.ref b1)])
  refine o_iloadN X3 hx (y_ oD70_7) rfl ?_
  refine o_iF (t := 16) X3 hx (y_ oD70_8) (fun hq => ?_) (fun hq => ?_)
  · have hc8 := o_h_eq.1 hq
    have sft6 : Safe Z o_EL _ T3.heap t3 := (Bl3.safe hZ (o_ENs hw))
    refine o_ldcH (n := 0) (vs := []) (z := 0) X3 hx hZ hown (k_ 52 rfl) (fun d hd => hw d (o_strat d hd)) rfl hS0 (Nat.le_trans (Nat.le_trans hk0 E1.1) Kp3.1) hEL (by decide) C5.1 ⟨by decide, by decide⟩ (by decide) (by decide) (y_ oD70_16) (by decide) (by decide) (by decide) (by decide) (fun a7 b7 kb7 T7 k7 X7 E7 hS7 hk7 hZ7 hown7 Ex7 Co7 Va7 Av7 hC7 Li7 Sa7 => ?_)
    have O7 := Old.ext O4 E7
    have C8 := CHr.trans C5 (hC7)
    have sf9 := (CHr.safe (hC7) Bl3.lt2 sft6)
    show o_G p e below _ T7 (mkF m 18 #[vR x, vI B, vI A] [(.ref a7), (.ref b1)])
    have Ss7 : o_Str Z T7.heap a7 b7 ([] : List Int32) := ⟨Ex7, Co7, Va7, ⟨_, Av7⟩, by decide, by decide⟩
    have c10 := (o_Bl.ext E7 Bl3)
    have c12 := (Exa.ext E7 (Exa.keep A1 Kp3))
    refine o_vir (y := o_m12) (b := b1) (argsL := [(.ref a7)]) (S := []) (W := 0) X7 hx hZ7 hown7 (k_ 148 rfl) (k_ 149 rfl) (k_ 151 rfl) (k_ 150 rfl) (backOf (W := 0) (rmsap l Z a0 hw [] b1 a7 t3 16 ([] : List Int32) b7 ([] : List Int32) zC_ T7.heap n0 O7 c10 Ss7 g_b1 g_t3 (o_b rfl) SC_ hC_) hZ7 (k_ 152 rfl) (k_ 132 rfl) (by decide) (by decide)) rfl c12 hml (lenOf o_pd__28Ljava_2flang_2fString_3b_29Ljava_2flang_2fStringBuilder_3b rfl) (y_ oD70_18) (fun T11 L11 v11 X11 hQ11 => ?_)
    obtain ⟨rfl, N11q, Kp11, Bl11⟩ := hQ11
    have N11 := Fr.app N3 N11q
    have O13 := Old.keep O7 Kp11 (allS g_b1 (allS g_t3 all0))
    have C14 := CHr.trans C8 (CHr.keep Kp11 (sfS (Safe.exa hZ7.alike c10.1 (by decide) (by decide)) (sfS (c10.safe hZ7 (o_ENs hw)) sf0)) C8.1)
    show o_G p e below _ T11 (mkF m 21 #[vR x, vI B, vI A] [(.ref b1)])
    refine o_aloadN X11 hx (y_ oD70_21) rfl rfl ?_
    have c15 := (o_Str.keep (o_Str.ext E7 (o_Str.keep (o_Str.ext E1 S_x) Kp3 (ninS (o_ng S_x.lt gg1) nin0) (ninS (o_ng S_x.lt2 gg1) nin0))) Kp11 (ninS (o_ng S_x.lt gg1) (ninS (Nat.ne_of_lt (Nat.lt_of_lt_of_le (Nat.lt_of_lt_of_le S_x.lt E1.1) ht3)) nin0)) (ninS (o_ng S_x.lt2 gg1) (ninS (Nat.ne_of_lt (Nat.lt_of_lt_of_le (Nat.lt_of_lt_of_le S_x.lt2 E1.1) ht3)) nin0)))
    have c17 := (Exa.keep c12 Kp11)
    refine o_vir (y := o_m12) (b := b1) (argsL := [(.ref x)]) (S := []) (W := 0) X11 hx hZ7 hown7 (k_ 148 rfl) (k_ 149 rfl) (k_ 151 rfl) (k_ 150 rfl) (backOf (W := 0) (rmsap l Z a0 hw [] b1 x t3 16 (([] : List Int32) ++ ([] : List Int32)) u ds zC_ T11.heap n0 O13 Bl11 c15 g_b1 g_t3 (by simp only [List.length_append, List.length_nil, List.length_cons]; show _ ≤ 16; omega) SC_ hC_) hZ7 (k_ 152 rfl) (k_ 132 rfl) (by decide) (by decide)) rfl c17 hml (lenOf o_pd__28Ljava_2flang_2fString_3b_29Ljava_2flang_2fStringBuilder_3b rfl) (y_ oD70_22) (fun T16 L16 v16 X16 hQ16 => ?_)
    obtain ⟨rfl, N16q, Kp16, Bl16⟩ := hQ16
    have N16 := Fr.app N11 N16q
    have O18 := Old.keep O13 Kp16 (allS g_b1 (allS g_t3 all0))
    have C19 := CHr.trans C14 (CHr.keep Kp16 (sfS (Safe.exa hZ7.alike Bl11.1 (by decide) (by decide)) (sfS (Bl11.safe hZ7 (o_ENs hw)) sf0)) C14.1)
    show o_G p e below _ T16 (mkF m 25 #[vR x, vI B, vI A] [(.ref b1)])
    refine o_iloadN X16 hx (y_ oD70_25) rfl ?_
    refine o_iF (t := 34) X16 hx (y_ oD70_26) (fun hq => ?_) (fun hq => ?_)
    · have hc26 := o_h_eq.1 hq
      refine o_ldcA X16 hx hZ7 hown7 (k_ 52 rfl) Li7 (y_ oD70_34) ?_
      have c21 := (o_Str.keep (o_Str.keep Ss7 Kp11 (ninS (Exa.ne Ex7 c12 (by decide)) (ninS (Ne.symm (Sa7 _ sf9).1) nin0)) (ninS (Ne.symm (Exa.neArv c12 Av7 (k_ 131 rfl))) (ninS (Ne.symm (Sa7 _ sf9).2) nin0))) Kp16 (ninS (Exa.ne (Exa.keep Ex7 Kp11) c17 (by decide)) (ninS (Ne.symm (Sa7 _ sf9).1) nin0)) (ninS (Ne.symm (Exa.neArv c17 (Arv.keep Av7 Kp11 (ninS (Ne.symm (Exa.neArv c12 Av7 (k_ 131 rfl))) (ninS (Ne.symm (Sa7 _ sf9).2) nin0))) (k_ 131 rfl))) (ninS (Ne.symm (Sa7 _ sf9).2) nin0)))
      have c23 := (Exa.keep c17 Kp16)
      refine o_vir (y := o_m12) (b := b1) (argsL := [(.ref a7)]) (S := []) (W := 0) X16 hx hZ7 hown7 (k_ 148 rfl) (k_ 149 rfl) (k_ 151 rfl) (k_ 150 rfl) (backOf (W := 0) (rmsap l Z a0 hw [] b1 a7 t3 16 ((([] : List Int32) ++ ([] : List Int32)) ++ ds) b7 ([] : List Int32) zC_ T16.heap n0 O18 Bl16 c21 g_b1 g_t3 (by simp only [List.length_append, List.length_nil, List.length_cons]; show _ ≤ 16; omega) SC_ hC_) hZ7 (k_ 152 rfl) (k_ 132 rfl) (by decide) (by decide)) rfl c23 hml (lenOf o_pd__28Ljava_2flang_2fString_3b_29Ljava_2flang_2fStringBuilder_3b rfl) (y_ oD70_36) (fun T22 L22 v22 X22 hQ22 => ?_)
      obtain ⟨rfl, N22q, Kp22, Bl22⟩ := hQ22
      have N22 := Fr.app N16 N22q
      have O24 := Old.keep O18 Kp22 (allS g_b1 (allS g_t3 all0))
      have C25 := CHr.trans C19 (CHr.keep Kp22 (sfS (Safe.exa hZ7.alike Bl16.1 (by decide) (by decide)) (sfS (Bl16.safe hZ7 (o_ENs hw)) sf0)) C19.1)
      show o_G p e below _ T22 (mkF m 39 #[vR x, vI B, vI A] [(.ref b1)])
      have c27 := (Exa.keep c23 Kp22)
      refine o_vir (y := o_m59) (b := b1) (argsL := []) (S := []) (W := 0) X22 hx hZ7 hown7 (k_ 190 rfl) (k_ 191 rfl) (k_ 193 rfl) (k_ 192 rfl) (backOf (W := 0) (rmsts l Z a0 hw [] b1 t3 16 (((([] : List Int32) ++ ([] : List Int32)) ++ ds) ++ ([] : List Int32)) zC_ T22.heap n0 O24 Bl22 (by simp only [List.length_append, List.length_nil, List.length_cons]; show _ < 16; omega) (by simp only [List.length_append, List.length_nil, List.length_cons]; omega) SC_ hC_) hZ7 (k_ 194 rfl) (k_ 132 rfl) (by decide) (by decide)) rfl c27 hml (lenOf o_pd__28_29Ljava_2flang_2fString_3b rfl) (y_ oD70_39) (fun T26 L26 v26 X26 hQ26 => ?_)
      obtain ⟨x26, t26, rfl, N26q, Kp26, g_x26, hx26, g_t26, ht26, hne26, Et26, Sf26⟩ := hQ26
      have N26 := Fr.app N22 N26q
      have O28 := Old.keep O24 Kp26 all0
      have C29 := CHr.trans C25 (CHr.keep Kp26 sf0 C25.1)
      show o_G p e below _ T26 (mkF m 42 #[vR x, vI B, vI A] [(.ref x26)])
      have kp30 := Keep.ext (Keep.refl h0 []) E1
      have kp31 := Keep.trans kp30 Kp3 (allS (Or.inr (Nat.le_trans (Keep.refl h0 []).1 (Nat.le_of_eq gg1.symm))) all0)
      have kp32 := Keep.ext kp31 E7
      have kp33 := Keep.trans kp32 Kp11 (allS (Or.inr (Nat.le_trans (Keep.refl h0 []).1 (Nat.le_of_eq gg1.symm))) (allS (Or.inr (Nat.le_trans kp30.1 ht3)) all0))
      have kp34 := Keep.trans kp33 Kp16 (allS (Or.inr (Nat.le_trans (Keep.refl h0 []).1 (Nat.le_of_eq gg1.symm))) (allS (Or.inr (Nat.le_trans kp30.1 ht3)) all0))
      have kp35 := Keep.trans kp34 Kp22 (allS (Or.inr (Nat.le_trans (Keep.refl h0 []).1 (Nat.le_of_eq gg1.symm))) (allS (Or.inr (Nat.le_trans kp30.1 ht3)) all0))
      have kp36 := Keep.trans kp35 Kp26 all0
      exact o_retAH X26 hx hS7 (Nat.le_trans (Nat.le_trans (Nat.le_trans (Nat.le_trans hk7 Kp11.1) Kp16.1) Kp22.1) Kp26.1) hZ7 hEL (by exact C29) hrt hlk rfl rfl rfl (y_ oD70_42) (by decide) (by decide) ⟨x26, t26, 0, rfl, N26, kp36, g_x26, (Nat.le_trans kp35.1 hx26), g_t26, (Nat.le_trans kp35.1 ht26), hne26, (by rw [o_wr, if_pos hc8, if_pos hc26]; simpa using (Sf26.asA (by simp only [List.length_append, List.length_nil, List.length_cons]; omega)))⟩
    have hc26 := o_h_eq.2 hq
    refine o_ldcH (n := 4) (vs := [.int 42]) (z := 1) X16 hx hZ7 hown7 (k_ 41 rfl) (fun d hd => hw d (o_strat d hd)) rfl hS7 (Nat.le_trans (Nat.le_trans hk7 Kp11.1) Kp16.1) hEL (by decide) C19.1 ⟨by decide, by decide⟩ (by decide) (by decide) (y_ oD70_29) (by decide) (by decide) (by decide) (by decide) (fun a37 b37 kb37 T37 k37 X37 E37 hS37 hk37 hZ37 hown37 Ex37 Co37 Va37 Av37 hC37 Li37 Sa37 => ?_)
    have O37 := Old.ext O18 E37
    have C38 := CHr.trans C19 (hC37)
    show o_G p e below _ T37 (mkF m 31 #[vR x, vI B, vI A] [(.ref a37), (.ref b1)])
    have Ss37 : o_Str Z T37.heap a37 b37 o_star := ⟨Ex37, Co37, Va37, ⟨_, Av37⟩, by decide, by decide⟩
    refine o_gO (t := 36) X37 hx (y_ oD70_31) ?_
    have c39 := (o_Bl.ext E37 Bl16)
    have c41 := (Exa.ext E37 (Exa.keep c17 Kp16))
    refine o_vir (y := o_m12) (b := b1) (argsL := [(.ref a37)]) (S := []) (W := 0) X37 hx hZ37 hown37 (k_ 148 rfl) (k_ 149 rfl) (k_ 151 rfl) (k_ 150 rfl) (backOf (W := 0) (rmsap l Z a0 hw [] b1 a37 t3 16 ((([] : List Int32) ++ ([] : List Int32)) ++ ds) b37 o_star zC_ T37.heap n0 O37 c39 Ss37 g_b1 g_t3 (by simp only [List.length_append, List.length_nil, List.length_cons]; show _ ≤ 16; omega) SC_ hC_) hZ37 (k_ 152 rfl) (k_ 132 rfl) (by decide) (by decide)) rfl c41 hml (lenOf o_pd__28Ljava_2flang_2fString_3b_29Ljava_2flang_2fStringBuilder_3b rfl) (y_ oD70_36) (fun T40 L40 v40 X40 hQ40 => ?_)
    obtain ⟨rfl, N40q, Kp40, Bl40⟩ := hQ40
    have N40 := Fr.app N16 N40q
    have O42 := Old.keep O37 Kp40 (allS g_b1 (allS g_t3 all0))
    have C43 := CHr.trans C38 (CHr.keep Kp40 (sfS (Safe.exa hZ37.alike c39.1 (by decide) (by decide)) (sfS (c39.safe hZ37 (o_ENs hw)) sf0)) C38.1)
    show o_G p e below _ T40 (mkF m 39 #[vR x, vI B, vI A] [(.ref b1)])
    have c45 := (Exa.keep c41 Kp40)
    refine o_vir (y := o_m59) (b := b1) (argsL := []) (S := []) (W := 0) X40 hx hZ37 hown37 (k_ 190 rfl) (k_ 191 rfl) (k_ 193 rfl) (k_ 192 rfl) (backOf (W := 0) (rmsts l Z a0 hw [] b1 t3 16 (((([] : List Int32) ++ ([] : List Int32)) ++ ds) ++ o_star) zC_ T40.heap n0 O42 Bl40 (by simp only [List.length_append, List.length_nil, List.length_cons]; show _ < 16; omega) (by simp only [List.length_append, List.length_nil, List.length_cons]; omega) SC_ hC_) hZ37 (k_ 194 rfl) (k_ 132 rfl) (by decide) (by decide)) rfl c45 hml (lenOf o_pd__28_29Ljava_2flang_2fString_3b rfl) (y_ oD70_39) (fun T44 L44 v44 X44 hQ44 => ?_)
    obtain ⟨x44, t44, rfl, N44q, Kp44, g_x44, hx44, g_t44, ht44, hne44, Et44, Sf44⟩ := hQ44
    have N44 := Fr.app N40 N44q
    have O46 := Old.keep O42 Kp44 all0
    have C47 := CHr.trans C43 (CHr.keep Kp44 sf0 C43.1)
    show o_G p e below _ T44 (mkF m 42 #[vR x, vI B, vI A] [(.ref x44)])
    have kp48 := Keep.ext (Keep.refl h0 []) E1
    have kp49 := Keep.trans kp48 Kp3 (allS (Or.inr (Nat.le_trans (Keep.refl h0 []).1 (Nat.le_of_eq gg1.symm))) all0)
    have kp50 := Keep.ext kp49 E7
    have kp51 := Keep.trans kp50 Kp11 (allS (Or.inr (Nat.le_trans (Keep.refl h0 []).1 (Nat.le_of_eq gg1.symm))) (allS (Or.inr (Nat.le_trans kp48.1 ht3)) all0))
    have kp52 := Keep.trans kp51 Kp16 (allS (Or.inr (Nat.le_trans (Keep.refl h0 []).1 (Nat.le_of_eq gg1.symm))) (allS (Or.inr (Nat.le_trans kp48.1 ht3)) all0))
    have kp53 := Keep.ext kp52 E37
    have kp54 := Keep.trans kp53 Kp40 (allS (Or.inr (Nat.le_trans (Keep.refl h0 []).1 (Nat.le_of_eq gg1.symm))) (allS (Or.inr (Nat.le_trans kp48.1 ht3)) all0))
    have kp55 := Keep.trans kp54 Kp44 all0
    exact o_retAH X44 hx hS37 (Nat.le_trans (Nat.le_trans hk37 Kp40.1) Kp44.1) hZ37 hEL (by exact C47) hrt hlk rfl rfl rfl (y_ oD70_42) (by decide) (by decide) ⟨x44, t44, 0, rfl, N44, kp55, g_x44, (Nat.le_trans kp54.1 hx44), g_t44, (Nat.le_trans kp54.1 ht44), hne44, (by rw [o_wr, if_pos hc8, if_neg hc26]; simpa using (Sf44.asA (by simp only [List.length_append, List.length_nil, List.length_cons]; omega)))⟩
  have hc8 := o_h_eq.2 hq
  have sft56 : Safe Z o_EL _ T3.heap t3 := (Bl3.safe hZ (o_ENs hw))
  refine o_ldcH (n := 4) (vs := [.int 42]) (z := 1) X3 hx hZ hown (k_ 41 rfl) (fun d hd => hw d (o_strat d hd)) rfl hS0 (Nat.le_trans (Nat.le_trans hk0 E1.1) Kp3.1) hEL (by decide) C5.1 ⟨by decide, by decide⟩ (by decide) (by decide) (y_ oD70_11) (by decide) (by decide) (by decide) (by decide) (fun a57 b57 kb57 T57 k57 X57 E57 hS57 hk57 hZ57 hown57 Ex57 Co57 Va57 Av57 hC57 Li57 Sa57 => ?_)
  have O57 := Old.ext O4 E57
  have C58 := CHr.trans C5 (hC57)
  have sf59 := (CHr.safe (hC57) Bl3.lt2 sft56)
  show o_G p e below _ T57 (mkF m 13 #[vR x, vI B, vI A] [(.ref a57), (.ref b1)])
  have Ss57 : o_Str Z T57.heap a57 b57 o_star := ⟨Ex57, Co57, Va57, ⟨_, Av57⟩, by decide, by decide⟩
  refine o_gO (t := 18) X57 hx (y_ oD70_13) ?_
  have c60 := (o_Bl.ext E57 Bl3)
  have c62 := (Exa.ext E57 (Exa.keep A1 Kp3))
  refine o_vir (y := o_m12) (b := b1) (argsL := [(.ref a57)]) (S := []) (W := 0) X57 hx hZ57 hown57 (k_ 148 rfl) (k_ 149 rfl) (k_ 151 rfl) (k_ 150 rfl) (backOf (W := 0) (rmsap l Z a0 hw [] b1 a57 t3 16 ([] : List Int32) b57 o_star zC_ T57.heap n0 O57 c60 Ss57 g_b1 g_t3 (o_b rfl) SC_ hC_) hZ57 (k_ 152 rfl) (k_ 132 rfl) (by decide) (by decide)) rfl c62 hml (lenOf o_pd__28Ljava_2flang_2fString_3b_29Ljava_2flang_2fStringBuilder_3b rfl) (y_ oD70_18) (fun T61 L61 v61 X61 hQ61 => ?_)
  obtain ⟨rfl, N61q, Kp61, Bl61⟩ := hQ61
  have N61 := Fr.app N3 N61q
  have O63 := Old.keep O57 Kp61 (allS g_b1 (allS g_t3 all0))
  have C64 := CHr.trans C58 (CHr.keep Kp61 (sfS (Safe.exa hZ57.alike c60.1 (by decide) (by decide)) (sfS (c60.safe hZ57 (o_ENs hw)) sf0)) C58.1)
  show o_G p e below _ T61 (mkF m 21 #[vR x, vI B, vI A] [(.ref b1)])
  refine o_aloadN X61 hx (y_ oD70_21) rfl rfl ?_
  have c65 := (o_Str.keep (o_Str.ext E57 (o_Str.keep (o_Str.ext E1 S_x) Kp3 (ninS (o_ng S_x.lt gg1) nin0) (ninS (o_ng S_x.lt2 gg1) nin0))) Kp61 (ninS (o_ng S_x.lt gg1) (ninS (Nat.ne_of_lt (Nat.lt_of_lt_of_le (Nat.lt_of_lt_of_le S_x.lt E1.1) ht3)) nin0)) (ninS (o_ng S_x.lt2 gg1) (ninS (Nat.ne_of_lt (Nat.lt_of_lt_of_le (Nat.lt_of_lt_of_le S_x.lt2 E1.1) ht3)) nin0)))
  have c67 := (Exa.keep c62 Kp61)
  refine o_vir (y := o_m12) (b := b1) (argsL := [(.ref x)]) (S := []) (W := 0) X61 hx hZ57 hown57 (k_ 148 rfl) (k_ 149 rfl) (k_ 151 rfl) (k_ 150 rfl) (backOf (W := 0) (rmsap l Z a0 hw [] b1 x t3 16 (([] : List Int32) ++ o_star) u ds zC_ T61.heap n0 O63 Bl61 c65 g_b1 g_t3 (by simp only [List.length_append, List.length_nil, List.length_cons]; show _ ≤ 16; omega) SC_ hC_) hZ57 (k_ 152 rfl) (k_ 132 rfl) (by decide) (by decide)) rfl c67 hml (lenOf o_pd__28Ljava_2flang_2fString_3b_29Ljava_2flang_2fStringBuilder_3b rfl) (y_ oD70_22) (fun T66 L66 v66 X66 hQ66 => ?_)
  obtain ⟨rfl, N66q, Kp66, Bl66⟩ := hQ66
  have N66 := Fr.app N61 N66q
  have O68 := Old.keep O63 Kp66 (allS g_b1 (allS g_t3 all0))
  have C69 := CHr.trans C64 (CHr.keep Kp66 (sfS (Safe.exa hZ57.alike Bl61.1 (by decide) (by decide)) (sfS (Bl61.safe hZ57 (o_ENs hw)) sf0)) C64.1)
  show o_G p e below _ T66 (mkF m 25 #[vR x, vI B, vI A] [(.ref b1)])
  refine o_iloadN X66 hx (y_ oD70_25) rfl ?_
  refine o_iF (t := 34) X66 hx (y_ oD70_26) (fun hq => ?_) (fun hq => ?_)
  · have hc26 := o_h_eq.1 hq
    refine o_ldcH (n := 0) (vs := []) (z := 0) X66 hx hZ57 hown57 (k_ 52 rfl) (fun d hd => hw d (o_strat d hd)) rfl hS57 (Nat.le_trans (Nat.le_trans hk57 Kp61.1) Kp66.1) hEL (by decide) C69.1 ⟨by decide, by decide⟩ (by decide) (by decide) (y_ oD70_34) (by decide) (by decide) (by decide) (by decide) (fun a70 b70 kb70 T70 k70 X70 E70 hS70 hk70 hZ70 hown70 Ex70 Co70 Va70 Av70 hC70 Li70 Sa70 => ?_)
    have O70 := Old.ext O68 E70
    have C71 := CHr.trans C69 (hC70)
    show o_G p e below _ T70 (mkF m 36 #[vR x, vI B, vI A] [(.ref a70), (.ref b1)])
    have Ss70 : o_Str Z T70.heap a70 b70 ([] : List Int32) := ⟨Ex70, Co70, Va70, ⟨_, Av70⟩, by decide, by decide⟩
    have c72 := (o_Bl.ext E70 Bl66)
    have c74 := (Exa.ext E70 (Exa.keep c67 Kp66))
    refine o_vir (y := o_m12) (b := b1) (argsL := [(.ref a70)]) (S := []) (W := 0) X70 hx hZ70 hown70 (k_ 148 rfl) (k_ 149 rfl) (k_ 151 rfl) (k_ 150 rfl) (backOf (W := 0) (rmsap l Z a0 hw [] b1 a70 t3 16 ((([] : List Int32) ++ o_star) ++ ds) b70 ([] : List Int32) zC_ T70.heap n0 O70 c72 Ss70 g_b1 g_t3 (by simp only [List.length_append, List.length_nil, List.length_cons]; show _ ≤ 16; omega) SC_ hC_) hZ70 (k_ 152 rfl) (k_ 132 rfl) (by decide) (by decide)) rfl c74 hml (lenOf o_pd__28Ljava_2flang_2fString_3b_29Ljava_2flang_2fStringBuilder_3b rfl) (y_ oD70_36) (fun T73 L73 v73 X73 hQ73 => ?_)
    obtain ⟨rfl, N73q, Kp73, Bl73⟩ := hQ73
    have N73 := Fr.app N66 N73q
    have O75 := Old.keep O70 Kp73 (allS g_b1 (allS g_t3 all0))
    have C76 := CHr.trans C71 (CHr.keep Kp73 (sfS (Safe.exa hZ70.alike c72.1 (by decide) (by decide)) (sfS (c72.safe hZ70 (o_ENs hw)) sf0)) C71.1)
    show o_G p e below _ T73 (mkF m 39 #[vR x, vI B, vI A] [(.ref b1)])
    have c78 := (Exa.keep c74 Kp73)
    refine o_vir (y := o_m59) (b := b1) (argsL := []) (S := []) (W := 0) X73 hx hZ70 hown70 (k_ 190 rfl) (k_ 191 rfl) (k_ 193 rfl) (k_ 192 rfl) (backOf (W := 0) (rmsts l Z a0 hw [] b1 t3 16 (((([] : List Int32) ++ o_star) ++ ds) ++ ([] : List Int32)) zC_ T73.heap n0 O75 Bl73 (by simp only [List.length_append, List.length_nil, List.length_cons]; show _ < 16; omega) (by simp only [List.length_append, List.length_nil, List.length_cons]; omega) SC_ hC_) hZ70 (k_ 194 rfl) (k_ 132 rfl) (by decide) (by decide)) rfl c78 hml (lenOf o_pd__28_29Ljava_2flang_2fString_3b rfl) (y_ oD70_39) (fun T77 L77 v77 X77 hQ77 => ?_)
    obtain ⟨x77, t77, rfl, N77q, Kp77, g_x77, hx77, g_t77, ht77, hne77, Et77, Sf77⟩ := hQ77
    have N77 := Fr.app N73 N77q
    have O79 := Old.keep O75 Kp77 all0
    have C80 := CHr.trans C76 (CHr.keep Kp77 sf0 C76.1)
    show o_G p e below _ T77 (mkF m 42 #[vR x, vI B, vI A] [(.ref x77)])
    have kp81 := Keep.ext (Keep.refl h0 []) E1
    have kp82 := Keep.trans kp81 Kp3 (allS (Or.inr (Nat.le_trans (Keep.refl h0 []).1 (Nat.le_of_eq gg1.symm))) all0)
    have kp83 := Keep.ext kp82 E57
    have kp84 := Keep.trans kp83 Kp61 (allS (Or.inr (Nat.le_trans (Keep.refl h0 []).1 (Nat.le_of_eq gg1.symm))) (allS (Or.inr (Nat.le_trans kp81.1 ht3)) all0))
    have kp85 := Keep.trans kp84 Kp66 (allS (Or.inr (Nat.le_trans (Keep.refl h0 []).1 (Nat.le_of_eq gg1.symm))) (allS (Or.inr (Nat.le_trans kp81.1 ht3)) all0))
    have kp86 := Keep.ext kp85 E70
    have kp87 := Keep.trans kp86 Kp73 (allS (Or.inr (Nat.le_trans (Keep.refl h0 []).1 (Nat.le_of_eq gg1.symm))) (allS (Or.inr (Nat.le_trans kp81.1 ht3)) all0))
    have kp88 := Keep.trans kp87 Kp77 all0
    exact o_retAH X77 hx hS70 (Nat.le_trans (Nat.le_trans hk70 Kp73.1) Kp77.1) hZ70 hEL (by exact C80) hrt hlk rfl rfl rfl (y_ oD70_42) (by decide) (by decide) ⟨x77, t77, 0, rfl, N77, kp88, g_x77, (Nat.le_trans kp87.1 hx77), g_t77, (Nat.le_trans kp87.1 ht77), hne77, (by rw [o_wr, if_neg hc8, if_pos hc26]; simpa using (Sf77.asA (by simp only [List.length_append, List.length_nil, List.length_cons]; omega)))⟩
  have hc26 := o_h_eq.2 hq
  refine o_ldcA X66 hx hZ57 hown57 (k_ 41 rfl) Li57 (y_ oD70_29) ?_
  refine o_gO (t := 36) X66 hx (y_ oD70_31) ?_
  have c90 := (o_Str.keep (o_Str.keep Ss57 Kp61 (ninS (Exa.ne Ex57 c62 (by decide)) (ninS (Ne.symm (Sa57 _ sf59).1) nin0)) (ninS (Ne.symm (Exa.neArv c62 Av57 (k_ 131 rfl))) (ninS (Ne.symm (Sa57 _ sf59).2) nin0))) Kp66 (ninS (Exa.ne (Exa.keep Ex57 Kp61) c67 (by decide)) (ninS (Ne.symm (Sa57 _ sf59).1) nin0)) (ninS (Ne.symm (Exa.neArv c67 (Arv.keep Av57 Kp61 (ninS (Ne.symm (Exa.neArv c62 Av57 (k_ 131 rfl))) (ninS (Ne.symm (Sa57 _ sf59).2) nin0))) (k_ 131 rfl))) (ninS (Ne.symm (Sa57 _ sf59).2) nin0)))
  have c92 := (Exa.keep c67 Kp66)
  refine o_vir (y := o_m12) (b := b1) (argsL := [(.ref a57)]) (S := []) (W := 0) X66 hx hZ57 hown57 (k_ 148 rfl) (k_ 149 rfl) (k_ 151 rfl) (k_ 150 rfl) (backOf (W := 0) (rmsap l Z a0 hw [] b1 a57 t3 16 ((([] : List Int32) ++ o_star) ++ ds) b57 o_star zC_ T66.heap n0 O68 Bl66 c90 g_b1 g_t3 (by simp only [List.length_append, List.length_nil, List.length_cons]; show _ ≤ 16; omega) SC_ hC_) hZ57 (k_ 152 rfl) (k_ 132 rfl) (by decide) (by decide)) rfl c92 hml (lenOf o_pd__28Ljava_2flang_2fString_3b_29Ljava_2flang_2fStringBuilder_3b rfl) (y_ oD70_36) (fun T91 L91 v91 X91 hQ91 => ?_)
  obtain ⟨rfl, N91q, Kp91, Bl91⟩ := hQ91
  have N91 := Fr.app N66 N91q
  have O93 := Old.keep O68 Kp91 (allS g_b1 (allS g_t3 all0))
  have C94 := CHr.trans C69 (CHr.keep Kp91 (sfS (Safe.exa hZ57.alike Bl66.1 (by decide) (by decide)) (sfS (Bl66.safe hZ57 (o_ENs hw)) sf0)) C69.1)
  show o_G p e below _ T91 (mkF m 39 #[vR x, vI B, vI A] [(.ref b1)])
  have c96 := (Exa.keep c92 Kp91)
  refine o_vir (y := o_m59) (b := b1) (argsL := []) (S := []) (W := 0) X91 hx hZ57 hown57 (k_ 190 rfl) (k_ 191 rfl) (k_ 193 rfl) (k_ 192 rfl) (backOf (W := 0) (rmsts l Z a0 hw [] b1 t3 16 (((([] : List Int32) ++ o_star) ++ ds) ++ o_star) zC_ T91.heap n0 O93 Bl91 (by simp only [List.length_append, List.length_nil, List.length_cons]; show _ < 16; omega) (by simp only [List.length_append, List.length_nil, List.length_cons]; omega) SC_ hC_) hZ57 (k_ 194 rfl) (k_ 132 rfl) (by decide) (by decide)) rfl c96 hml (lenOf o_pd__28_29Ljava_2flang_2fString_3b rfl) (y_ oD70_39) (fun T95 L95 v95 X95 hQ95 => ?_)
  obtain ⟨x95, t95, rfl, N95q, Kp95, g_x95, hx95, g_t95, ht95, hne95, Et95, Sf95⟩ := hQ95
  have N95 := Fr.app N91 N95q
  have O97 := Old.keep O93 Kp95 all0
  have C98 := CHr.trans C94 (CHr.keep Kp95 sf0 C94.1)
  show o_G p e below _ T95 (mkF m 42 #[vR x, vI B, vI A] [(.ref x95)])
  have kp99 := Keep.ext (Keep.refl h0 []) E1
  have kp100 := Keep.trans kp99 Kp3 (allS (Or.inr (Nat.le_trans (Keep.refl h0 []).1 (Nat.le_of_eq gg1.symm))) all0)
  have kp101 := Keep.ext kp100 E57
  have kp102 := Keep.trans kp101 Kp61 (allS (Or.inr (Nat.le_trans (Keep.refl h0 []).1 (Nat.le_of_eq gg1.symm))) (allS (Or.inr (Nat.le_trans kp99.1 ht3)) all0))
  have kp103 := Keep.trans kp102 Kp66 (allS (Or.inr (Nat.le_trans (Keep.refl h0 []).1 (Nat.le_of_eq gg1.symm))) (allS (Or.inr (Nat.le_trans kp99.1 ht3)) all0))
  have kp104 := Keep.trans kp103 Kp91 (allS (Or.inr (Nat.le_trans (Keep.refl h0 []).1 (Nat.le_of_eq gg1.symm))) (allS (Or.inr (Nat.le_trans kp99.1 ht3)) all0))
  have kp105 := Keep.trans kp104 Kp95 all0
  exact o_retAH X95 hx hS57 (Nat.le_trans (Nat.le_trans (Nat.le_trans (Nat.le_trans hk57 Kp61.1) Kp66.1) Kp91.1) Kp95.1) hZ57 hEL (by exact C98) hrt hlk rfl rfl rfl (y_ oD70_42) (by decide) (by decide) ⟨x95, t95, 0, rfl, N95, kp105, g_x95, (Nat.le_trans kp104.1 hx95), g_t95, (Nat.le_trans kp104.1 ht95), hne95, (by rw [o_wr, if_neg hc8, if_neg hc26]; simpa using (Sf95.asA (by simp only [List.length_append, List.length_nil, List.length_cons]; omega)))⟩
theorem rmwr1 (hw : o_HW Z a0) (ws : o_LC) (x : Addr) (B : Int32) (A : Int32) (u : Addr) (ds : List Int32) (fm : Value) (zC_ : Int32) (h0 : Heap) (n0 : Nat) (O0 : Old Z n0 h0) (S_x : o_A Z h0 x u 1 ds) (hqq : ds.length ≤ 3) (S_u : o_SU Z) (S_f : o_SF Z fm) (hfm : fm.isRef = true) (SC_ : o_SC Z zC_) (hC_ : ¬ zC_ = 0) :
    o_MetH o_EL l Z o_m71 oJ22 3 (some (.object "java/lang/String")) ws o_R52 #[(.ref x), (.int B), (.int A)] h0 (Qwr1 Z x B A u ds fm zC_ h0 n0) := by
  refine o_enterH o_pn_11 (fun m => o_ef1 m x B A) (fun p e s m below meth c s₁ hx hby hml hZ hown hnm hlk hrt X0 e0 hS0 hk0 C0 => ?_)
  have N0 := Fr.nil n0
  have y_ := @hb _ _ hby
  have k_ := @o_k _ _ hw
  have hEL := o_EWs hw
  refine o_new X0 hx hZ hown (k_ 130 rfl) (k_ 131 rfl) (k_ 132 rfl) e0 (y_ oD70_0) (by decide) (by decide) (fun T1 h1 b1 X1 e1 gg1 E1 A1 D1 => ?_)
  have g_b1 := o_fresh O0 gg1
  have O1 := Old.ext O0 E1
  have C2 := CHr.trans C0 (CHr.ext E1 C0.1)
  have F1_value : o_HV Z h1 b1 .null := D1 (Or.inl (k_ 145 rfl)) (ty := (.array .byte)) (by decide)
  have F1_coder : o_HC Z h1 b1 (.int 0) := D1 (Or.inl (k_ 147 rfl)) (ty := .byte) (by decide)
  have F1_count : o_HN Z h1 b1 (.int 0) := D1 (Or.inl (k_ 164 rfl)) (ty := .int) (by decide)
  have F1_maybeLatin1 : o_HM Z h1 b1 (.int 0) := D1 (Or.inl (k_ 365 rfl)) (ty := .boolean) (by decide)
  refine o_dup X1 hx (y_ oD70_3) rfl ?_
  refine o_ini (y := o_m70) (b := b1) (argsL := []) (S := [(.ref b1)]) (W := 1) rfl X1 hx hZ hown (k_ 133 rfl) (k_ 134 rfl) (k_ 135 rfl) (backOf (W := 1) (rmsbi l Z a0 hw [] b1 zC_ h1 n0 O1 A1 F1_value F1_coder F1_count F1_maybeLatin1 g_b1 SC_ hC_) hZ (k_ 135 rfl) (k_ 132 rfl) (by decide) (by decide)) e1 hml (lenOf o_pd__28_29V rfl) (y_ oD70_4) (fun T3 L3 v3 X3 hQ3 => ?_)
  obtain ⟨rfl, N3q, Kp3, t3, g_t3, ht3, Bl3⟩ := hQ3
  have N3 := Fr.app N0 N3q
  have O4 := Old.keep O1 Kp3 (allS g_b1 all0)
  have C5 := CHr.trans C2 (CHr.keep Kp3 (sfS (Safe.exa hZ.alike A1 (by decide) (by decide)) sf0) C2.1)
  show o_G p e below _ T3 (mkF m 7 #[vR x, vI B, vI A] [(.ref b1)])
  refine o_iloadN X3 hx (y_ oD70_7) rfl ?_
  refine o_iF (t := 16) X3 hx (y_ oD70_8) (fun hq => ?_) (fun hq => ?_)
  · have hc8 := o_h_eq.1 hq
    have sft6 : Safe Z o_EL _ T3.heap t3 := (Bl3.safe hZ (o_ENs hw))
    refine o_ldcH (n := 0) (vs := []) (z := 0) X3 hx hZ hown (k_ 52 rfl) (fun d hd => hw d (o_strat d hd)) rfl hS0 (Nat.le_trans (Nat.le_trans hk0 E1.1) Kp3.1) hEL (by decide) C5.1 ⟨by decide, by decide⟩ (by decide) (by decide) (y_ oD70_16) (by decide) (by decide) (by decide) (by decide) (fun a7 b7 kb7 T7 k7 X7 E7 hS7 hk7 hZ7 hown7 Ex7 Co7 Va7 Av7 hC7 Li7 Sa7 => ?_)
    have O7 := Old.ext O4 E7
    have C8 := CHr.trans C5 (hC7)
    have sf9 := (CHr.safe (hC7) Bl3.lt2 sft6)
    show o_G p e below _ T7 (mkF m 18 #[vR x, vI B, vI A] [(.ref a7), (.ref b1)])
    have Ss7 : o_Str Z T7.heap a7 b7 ([] : List Int32) := ⟨Ex7, Co7, Va7, ⟨_, Av7⟩, by decide, by decide⟩
    have c10 := (o_Bl.ext E7 Bl3)
    have c12 := (Exa.ext E7 (Exa.keep A1 Kp3))
    refine o_vir (y := o_m12) (b := b1) (argsL := [(.ref a7)]) (S := []) (W := 0) X7 hx hZ7 hown7 (k_ 148 rfl) (k_ 149 rfl) (k_ 151 rfl) (k_ 150 rfl) (backOf (W := 0) (rmsap l Z a0 hw [] b1 a7 t3 16 ([] : List Int32) b7 ([] : List Int32) zC_ T7.heap n0 O7 c10 Ss7 g_b1 g_t3 (o_b rfl) SC_ hC_) hZ7 (k_ 152 rfl) (k_ 132 rfl) (by decide) (by decide)) rfl c12 hml (lenOf o_pd__28Ljava_2flang_2fString_3b_29Ljava_2flang_2fStringBuilder_3b rfl) (y_ oD70_18) (fun T11 L11 v11 X11 hQ11 => ?_)
    obtain ⟨rfl, N11q, Kp11, Bl11⟩ := hQ11
    have N11 := Fr.app N3 N11q
    have O13 := Old.keep O7 Kp11 (allS g_b1 (allS g_t3 all0))
    have C14 := CHr.trans C8 (CHr.keep Kp11 (sfS (Safe.exa hZ7.alike c10.1 (by decide) (by decide)) (sfS (c10.safe hZ7 (o_ENs hw)) sf0)) C8.1)
    show o_G p e below _ T11 (mkF m 21 #[vR x, vI B, vI A] [(.ref b1)])
    refine o_aloadN X11 hx (y_ oD70_21) rfl rfl ?_
    have Bq15 : o_Bl Z T11.heap b1 t3 16 ([] : List Int32) := Bl11
    have c16 := (o_A.keep (o_A.ext E7 (o_A.keep (o_A.ext E1 S_x) Kp3 (ninS (o_ng S_x.lt gg1) nin0) (ninS (o_ng S_x.lt2 gg1) nin0))) Kp11 (ninS (o_ng S_x.lt gg1) (ninS (Nat.ne_of_lt (Nat.lt_of_lt_of_le (Nat.lt_of_lt_of_le S_x.lt E1.1) ht3)) nin0)) (ninS (o_ng S_x.lt2 gg1) (ninS (Nat.ne_of_lt (Nat.lt_of_lt_of_le (Nat.lt_of_lt_of_le S_x.lt2 E1.1) ht3)) nin0)))
    have c18 := (Exa.keep c12 Kp11)
    refine o_vir (y := o_m12) (b := b1) (argsL := [(.ref x)]) (S := []) (W := 0) X11 hx hZ7 hown7 (k_ 148 rfl) (k_ 149 rfl) (k_ 151 rfl) (k_ 150 rfl) (backOf (W := 0) (rmsau0 l Z a0 hw [] b1 x t3 u ds fm zC_ T11.heap n0 O13 Bq15 c16 g_b1 (Nat.le_trans hqq (by decide)) S_u S_f hfm SC_ hC_) hZ7 (k_ 152 rfl) (k_ 132 rfl) (by decide) (by decide)) rfl c18 hml (lenOf o_pd__28Ljava_2flang_2fString_3b_29Ljava_2flang_2fStringBuilder_3b rfl) (y_ oD70_22) (fun T17 L17 v17 X17 hQ17 => ?_)
    obtain ⟨rfl, N17q, Kp17, t17, g_t17, ht17, Dq17⟩ := hQ17
    have N17 := Fr.app N11 N17q
    have O19 := Old.keep O13 Kp17 (allS g_b1 all0)
    have C20 := CHr.trans C14 (CHr.keep Kp17 (sfS (Safe.exa hZ7.alike Bq15.1 (by decide) (by decide)) sf0) C14.1)
    show o_G p e below _ T17 (mkF m 25 #[vR x, vI B, vI A] [(.ref b1)])
    refine o_iloadN X17 hx (y_ oD70_25) rfl ?_
    refine o_iF (t := 34) X17 hx (y_ oD70_26) (fun hq => ?_) (fun hq => ?_)
    · have hc26 := o_h_eq.1 hq
      have sft21 : Safe Z o_EL _ T17.heap t17 := (Dq17.safe hZ7 (o_ENt hw))
      refine o_ldcA X17 hx hZ7 hown7 (k_ 52 rfl) Li7 (y_ oD70_34) ?_
      have c23 := (o_Str.keep (o_Str.keep Ss7 Kp11 (ninS (Exa.ne Ex7 c12 (by decide)) (ninS (Ne.symm (Sa7 _ sf9).1) nin0)) (ninS (Ne.symm (Exa.neArv c12 Av7 (k_ 131 rfl))) (ninS (Ne.symm (Sa7 _ sf9).2) nin0))) Kp17 (ninS (Exa.ne (Exa.keep Ex7 Kp11) c18 (by decide)) nin0) (ninS (Ne.symm (Exa.neArv c18 (Arv.keep Av7 Kp11 (ninS (Ne.symm (Exa.neArv c12 Av7 (k_ 131 rfl))) (ninS (Ne.symm (Sa7 _ sf9).2) nin0))) (k_ 131 rfl))) nin0))
      refine o_vir (y := o_m12) (b := b1) (argsL := [(.ref a7)]) (S := []) (W := 0) X17 hx hZ7 hown7 (k_ 148 rfl) (k_ 149 rfl) (k_ 151 rfl) (k_ 150 rfl) (backOf (W := 0) (rmsav0 l Z a0 hw [] b1 a7 t17 (([] : List Int32) ++ ds) b7 fm zC_ T17.heap n0 O19 Dq17 c23 g_t17 (by simp only [List.length_append, List.length_nil, List.length_cons]; omega) (Nat.ne_of_lt (Nat.lt_of_lt_of_le (Nat.lt_of_lt_of_le Av7.lt Kp11.1) ht17)) S_u S_f hfm SC_ hC_ g_b1) hZ7 (k_ 152 rfl) (k_ 132 rfl) (by decide) (by decide)) rfl Dq17.1 hml (lenOf o_pd__28Ljava_2flang_2fString_3b_29Ljava_2flang_2fStringBuilder_3b rfl) (y_ oD70_36) (fun T24 L24 v24 X24 hQ24 => ?_)
      obtain ⟨rfl, N24q, Kp24, Dq24⟩ := hQ24
      have N24 := Fr.app N17 N24q
      have O25 := Old.keep O19 Kp24 (allS g_b1 (allS g_t17 all0))
      have C26 := CHr.trans C20 (CHr.keep Kp24 (sfS (Safe.exa hZ7.alike Dq17.1 (by decide) (by decide)) (sfS (Dq17.safe hZ7 (o_ENt hw)) sf0)) C20.1)
      show o_G p e below _ T24 (mkF m 39 #[vR x, vI B, vI A] [(.ref b1)])
      refine o_vir (y := o_m59) (b := b1) (argsL := []) (S := []) (W := 0) X24 hx hZ7 hown7 (k_ 190 rfl) (k_ 191 rfl) (k_ 193 rfl) (k_ 192 rfl) (backOf (W := 0) (rmstu l Z a0 hw [] b1 t17 (([] : List Int32) ++ ds) zC_ T24.heap n0 O25 Dq24 (by obtain ⟨c, hc, q⟩ := S_x.ak.big; exact ⟨c, by simp [hc], q⟩) SC_ hC_) hZ7 (k_ 194 rfl) (k_ 132 rfl) (by decide) (by decide)) rfl Dq24.1 hml (lenOf o_pd__28_29Ljava_2flang_2fString_3b rfl) (y_ oD70_39) (fun T27 L27 v27 X27 hQ27 => ?_)
      obtain ⟨x27, t27, kd27, rfl, N27q, Kp27, g_x27, hx27, g_t27, ht27, hne27, Sf27⟩ := hQ27
      have N27 := Fr.app N24 N27q
      have O28 := Old.keep O25 Kp27 all0
      have C29 := CHr.trans C26 (CHr.keep Kp27 sf0 C26.1)
      show o_G p e below _ T27 (mkF m 42 #[vR x, vI B, vI A] [(.ref x27)])
      have kp30 := Keep.ext (Keep.refl h0 []) E1
      have kp31 := Keep.trans kp30 Kp3 (allS (Or.inr (Nat.le_trans (Keep.refl h0 []).1 (Nat.le_of_eq gg1.symm))) all0)
      have kp32 := Keep.ext kp31 E7
      have kp33 := Keep.trans kp32 Kp11 (allS (Or.inr (Nat.le_trans (Keep.refl h0 []).1 (Nat.le_of_eq gg1.symm))) (allS (Or.inr (Nat.le_trans kp30.1 ht3)) all0))
      have kp34 := Keep.trans kp33 Kp17 (allS (Or.inr (Nat.le_trans (Keep.refl h0 []).1 (Nat.le_of_eq gg1.symm))) all0)
      have kp35 := Keep.trans kp34 Kp24 (allS (Or.inr (Nat.le_trans (Keep.refl h0 []).1 (Nat.le_of_eq gg1.symm))) (allS (Or.inr (Nat.le_trans kp33.1 ht17)) all0))
      have kp36 := Keep.trans kp35 Kp27 all0
      exact o_retAH X27 hx hS7 (Nat.le_trans (Nat.le_trans (Nat.le_trans (Nat.le_trans hk7 Kp11.1) Kp17.1) Kp24.1) Kp27.1) hZ7 hEL (by exact C29) hrt hlk rfl rfl rfl (y_ oD70_42) (by decide) (by decide) ⟨x27, t27, kd27, rfl, N27, kp36, g_x27, (Nat.le_trans kp35.1 hx27), g_t27, (Nat.le_trans kp35.1 ht27), hne27, (by rw [o_wr, if_pos hc8, if_pos hc26]; simpa using Sf27)⟩
    have hc26 := o_h_eq.2 hq
    have sft37 : Safe Z o_EL _ T17.heap t17 := (Dq17.safe hZ7 (o_ENt hw))
    refine o_ldcH (n := 4) (vs := [.int 42]) (z := 1) X17 hx hZ7 hown7 (k_ 41 rfl) (fun d hd => hw d (o_strat d hd)) rfl hS7 (Nat.le_trans (Nat.le_trans hk7 Kp11.1) Kp17.1) hEL (by decide) C20.1 ⟨by decide, by decide⟩ (by decide) (by decide) (y_ oD70_29) (by decide) (by decide) (by decide) (by decide) (fun a38 b38 kb38 T38 k38 X38 E38 hS38 hk38 hZ38 hown38 Ex38 Co38 Va38 Av38 hC38 Li38 Sa38 => ?_)
    have O38 := Old.ext O19 E38
    have C39 := CHr.trans C20 (hC38)
    have sf40 := (CHr.safe (hC38) Dq17.lt2 sft37)
    show o_G p e below _ T38 (mkF m 31 #[vR x, vI B, vI A] [(.ref a38), (.ref b1)])
    have Ss38 : o_Str Z T38.heap a38 b38 o_star := ⟨Ex38, Co38, Va38, ⟨_, Av38⟩, by decide, by decide⟩
    refine o_gO (t := 36) X38 hx (y_ oD70_31) ?_
    have c41 := (o_Bv.ext E38 Dq17)
    refine o_vir (y := o_m12) (b := b1) (argsL := [(.ref a38)]) (S := []) (W := 0) X38 hx hZ38 hown38 (k_ 148 rfl) (k_ 149 rfl) (k_ 151 rfl) (k_ 150 rfl) (backOf (W := 0) (rmsav1 l Z a0 hw [] b1 a38 t17 (([] : List Int32) ++ ds) b38 fm zC_ T38.heap n0 O38 c41 Ss38 g_t17 (by simp only [List.length_append, List.length_nil, List.length_cons]; omega) (Ne.symm (Sa38 _ sf40).2) S_u S_f hfm SC_ hC_ g_b1) hZ38 (k_ 152 rfl) (k_ 132 rfl) (by decide) (by decide)) rfl c41.1 hml (lenOf o_pd__28Ljava_2flang_2fString_3b_29Ljava_2flang_2fStringBuilder_3b rfl) (y_ oD70_36) (fun T42 L42 v42 X42 hQ42 => ?_)
    obtain ⟨rfl, N42q, Kp42, Dq42⟩ := hQ42
    have N42 := Fr.app N17 N42q
    have O43 := Old.keep O38 Kp42 (allS g_b1 (allS g_t17 all0))
    have C44 := CHr.trans C39 (CHr.keep Kp42 (sfS (Safe.exa hZ38.alike c41.1 (by decide) (by decide)) (sfS (c41.safe hZ38 (o_ENt hw)) sf0)) C39.1)
    show o_G p e below _ T42 (mkF m 39 #[vR x, vI B, vI A] [(.ref b1)])
    refine o_vir (y := o_m59) (b := b1) (argsL := []) (S := []) (W := 0) X42 hx hZ38 hown38 (k_ 190 rfl) (k_ 191 rfl) (k_ 193 rfl) (k_ 192 rfl) (backOf (W := 0) (rmstu l Z a0 hw [] b1 t17 ((([] : List Int32) ++ ds) ++ [42]) zC_ T42.heap n0 O43 Dq42 (by obtain ⟨c, hc, q⟩ := S_x.ak.big; exact ⟨c, by simp [hc], q⟩) SC_ hC_) hZ38 (k_ 194 rfl) (k_ 132 rfl) (by decide) (by decide)) rfl Dq42.1 hml (lenOf o_pd__28_29Ljava_2flang_2fString_3b rfl) (y_ oD70_39) (fun T45 L45 v45 X45 hQ45 => ?_)
    obtain ⟨x45, t45, kd45, rfl, N45q, Kp45, g_x45, hx45, g_t45, ht45, hne45, Sf45⟩ := hQ45
    have N45 := Fr.app N42 N45q
    have O46 := Old.keep O43 Kp45 all0
    have C47 := CHr.trans C44 (CHr.keep Kp45 sf0 C44.1)
    show o_G p e below _ T45 (mkF m 42 #[vR x, vI B, vI A] [(.ref x45)])
    have kp48 := Keep.ext (Keep.refl h0 []) E1
    have kp49 := Keep.trans kp48 Kp3 (allS (Or.inr (Nat.le_trans (Keep.refl h0 []).1 (Nat.le_of_eq gg1.symm))) all0)
    have kp50 := Keep.ext kp49 E7
    have kp51 := Keep.trans kp50 Kp11 (allS (Or.inr (Nat.le_trans (Keep.refl h0 []).1 (Nat.le_of_eq gg1.symm))) (allS (Or.inr (Nat.le_trans kp48.1 ht3)) all0))
    have kp52 := Keep.trans kp51 Kp17 (allS (Or.inr (Nat.le_trans (Keep.refl h0 []).1 (Nat.le_of_eq gg1.symm))) all0)
    have kp53 := Keep.ext kp52 E38
    have kp54 := Keep.trans kp53 Kp42 (allS (Or.inr (Nat.le_trans (Keep.refl h0 []).1 (Nat.le_of_eq gg1.symm))) (allS (Or.inr (Nat.le_trans kp51.1 ht17)) all0))
    have kp55 := Keep.trans kp54 Kp45 all0
    exact o_retAH X45 hx hS38 (Nat.le_trans (Nat.le_trans hk38 Kp42.1) Kp45.1) hZ38 hEL (by exact C47) hrt hlk rfl rfl rfl (y_ oD70_42) (by decide) (by decide) ⟨x45, t45, kd45, rfl, N45, kp55, g_x45, (Nat.le_trans kp54.1 hx45), g_t45, (Nat.le_trans kp54.1 ht45), hne45, (by rw [o_wr, if_pos hc8, if_neg hc26]; simpa using Sf45)⟩
  have hc8 := o_h_eq.2 hq
  have sft56 : Safe Z o_EL _ T3.heap t3 := (Bl3.safe hZ (o_ENs hw))
  refine o_ldcH (n := 4) (vs := [.int 42]) (z := 1) X3 hx hZ hown (k_ 41 rfl) (fun d hd => hw d (o_strat d hd)) rfl hS0 (Nat.le_trans (Nat.le_trans hk0 E1.1) Kp3.1) hEL (by decide) C5.1 ⟨by decide, by decide⟩ (by decide) (by decide) (y_ oD70_11) (by decide) (by decide) (by decide) (by decide) (fun a57 b57 kb57 T57 k57 X57 E57 hS57 hk57 hZ57 hown57 Ex57 Co57 Va57 Av57 hC57 Li57 Sa57 => ?_)
  have O57 := Old.ext O4 E57
  have C58 := CHr.trans C5 (hC57)
  have sf59 := (CHr.safe (hC57) Bl3.lt2 sft56)
  show o_G p e below _ T57 (mkF m 13 #[vR x, vI B, vI A] [(.ref a57), (.ref b1)])
  have Ss57 : o_Str Z T57.heap a57 b57 o_star := ⟨Ex57, Co57, Va57, ⟨_, Av57⟩, by decide, by decide⟩
  refine o_gO (t := 18) X57 hx (y_ oD70_13) ?_
  have c60 := (o_Bl.ext E57 Bl3)
  have c62 := (Exa.ext E57 (Exa.keep A1 Kp3))
  refine o_vir (y := o_m12) (b := b1) (argsL := [(.ref a57)]) (S := []) (W := 0) X57 hx hZ57 hown57 (k_ 148 rfl) (k_ 149 rfl) (k_ 151 rfl) (k_ 150 rfl) (backOf (W := 0) (rmsap l Z a0 hw [] b1 a57 t3 16 ([] : List Int32) b57 o_star zC_ T57.heap n0 O57 c60 Ss57 g_b1 g_t3 (o_b rfl) SC_ hC_) hZ57 (k_ 152 rfl) (k_ 132 rfl) (by decide) (by decide)) rfl c62 hml (lenOf o_pd__28Ljava_2flang_2fString_3b_29Ljava_2flang_2fStringBuilder_3b rfl) (y_ oD70_18) (fun T61 L61 v61 X61 hQ61 => ?_)
  obtain ⟨rfl, N61q, Kp61, Bl61⟩ := hQ61
  have N61 := Fr.app N3 N61q
  have O63 := Old.keep O57 Kp61 (allS g_b1 (allS g_t3 all0))
  have C64 := CHr.trans C58 (CHr.keep Kp61 (sfS (Safe.exa hZ57.alike c60.1 (by decide) (by decide)) (sfS (c60.safe hZ57 (o_ENs hw)) sf0)) C58.1)
  show o_G p e below _ T61 (mkF m 21 #[vR x, vI B, vI A] [(.ref b1)])
  refine o_aloadN X61 hx (y_ oD70_21) rfl rfl ?_
  have Bq65 : o_Bl Z T61.heap b1 t3 16 ([42] : List Int32) := Bl61
  have c66 := (o_A.keep (o_A.ext E57 (o_A.keep (o_A.ext E1 S_x) Kp3 (ninS (o_ng S_x.lt gg1) nin0) (ninS (o_ng S_x.lt2 gg1) nin0))) Kp61 (ninS (o_ng S_x.lt gg1) (ninS (Nat.ne_of_lt (Nat.lt_of_lt_of_le (Nat.lt_of_lt_of_le S_x.lt E1.1) ht3)) nin0)) (ninS (o_ng S_x.lt2 gg1) (ninS (Nat.ne_of_lt (Nat.lt_of_lt_of_le (Nat.lt_of_lt_of_le S_x.lt2 E1.1) ht3)) nin0)))
  have c68 := (Exa.keep c62 Kp61)
  refine o_vir (y := o_m12) (b := b1) (argsL := [(.ref x)]) (S := []) (W := 0) X61 hx hZ57 hown57 (k_ 148 rfl) (k_ 149 rfl) (k_ 151 rfl) (k_ 150 rfl) (backOf (W := 0) (rmsau1 l Z a0 hw [] b1 x t3 u ds fm zC_ T61.heap n0 O63 Bq65 c66 g_b1 (Nat.le_trans hqq (by decide)) S_u S_f hfm SC_ hC_) hZ57 (k_ 152 rfl) (k_ 132 rfl) (by decide) (by decide)) rfl c68 hml (lenOf o_pd__28Ljava_2flang_2fString_3b_29Ljava_2flang_2fStringBuilder_3b rfl) (y_ oD70_22) (fun T67 L67 v67 X67 hQ67 => ?_)
  obtain ⟨rfl, N67q, Kp67, t67, g_t67, ht67, Dq67⟩ := hQ67
  have N67 := Fr.app N61 N67q
  have O69 := Old.keep O63 Kp67 (allS g_b1 all0)
  have C70 := CHr.trans C64 (CHr.keep Kp67 (sfS (Safe.exa hZ57.alike Bq65.1 (by decide) (by decide)) sf0) C64.1)
  show o_G p e below _ T67 (mkF m 25 #[vR x, vI B, vI A] [(.ref b1)])
  refine o_iloadN X67 hx (y_ oD70_25) rfl ?_
  refine o_iF (t := 34) X67 hx (y_ oD70_26) (fun hq => ?_) (fun hq => ?_)
  · have hc26 := o_h_eq.1 hq
    have sft71 : Safe Z o_EL _ T67.heap t67 := (Dq67.safe hZ57 (o_ENt hw))
    refine o_ldcH (n := 0) (vs := []) (z := 0) X67 hx hZ57 hown57 (k_ 52 rfl) (fun d hd => hw d (o_strat d hd)) rfl hS57 (Nat.le_trans (Nat.le_trans hk57 Kp61.1) Kp67.1) hEL (by decide) C70.1 ⟨by decide, by decide⟩ (by decide) (by decide) (y_ oD70_34) (by decide) (by decide) (by decide) (by decide) (fun a72 b72 kb72 T72 k72 X72 E72 hS72 hk72 hZ72 hown72 Ex72 Co72 Va72 Av72 hC72 Li72 Sa72 => ?_)
    have O72 := Old.ext O69 E72
    have C73 := CHr.trans C70 (hC72)
    have sf74 := (CHr.safe (hC72) Dq67.lt2 sft71)
    show o_G p e below _ T72 (mkF m 36 #[vR x, vI B, vI A] [(.ref a72), (.ref b1)])
    have Ss72 : o_Str Z T72.heap a72 b72 ([] : List Int32) := ⟨Ex72, Co72, Va72, ⟨_, Av72⟩, by decide, by decide⟩
    have c75 := (o_Bv.ext E72 Dq67)
    refine o_vir (y := o_m12) (b := b1) (argsL := [(.ref a72)]) (S := []) (W := 0) X72 hx hZ72 hown72 (k_ 148 rfl) (k_ 149 rfl) (k_ 151 rfl) (k_ 150 rfl) (backOf (W := 0) (rmsav0 l Z a0 hw [] b1 a72 t67 (([42] : List Int32) ++ ds) b72 fm zC_ T72.heap n0 O72 c75 Ss72 g_t67 (by simp only [List.length_append, List.length_nil, List.length_cons]; omega) (Ne.symm (Sa72 _ sf74).2) S_u S_f hfm SC_ hC_ g_b1) hZ72 (k_ 152 rfl) (k_ 132 rfl) (by decide) (by decide)) rfl c75.1 hml (lenOf o_pd__28Ljava_2flang_2fString_3b_29Ljava_2flang_2fStringBuilder_3b rfl) (y_ oD70_36) (fun T76 L76 v76 X76 hQ76 => ?_)
    obtain ⟨rfl, N76q, Kp76, Dq76⟩ := hQ76
    have N76 := Fr.app N67 N76q
    have O77 := Old.keep O72 Kp76 (allS g_b1 (allS g_t67 all0))
    have C78 := CHr.trans C73 (CHr.keep Kp76 (sfS (Safe.exa hZ72.alike c75.1 (by decide) (by decide)) (sfS (c75.safe hZ72 (o_ENt hw)) sf0)) C73.1)
    show o_G p e below _ T76 (mkF m 39 #[vR x, vI B, vI A] [(.ref b1)])
    refine o_vir (y := o_m59) (b := b1) (argsL := []) (S := []) (W := 0) X76 hx hZ72 hown72 (k_ 190 rfl) (k_ 191 rfl) (k_ 193 rfl) (k_ 192 rfl) (backOf (W := 0) (rmstu l Z a0 hw [] b1 t67 (([42] : List Int32) ++ ds) zC_ T76.heap n0 O77 Dq76 (by obtain ⟨c, hc, q⟩ := S_x.ak.big; exact ⟨c, by simp [hc], q⟩) SC_ hC_) hZ72 (k_ 194 rfl) (k_ 132 rfl) (by decide) (by decide)) rfl Dq76.1 hml (lenOf o_pd__28_29Ljava_2flang_2fString_3b rfl) (y_ oD70_39) (fun T79 L79 v79 X79 hQ79 => ?_)
    obtain ⟨x79, t79, kd79, rfl, N79q, Kp79, g_x79, hx79, g_t79, ht79, hne79, Sf79⟩ := hQ79
    have N79 := Fr.app N76 N79q
    have O80 := Old.keep O77 Kp79 all0
    have C81 := CHr.trans C78 (CHr.keep Kp79 sf0 C78.1)
    show o_G p e below _ T79 (mkF m 42 #[vR x, vI B, vI A] [(.ref x79)])
    have kp82 := Keep.ext (Keep.refl h0 []) E1
    have kp83 := Keep.trans kp82 Kp3 (allS (Or.inr (Nat.le_trans (Keep.refl h0 []).1 (Nat.le_of_eq gg1.symm))) all0)
    have kp84 := Keep.ext kp83 E57
    have kp85 := Keep.trans kp84 Kp61 (allS (Or.inr (Nat.le_trans (Keep.refl h0 []).1 (Nat.le_of_eq gg1.symm))) (allS (Or.inr (Nat.le_trans kp82.1 ht3)) all0))
    have kp86 := Keep.trans kp85 Kp67 (allS (Or.inr (Nat.le_trans (Keep.refl h0 []).1 (Nat.le_of_eq gg1.symm))) all0)
    have kp87 := Keep.ext kp86 E72
    have kp88 := Keep.trans kp87 Kp76 (allS (Or.inr (Nat.le_trans (Keep.refl h0 []).1 (Nat.le_of_eq gg1.symm))) (allS (Or.inr (Nat.le_trans kp85.1 ht67)) all0))
    have kp89 := Keep.trans kp88 Kp79 all0
    exact o_retAH X79 hx hS72 (Nat.le_trans (Nat.le_trans hk72 Kp76.1) Kp79.1) hZ72 hEL (by exact C81) hrt hlk rfl rfl rfl (y_ oD70_42) (by decide) (by decide) ⟨x79, t79, kd79, rfl, N79, kp89, g_x79, (Nat.le_trans kp88.1 hx79), g_t79, (Nat.le_trans kp88.1 ht79), hne79, (by rw [o_wr, if_neg hc8, if_pos hc26]; simpa using Sf79)⟩
  have hc26 := o_h_eq.2 hq
  have sft90 : Safe Z o_EL _ T67.heap t67 := (Dq67.safe hZ57 (o_ENt hw))
  refine o_ldcA X67 hx hZ57 hown57 (k_ 41 rfl) Li57 (y_ oD70_29) ?_
  refine o_gO (t := 36) X67 hx (y_ oD70_31) ?_
  have c92 := (o_Str.keep (o_Str.keep Ss57 Kp61 (ninS (Exa.ne Ex57 c62 (by decide)) (ninS (Ne.symm (Sa57 _ sf59).1) nin0)) (ninS (Ne.symm (Exa.neArv c62 Av57 (k_ 131 rfl))) (ninS (Ne.symm (Sa57 _ sf59).2) nin0))) Kp67 (ninS (Exa.ne (Exa.keep Ex57 Kp61) c68 (by decide)) nin0) (ninS (Ne.symm (Exa.neArv c68 (Arv.keep Av57 Kp61 (ninS (Ne.symm (Exa.neArv c62 Av57 (k_ 131 rfl))) (ninS (Ne.symm (Sa57 _ sf59).2) nin0))) (k_ 131 rfl))) nin0))
  refine o_vir (y := o_m12) (b := b1) (argsL := [(.ref a57)]) (S := []) (W := 0) X67 hx hZ57 hown57 (k_ 148 rfl) (k_ 149 rfl) (k_ 151 rfl) (k_ 150 rfl) (backOf (W := 0) (rmsav1 l Z a0 hw [] b1 a57 t67 (([42] : List Int32) ++ ds) b57 fm zC_ T67.heap n0 O69 Dq67 c92 g_t67 (by simp only [List.length_append, List.length_nil, List.length_cons]; omega) (Nat.ne_of_lt (Nat.lt_of_lt_of_le (Nat.lt_of_lt_of_le Av57.lt Kp61.1) ht67)) S_u S_f hfm SC_ hC_ g_b1) hZ57 (k_ 152 rfl) (k_ 132 rfl) (by decide) (by decide)) rfl Dq67.1 hml (lenOf o_pd__28Ljava_2flang_2fString_3b_29Ljava_2flang_2fStringBuilder_3b rfl) (y_ oD70_36) (fun T93 L93 v93 X93 hQ93 => ?_)
  obtain ⟨rfl, N93q, Kp93, Dq93⟩ := hQ93
  have N93 := Fr.app N67 N93q
  have O94 := Old.keep O69 Kp93 (allS g_b1 (allS g_t67 all0))
  have C95 := CHr.trans C70 (CHr.keep Kp93 (sfS (Safe.exa hZ57.alike Dq67.1 (by decide) (by decide)) (sfS (Dq67.safe hZ57 (o_ENt hw)) sf0)) C70.1)
  show o_G p e below _ T93 (mkF m 39 #[vR x, vI B, vI A] [(.ref b1)])
  refine o_vir (y := o_m59) (b := b1) (argsL := []) (S := []) (W := 0) X93 hx hZ57 hown57 (k_ 190 rfl) (k_ 191 rfl) (k_ 193 rfl) (k_ 192 rfl) (backOf (W := 0) (rmstu l Z a0 hw [] b1 t67 ((([42] : List Int32) ++ ds) ++ [42]) zC_ T93.heap n0 O94 Dq93 (by obtain ⟨c, hc, q⟩ := S_x.ak.big; exact ⟨c, by simp [hc], q⟩) SC_ hC_) hZ57 (k_ 194 rfl) (k_ 132 rfl) (by decide) (by decide)) rfl Dq93.1 hml (lenOf o_pd__28_29Ljava_2flang_2fString_3b rfl) (y_ oD70_39) (fun T96 L96 v96 X96 hQ96 => ?_)
  obtain ⟨x96, t96, kd96, rfl, N96q, Kp96, g_x96, hx96, g_t96, ht96, hne96, Sf96⟩ := hQ96
  have N96 := Fr.app N93 N96q
  have O97 := Old.keep O94 Kp96 all0
  have C98 := CHr.trans C95 (CHr.keep Kp96 sf0 C95.1)
  show o_G p e below _ T96 (mkF m 42 #[vR x, vI B, vI A] [(.ref x96)])
  have kp99 := Keep.ext (Keep.refl h0 []) E1
  have kp100 := Keep.trans kp99 Kp3 (allS (Or.inr (Nat.le_trans (Keep.refl h0 []).1 (Nat.le_of_eq gg1.symm))) all0)
  have kp101 := Keep.ext kp100 E57
  have kp102 := Keep.trans kp101 Kp61 (allS (Or.inr (Nat.le_trans (Keep.refl h0 []).1 (Nat.le_of_eq gg1.symm))) (allS (Or.inr (Nat.le_trans kp99.1 ht3)) all0))
  have kp103 := Keep.trans kp102 Kp67 (allS (Or.inr (Nat.le_trans (Keep.refl h0 []).1 (Nat.le_of_eq gg1.symm))) all0)
  have kp104 := Keep.trans kp103 Kp93 (allS (Or.inr (Nat.le_trans (Keep.refl h0 []).1 (Nat.le_of_eq gg1.symm))) (allS (Or.inr (Nat.le_trans kp102.1 ht67)) all0))
  have kp105 := Keep.trans kp104 Kp96 all0
  exact o_retAH X96 hx hS57 (Nat.le_trans (Nat.le_trans (Nat.le_trans (Nat.le_trans hk57 Kp61.1) Kp67.1) Kp93.1) Kp96.1) hZ57 hEL (by exact C98) hrt hlk rfl rfl rfl (y_ oD70_42) (by decide) (by decide) ⟨x96, t96, kd96, rfl, N96, kp105, g_x96, (Nat.le_trans kp104.1 hx96), g_t96, (Nat.le_trans kp104.1 ht96), hne96, (by rw [o_wr, if_neg hc8, if_neg hc26]; simpa using Sf96)⟩
theorem rmwra (hw : o_HW Z a0) (ws : o_LC) (x : Addr) (B : Int32) (A : Int32) (u : Addr) (kd : Int32) (ds : List Int32) (fm : Value) (zC_ : Int32) (h0 : Heap) (n0 : Nat) (O0 : Old Z n0 h0) (S_x : o_A Z h0 x u kd ds) (hqq : ds.length ≤ 3) (S_u : o_SU Z) (S_f : o_SF Z fm) (hfm : fm.isRef = true) (SC_ : o_SC Z zC_) (hC_ : ¬ zC_ = 0) :
    o_MetH o_EL l Z o_m71 oJ22 3 (some (.object "java/lang/String")) ws o_R52 #[(.ref x), (.int B), (.int A)] h0 (Qwra Z x B A u kd ds fm zC_ h0 n0) := by
  rcases S_x.ak.k01 with rfl | rfl
  · exact rmwr0 l Z a0 hw ws x B A u ds fm zC_ h0 n0 O0 S_x.str hqq S_u S_f hfm SC_ hC_
  · exact rmwr1 l Z a0 hw ws x B A u ds fm zC_ h0 n0 O0 S_x hqq S_u S_f hfm SC_ hC_
theorem rmtsn (hw : o_HW Z a0) (ws : o_LC) (b : Addr) (x : Addr) (B : Int32) (A : Int32) (u : Addr) (kd : Int32) (ds : List Int32) (fm : Value) (zC_ : Int32) (h0 : Heap) (n0 : Nat) (O0 : Old Z n0 h0) (F_k : o_GK Z h0 b (.ref x)) (F_b : o_GB Z h0 b (.int B)) (F_a : o_GA Z h0 b (.int A)) (S_x : o_A Z h0 x u kd ds) (hqq : ds.length ≤ 3) (S_u : o_SU Z) (S_f : o_SF Z fm) (hfm : fm.isRef = true) (SC_ : o_SC Z zC_) (hC_ : ¬ zC_ = 0) :
    o_MetH o_EL l Z o_m72 oJ51 1 (some (.object "java/lang/String")) ws o_R53 #[(.ref b)] h0 (Qtsn Z b x B A u kd ds fm zC_ h0 n0) := by
  refine o_enterH o_pn_11 (fun m => o_ef3 m b) (fun p e s m below meth c s₁ hx hby hml hZ hown hnm hlk hrt X0 e0 hS0 hk0 C0 => ?_)
  have N0 := Fr.nil n0
  have y_ := @hb _ _ hby
  have k_ := @o_k _ _ hw
  have hEL := o_EWs hw
  refine o_aloadN X0 hx (y_ oD71_0) rfl rfl ?_
  refine o_getF X0 hx hZ hown (host := "") (Or.inl (k_ 100 rfl)) Via.refl e0 F_k (y_ oD71_1) (fun T1 X1 e1 => ?_)
  refine o_aloadN X1 hx (y_ oD71_4) rfl rfl ?_
  refine o_getF X1 hx hZ hown (host := "") (Or.inl (k_ 102 rfl)) Via.refl e1 F_b (y_ oD71_5) (fun T2 X2 e2 => ?_)
  refine o_aloadN X2 hx (y_ oD71_8) rfl rfl ?_
  refine o_getF X2 hx hZ hown (host := "") (Or.inl (k_ 104 rfl)) Via.refl e2 F_a (y_ oD71_9) (fun T3 X3 e3 => ?_)
  refine o_staticH (y := o_m71) (argsL := [(.ref x), (.int B), (.int A)]) (S := []) (W := 0) X3 hx hZ hS0 hown (k_ 127 rfl) (k_ 128 rfl) (k_ 32 rfl) (k_ 129 rfl) (by decide) (backOfSH (W := 0) (rmwra l Z a0 hw [] x B A u kd ds fm zC_ h0 n0 O0 S_x hqq S_u S_f hfm SC_ hC_) hZ (k_ 129 rfl) (k_ 32 rfl) (by decide) (by decide) hEL C0.1) e3 hk0 (by rw [hml]; rfl) (lenOf o_pd__28Ljava_2flang_2fString_3bZZ_29Ljava_2flang_2fString_3b rfl) rfl (Nat.le_of_eq rfl) (y_ oD71_12) (by decide) (by decide) (fun T4 L4 v4 k4 X4 hS4 hk4 hZ4 hown4 hQ4 hC4 => ?_)
  obtain ⟨x4, t4, kd4, rfl, N4q, Kp4, g_x4, hx4, g_t4, ht4, hne4, Sf4⟩ := hQ4
  have N4 := Fr.app N0 N4q
  have O5 := Old.keep O0 Kp4 all0
  have C6 := CHr.trans C0 (hC4)
  show o_G p e below _ T4 (mkF m 15 #[vR b] [(.ref x4)])
  have kp7 := Keep.trans (Keep.refl h0 []) Kp4 all0
  exact o_retAH X4 hx hS4 hk4 hZ4 hEL (by exact C6) hrt hlk rfl rfl rfl (y_ oD71_15) (by decide) (by decide) ⟨x4, t4, kd4, rfl, N4, kp7, g_x4, (Nat.le_trans (Keep.refl h0 []).1 hx4), g_t4, (Nat.le_trans (Keep.refl h0 []).1 ht4), hne4, Sf4⟩
theorem rmcta (hw : o_HW Z a0) (ws : o_LC) (b : Addr) (x : Addr) (B : Int32) (A : Int32) (u : Addr) (kd : Int32) (ds : List Int32) (zC_ : Int32) (h0 : Heap) (n0 : Nat) (O0 : Old Z n0 h0) (E_b : Exa Z h0 b "org/adviceweft/pointcut/NamePattern") (F_k : o_GK Z h0 b .null) (F_b : o_GB Z h0 b (.int 0)) (F_a : o_GA Z h0 b (.int 0)) (g_b : n0 ≤ b) (S_x : o_A Z h0 x u kd ds) (hns : o_ns ds) (hl1 : 1 ≤ ds.length) (hqq : ds.length ≤ 3) (hB : B = 0 ∨ B = 1) (hA : A = 0 ∨ A = 1) (S_u : o_SU Z) (SC_ : o_SC Z zC_) (hC_ : ¬ zC_ = 0) :
    o_MetH o_EL l Z o_m73 oJ10 4 none ws o_R54 #[(.ref b), (.ref x), (.int B), (.int A)] h0 (Qcta Z b x B A u kd ds zC_ h0 n0) := by
  refine o_enterH o_pn_11 (fun m => o_ef38 m b x B A) (fun p e s m below meth c s₁ hx hby hml hZ hown hnm hlk hrt X0 e0 hS0 hk0 C0 => ?_)
  have N0 := Fr.nil n0
  have y_ := @hb _ _ hby
  have k_ := @o_k _ _ hw
  have hEL := o_EWs hw
  refine o_aloadN X0 hx (y_ oD72_0) rfl rfl ?_
  refine o_ini (y := o_m60) (b := b) (argsL := []) (S := []) (W := 0) rfl X0 hx hZ hown (k_ 56 rfl) (k_ 57 rfl) (k_ 60 rfl) (backOf (W := 0) (rmrec l Z a0 hw [] b h0 n0 O0) hZ (k_ 60 rfl) (k_ 59 rfl) (by decide) (by decide)) e0 hml (lenOf o_pd__28_29V rfl) (y_ oD72_1) (fun T1 L1 v1 X1 hQ1 => ?_)
  obtain ⟨rfl, N1q, hh1⟩ := hQ1
  have N1 := Fr.app N0 N1q
  show o_G p e below _ T1 (mkF m 4 #[vR b, vR x, vI B, vI A] [])
  refine o_aloadN X1 hx (y_ oD72_4) rfl rfl ?_
  refine o_ldcH (n := 16) (vs := [.int 99, .int 111, .int 114, .int 101]) (z := 4) X1 hx hZ hown (k_ 62 rfl) (fun d hd => hw d (o_strat d hd)) hh1 hS0 hk0 hEL (by decide) C0.1 ⟨by decide, by decide⟩ (by decide) (by decide) (y_ oD72_5) (by decide) (by decide) (by decide) (by decide) (fun a2 b2 kb2 T2 k2 X2 E2 hS2 hk2 hZ2 hown2 Ex2 Co2 Va2 Av2 hC2 Li2 Sa2 => ?_)
  have O2 := Old.ext O0 E2
  have C3 := CHr.trans C0 (hC2)
  show o_G p e below _ T2 (mkF m 7 #[vR b, vR x, vI B, vI A] [(.ref a2), (.ref x)])
  refine o_sta (y := o_m61) (argsL := [(.ref x), (.ref a2)]) (S := []) (W := 0) X2 hx hZ2 hown2 (k_ 37 rfl) (k_ 38 rfl) (k_ 39 rfl) (k_ 40 rfl) (backOf (W := 0) (rmrnn l Z a0 hw [] x a2 T2.heap n0 O2) hZ2 (k_ 40 rfl) (k_ 39 rfl) (by decide) (by decide)) rfl hml (lenOf o_pd__28Ljava_2flang_2fObject_3bLjava_2flang_2fString_3b_29Ljava_2flang_2fObject_3b rfl) (y_ oD72_7) (fun T4 L4 v4 X4 hQ4 => ?_)
  obtain ⟨rfl, N4q, hh4⟩ := hQ4
  have N4 := Fr.app N1 N4q
  show o_G p e below _ T4 (mkF m 10 #[vR b, vR x, vI B, vI A] [(.ref x)])
  refine o_pop X4 hx (y_ oD72_10) rfl ?_
  refine o_aloadN X4 hx (y_ oD72_11) rfl rfl ?_
  refine o_ldcH (n := 4) (vs := [.int 42]) (z := 1) X4 hx hZ2 hown2 (k_ 41 rfl) (fun d hd => hw d (o_strat d hd)) hh4 hS2 hk2 hEL (by decide) C3.1 ⟨by decide, by decide⟩ (by decide) (by decide) (y_ oD72_12) (by decide) (by decide) (by decide) (by decide) (fun a5 b5 kb5 T5 k5 X5 E5 hS5 hk5 hZ5 hown5 Ex5 Co5 Va5 Av5 hC5 Li5 Sa5 => ?_)
  have O5 := Old.ext O2 E5
  have C6 := CHr.trans C3 (hC5)
  show o_G p e below _ T5 (mkF m 14 #[vR b, vR x, vI B, vI A] [(.ref a5), (.ref x)])
  have Ss5 : o_Str Z T5.heap a5 b5 o_star := ⟨Ex5, Co5, Va5, ⟨_, Av5⟩, by decide, by decide⟩
  have c7 := (o_A.ext E5 (o_A.ext E2 S_x))
  refine o_vir (y := o_m45) (b := x) (argsL := [(.ref a5)]) (S := []) (W := 0) X5 hx hZ5 hown5 (k_ 63 rfl) (k_ 64 rfl) (k_ 66 rfl) (k_ 65 rfl) (backOf (W := 0) (rmcna l Z a0 hw [] x a5 u b5 kd ds zC_ T5.heap n0 O5 c7 Ss5 hns hl1 hqq S_u SC_ hC_) hZ5 (k_ 67 rfl) (k_ 6 rfl) (by decide) (by decide)) rfl c7.1 hml (lenOf o_pd__28Ljava_2flang_2fCharSequence_3b_29Z rfl) (y_ oD72_14) (fun T8 L8 v8 X8 hQ8 => ?_)
  obtain ⟨rfl, N8q, hh8⟩ := hQ8
  have N8 := Fr.app N4 N8q
  show o_G p e below _ T8 (mkF m 17 #[vR b, vR x, vI B, vI A] [(.int 0)])
  refine o_iFF X8 hx (y_ oD72_17) ?_
  refine o_aloadN X8 hx (y_ oD72_20) rfl rfl ?_
  refine o_vir (y := o_m13) (b := x) (argsL := []) (S := []) (W := 0) X8 hx hZ5 hown5 (k_ 95 rfl) (k_ 96 rfl) (k_ 98 rfl) (k_ 97 rfl) (backOf (W := 0) (rmise l Z a0 hw [] x u kd ds T5.heap n0 O5 c7 hl1) hZ5 (k_ 99 rfl) (k_ 6 rfl) (by decide) (by decide)) hh8 c7.1 hml (lenOf o_pd__28_29Z rfl) (y_ oD72_21) (fun T9 L9 v9 X9 hQ9 => ?_)
  obtain ⟨rfl, N9q, hh9⟩ := hQ9
  have N9 := Fr.app N8 N9q
  show o_G p e below _ T9 (mkF m 24 #[vR b, vR x, vI B, vI A] [(.int 0)])
  refine o_iFT (t := 72) X9 hx (y_ oD72_24) ?_
  refine o_aloadN X9 hx (y_ oD72_72) rfl rfl ?_
  refine o_aloadN X9 hx (y_ oD72_73) rfl rfl ?_
  have c10 := (Exa.ext E5 (Exa.ext E2 E_b))
  have c11 := (Fld.ext E5 (Fld.ext E2 F_k))
  refine o_putF X9 hx hZ5 hown5 (host := "") (Or.inl (k_ 100 rfl)) Via.refl hh9 c11 c10 (Or.inr ⟨(k_ 101 rfl), rfl, hnm⟩) (k_ 51 rfl) (ty := (.object "java/lang/String")) (by decide) rfl rfl (y_ oD72_74) (fun T12 h12 X12 e12 W12 => ?_)
  have F12 := Fld.same W12 c11
  have N12 := Fr.snoc X12 N9 g_b
  have O12 := Old.wr O5 W12 g_b
  have C13 := CHr.trans C6 (CHr.wr W12 (Safe.exa hZ5.alike c10 (by decide) (by decide)) C6.1)
  refine o_aloadN X12 hx (y_ oD72_77) rfl rfl ?_
  refine o_iloadN X12 hx (y_ oD72_78) rfl ?_
  have c14 := (Exa.wr W12 c10)
  have c15 := (Fld.other W12 (Fld.ext E5 (Fld.ext E2 F_b)) (Or.inr (slot_ne (Or.inr (k_ 103 rfl)) (Or.inr (k_ 101 rfl)) (by decide) (t := .boolean) (t' := (.object "java/lang/String")) (by decide) (by decide))))
  refine o_putFN (v' := (.int B)) X12 hx hZ5 hown5 (k_ 102 rfl) Via.refl e12 c15 c14 (Or.inr ⟨(k_ 103 rfl), rfl, hnm⟩) (k_ 51 rfl) (ty := .boolean) (by decide) (o_narZ hB) (o_fitZ hB) (y_ oD72_79) (fun T16 h16 X16 e16 W16 => ?_)
  have F16 := Fld.same W16 c15
  have N16 := Fr.snoc X16 N12 g_b
  have O16 := Old.wr O12 W16 g_b
  have C17 := CHr.trans C13 (CHr.wr W16 (Safe.exa hZ5.alike c14 (by decide) (by decide)) C13.1)
  refine o_aloadN X16 hx (y_ oD72_82) rfl rfl ?_
  refine o_iloadN X16 hx (y_ oD72_83) rfl ?_
  have c18 := (Exa.wr W16 c14)
  have c19 := (Fld.other W16 (Fld.other W12 (Fld.ext E5 (Fld.ext E2 F_a)) (Or.inr (slot_ne (Or.inr (k_ 105 rfl)) (Or.inr (k_ 101 rfl)) (by decide) (t := .boolean) (t' := (.object "java/lang/String")) (by decide) (by decide)))) (Or.inr (slot_ne (Or.inr (k_ 105 rfl)) (Or.inr (k_ 103 rfl)) (by decide) (t := .boolean) (t' := .boolean) (by decide) (by decide))))
  refine o_putFN (v' := (.int A)) X16 hx hZ5 hown5 (k_ 104 rfl) Via.refl e16 c19 c18 (Or.inr ⟨(k_ 105 rfl), rfl, hnm⟩) (k_ 51 rfl) (ty := .boolean) (by decide) (o_narZ hA) (o_fitZ hA) (y_ oD72_84) (fun T20 h20 X20 e20 W20 => ?_)
  have F20 := Fld.same W20 c19
  have N20 := Fr.snoc X20 N16 g_b
  have O20 := Old.wr O16 W20 g_b
  have C21 := CHr.trans C17 (CHr.wr W20 (Safe.exa hZ5.alike c18 (by decide) (by decide)) C17.1)
  have kp22 := Keep.ext (Keep.refl h0 [b]) E2
  have kp23 := Keep.ext kp22 E5
  have kp24 := Keep.wr kp23 W12 (Or.inl (List.mem_of_getElem? (i := 0) rfl))
  have kp25 := Keep.wr kp24 W16 (Or.inl (List.mem_of_getElem? (i := 0) rfl))
  have kp26 := Keep.wr kp25 W20 (Or.inl (List.mem_of_getElem? (i := 0) rfl))
  have c27 := (Exa.wr W20 c18)
  have c28 := (Fld.other W20 (Fld.other W16 F12 (Or.inr (slot_ne (Or.inr (k_ 101 rfl)) (Or.inr (k_ 103 rfl)) (by decide) (t := (.object "java/lang/String")) (t' := .boolean) (by decide) (by decide)))) (Or.inr (slot_ne (Or.inr (k_ 101 rfl)) (Or.inr (k_ 105 rfl)) (by decide) (t := (.object "java/lang/String")) (t' := .boolean) (by decide) (by decide))))
  have c29 := (Fld.other W20 F16 (Or.inr (slot_ne (Or.inr (k_ 103 rfl)) (Or.inr (k_ 105 rfl)) (by decide) (t := .boolean) (t' := .boolean) (by decide) (by decide))))
  exact o_retVH X20 hx hS5 (by rw [e20]; exact (Nat.le_trans (Nat.le_trans (Nat.le_trans hk5 (Keep.of_wr W12).1) (Keep.of_wr W16).1) (Keep.of_wr W20).1)) hZ5 hEL (by rw [e20]; exact C21) hrt hlk (y_ oD72_87) (by decide) (by decide) (o_hQ e20 ⟨rfl, N20, kp26, c27, c28, c29, F20⟩)
theorem rmct0 (hw : o_HW Z a0) (ws : o_LC) (b : Addr) (x : Addr) (u : Addr) (zC_ : Int32) (h0 : Heap) (n0 : Nat) (O0 : Old Z n0 h0) (E_b : Exa Z h0 b "org/adviceweft/pointcut/NamePattern") (F_k : o_GK Z h0 b .null) (F_b : o_GB Z h0 b (.int 0)) (F_a : o_GA Z h0 b (.int 0)) (g_b : n0 ≤ b) (S_x : o_Str Z h0 x u []) (S_u : o_SU Z) (SC_ : o_SC Z zC_) (hC_ : ¬ zC_ = 0) :
    o_MetH o_EL l Z o_m73 oJ10 4 none ws o_R55 #[(.ref b), (.ref x), (.int 1), (.int 0)] h0 (Qct0 Z b x u zC_ h0 n0) := by
  refine o_enterH o_pn_11 (fun m => o_ef39 m b x) (fun p e s m below meth c s₁ hx hby hml hZ hown hnm hlk hrt X0 e0 hS0 hk0 C0 => ?_)
  have N0 := Fr.nil n0
  have y_ := @hb _ _ hby
  have k_ := @o_k _ _ hw
  have hEL := o_EWs hw
  refine o_aloadN X0 hx (y_ oD72_0) rfl rfl ?_
  refine o_ini (y := o_m60) (b := b) (argsL := []) (S := []) (W := 0) rfl X0 hx hZ hown (k_ 56 rfl) (k_ 57 rfl) (k_ 60 rfl) (backOf (W := 0) (rmrec l Z a0 hw [] b h0 n0 O0) hZ (k_ 60 rfl) (k_ 59 rfl) (by decide) (by decide)) e0 hml (lenOf o_pd__28_29V rfl) (y_ oD72_1) (fun T1 L1 v1 X1 hQ1 => ?_)
  obtain ⟨rfl, N1q, hh1⟩ := hQ1
  have N1 := Fr.app N0 N1q
  show o_G p e below _ T1 (mkF m 4 #[vR b, vR x, vI 1, vI 0] [])
  refine o_aloadN X1 hx (y_ oD72_4) rfl rfl ?_
  refine o_ldcH (n := 16) (vs := [.int 99, .int 111, .int 114, .int 101]) (z := 4) X1 hx hZ hown (k_ 62 rfl) (fun d hd => hw d (o_strat d hd)) hh1 hS0 hk0 hEL (by decide) C0.1 ⟨by decide, by decide⟩ (by decide) (by decide) (y_ oD72_5) (by decide) (by decide) (by decide) (by decide) (fun a2 b2 kb2 T2 k2 X2 E2 hS2 hk2 hZ2 hown2 Ex2 Co2 Va2 Av2 hC2 Li2 Sa2 => ?_)
  have O2 := Old.ext O0 E2
  have C3 := CHr.trans C0 (hC2)
  show o_G p e below _ T2 (mkF m 7 #[vR b, vR x, vI 1, vI 0] [(.ref a2), (.ref x)])
  refine o_sta (y := o_m61) (argsL := [(.ref x), (.ref a2)]) (S := []) (W := 0) X2 hx hZ2 hown2 (k_ 37 rfl) (k_ 38 rfl) (k_ 39 rfl) (k_ 40 rfl) (backOf (W := 0) (rmrnn l Z a0 hw [] x a2 T2.heap n0 O2) hZ2 (k_ 40 rfl) (k_ 39 rfl) (by decide) (by decide)) rfl hml (lenOf o_pd__28Ljava_2flang_2fObject_3bLjava_2flang_2fString_3b_29Ljava_2flang_2fObject_3b rfl) (y_ oD72_7) (fun T4 L4 v4 X4 hQ4 => ?_)
  obtain ⟨rfl, N4q, hh4⟩ := hQ4
  have N4 := Fr.app N1 N4q
  show o_G p e below _ T4 (mkF m 10 #[vR b, vR x, vI 1, vI 0] [(.ref x)])
  refine o_pop X4 hx (y_ oD72_10) rfl ?_
  refine o_aloadN X4 hx (y_ oD72_11) rfl rfl ?_
  refine o_ldcH (n := 4) (vs := [.int 42]) (z := 1) X4 hx hZ2 hown2 (k_ 41 rfl) (fun d hd => hw d (o_strat d hd)) hh4 hS2 hk2 hEL (by decide) C3.1 ⟨by decide, by decide⟩ (by decide) (by decide) (y_ oD72_12) (by decide) (by decide) (by decide) (by decide) (fun a5 b5 kb5 T5 k5 X5 E5 hS5 hk5 hZ5 hown5 Ex5 Co5 Va5 Av5 hC5 Li5 Sa5 => ?_)
  have O5 := Old.ext O2 E5
  have C6 := CHr.trans C3 (hC5)
  show o_G p e below _ T5 (mkF m 14 #[vR b, vR x, vI 1, vI 0] [(.ref a5), (.ref x)])
  have Ss5 : o_Str Z T5.heap a5 b5 o_star := ⟨Ex5, Co5, Va5, ⟨_, Av5⟩, by decide, by decide⟩
  have c7 := (o_Str.ext E5 (o_Str.ext E2 S_x))
  refine o_vir (y := o_m45) (b := x) (argsL := [(.ref a5)]) (S := []) (W := 0) X5 hx hZ5 hown5 (k_ 63 rfl) (k_ 64 rfl) (k_ 66 rfl) (k_ 65 rfl) (backOf (W := 0) (rmcnl0 l Z a0 hw [] x a5 u b5 zC_ T5.heap n0 O5 c7 Ss5 SC_ hC_) hZ5 (k_ 67 rfl) (k_ 6 rfl) (by decide) (by decide)) rfl c7.1 hml (lenOf o_pd__28Ljava_2flang_2fCharSequence_3b_29Z rfl) (y_ oD72_14) (fun T8 L8 v8 X8 hQ8 => ?_)
  obtain ⟨rfl, N8q, hh8⟩ := hQ8
  have N8 := Fr.app N4 N8q
  show o_G p e below _ T8 (mkF m 17 #[vR b, vR x, vI 1, vI 0] [(.int 0)])
  refine o_iFF X8 hx (y_ oD72_17) ?_
  refine o_aloadN X8 hx (y_ oD72_20) rfl rfl ?_
  refine o_vir (y := o_m13) (b := x) (argsL := []) (S := []) (W := 0) X8 hx hZ5 hown5 (k_ 95 rfl) (k_ 96 rfl) (k_ 98 rfl) (k_ 97 rfl) (backOf (W := 0) (rmis0 l Z a0 hw [] x u T5.heap n0 O5 c7) hZ5 (k_ 99 rfl) (k_ 6 rfl) (by decide) (by decide)) hh8 c7.1 hml (lenOf o_pd__28_29Z rfl) (y_ oD72_21) (fun T9 L9 v9 X9 hQ9 => ?_)
  obtain ⟨rfl, N9q, hh9⟩ := hQ9
  have N9 := Fr.app N8 N9q
  show o_G p e below _ T9 (mkF m 24 #[vR b, vR x, vI 1, vI 0] [(.int 1)])
  refine o_iFF X9 hx (y_ oD72_24) ?_
  refine o_iloadN X9 hx (y_ oD72_27) rfl ?_
  refine o_iFF X9 hx (y_ oD72_28) ?_
  refine o_iloadN X9 hx (y_ oD72_31) rfl ?_
  refine o_iFT (t := 72) X9 hx (y_ oD72_32) ?_
  refine o_aloadN X9 hx (y_ oD72_72) rfl rfl ?_
  refine o_aloadN X9 hx (y_ oD72_73) rfl rfl ?_
  have c10 := (Exa.ext E5 (Exa.ext E2 E_b))
  have c11 := (Fld.ext E5 (Fld.ext E2 F_k))
  refine o_putF X9 hx hZ5 hown5 (host := "") (Or.inl (k_ 100 rfl)) Via.refl hh9 c11 c10 (Or.inr ⟨(k_ 101 rfl), rfl, hnm⟩) (k_ 51 rfl) (ty := (.object "java/lang/String")) (by decide) rfl rfl (y_ oD72_74) (fun T12 h12 X12 e12 W12 => ?_)
  have F12 := Fld.same W12 c11
  have N12 := Fr.snoc X12 N9 g_b
  have O12 := Old.wr O5 W12 g_b
  have C13 := CHr.trans C6 (CHr.wr W12 (Safe.exa hZ5.alike c10 (by decide) (by decide)) C6.1)
  refine o_aloadN X12 hx (y_ oD72_77) rfl rfl ?_
  refine o_iloadN X12 hx (y_ oD72_78) rfl ?_
  have c14 := (Exa.wr W12 c10)
  have c15 := (Fld.other W12 (Fld.ext E5 (Fld.ext E2 F_b)) (Or.inr (slot_ne (Or.inr (k_ 103 rfl)) (Or.inr (k_ 101 rfl)) (by decide) (t := .boolean) (t' := (.object "java/lang/String")) (by decide) (by decide))))
  refine o_putFN (v' := (.int 1)) X12 hx hZ5 hown5 (k_ 102 rfl) Via.refl e12 c15 c14 (Or.inr ⟨(k_ 103 rfl), rfl, hnm⟩) (k_ 51 rfl) (ty := .boolean) (by decide) rfl rfl (y_ oD72_79) (fun T16 h16 X16 e16 W16 => ?_)
  have F16 := Fld.same W16 c15
  have N16 := Fr.snoc X16 N12 g_b
  have O16 := Old.wr O12 W16 g_b
  have C17 := CHr.trans C13 (CHr.wr W16 (Safe.exa hZ5.alike c14 (by decide) (by decide)) C13.1)
  refine o_aloadN X16 hx (y_ oD72_82) rfl rfl ?_
  refine o_iloadN X16 hx (y_ oD72_83) rfl ?_
  have c18 := (Exa.wr W16 c14)
  have c19 := (Fld.other W16 (Fld.other W12 (Fld.ext E5 (Fld.ext E2 F_a)) (Or.inr (slot_ne (Or.inr (k_ 105 rfl)) (Or.inr (k_ 101 rfl)) (by decide) (t := .boolean) (t' := (.object "java/lang/String")) (by decide) (by decide)))) (Or.inr (slot_ne (Or.inr (k_ 105 rfl)) (Or.inr (k_ 103 rfl)) (by decide) (t := .boolean) (t' := .boolean) (by decide) (by decide))))
  refine o_putFN (v' := (.int 0)) X16 hx hZ5 hown5 (k_ 104 rfl) Via.refl e16 c19 c18 (Or.inr ⟨(k_ 105 rfl), rfl, hnm⟩) (k_ 51 rfl) (ty := .boolean) (by decide) rfl rfl (y_ oD72_84) (fun T20 h20 X20 e20 W20 => ?_)
  have F20 := Fld.same W20 c19
  have N20 := Fr.snoc X20 N16 g_b
  have O20 := Old.wr O16 W20 g_b
  have C21 := CHr.trans C17 (CHr.wr W20 (Safe.exa hZ5.alike c18 (by decide) (by decide)) C17.1)
  have kp22 := Keep.ext (Keep.refl h0 [b]) E2
  have kp23 := Keep.ext kp22 E5
  have kp24 := Keep.wr kp23 W12 (Or.inl (List.mem_of_getElem? (i := 0) rfl))
  have kp25 := Keep.wr kp24 W16 (Or.inl (List.mem_of_getElem? (i := 0) rfl))
  have kp26 := Keep.wr kp25 W20 (Or.inl (List.mem_of_getElem? (i := 0) rfl))
  have c27 := (Exa.wr W20 c18)
  have c28 := (Fld.other W20 (Fld.other W16 F12 (Or.inr (slot_ne (Or.inr (k_ 101 rfl)) (Or.inr (k_ 103 rfl)) (by decide) (t := (.object "java/lang/String")) (t' := .boolean) (by decide) (by decide)))) (Or.inr (slot_ne (Or.inr (k_ 101 rfl)) (Or.inr (k_ 105 rfl)) (by decide) (t := (.object "java/lang/String")) (t' := .boolean) (by decide) (by decide))))
  have c29 := (Fld.other W20 F16 (Or.inr (slot_ne (Or.inr (k_ 103 rfl)) (Or.inr (k_ 105 rfl)) (by decide) (t := .boolean) (t' := .boolean) (by decide) (by decide))))
  exact o_retVH X20 hx hS5 (by rw [e20]; exact (Nat.le_trans (Nat.le_trans (Nat.le_trans hk5 (Keep.of_wr W12).1) (Keep.of_wr W16).1) (Keep.of_wr W20).1)) hZ5 hEL (by rw [e20]; exact C21) hrt hlk (y_ oD72_87) (by decide) (by decide) (o_hQ e20 ⟨rfl, N20, kp26, c27, c28, c29, F20⟩)
theorem rmpas (hw : o_HW Z a0) (ws : o_LC) (x : Addr) (t : Addr) (kd : Int32) (zC_ : Int32) (h0 : Heap) (n0 : Nat) (O0 : Old Z n0 h0) (S_x : o_A Z h0 x t kd [42]) (S_u : o_SU Z) (SC_ : o_SC Z zC_) (hC_ : ¬ zC_ = 0) :
    o_MetH o_EL l Z o_m74 oJ1 4 (some (.object "org/adviceweft/pointcut/NamePattern")) ws o_R56 #[(.ref x)] h0 (Qpas Z x t kd zC_ h0 n0) := by
  refine o_enterH o_pn_11 (fun m => o_ef40 m x) (fun p e s m below meth c s₁ hx hby hml hZ hown hnm hlk hrt X0 e0 hS0 hk0 C0 => ?_)
  have N0 := Fr.nil n0
  have y_ := @hb _ _ hby
  have k_ := @o_k _ _ hw
  have hEL := o_EWs hw
  refine o_aloadN X0 hx (y_ oD73_0) rfl rfl ?_
  refine o_ldcH (n := 28) (vs := [.int 112, .int 97, .int 116, .int 116, .int 101, .int 114, .int 110]) (z := 7) X0 hx hZ hown (k_ 34 rfl) (fun d hd => hw d (o_strat d hd)) e0 hS0 hk0 hEL (by decide) C0.1 ⟨by decide, by decide⟩ (by decide) (by decide) (y_ oD73_1) (by decide) (by decide) (by decide) (by decide) (fun a1 b1 kb1 T1 k1 X1 E1 hS1 hk1 hZ1 hown1 Ex1 Co1 Va1 Av1 hC1 Li1 Sa1 => ?_)
  have O1 := Old.ext O0 E1
  have C2 := CHr.trans C0 (hC1)
  show o_G p e below _ T1 (mkF m 3 #[vR x, .unset, .unset, .unset] [(.ref a1), (.ref x)])
  refine o_sta (y := o_m61) (argsL := [(.ref x), (.ref a1)]) (S := []) (W := 0) X1 hx hZ1 hown1 (k_ 37 rfl) (k_ 38 rfl) (k_ 39 rfl) (k_ 40 rfl) (backOf (W := 0) (rmrnn l Z a0 hw [] x a1 T1.heap n0 O1) hZ1 (k_ 40 rfl) (k_ 39 rfl) (by decide) (by decide)) rfl hml (lenOf o_pd__28Ljava_2flang_2fObject_3bLjava_2flang_2fString_3b_29Ljava_2flang_2fObject_3b rfl) (y_ oD73_3) (fun T3 L3 v3 X3 hQ3 => ?_)
  obtain ⟨rfl, N3q, hh3⟩ := hQ3
  have N3 := Fr.app N0 N3q
  show o_G p e below _ T3 (mkF m 6 #[vR x, .unset, .unset, .unset] [(.ref x)])
  refine o_pop X3 hx (y_ oD73_6) rfl ?_
  refine o_aloadN X3 hx (y_ oD73_7) rfl rfl ?_
  refine o_ldcH (n := 4) (vs := [.int 42]) (z := 1) X3 hx hZ1 hown1 (k_ 41 rfl) (fun d hd => hw d (o_strat d hd)) hh3 hS1 hk1 hEL (by decide) C2.1 ⟨by decide, by decide⟩ (by decide) (by decide) (y_ oD73_8) (by decide) (by decide) (by decide) (by decide) (fun a4 b4 kb4 T4 k4 X4 E4 hS4 hk4 hZ4 hown4 Ex4 Co4 Va4 Av4 hC4 Li4 Sa4 => ?_)
  have O4 := Old.ext O1 E4
  have C5 := CHr.trans C2 (hC4)
  show o_G p e below _ T4 (mkF m 10 #[vR x, .unset, .unset, .unset] [(.ref a4), (.ref x)])
  have Ss4 : o_Str Z T4.heap a4 b4 o_star := ⟨Ex4, Co4, Va4, ⟨_, Av4⟩, by decide, by decide⟩
  have Sb6 := Ss4.asA (by decide)
  have c7 := (o_A.ext E4 (o_A.ext E1 S_x))
  refine o_vir (y := o_m15) (b := x) (argsL := [(.ref a4)]) (S := []) (W := 0) X4 hx hZ4 hown4 (k_ 42 rfl) (k_ 43 rfl) (k_ 45 rfl) (k_ 44 rfl) (backOf (W := 0) (rmeqs l Z a0 hw [] x a4 t b4 kd 0 ([42] : List Int32) zC_ T4.heap n0 O4 c7 Sb6 SC_ hC_) hZ4 (k_ 46 rfl) (k_ 6 rfl) (by decide) (by decide)) rfl c7.1 hml (lenOf o_pd__28Ljava_2flang_2fObject_3b_29Z rfl) (y_ oD73_10) (fun T8 L8 v8 X8 hQ8 => ?_)
  obtain ⟨rfl, N8q, hh8⟩ := hQ8
  have N8 := Fr.app N3 N8q
  show o_G p e below _ T8 (mkF m 13 #[vR x, .unset, .unset, .unset] [(.int 1)])
  refine o_iFF X8 hx (y_ oD73_13) ?_
  refine o_new X8 hx hZ4 hown4 (k_ 50 rfl) (k_ 51 rfl) (k_ 32 rfl) hh8 (y_ oD73_16) (by decide) (by decide) (fun T9 h9 b9 X9 e9 gg9 E9 A9 D9 => ?_)
  have g_b9 := o_fresh O4 gg9
  have O9 := Old.ext O4 E9
  have C10 := CHr.trans C5 (CHr.ext E9 C5.1)
  have F9_core : o_GK Z h9 b9 .null := D9 (Or.inr (k_ 101 rfl)) (ty := (.object "java/lang/String")) (by decide)
  have F9_anyBefore : o_GB Z h9 b9 (.int 0) := D9 (Or.inr (k_ 103 rfl)) (ty := .boolean) (by decide)
  have F9_anyAfter : o_GA Z h9 b9 (.int 0) := D9 (Or.inr (k_ 105 rfl)) (ty := .boolean) (by decide)
  refine o_dup X9 hx (y_ oD73_19) rfl ?_
  refine o_ldcH (n := 0) (vs := []) (z := 0) X9 hx hZ4 hown4 (k_ 52 rfl) (fun d hd => hw d (o_strat d hd)) e9 hS4 (Nat.le_trans hk4 E9.1) hEL (by decide) C10.1 ⟨by decide, by decide⟩ (by decide) (by decide) (y_ oD73_20) (by decide) (by decide) (by decide) (by decide) (fun a11 b11 kb11 T11 k11 X11 E11 hS11 hk11 hZ11 hown11 Ex11 Co11 Va11 Av11 hC11 Li11 Sa11 => ?_)
  have O11 := Old.ext O9 E11
  have C12 := CHr.trans C10 (hC11)
  show o_G p e below _ T11 (mkF m 22 #[vR x, .unset, .unset, .unset] [(.ref a11), (.ref b9), (.ref b9)])
  have Ss11 : o_Str Z T11.heap a11 b11 ([] : List Int32) := ⟨Ex11, Co11, Va11, ⟨_, Av11⟩, by decide, by decide⟩
  refine o_iconst X11 hx (y_ oD73_22) (x := 1) rfl ?_
  refine o_iconst X11 hx (y_ oD73_23) (x := 0) rfl ?_
  have c13 := (Exa.ext E11 A9)
  have c14 := (Fld.ext E11 F9_core)
  have c15 := (Fld.ext E11 F9_anyBefore)
  have c16 := (Fld.ext E11 F9_anyAfter)
  refine o_initH (y := o_m73) (b := b9) (argsL := [(.ref a11), (.int 1), (.int 0)]) (S := [(.ref b9)]) (W := 1) rfl X11 hx hZ11 hS11 hown11 (k_ 53 rfl) (k_ 54 rfl) (k_ 55 rfl) (by decide) (backOfSH (W := 1) (rmct0 l Z a0 hw [] b9 a11 b11 zC_ T11.heap n0 O11 c13 c14 c15 c16 g_b9 Ss11 S_u SC_ hC_) hZ11 (k_ 55 rfl) (k_ 32 rfl) (by decide) (by decide) hEL C12.1) rfl hk11 (by rw [hml]; rfl) (lenOf o_pd__28Ljava_2flang_2fString_3bZZ_29V rfl) rfl (Nat.le_of_eq rfl) (y_ oD73_24) (by decide) (by decide) (fun T17 L17 v17 k17 X17 hS17 hk17 hZ17 hown17 hQ17 hC17 => ?_)
  obtain ⟨rfl, N17q, Kp17, Ex17, Fk17, Fb17, Fa17⟩ := hQ17
  have N17 := Fr.app N8 N17q
  have O18 := Old.keep O11 Kp17 (allS g_b9 all0)
  have C19 := CHr.trans C12 (hC17)
  show o_G p e below _ T17 (mkF m 27 #[vR x, .unset, .unset, .unset] [(.ref b9)])
  have kp20 := Keep.ext (Keep.refl h0 []) E1
  have kp21 := Keep.ext kp20 E4
  have kp22 := Keep.ext kp21 E9
  have kp23 := Keep.ext kp22 E11
  have kp24 := Keep.trans kp23 Kp17 (allS (Or.inr (Nat.le_trans kp21.1 (Nat.le_of_eq gg9.symm))) all0)
  have c25 := (o_Str.keep Ss11 Kp17 (ninS (Exa.ne Ex11 c13 (by decide)) nin0) (ninS (Ne.symm (Exa.neArv c13 Av11 (k_ 51 rfl))) nin0))
  exact o_retAH X17 hx hS17 hk17 hZ17 hEL (by exact C19) hrt hlk rfl rfl rfl (y_ oD73_27) (by decide) (by decide) ⟨b9, a11, b11, 0, rfl, N17, kp24, g_b9, (Nat.le_trans kp21.1 (Nat.le_of_eq gg9.symm)), Ex17, Fk17, Fb17, Fa17, (c25.asA (by decide))⟩
theorem rmpa00 (hw : o_HW Z a0) (ws : o_LC) (x : Addr) (t : Addr) (kd : Int32) (ds : List Int32) (fm : Value) (zC_ : Int32) (h0 : Heap) (n0 : Nat) (O0 : Old Z n0 h0) (S_x : o_A Z h0 x t kd ds) (hns : o_ns ds) (hl1 : 1 ≤ ds.length) (hqq : ds.length ≤ 3) (S_u : o_SU Z) (S_f : o_SF Z fm) (hfm : fm.isRef = true) (SC_ : o_SC Z zC_) (hC_ : ¬ zC_ = 0) :
    o_MetH o_EL l Z o_m74 oJ1 4 (some (.object "org/adviceweft/pointcut/NamePattern")) ws o_R57 #[(.ref x)] h0 (Qpa00 Z x t kd ds fm zC_ h0 n0) := by
  refine o_enterH o_pn_11 (fun m => o_ef40 m x) (fun p e s m below meth c s₁ hx hby hml hZ hown hnm hlk hrt X0 e0 hS0 hk0 C0 => ?_)
  have N0 := Fr.nil n0
  have y_ := @hb _ _ hby
  have k_ := @o_k _ _ hw
  have hEL := o_EWs hw
  refine o_aloadN X0 hx (y_ oD73_0) rfl rfl ?_
  refine o_ldcH (n := 28) (vs := [.int 112, .int 97, .int 116, .int 116, .int 101, .int 114, .int 110]) (z := 7) X0 hx hZ hown (k_ 34 rfl) (fun d hd => hw d (o_strat d hd)) e0 hS0 hk0 hEL (by decide) C0.1 ⟨by decide, by decide⟩ (by decide) (by decide) (y_ oD73_1) (by decide) (by decide) (by decide) (by decide) (fun a1 b1 kb1 T1 k1 X1 E1 hS1 hk1 hZ1 hown1 Ex1 Co1 Va1 Av1 hC1 Li1 Sa1 => ?_)
  have O1 := Old.ext O0 E1
  have C2 := CHr.trans C0 (hC1)
  show o_G p e below _ T1 (mkF m 3 #[vR x, .unset, .unset, .unset] [(.ref a1), (.ref x)])
  refine o_sta (y := o_m61) (argsL := [(.ref x), (.ref a1)]) (S := []) (W := 0) X1 hx hZ1 hown1 (k_ 37 rfl) (k_ 38 rfl) (k_ 39 rfl) (k_ 40 rfl) (backOf (W := 0) (rmrnn l Z a0 hw [] x a1 T1.heap n0 O1) hZ1 (k_ 40 rfl) (k_ 39 rfl) (by decide) (by decide)) rfl hml (lenOf o_pd__28Ljava_2flang_2fObject_3bLjava_2flang_2fString_3b_29Ljava_2flang_2fObject_3b rfl) (y_ oD73_3) (fun T3 L3 v3 X3 hQ3 => ?_)
  obtain ⟨rfl, N3q, hh3⟩ := hQ3
  have N3 := Fr.app N0 N3q
  show o_G p e below _ T3 (mkF m 6 #[vR x, .unset, .unset, .unset] [(.ref x)])
  refine o_pop X3 hx (y_ oD73_6) rfl ?_
  refine o_aloadN X3 hx (y_ oD73_7) rfl rfl ?_
  refine o_ldcH (n := 4) (vs := [.int 42]) (z := 1) X3 hx hZ1 hown1 (k_ 41 rfl) (fun d hd => hw d (o_strat d hd)) hh3 hS1 hk1 hEL (by decide) C2.1 ⟨by decide, by decide⟩ (by decide) (by decide) (y_ oD73_8) (by decide) (by decide) (by decide) (by decide) (fun a4 b4 kb4 T4 k4 X4 E4 hS4 hk4 hZ4 hown4 Ex4 Co4 Va4 Av4 hC4 Li4 Sa4 => ?_)
  have O4 := Old.ext O1 E4
  have C5 := CHr.trans C2 (hC4)
  show o_G p e below _ T4 (mkF m 10 #[vR x, .unset, .unset, .unset] [(.ref a4), (.ref x)])
  have Ss4 : o_Str Z T4.heap a4 b4 o_star := ⟨Ex4, Co4, Va4, ⟨_, Av4⟩, by decide, by decide⟩
  have c6 := (o_A.ext E4 (o_A.ext E1 S_x))
  refine o_vir (y := o_m15) (b := x) (argsL := [(.ref a4)]) (S := []) (W := 0) X4 hx hZ4 hown4 (k_ 42 rfl) (k_ 43 rfl) (k_ 45 rfl) (k_ 44 rfl) (backOf (W := 0) (rmeqd l Z a0 hw [] x a4 t b4 kd ds zC_ T4.heap n0 O4 c6 Ss4 (o_neD hns) SC_ hC_) hZ4 (k_ 46 rfl) (k_ 6 rfl) (by decide) (by decide)) rfl c6.1 hml (lenOf o_pd__28Ljava_2flang_2fObject_3b_29Z rfl) (y_ oD73_10) (fun T7 L7 v7 X7 hQ7 => ?_)
  obtain ⟨rfl, N7q, hh7⟩ := hQ7
  have N7 := Fr.app N3 N7q
  show o_G p e below _ T7 (mkF m 13 #[vR x, .unset, .unset, .unset] [(.int 0)])
  refine o_iFT (t := 28) X7 hx (y_ oD73_13) ?_
  refine o_aloadN X7 hx (y_ oD73_28) rfl rfl ?_
  refine o_ldcA X7 hx hZ4 hown4 (k_ 41 rfl) Li4 (y_ oD73_29) ?_
  refine o_vir (y := o_m18) (b := x) (argsL := [(.ref a4)]) (S := []) (W := 0) X7 hx hZ4 hown4 (k_ 255 rfl) (k_ 256 rfl) (k_ 258 rfl) (k_ 257 rfl) (backOf (W := 0) (rmsta l Z a0 hw [] x a4 t b4 kd ds zC_ T4.heap n0 O4 c6 Ss4 hl1 S_u SC_ hC_) hZ4 (k_ 259 rfl) (k_ 6 rfl) (by decide) (by decide)) hh7 c6.1 hml (lenOf o_pd__28Ljava_2flang_2fString_3b_29Z rfl) (y_ oD73_31) (fun T9 L9 v9 X9 hQ9 => ?_)
  obtain ⟨rfl, N9q, hh9⟩ := hQ9
  have N9 := Fr.app N7 N9q
  show o_G p e below _ T9 (mkF m 34 #[vR x, .unset, .unset, .unset] [(.int (if ds.getD 0 0 = 42 then 1 else 0 : Int32))])
  refine o_valE (z := 0) (if_neg (o_h43 hns hl1)) ?_
  refine o_istoreN X9 hx (y_ oD73_34) (A' := #[vR x, vI 0, .unset, .unset]) rfl ?_
  refine o_aloadN X9 hx (y_ oD73_35) rfl rfl ?_
  refine o_ldcA X9 hx hZ4 hown4 (k_ 41 rfl) Li4 (y_ oD73_36) ?_
  refine o_vir (y := o_m19) (b := x) (argsL := [(.ref a4)]) (S := []) (W := 0) X9 hx hZ4 hown4 (k_ 270 rfl) (k_ 271 rfl) (k_ 273 rfl) (k_ 272 rfl) (backOf (W := 0) (rmena l Z a0 hw [] x a4 t b4 kd ds zC_ T4.heap n0 O4 c6 Ss4 hl1 S_u SC_ hC_) hZ4 (k_ 274 rfl) (k_ 6 rfl) (by decide) (by decide)) hh9 c6.1 hml (lenOf o_pd__28Ljava_2flang_2fString_3b_29Z rfl) (y_ oD73_38) (fun T11 L11 v11 X11 hQ11 => ?_)
  obtain ⟨rfl, N11q, hh11⟩ := hQ11
  have N11 := Fr.app N9 N11q
  show o_G p e below _ T11 (mkF m 41 #[vR x, vI 0, .unset, .unset] [(.int (if ds.getD (ds.length - 1) 0 = 42 then 1 else 0 : Int32))])
  refine o_valE (z := 0) (if_neg (o_l43 hns hl1)) ?_
  refine o_istoreN X11 hx (y_ oD73_41) (A' := #[vR x, vI 0, vI 0, .unset]) rfl ?_
  refine o_aloadN X11 hx (y_ oD73_42) rfl rfl ?_
  refine o_iloadN X11 hx (y_ oD73_43) rfl ?_
  refine o_iFT (t := 51) X11 hx (y_ oD73_44) ?_
  refine o_iconst X11 hx (y_ oD73_51) (x := 0) rfl ?_
  refine o_aloadN X11 hx (y_ oD73_52) rfl rfl ?_
  refine o_vir (y := o_m6) (b := x) (argsL := []) (S := [(.int 0), (.ref x)]) (W := 2) X11 hx hZ4 hown4 (k_ 275 rfl) (k_ 159 rfl) (k_ 161 rfl) (k_ 160 rfl) (backOf (W := 2) (rmlna l Z a0 hw [] x t kd ds zC_ T4.heap n0 O4 c6 SC_ hC_) hZ4 (k_ 162 rfl) (k_ 6 rfl) (by decide) (by decide)) hh11 c6.1 hml (lenOf o_pd__28_29I rfl) (y_ oD73_53) (fun T12 L12 v12 X12 hQ12 => ?_)
  obtain ⟨rfl, N12q, hh12⟩ := hQ12
  have N12 := Fr.app N11 N12q
  show o_G p e below _ T12 (mkF m 56 #[vR x, vI 0, vI 0, .unset] [(.int (Int32.ofNat ds.length)), (.int 0), (.ref x)])
  refine o_iloadN X12 hx (y_ oD73_56) rfl ?_
  refine o_iFT (t := 64) X12 hx (y_ oD73_57) ?_
  refine o_iconst X12 hx (y_ oD73_64) (x := 0) rfl ?_
  refine o_isub X12 hx (y_ oD73_65) ?_
  refine o_valE (z := Int32.ofNat ds.length) (Int32.sub_zero _) ?_
  refine o_vir (y := o_m36) (b := x) (argsL := [(.int 0), (.int (Int32.ofNat ds.length))]) (S := []) (W := 0) X12 hx hZ4 hown4 (k_ 276 rfl) (k_ 277 rfl) (k_ 279 rfl) (k_ 278 rfl) (backOf (W := 0) (rmsbo l Z a0 hw [] x (Int32.ofNat ds.length) t kd ds fm zC_ T4.heap n0 O4 c6 rfl S_f hfm SC_ hC_) hZ4 (k_ 280 rfl) (k_ 6 rfl) (by decide) (by decide)) hh12 c6.1 hml (lenOf o_pd__28II_29Ljava_2flang_2fString_3b rfl) (y_ oD73_66) (fun T13 L13 v13 X13 hQ13 => ?_)
  obtain ⟨rfl, N13q, hh13⟩ := hQ13
  have N13 := Fr.app N12 N13q
  show o_G p e below _ T13 (mkF m 69 #[vR x, vI 0, vI 0, .unset] [(.ref x)])
  refine o_astoreN X13 hx (y_ oD73_69) rfl (A' := #[vR x, vI 0, vI 0, vR x]) rfl ?_
  refine o_new X13 hx hZ4 hown4 (k_ 50 rfl) (k_ 51 rfl) (k_ 32 rfl) hh13 (y_ oD73_70) (by decide) (by decide) (fun T14 h14 b14 X14 e14 gg14 E14 A14 D14 => ?_)
  have g_b14 := o_fresh O4 gg14
  have O14 := Old.ext O4 E14
  have C15 := CHr.trans C5 (CHr.ext E14 C5.1)
  have F14_core : o_GK Z h14 b14 .null := D14 (Or.inr (k_ 101 rfl)) (ty := (.object "java/lang/String")) (by decide)
  have F14_anyBefore : o_GB Z h14 b14 (.int 0) := D14 (Or.inr (k_ 103 rfl)) (ty := .boolean) (by decide)
  have F14_anyAfter : o_GA Z h14 b14 (.int 0) := D14 (Or.inr (k_ 105 rfl)) (ty := .boolean) (by decide)
  refine o_dup X14 hx (y_ oD73_73) rfl ?_
  refine o_aloadN X14 hx (y_ oD73_74) rfl rfl ?_
  refine o_iloadN X14 hx (y_ oD73_75) rfl ?_
  refine o_iloadN X14 hx (y_ oD73_76) rfl ?_
  have c16 := (o_A.ext E14 c6)
  refine o_initH (y := o_m73) (b := b14) (argsL := [(.ref x), (.int 0), (.int 0)]) (S := [(.ref b14)]) (W := 1) rfl X14 hx hZ4 hS4 hown4 (k_ 53 rfl) (k_ 54 rfl) (k_ 55 rfl) (by decide) (backOfSH (W := 1) (rmcta l Z a0 hw [] b14 x (0 : Int32) (0 : Int32) t kd ds zC_ h14 n0 O14 A14 F14_core F14_anyBefore F14_anyAfter g_b14 c16 hns hl1 hqq (by decide) (by decide) S_u SC_ hC_) hZ4 (k_ 55 rfl) (k_ 32 rfl) (by decide) (by decide) hEL C15.1) e14 (Nat.le_trans hk4 E14.1) (by rw [hml]; rfl) (lenOf o_pd__28Ljava_2flang_2fString_3bZZ_29V rfl) rfl (Nat.le_of_eq rfl) (y_ oD73_77) (by decide) (by decide) (fun T17 L17 v17 k17 X17 hS17 hk17 hZ17 hown17 hQ17 hC17 => ?_)
  obtain ⟨rfl, N17q, Kp17, Ex17, Fk17, Fb17, Fa17⟩ := hQ17
  have N17 := Fr.app N13 N17q
  have O18 := Old.keep O14 Kp17 (allS g_b14 all0)
  have C19 := CHr.trans C15 (hC17)
  show o_G p e below _ T17 (mkF m 80 #[vR x, vI 0, vI 0, vR x] [(.ref b14)])
  have kp20 := Keep.ext (Keep.refl h0 []) E1
  have kp21 := Keep.ext kp20 E4
  have kp22 := Keep.ext kp21 E14
  have kp23 := Keep.trans kp22 Kp17 (allS (Or.inr (Nat.le_trans kp21.1 (Nat.le_of_eq gg14.symm))) all0)
  have c24 := (o_A.keep c16 Kp17 (ninS (o_ng c6.lt gg14) nin0) (ninS (o_ng c6.lt2 gg14) nin0))
  exact o_retAH X17 hx hS17 hk17 hZ17 hEL (by exact C19) hrt hlk rfl rfl rfl (y_ oD73_80) (by decide) (by decide) ⟨b14, x, t, kd, rfl, N17, kp23, g_b14, (Nat.le_trans kp21.1 (Nat.le_of_eq gg14.symm)), Ex17, Fk17, Fb17, Fa17, c24⟩
theorem rmpa01 (hw : o_HW Z a0) (ws : o_LC) (x : Addr) (t : Addr) (kd : Int32) (ds : List Int32) (fm : Value) (zC_ : Int32) (h0 : Heap) (n0 : Nat) (O0 : Old Z n0 h0) (S_x : o_A Z h0 x t kd (([] : List Int32) ++ ds ++ ([42] : List Int32))) (hns : o_ns ds) (hl1 : 1 ≤ ds.length) (hqq : ds.length ≤ 3) (S_u : o_SU Z) (S_f : o_SF Z fm) (hfm : fm.isRef = true) (SC_ : o_SC Z zC_) (hC_ : ¬ zC_ = 0) :
    o_MetH o_EL l Z o_m74 oJ1 4 (some (.object "org/adviceweft/pointcut/NamePattern")) ws o_R57 #[(.ref x)] h0 (Qpa01 Z x t kd ds fm zC_ h0 n0) := by
  refine o_enterH o_pn_11 (fun m => o_ef40 m x) (fun p e s m below meth c s₁ hx hby hml hZ hown hnm hlk hrt X0 e0 hS0 hk0 C0 => ?_)
  have N0 := Fr.nil n0
  have y_ := @hb _ _ hby
  have k_ := @o_k _ _ hw
  have hEL := o_EWs hw
  refine o_aloadN X0 hx (y_ oD73_0) rfl rfl ?_
  refine o_ldcH (n := 28) (vs := [.int 112, .int 97, .int 116, .int 116, .int 101, .int 114, .int 110]) (z := 7) X0 hx hZ hown (k_ 34 rfl) (fun d hd => hw d (o_strat d hd)) e0 hS0 hk0 hEL (by decide) C0.1 ⟨by decide, by decide⟩ (by decide) (by decide) (y_ oD73_1) (by decide) (by decide) (by decide) (by decide) (fun a1 b1 kb1 T1 k1 X1 E1 hS1 hk1 hZ1 hown1 Ex1 Co1 Va1 Av1 hC1 Li1 Sa1 => ?_)
  have O1 := Old.ext O0 E1
  have C2 := CHr.trans C0 (hC1)
  show o_G p e below _ T1 (mkF m 3 #[vR x, .unset, .unset, .unset] [(.ref a1), (.ref x)])
  refine o_sta (y := o_m61) (argsL := [(.ref x), (.ref a1)]) (S := []) (W := 0) X1 hx hZ1 hown1 (k_ 37 rfl) (k_ 38 rfl) (k_ 39 rfl) (k_ 40 rfl) (backOf (W := 0) (rmrnn l Z a0 hw [] x a1 T1.heap n0 O1) hZ1 (k_ 40 rfl) (k_ 39 rfl) (by decide) (by decide)) rfl hml (lenOf o_pd__28Ljava_2flang_2fObject_3bLjava_2flang_2fString_3b_29Ljava_2flang_2fObject_3b rfl) (y_ oD73_3) (fun T3 L3 v3 X3 hQ3 => ?_)
  obtain ⟨rfl, N3q, hh3⟩ := hQ3
  have N3 := Fr.app N0 N3q
  show o_G p e below _ T3 (mkF m 6 #[vR x, .unset, .unset, .unset] [(.ref x)])
  refine o_pop X3 hx (y_ oD73_6) rfl ?_
  refine o_aloadN X3 hx (y_ oD73_7) rfl rfl ?_
  refine o_ldcH (n := 4) (vs := [.int 42]) (z := 1) X3 hx hZ1 hown1 (k_ 41 rfl) (fun d hd => hw d (o_strat d hd)) hh3 hS1 hk1 hEL (by decide) C2.1 ⟨by decide, by decide⟩ (by decide) (by decide) (y_ oD73_8) (by decide) (by decide) (by decide) (by decide) (fun a4 b4 kb4 T4 k4 X4 E4 hS4 hk4 hZ4 hown4 Ex4 Co4 Va4 Av4 hC4 Li4 Sa4 => ?_)
  have O4 := Old.ext O1 E4
  have C5 := CHr.trans C2 (hC4)
  show o_G p e below _ T4 (mkF m 10 #[vR x, .unset, .unset, .unset] [(.ref a4), (.ref x)])
  have Ss4 : o_Str Z T4.heap a4 b4 o_star := ⟨Ex4, Co4, Va4, ⟨_, Av4⟩, by decide, by decide⟩
  have c6 := (o_A.ext E4 (o_A.ext E1 S_x))
  refine o_vir (y := o_m15) (b := x) (argsL := [(.ref a4)]) (S := []) (W := 0) X4 hx hZ4 hown4 (k_ 42 rfl) (k_ 43 rfl) (k_ 45 rfl) (k_ 44 rfl) (backOf (W := 0) (rmeqd l Z a0 hw [] x a4 t b4 kd (([] : List Int32) ++ ds ++ ([42] : List Int32)) zC_ T4.heap n0 O4 c6 Ss4 (o_neP hns hl1) SC_ hC_) hZ4 (k_ 46 rfl) (k_ 6 rfl) (by decide) (by decide)) rfl c6.1 hml (lenOf o_pd__28Ljava_2flang_2fObject_3b_29Z rfl) (y_ oD73_10) (fun T7 L7 v7 X7 hQ7 => ?_)
  obtain ⟨rfl, N7q, hh7⟩ := hQ7
  have N7 := Fr.app N3 N7q
  show o_G p e below _ T7 (mkF m 13 #[vR x, .unset, .unset, .unset] [(.int 0)])
  refine o_iFT (t := 28) X7 hx (y_ oD73_13) ?_
  refine o_aloadN X7 hx (y_ oD73_28) rfl rfl ?_
  refine o_ldcA X7 hx hZ4 hown4 (k_ 41 rfl) Li4 (y_ oD73_29) ?_
  refine o_vir (y := o_m18) (b := x) (argsL := [(.ref a4)]) (S := []) (W := 0) X7 hx hZ4 hown4 (k_ 255 rfl) (k_ 256 rfl) (k_ 258 rfl) (k_ 257 rfl) (backOf (W := 0) (rmsta l Z a0 hw [] x a4 t b4 kd (([] : List Int32) ++ ds ++ ([42] : List Int32)) zC_ T4.heap n0 O4 c6 Ss4 (by simp only [List.length_append]; omega) S_u SC_ hC_) hZ4 (k_ 259 rfl) (k_ 6 rfl) (by decide) (by decide)) hh7 c6.1 hml (lenOf o_pd__28Ljava_2flang_2fString_3b_29Z rfl) (y_ oD73_31) (fun T9 L9 v9 X9 hQ9 => ?_)
  obtain ⟨rfl, N9q, hh9⟩ := hQ9
  have N9 := Fr.app N7 N9q
  show o_G p e below _ T9 (mkF m 34 #[vR x, .unset, .unset, .unset] [(.int (if (([] : List Int32) ++ ds ++ ([42] : List Int32)).getD 0 0 = 42 then 1 else 0 : Int32))])
  refine o_valE (z := 0) (if_neg (o_h42 hns hl1)) ?_
  refine o_istoreN X9 hx (y_ oD73_34) (A' := #[vR x, vI 0, .unset, .unset]) rfl ?_
  refine o_aloadN X9 hx (y_ oD73_35) rfl rfl ?_
  refine o_ldcA X9 hx hZ4 hown4 (k_ 41 rfl) Li4 (y_ oD73_36) ?_
  refine o_vir (y := o_m19) (b := x) (argsL := [(.ref a4)]) (S := []) (W := 0) X9 hx hZ4 hown4 (k_ 270 rfl) (k_ 271 rfl) (k_ 273 rfl) (k_ 272 rfl) (backOf (W := 0) (rmena l Z a0 hw [] x a4 t b4 kd (([] : List Int32) ++ ds ++ ([42] : List Int32)) zC_ T4.heap n0 O4 c6 Ss4 (by simp only [List.length_append]; omega) S_u SC_ hC_) hZ4 (k_ 274 rfl) (k_ 6 rfl) (by decide) (by decide)) hh9 c6.1 hml (lenOf o_pd__28Ljava_2flang_2fString_3b_29Z rfl) (y_ oD73_38) (fun T11 L11 v11 X11 hQ11 => ?_)
  obtain ⟨rfl, N11q, hh11⟩ := hQ11
  have N11 := Fr.app N9 N11q
  show o_G p e below _ T11 (mkF m 41 #[vR x, vI 0, .unset, .unset] [(.int (if (([] : List Int32) ++ ds ++ ([42] : List Int32)).getD ((([] : List Int32) ++ ds ++ ([42] : List Int32)).length - 1) 0 = 42 then 1 else 0 : Int32))])
  refine o_valE (z := 1) (if_pos (o_l42 _ _)) ?_
  refine o_istoreN X11 hx (y_ oD73_41) (A' := #[vR x, vI 0, vI 1, .unset]) rfl ?_
  refine o_aloadN X11 hx (y_ oD73_42) rfl rfl ?_
  refine o_iloadN X11 hx (y_ oD73_43) rfl ?_
  refine o_iFT (t := 51) X11 hx (y_ oD73_44) ?_
  refine o_iconst X11 hx (y_ oD73_51) (x := 0) rfl ?_
  refine o_aloadN X11 hx (y_ oD73_52) rfl rfl ?_
  refine o_vir (y := o_m6) (b := x) (argsL := []) (S := [(.int 0), (.ref x)]) (W := 2) X11 hx hZ4 hown4 (k_ 275 rfl) (k_ 159 rfl) (k_ 161 rfl) (k_ 160 rfl) (backOf (W := 2) (rmlna l Z a0 hw [] x t kd (([] : List Int32) ++ ds ++ ([42] : List Int32)) zC_ T4.heap n0 O4 c6 SC_ hC_) hZ4 (k_ 162 rfl) (k_ 6 rfl) (by decide) (by decide)) hh11 c6.1 hml (lenOf o_pd__28_29I rfl) (y_ oD73_53) (fun T12 L12 v12 X12 hQ12 => ?_)
  obtain ⟨rfl, N12q, hh12⟩ := hQ12
  have N12 := Fr.app N11 N12q
  show o_G p e below _ T12 (mkF m 56 #[vR x, vI 0, vI 1, .unset] [(.int (Int32.ofNat (([] : List Int32) ++ ds ++ ([42] : List Int32)).length)), (.int 0), (.ref x)])
  refine o_iloadN X12 hx (y_ oD73_56) rfl ?_
  refine o_iFF X12 hx (y_ oD73_57) ?_
  refine o_iconst X12 hx (y_ oD73_60) (x := 1) rfl ?_
  refine o_gO (t := 65) X12 hx (y_ oD73_61) ?_
  refine o_isub X12 hx (y_ oD73_65) ?_
  refine o_valE (z := Int32.ofNat (([] : List Int32).length + ds.length)) (o_pl1 _ _) ?_
  refine o_vir (y := o_m36) (b := x) (argsL := [(.int 0), (.int (Int32.ofNat (([] : List Int32).length + ds.length)))]) (S := []) (W := 0) X12 hx hZ4 hown4 (k_ 276 rfl) (k_ 277 rfl) (k_ 279 rfl) (k_ 278 rfl) (backOf (W := 0) (rmsba l Z a0 hw [] x (0 : Int32) (Int32.ofNat (([] : List Int32).length + ds.length)) t kd ([] : List Int32) ds ([42] : List Int32) fm zC_ T4.heap n0 O4 c6 (by decide) rfl rfl hqq hl1 S_x.ak.1 (by decide) S_u S_f hfm SC_ hC_) hZ4 (k_ 280 rfl) (k_ 6 rfl) (by decide) (by decide)) hh12 c6.1 hml (lenOf o_pd__28II_29Ljava_2flang_2fString_3b rfl) (y_ oD73_66) (fun T13 L13 v13 X13 hQ13 => ?_)
  obtain ⟨x13, t13, kd13, rfl, N13q, Kp13, g_x13, hx13, g_t13, ht13, hne13, Sf13⟩ := hQ13
  have N13 := Fr.app N12 N13q
  have O14 := Old.keep O4 Kp13 all0
  have C15 := CHr.trans C5 (CHr.keep Kp13 sf0 C5.1)
  show o_G p e below _ T13 (mkF m 69 #[vR x, vI 0, vI 1, .unset] [(.ref x13)])
  refine o_astoreN X13 hx (y_ oD73_69) rfl (A' := #[vR x, vI 0, vI 1, vR x13]) rfl ?_
  refine o_new X13 hx hZ4 hown4 (k_ 50 rfl) (k_ 51 rfl) (k_ 32 rfl) rfl (y_ oD73_70) (by decide) (by decide) (fun T16 h16 b16 X16 e16 gg16 E16 A16 D16 => ?_)
  have g_b16 := o_fresh O14 gg16
  have O16 := Old.ext O14 E16
  have C17 := CHr.trans C15 (CHr.ext E16 C15.1)
  have F16_core : o_GK Z h16 b16 .null := D16 (Or.inr (k_ 101 rfl)) (ty := (.object "java/lang/String")) (by decide)
  have F16_anyBefore : o_GB Z h16 b16 (.int 0) := D16 (Or.inr (k_ 103 rfl)) (ty := .boolean) (by decide)
  have F16_anyAfter : o_GA Z h16 b16 (.int 0) := D16 (Or.inr (k_ 105 rfl)) (ty := .boolean) (by decide)
  refine o_dup X16 hx (y_ oD73_73) rfl ?_
  refine o_aloadN X16 hx (y_ oD73_74) rfl rfl ?_
  refine o_iloadN X16 hx (y_ oD73_75) rfl ?_
  refine o_iloadN X16 hx (y_ oD73_76) rfl ?_
  have c18 := (o_A.ext E16 Sf13)
  refine o_initH (y := o_m73) (b := b16) (argsL := [(.ref x13), (.int 0), (.int 1)]) (S := [(.ref b16)]) (W := 1) rfl X16 hx hZ4 hS4 hown4 (k_ 53 rfl) (k_ 54 rfl) (k_ 55 rfl) (by decide) (backOfSH (W := 1) (rmcta l Z a0 hw [] b16 x13 (0 : Int32) (1 : Int32) t13 kd13 ds zC_ h16 n0 O16 A16 F16_core F16_anyBefore F16_anyAfter g_b16 c18 hns hl1 hqq (by decide) (by decide) S_u SC_ hC_) hZ4 (k_ 55 rfl) (k_ 32 rfl) (by decide) (by decide) hEL C17.1) e16 (Nat.le_trans (Nat.le_trans hk4 Kp13.1) E16.1) (by rw [hml]; rfl) (lenOf o_pd__28Ljava_2flang_2fString_3bZZ_29V rfl) rfl (Nat.le_of_eq rfl) (y_ oD73_77) (by decide) (by decide) (fun T19 L19 v19 k19 X19 hS19 hk19 hZ19 hown19 hQ19 hC19 => ?_)
  obtain ⟨rfl, N19q, Kp19, Ex19, Fk19, Fb19, Fa19⟩ := hQ19
  have N19 := Fr.app N13 N19q
  have O20 := Old.keep O16 Kp19 (allS g_b16 all0)
  have C21 := CHr.trans C17 (hC19)
  show o_G p e below _ T19 (mkF m 80 #[vR x, vI 0, vI 1, vR x13] [(.ref b16)])
  have kp22 := Keep.ext (Keep.refl h0 []) E1
  have kp23 := Keep.ext kp22 E4
  have kp24 := Keep.trans kp23 Kp13 all0
  have kp25 := Keep.ext kp24 E16
  have kp26 := Keep.trans kp25 Kp19 (allS (Or.inr (Nat.le_trans kp24.1 (Nat.le_of_eq gg16.symm))) all0)
  have c27 := (o_A.keep c18 Kp19 (ninS (o_ng Sf13.lt gg16) nin0) (ninS (o_ng Sf13.lt2 gg16) nin0))
  exact o_retAH X19 hx hS19 hk19 hZ19 hEL (by exact C21) hrt hlk rfl rfl rfl (y_ oD73_80) (by decide) (by decide) ⟨b16, x13, t13, kd13, rfl, N19, kp26, g_b16, (Nat.le_trans kp24.1 (Nat.le_of_eq gg16.symm)), Ex19, Fk19, Fb19, Fa19, c27⟩
theorem rmpa10 (hw : o_HW Z a0) (ws : o_LC) (x : Addr) (t : Addr) (kd : Int32) (ds : List Int32) (fm : Value) (zC_ : Int32) (h0 : Heap) (n0 : Nat) (O0 : Old Z n0 h0) (S_x : o_A Z h0 x t kd (([42] : List Int32) ++ ds ++ ([] : List Int32))) (hns : o_ns ds) (hl1 : 1 ≤ ds.length) (hqq : ds.length ≤ 3) (S_u : o_SU Z) (S_f : o_SF Z fm) (hfm : fm.isRef = true) (SC_ : o_SC Z zC_) (hC_ : ¬ zC_ = 0) :
    o_MetH o_EL l Z o_m74 oJ1 4 (some (.object "org/adviceweft/pointcut/NamePattern")) ws o_R57 #[(.ref x)] h0 (Qpa10 Z x t kd ds fm zC_ h0 n0) := by
  refine o_enterH o_pn_11 (fun m => o_ef40 m x) (fun p e s m below meth c s₁ hx hby hml hZ hown hnm hlk hrt X0 e0 hS0 hk0 C0 => ?_)
  have N0 := Fr.nil n0
  have y_ := @hb _ _ hby
  have k_ := @o_k _ _ hw
  have hEL := o_EWs hw
  refine o_aloadN X0 hx (y_ oD73_0) rfl rfl ?_
  refine o_ldcH (n := 28) (vs := [.int 112, .int 97, .int 116, .int 116, .int 101, .int 114, .int 110]) (z := 7) X0 hx hZ hown (k_ 34 rfl) (fun d hd => hw d (o_strat d hd)) e0 hS0 hk0 hEL (by decide) C0.1 ⟨by decide, by decide⟩ (by decide) (by decide) (y_ oD73_1) (by decide) (by decide) (by decide) (by decide) (fun a1 b1 kb1 T1 k1 X1 E1 hS1 hk1 hZ1 hown1 Ex1 Co1 Va1 Av1 hC1 Li1 Sa1 => ?_)
  have O1 := Old.ext O0 E1
  have C2 := CHr.trans C0 (hC1)
  show o_G p e below _ T1 (mkF m 3 #[vR x, .unset, .unset, .unset] [(.ref a1), (.ref x)])
  refine o_sta (y := o_m61) (argsL := [(.ref x), (.ref a1)]) (S := []) (W := 0) X1 hx hZ1 hown1 (k_ 37 rfl) (k_ 38 rfl) (k_ 39 rfl) (k_ 40 rfl) (backOf (W := 0) (rmrnn l Z a0 hw [] x a1 T1.heap n0 O1) hZ1 (k_ 40 rfl) (k_ 39 rfl) (by decide) (by decide)) rfl hml (lenOf o_pd__28Ljava_2flang_2fObject_3bLjava_2flang_2fString_3b_29Ljava_2flang_2fObject_3b rfl) (y_ oD73_3) (fun T3 L3 v3 X3 hQ3 => ?_)
  obtain ⟨rfl, N3q, hh3⟩ := hQ3
  have N3 := Fr.app N0 N3q
  show o_G p e below _ T3 (mkF m 6 #[vR x, .unset, .unset, .unset] [(.ref x)])
  refine o_pop X3 hx (y_ oD73_6) rfl ?_
  refine o_aloadN X3 hx (y_ oD73_7) rfl rfl ?_
  refine o_ldcH (n := 4) (vs := [.int 42]) (z := 1) X3 hx hZ1 hown1 (k_ 41 rfl) (fun d hd => hw d (o_strat d hd)) hh3 hS1 hk1 hEL (by decide) C2.1 ⟨by decide, by decide⟩ (by decide) (by decide) (y_ oD73_8) (by decide) (by decide) (by decide) (by decide) (fun a4 b4 kb4 T4 k4 X4 E4 hS4 hk4 hZ4 hown4 Ex4 Co4 Va4 Av4 hC4 Li4 Sa4 => ?_)
  have O4 := Old.ext O1 E4
  have C5 := CHr.trans C2 (hC4)
  show o_G p e below _ T4 (mkF m 10 #[vR x, .unset, .unset, .unset] [(.ref a4), (.ref x)])
  have Ss4 : o_Str Z T4.heap a4 b4 o_star := ⟨Ex4, Co4, Va4, ⟨_, Av4⟩, by decide, by decide⟩
  have c6 := (o_A.ext E4 (o_A.ext E1 S_x))
  refine o_vir (y := o_m15) (b := x) (argsL := [(.ref a4)]) (S := []) (W := 0) X4 hx hZ4 hown4 (k_ 42 rfl) (k_ 43 rfl) (k_ 45 rfl) (k_ 44 rfl) (backOf (W := 0) (rmeqd l Z a0 hw [] x a4 t b4 kd (([42] : List Int32) ++ ds ++ ([] : List Int32)) zC_ T4.heap n0 O4 c6 Ss4 (o_neP hns hl1) SC_ hC_) hZ4 (k_ 46 rfl) (k_ 6 rfl) (by decide) (by decide)) rfl c6.1 hml (lenOf o_pd__28Ljava_2flang_2fObject_3b_29Z rfl) (y_ oD73_10) (fun T7 L7 v7 X7 hQ7 => ?_)
  obtain ⟨rfl, N7q, hh7⟩ := hQ7
  have N7 := Fr.app N3 N7q
  show o_G p e below _ T7 (mkF m 13 #[vR x, .unset, .unset, .unset] [(.int 0)])
  refine o_iFT (t := 28) X7 hx (y_ oD73_13) ?_
  refine o_aloadN X7 hx (y_ oD73_28) rfl rfl ?_
  refine o_ldcA X7 hx hZ4 hown4 (k_ 41 rfl) Li4 (y_ oD73_29) ?_
  refine o_vir (y := o_m18) (b := x) (argsL := [(.ref a4)]) (S := []) (W := 0) X7 hx hZ4 hown4 (k_ 255 rfl) (k_ 256 rfl) (k_ 258 rfl) (k_ 257 rfl) (backOf (W := 0) (rmsta l Z a0 hw [] x a4 t b4 kd (([42] : List Int32) ++ ds ++ ([] : List Int32)) zC_ T4.heap n0 O4 c6 Ss4 (by simp only [List.length_append]; omega) S_u SC_ hC_) hZ4 (k_ 259 rfl) (k_ 6 rfl) (by decide) (by decide)) hh7 c6.1 hml (lenOf o_pd__28Ljava_2flang_2fString_3b_29Z rfl) (y_ oD73_31) (fun T9 L9 v9 X9 hQ9 => ?_)
  obtain ⟨rfl, N9q, hh9⟩ := hQ9
  have N9 := Fr.app N7 N9q
  show o_G p e below _ T9 (mkF m 34 #[vR x, .unset, .unset, .unset] [(.int (if (([42] : List Int32) ++ ds ++ ([] : List Int32)).getD 0 0 = 42 then 1 else 0 : Int32))])
  refine o_valE (z := 1) (if_pos rfl) ?_
  refine o_istoreN X9 hx (y_ oD73_34) (A' := #[vR x, vI 1, .unset, .unset]) rfl ?_
  refine o_aloadN X9 hx (y_ oD73_35) rfl rfl ?_
  refine o_ldcA X9 hx hZ4 hown4 (k_ 41 rfl) Li4 (y_ oD73_36) ?_
  refine o_vir (y := o_m19) (b := x) (argsL := [(.ref a4)]) (S := []) (W := 0) X9 hx hZ4 hown4 (k_ 270 rfl) (k_ 271 rfl) (k_ 273 rfl) (k_ 272 rfl) (backOf (W := 0) (rmena l Z a0 hw [] x a4 t b4 kd (([42] : List Int32) ++ ds ++ ([] : List Int32)) zC_ T4.heap n0 O4 c6 Ss4 (by simp only [List.length_append]; omega) S_u SC_ hC_) hZ4 (k_ 274 rfl) (k_ 6 rfl) (by decide) (by decide)) hh9 c6.1 hml (lenOf o_pd__28Ljava_2flang_2fString_3b_29Z rfl) (y_ oD73_38) (fun T11 L11 v11 X11 hQ11 => ?_)
  obtain ⟨rfl, N11q, hh11⟩ := hQ11
  have N11 := Fr.app N9 N11q
  show o_G p e below _ T11 (mkF m 41 #[vR x, vI 1, .unset, .unset] [(.int (if (([42] : List Int32) ++ ds ++ ([] : List Int32)).getD ((([42] : List Int32) ++ ds ++ ([] : List Int32)).length - 1) 0 = 42 then 1 else 0 : Int32))])
  refine o_valE (z := 0) (if_neg (o_l44 hns hl1)) ?_
  refine o_istoreN X11 hx (y_ oD73_41) (A' := #[vR x, vI 1, vI 0, .unset]) rfl ?_
  refine o_aloadN X11 hx (y_ oD73_42) rfl rfl ?_
  refine o_iloadN X11 hx (y_ oD73_43) rfl ?_
  refine o_iFF X11 hx (y_ oD73_44) ?_
  refine o_iconst X11 hx (y_ oD73_47) (x := 1) rfl ?_
  refine o_gO (t := 52) X11 hx (y_ oD73_48) ?_
  refine o_aloadN X11 hx (y_ oD73_52) rfl rfl ?_
  refine o_vir (y := o_m6) (b := x) (argsL := []) (S := [(.int 1), (.ref x)]) (W := 2) X11 hx hZ4 hown4 (k_ 275 rfl) (k_ 159 rfl) (k_ 161 rfl) (k_ 160 rfl) (backOf (W := 2) (rmlna l Z a0 hw [] x t kd (([42] : List Int32) ++ ds ++ ([] : List Int32)) zC_ T4.heap n0 O4 c6 SC_ hC_) hZ4 (k_ 162 rfl) (k_ 6 rfl) (by decide) (by decide)) hh11 c6.1 hml (lenOf o_pd__28_29I rfl) (y_ oD73_53) (fun T12 L12 v12 X12 hQ12 => ?_)
  obtain ⟨rfl, N12q, hh12⟩ := hQ12
  have N12 := Fr.app N11 N12q
  show o_G p e below _ T12 (mkF m 56 #[vR x, vI 1, vI 0, .unset] [(.int (Int32.ofNat (([42] : List Int32) ++ ds ++ ([] : List Int32)).length)), (.int 1), (.ref x)])
  refine o_iloadN X12 hx (y_ oD73_56) rfl ?_
  refine o_iFT (t := 64) X12 hx (y_ oD73_57) ?_
  refine o_iconst X12 hx (y_ oD73_64) (x := 0) rfl ?_
  refine o_isub X12 hx (y_ oD73_65) ?_
  refine o_valE (z := Int32.ofNat (([42] : List Int32).length + ds.length)) (o_pl0 _ _) ?_
  refine o_vir (y := o_m36) (b := x) (argsL := [(.int 1), (.int (Int32.ofNat (([42] : List Int32).length + ds.length)))]) (S := []) (W := 0) X12 hx hZ4 hown4 (k_ 276 rfl) (k_ 277 rfl) (k_ 279 rfl) (k_ 278 rfl) (backOf (W := 0) (rmsba l Z a0 hw [] x (1 : Int32) (Int32.ofNat (([42] : List Int32).length + ds.length)) t kd ([42] : List Int32) ds ([] : List Int32) fm zC_ T4.heap n0 O4 c6 (by decide) rfl rfl hqq hl1 S_x.ak.1 (by decide) S_u S_f hfm SC_ hC_) hZ4 (k_ 280 rfl) (k_ 6 rfl) (by decide) (by decide)) hh12 c6.1 hml (lenOf o_pd__28II_29Ljava_2flang_2fString_3b rfl) (y_ oD73_66) (fun T13 L13 v13 X13 hQ13 => ?_)
  obtain ⟨x13, t13, kd13, rfl, N13q, Kp13, g_x13, hx13, g_t13, ht13, hne13, Sf13⟩ := hQ13
  have N13 := Fr.app N12 N13q
  have O14 := Old.keep O4 Kp13 all0
  have C15 := CHr.trans C5 (CHr.keep Kp13 sf0 C5.1)
  show o_G p e below _ T13 (mkF m 69 #[vR x, vI 1, vI 0, .unset] [(.ref x13)])
  refine o_astoreN X13 hx (y_ oD73_69) rfl (A' := #[vR x, vI 1, vI 0, vR x13]) rfl ?_
  refine o_new X13 hx hZ4 hown4 (k_ 50 rfl) (k_ 51 rfl) (k_ 32 rfl) rfl (y_ oD73_70) (by decide) (by decide) (fun T16 h16 b16 X16 e16 gg16 E16 A16 D16 => ?_)
  have g_b16 := o_fresh O14 gg16
  have O16 := Old.ext O14 E16
  have C17 := CHr.trans C15 (CHr.ext E16 C15.1)
  have F16_core : o_GK Z h16 b16 .null := D16 (Or.inr (k_ 101 rfl)) (ty := (.object "java/lang/String")) (by decide)
  have F16_anyBefore : o_GB Z h16 b16 (.int 0) := D16 (Or.inr (k_ 103 rfl)) (ty := .boolean) (by decide)
  have F16_anyAfter : o_GA Z h16 b16 (.int 0) := D16 (Or.inr (k_ 105 rfl)) (ty := .boolean) (by decide)
  refine o_dup X16 hx (y_ oD73_73) rfl ?_
  refine o_aloadN X16 hx (y_ oD73_74) rfl rfl ?_
  refine o_iloadN X16 hx (y_ oD73_75) rfl ?_
  refine o_iloadN X16 hx (y_ oD73_76) rfl ?_
  have c18 := (o_A.ext E16 Sf13)
  refine o_initH (y := o_m73) (b := b16) (argsL := [(.ref x13), (.int 1), (.int 0)]) (S := [(.ref b16)]) (W := 1) rfl X16 hx hZ4 hS4 hown4 (k_ 53 rfl) (k_ 54 rfl) (k_ 55 rfl) (by decide) (backOfSH (W := 1) (rmcta l Z a0 hw [] b16 x13 (1 : Int32) (0 : Int32) t13 kd13 ds zC_ h16 n0 O16 A16 F16_core F16_anyBefore F16_anyAfter g_b16 c18 hns hl1 hqq (by decide) (by decide) S_u SC_ hC_) hZ4 (k_ 55 rfl) (k_ 32 rfl) (by decide) (by decide) hEL C17.1) e16 (Nat.le_trans (Nat.le_trans hk4 Kp13.1) E16.1) (by rw [hml]; rfl) (lenOf o_pd__28Ljava_2flang_2fString_3bZZ_29V rfl) rfl (Nat.le_of_eq rfl) (y_ oD73_77) (by decide) (by decide) (fun T19 L19 v19 k19 X19 hS19 hk19 hZ19 hown19 hQ19 hC19 => ?_)
  obtain ⟨rfl, N19q, Kp19, Ex19, Fk19, Fb19, Fa19⟩ := hQ19
  have N19 := Fr.app N13 N19q
  have O20 := Old.keep O16 Kp19 (allS g_b16 all0)
  have C21 := CHr.trans C17 (hC19)
  show o_G p e below _ T19 (mkF m 80 #[vR x, vI 1, vI 0, vR x13] [(.ref b16)])
  have kp22 := Keep.ext (Keep.refl h0 []) E1
  have kp23 := Keep.ext kp22 E4
  have kp24 := Keep.trans kp23 Kp13 all0
  have kp25 := Keep.ext kp24 E16
  have kp26 := Keep.trans kp25 Kp19 (allS (Or.inr (Nat.le_trans kp24.1 (Nat.le_of_eq gg16.symm))) all0)
  have c27 := (o_A.keep c18 Kp19 (ninS (o_ng Sf13.lt gg16) nin0) (ninS (o_ng Sf13.lt2 gg16) nin0))
  exact o_retAH X19 hx hS19 hk19 hZ19 hEL (by exact C21) hrt hlk rfl rfl rfl (y_ oD73_80) (by decide) (by decide) ⟨b16, x13, t13, kd13, rfl, N19, kp26, g_b16, (Nat.le_trans kp24.1 (Nat.le_of_eq gg16.symm)), Ex19, Fk19, Fb19, Fa19, c27⟩
theorem rmpa11 (hw : o_HW Z a0) (ws : o_LC) (x : Addr) (t : Addr) (kd : Int32) (ds : List Int32) (fm : Value) (zC_ : Int32) (h0 : Heap) (n0 : Nat) (O0 : Old Z n0 h0) (S_x : o_A Z h0 x t kd (([42] : List Int32) ++ ds ++ ([42] : List Int32))) (hns : o_ns ds) (hl1 : 1 ≤ ds.length) (hqq : ds.length ≤ 3) (S_u : o_SU Z) (S_f : o_SF Z fm) (hfm : fm.isRef = true) (SC_ : o_SC Z zC_) (hC_ : ¬ zC_ = 0) :
    o_MetH o_EL l Z o_m74 oJ1 4 (some (.object "org/adviceweft/pointcut/NamePattern")) ws o_R57 #[(.ref x)] h0 (Qpa11 Z x t kd ds fm zC_ h0 n0) := by
  refine o_enterH o_pn_11 (fun m => o_ef40 m x) (fun p e s m below meth c s₁ hx hby hml hZ hown hnm hlk hrt X0 e0 hS0 hk0 C0 => ?_)
  have N0 := Fr.nil n0
  have y_ := @hb _ _ hby
  have k_ := @o_k _ _ hw
  have hEL := o_EWs hw
  refine o_aloadN X0 hx (y_ oD73_0) rfl rfl ?_
  refine o_ldcH (n := 28) (vs := [.int 112, .int 97, .int 116, .int 116, .int 101, .int 114, .int 110]) (z := 7) X0 hx hZ hown (k_ 34 rfl) (fun d hd => hw d (o_strat d hd)) e0 hS0 hk0 hEL (by decide) C0.1 ⟨by decide, by decide⟩ (by decide) (by decide) (y_ oD73_1) (by decide) (by decide) (by decide) (by decide) (fun a1 b1 kb1 T1 k1 X1 E1 hS1 hk1 hZ1 hown1 Ex1 Co1 Va1 Av1 hC1 Li1 Sa1 => ?_)
  have O1 := Old.ext O0 E1
  have C2 := CHr.trans C0 (hC1)
  show o_G p e below _ T1 (mkF m 3 #[vR x, .unset, .unset, .unset] [(.ref a1), (.ref x)])
  refine o_sta (y := o_m61) (argsL := [(.ref x), (.ref a1)]) (S := []) (W := 0) X1 hx hZ1 hown1 (k_ 37 rfl) (k_ 38 rfl) (k_ 39 rfl) (k_ 40 rfl) (backOf (W := 0) (rmrnn l Z a0 hw [] x a1 T1.heap n0 O1) hZ1 (k_ 40 rfl) (k_ 39 rfl) (by decide) (by decide)) rfl hml (lenOf o_pd__28Ljava_2flang_2fObject_3bLjava_2flang_2fString_3b_29Ljava_2flang_2fObject_3b rfl) (y_ oD73_3) (fun T3 L3 v3 X3 hQ3 => ?_)
  obtain ⟨rfl, N3q, hh3⟩ := hQ3
  have N3 := Fr.app N0 N3q
  show o_G p e below _ T3 (mkF m 6 #[vR x, .unset, .unset, .unset] [(.ref x)])
  refine o_pop X3 hx (y_ oD73_6) rfl ?_
  refine o_aloadN X3 hx (y_ oD73_7) rfl rfl ?_
  refine o_ldcH (n := 4) (vs := [.int 42]) (z := 1) X3 hx hZ1 hown1 (k_ 41 rfl) (fun d hd => hw d (o_strat d hd)) hh3 hS1 hk1 hEL (by decide) C2.1 ⟨by decide, by decide⟩ (by decide) (by decide) (y_ oD73_8) (by decide) (by decide) (by decide) (by decide) (fun a4 b4 kb4 T4 k4 X4 E4 hS4 hk4 hZ4 hown4 Ex4 Co4 Va4 Av4 hC4 Li4 Sa4 => ?_)
  have O4 := Old.ext O1 E4
  have C5 := CHr.trans C2 (hC4)
  show o_G p e below _ T4 (mkF m 10 #[vR x, .unset, .unset, .unset] [(.ref a4), (.ref x)])
  have Ss4 : o_Str Z T4.heap a4 b4 o_star := ⟨Ex4, Co4, Va4, ⟨_, Av4⟩, by decide, by decide⟩
  have c6 := (o_A.ext E4 (o_A.ext E1 S_x))
  refine o_vir (y := o_m15) (b := x) (argsL := [(.ref a4)]) (S := []) (W := 0) X4 hx hZ4 hown4 (k_ 42 rfl) (k_ 43 rfl) (k_ 45 rfl) (k_ 44 rfl) (backOf (W := 0) (rmeqd l Z a0 hw [] x a4 t b4 kd (([42] : List Int32) ++ ds ++ ([42] : List Int32)) zC_ T4.heap n0 O4 c6 Ss4 (o_neP hns hl1) SC_ hC_) hZ4 (k_ 46 rfl) (k_ 6 rfl) (by decide) (by decide)) rfl c6.1 hml (lenOf o_pd__28Ljava_2flang_2fObject_3b_29Z rfl) (y_ oD73_10) (fun T7 L7 v7 X7 hQ7 => ?_)
  obtain ⟨rfl, N7q, hh7⟩ := hQ7
  have N7 := Fr.app N3 N7q
  show o_G p e below _ T7 (mkF m 13 #[vR x, .unset, .unset, .unset] [(.int 0)])
  refine o_iFT (t := 28) X7 hx (y_ oD73_13) ?_
  refine o_aloadN X7 hx (y_ oD73_28) rfl rfl ?_
  refine o_ldcA X7 hx hZ4 hown4 (k_ 41 rfl) Li4 (y_ oD73_29) ?_
  refine o_vir (y := o_m18) (b := x) (argsL := [(.ref a4)]) (S := []) (W := 0) X7 hx hZ4 hown4 (k_ 255 rfl) (k_ 256 rfl) (k_ 258 rfl) (k_ 257 rfl) (backOf (W := 0) (rmsta l Z a0 hw [] x a4 t b4 kd (([42] : List Int32) ++ ds ++ ([42] : List Int32)) zC_ T4.heap n0 O4 c6 Ss4 (by simp only [List.length_append]; omega) S_u SC_ hC_) hZ4 (k_ 259 rfl) (k_ 6 rfl) (by decide) (by decide)) hh7 c6.1 hml (lenOf o_pd__28Ljava_2flang_2fString_3b_29Z rfl) (y_ oD73_31) (fun T9 L9 v9 X9 hQ9 => ?_)
  obtain ⟨rfl, N9q, hh9⟩ := hQ9
  have N9 := Fr.app N7 N9q
  show o_G p e below _ T9 (mkF m 34 #[vR x, .unset, .unset, .unset] [(.int (if (([42] : List Int32) ++ ds ++ ([42] : List Int32)).getD 0 0 = 42 then 1 else 0 : Int32))])
  refine o_valE (z := 1) (if_pos rfl) ?_
  refine o_istoreN X9 hx (y_ oD73_34) (A' := #[vR x, vI 1, .unset, .unset]) rfl ?_
  refine o_aloadN X9 hx (y_ oD73_35) rfl rfl ?_
  refine o_ldcA X9 hx hZ4 hown4 (k_ 41 rfl) Li4 (y_ oD73_36) ?_
  refine o_vir (y := o_m19) (b := x) (argsL := [(.ref a4)]) (S := []) (W := 0) X9 hx hZ4 hown4 (k_ 270 rfl) (k_ 271 rfl) (k_ 273 rfl) (k_ 272 rfl) (backOf (W := 0) (rmena l Z a0 hw [] x a4 t b4 kd (([42] : List Int32) ++ ds ++ ([42] : List Int32)) zC_ T4.heap n0 O4 c6 Ss4 (by simp only [List.length_append]; omega) S_u SC_ hC_) hZ4 (k_ 274 rfl) (k_ 6 rfl) (by decide) (by decide)) hh9 c6.1 hml (lenOf o_pd__28Ljava_2flang_2fString_3b_29Z rfl) (y_ oD73_38) (fun T11 L11 v11 X11 hQ11 => ?_)
  obtain ⟨rfl, N11q, hh11⟩ := hQ11
  have N11 := Fr.app N9 N11q
  show o_G p e below _ T11 (mkF m 41 #[vR x, vI 1, .unset, .unset] [(.int (if (([42] : List Int32) ++ ds ++ ([42] : List Int32)).getD ((([42] : List Int32) ++ ds ++ ([42] : List Int32)).length - 1) 0 = 42 then 1 else 0 : Int32))])
  refine o_valE (z := 1) (if_pos (o_l42 _ _)) ?_
  refine o_istoreN X11 hx (y_ oD73_41) (A' := #[vR x, vI 1, vI 1, .unset]) rfl ?_
  refine o_aloadN X11 hx (y_ oD73_42) rfl rfl ?_
  refine o_iloadN X11 hx (y_ oD73_43) rfl ?_
  refine o_iFF X11 hx (y_ oD73_44) ?_
  refine o_iconst X11 hx (y_ oD73_47) (x := 1) rfl ?_
  refine o_gO (t := 52) X11 hx (y_ oD73_48) ?_
  refine o_aloadN X11 hx (y_ oD73_52) rfl rfl ?_
  refine o_vir (y := o_m6) (b := x) (argsL := []) (S := [(.int 1), (.ref x)]) (W := 2) X11 hx hZ4 hown4 (k_ 275 rfl) (k_ 159 rfl) (k_ 161 rfl) (k_ 160 rfl) (backOf (W := 2) (rmlna l Z a0 hw [] x t kd (([42] : List Int32) ++ ds ++ ([42] : List Int32)) zC_ T4.heap n0 O4 c6 SC_ hC_) hZ4 (k_ 162 rfl) (k_ 6 rfl) (by decide) (by decide)) hh11 c6.1 hml (lenOf o_pd__28_29I rfl) (y_ oD73_53) (fun T12 L12 v12 X12 hQ12 => ?_)
  obtain ⟨rfl, N12q, hh12⟩ := hQ12
  have N12 := Fr.app N11 N12q
  show o_G p e below _ T12 (mkF m 56 #[vR x, vI 1, vI 1, .unset] [(.int (Int32.ofNat (([42] : List Int32) ++ ds ++ ([42] : List Int32)).length)), (.int 1), (.ref x)])
  refine o_iloadN X12 hx (y_ oD73_56) rfl ?_
  refine o_iFF X12 hx (y_ oD73_57) ?_
  refine o_iconst X12 hx (y_ oD73_60) (x := 1) rfl ?_
  refine o_gO (t := 65) X12 hx (y_ oD73_61) ?_
  refine o_isub X12 hx (y_ oD73_65) ?_
  refine o_valE (z := Int32.ofNat (([42] : List Int32).length + ds.length)) (o_pl1 _ _) ?_
  refine o_vir (y := o_m36) (b := x) (argsL := [(.int 1), (.int (Int32.ofNat (([42] : List Int32).length + ds.length)))]) (S := []) (W := 0) X12 hx hZ4 hown4 (k_ 276 rfl) (k_ 277 rfl) (k_ 279 rfl) (k_ 278 rfl) (backOf (W := 0) (rmsba l Z a0 hw [] x (1 : Int32) (Int32.ofNat (([42] : List Int32).length + ds.length)) t kd ([42] : List Int32) ds ([42] : List Int32) fm zC_ T4.heap n0 O4 c6 (by decide) rfl rfl hqq hl1 S_x.ak.1 (by decide) S_u S_f hfm SC_ hC_) hZ4 (k_ 280 rfl) (k_ 6 rfl) (by decide) (by decide)) hh12 c6.1 hml (lenOf o_pd__28II_29Ljava_2flang_2fString_3b rfl) (y_ oD73_66) (fun T13 L13 v13 X13 hQ13 => ?_)
  obtain ⟨x13, t13, kd13, rfl, N13q, Kp13, g_x13, hx13, g_t13, ht13, hne13, Sf13⟩ := hQ13
  have N13 := Fr.app N12 N13q
  have O14 := Old.keep O4 Kp13 all0
  have C15 := CHr.trans C5 (CHr.keep Kp13 sf0 C5.1)
  show o_G p e below _ T13 (mkF m 69 #[vR x, vI 1, vI 1, .unset] [(.ref x13)])
  refine o_astoreN X13 hx (y_ oD73_69) rfl (A' := #[vR x, vI 1, vI 1, vR x13]) rfl ?_
  refine o_new X13 hx hZ4 hown4 (k_ 50 rfl) (k_ 51 rfl) (k_ 32 rfl) rfl (y_ oD73_70) (by decide) (by decide) (fun T16 h16 b16 X16 e16 gg16 E16 A16 D16 => ?_)
  have g_b16 := o_fresh O14 gg16
  have O16 := Old.ext O14 E16
  have C17 := CHr.trans C15 (CHr.ext E16 C15.1)
  have F16_core : o_GK Z h16 b16 .null := D16 (Or.inr (k_ 101 rfl)) (ty := (.object "java/lang/String")) (by decide)
  have F16_anyBefore : o_GB Z h16 b16 (.int 0) := D16 (Or.inr (k_ 103 rfl)) (ty := .boolean) (by decide)
  have F16_anyAfter : o_GA Z h16 b16 (.int 0) := D16 (Or.inr (k_ 105 rfl)) (ty := .boolean) (by decide)
  refine o_dup X16 hx (y_ oD73_73) rfl ?_
  refine o_aloadN X16 hx (y_ oD73_74) rfl rfl ?_
  refine o_iloadN X16 hx (y_ oD73_75) rfl ?_
  refine o_iloadN X16 hx (y_ oD73_76) rfl ?_
  have c18 := (o_A.ext E16 Sf13)
  refine o_initH (y := o_m73) (b := b16) (argsL := [(.ref x13), (.int 1), (.int 1)]) (S := [(.ref b16)]) (W := 1) rfl X16 hx hZ4 hS4 hown4 (k_ 53 rfl) (k_ 54 rfl) (k_ 55 rfl) (by decide) (backOfSH (W := 1) (rmcta l Z a0 hw [] b16 x13 (1 : Int32) (1 : Int32) t13 kd13 ds zC_ h16 n0 O16 A16 F16_core F16_anyBefore F16_anyAfter g_b16 c18 hns hl1 hqq (by decide) (by decide) S_u SC_ hC_) hZ4 (k_ 55 rfl) (k_ 32 rfl) (by decide) (by decide) hEL C17.1) e16 (Nat.le_trans (Nat.le_trans hk4 Kp13.1) E16.1) (by rw [hml]; rfl) (lenOf o_pd__28Ljava_2flang_2fString_3bZZ_29V rfl) rfl (Nat.le_of_eq rfl) (y_ oD73_77) (by decide) (by decide) (fun T19 L19 v19 k19 X19 hS19 hk19 hZ19 hown19 hQ19 hC19 => ?_)
  obtain ⟨rfl, N19q, Kp19, Ex19, Fk19, Fb19, Fa19⟩ := hQ19
  have N19 := Fr.app N13 N19q
  have O20 := Old.keep O16 Kp19 (allS g_b16 all0)
  have C21 := CHr.trans C17 (hC19)
  show o_G p e below _ T19 (mkF m 80 #[vR x, vI 1, vI 1, vR x13] [(.ref b16)])
  have kp22 := Keep.ext (Keep.refl h0 []) E1
  have kp23 := Keep.ext kp22 E4
  have kp24 := Keep.trans kp23 Kp13 all0
  have kp25 := Keep.ext kp24 E16
  have kp26 := Keep.trans kp25 Kp19 (allS (Or.inr (Nat.le_trans kp24.1 (Nat.le_of_eq gg16.symm))) all0)
  have c27 := (o_A.keep c18 Kp19 (ninS (o_ng Sf13.lt gg16) nin0) (ninS (o_ng Sf13.lt2 gg16) nin0))
  exact o_retAH X19 hx hS19 hk19 hZ19 hEL (by exact C21) hrt hlk rfl rfl rfl (y_ oD73_80) (by decide) (by decide) ⟨b16, x13, t13, kd13, rfl, N19, kp26, g_b16, (Nat.le_trans kp24.1 (Nat.le_of_eq gg16.symm)), Ex19, Fk19, Fb19, Fa19, c27⟩
theorem rmpar (hw : o_HW Z a0) (ws : o_LC) (x : Addr) (t : Addr) (kd : Int32) (B : Int32) (A : Int32) (ds : List Int32) (fm : Value) (zC_ : Int32) (h0 : Heap) (n0 : Nat) (O0 : Old Z n0 h0) (S_x : o_A Z h0 x t kd (o_wr B A ds)) (hB : B = 0 ∨ B = 1) (hA : A = 0 ∨ A = 1) (hns : o_ns ds) (hl1 : 1 ≤ ds.length) (hqq : ds.length ≤ 3) (S_u : o_SU Z) (S_f : o_SF Z fm) (hfm : fm.isRef = true) (SC_ : o_SC Z zC_) (hC_ : ¬ zC_ = 0) :
    o_MetH o_EL l Z o_m74 oJ1 4 (some (.object "org/adviceweft/pointcut/NamePattern")) ws o_R57 #[(.ref x)] h0 (Qpar Z x t kd B A ds fm zC_ h0 n0) := by
  rcases hB with rfl | rfl <;> rcases hA with rfl | rfl
  · exact rmpa00 l Z a0 hw ws x t kd ds fm zC_ h0 n0 O0 (show o_A Z h0 x t kd ds from by rw [← show o_wr 0 0 ds = ds from by simp [o_wr]]; exact S_x) hns hl1 hqq S_u S_f hfm SC_ hC_
  · exact rmpa01 l Z a0 hw ws x t kd ds fm zC_ h0 n0 O0 (show o_A Z h0 x t kd (([] : List Int32) ++ ds ++ ([42] : List Int32)) from by rw [o_w01] at S_x; exact S_x) hns hl1 hqq S_u S_f hfm SC_ hC_
  · exact rmpa10 l Z a0 hw ws x t kd ds fm zC_ h0 n0 O0 (show o_A Z h0 x t kd (([42] : List Int32) ++ ds ++ ([] : List Int32)) from by rw [o_w10] at S_x; exact S_x) hns hl1 hqq S_u S_f hfm SC_ hC_
  · exact rmpa11 l Z a0 hw ws x t kd ds fm zC_ h0 n0 O0 (show o_A Z h0 x t kd (([42] : List Int32) ++ ds ++ ([42] : List Int32)) from by rw [o_w11] at S_x; exact S_x) hns hl1 hqq S_u S_f hfm SC_ hC_
theorem rm0 (hw : o_HW Z a0) (ws : o_LC) (p1 : Int32) (p2 : Int32) (p3 : Int32) (p4 : Int32) (fm : Value) (zC_ : Int32) (h0 : Heap) (n0 : Nat) (O0 : Old Z n0 h0) (S_u : o_SU Z) (S_f : o_SF Z fm) (hfm : fm.isRef = true) (SC_ : o_SC Z zC_) (hC_ : ¬ zC_ = 0) :
    o_MetL o_EL l Z x code maxLocals ret ws room_1 #[(.int p1), (.int p2), (.int p3), (.int p4)] h0 (Q0 Z p1 p2 p3 p4 fm zC_ h0 n0) := by
  refine o_enterL o_pn_10 (fun m => o_ef41 m p1 p2 p3 p4) (fun p e s m below meth c s₁ hx hby hml hZ hown hnm hlk hrt X0 e0 hS0 hk0 C0 => ?_)
  have N0 := Fr.nil n0
  have y_ := @hb _ _ hby
  have k_ := @o_k _ _ hw
  have hml : c.maxLocals = 17 := hml
  have hEL := o_EWs hw
  refine o_iloadN X0 hx (y_ at_0) rfl ?_
  refine o_iconst X0 hx (y_ at_1) (x := 3) rfl ?_
  refine o_iand X0 hx (y_ at_2) ?_
  have hkl := o_and3 p1
  generalize p1 &&& (3 : Int32) = kl at hkl ⊢
  refine o_istore X0 hx (y_ at_3) (A' := #[vI p1, vI p2, vI p3, vI p4, vI kl, .unset, .unset, .unset, .unset, .unset, .unset, .unset, .unset, .unset, .unset, .unset, .unset]) rfl ?_
  refine o_iloadN X0 hx (y_ at_5) rfl ?_
  refine o_iconst X0 hx (y_ at_6) (x := 4) rfl ?_
  refine o_iand X0 hx (y_ at_7) ?_
  refine o_join (α := Int32) (P := fun BB => BB = 0 ∨ BB = 1) (F := fun BB => mkF m 16 #[vI p1, vI p2, vI p3, vI p4, vI kl, .unset, .unset, .unset, .unset, .unset, .unset, .unset, .unset, .unset, .unset, .unset, .unset] [(.int BB)]) X0 e0 (fun T1 X1 e1 BB h_BB => ?_) (fun J16 => ?_)
  · show o_G p e below _ T1 (mkF m 16 #[vI p1, vI p2, vI p3, vI p4, vI kl, .unset, .unset, .unset, .unset, .unset, .unset, .unset, .unset, .unset, .unset, .unset, .unset] [(.int BB)])
    refine o_istore X1 hx (y_ at_16) (A' := #[vI p1, vI p2, vI p3, vI p4, vI kl, vI BB, .unset, .unset, .unset, .unset, .unset, .unset, .unset, .unset, .unset, .unset, .unset]) rfl ?_
    refine o_iloadN X1 hx (y_ at_18) rfl ?_
    refine o_bipush X1 hx (y_ at_19) (x := 8) rfl ?_
    refine o_iand X1 hx (y_ at_21) ?_
    refine o_join (α := Int32) (P := fun AA => AA = 0 ∨ AA = 1) (F := fun AA => mkF m 30 #[vI p1, vI p2, vI p3, vI p4, vI kl, vI BB, .unset, .unset, .unset, .unset, .unset, .unset, .unset, .unset, .unset, .unset, .unset] [(.int AA)]) X1 e1 (fun T2 X2 e2 AA h_AA => ?_) (fun J30 => ?_)
    · show o_G p e below _ T2 (mkF m 30 #[vI p1, vI p2, vI p3, vI p4, vI kl, vI BB, .unset, .unset, .unset, .unset, .unset, .unset, .unset, .unset, .unset, .unset, .unset] [(.int AA)])
      refine o_istore X2 hx (y_ at_30) (A' := #[vI p1, vI p2, vI p3, vI p4, vI kl, vI BB, vI AA, .unset, .unset, .unset, .unset, .unset, .unset, .unset, .unset, .unset, .unset]) rfl ?_
      refine o_iloadN X2 hx (y_ at_32) rfl ?_
      refine o_sta (y := o_m62) (argsL := [(.int p2)]) (S := []) (W := 0) X2 hx hZ hown (k_ 0 rfl) (k_ 1 rfl) (k_ 2 rfl) (k_ 3 rfl) (backOf (W := 0) (rmdra l Z a0 hw [] p2 h0 n0 O0) hZ (k_ 3 rfl) (k_ 2 rfl) (by decide) (by decide)) e2 hml (lenOf o_pd__28I_29C rfl) (y_ at_33) (fun T3 L3 v3 X3 hQ3 => ?_)
      obtain ⟨rfl, N3q, hh3⟩ := hQ3
      have N3 := Fr.app N0 N3q
      show o_G p e below _ T3 (mkF m 36 #[vI p1, vI p2, vI p3, vI p4, vI kl, vI BB, vI AA, .unset, .unset, .unset, .unset, .unset, .unset, .unset, .unset, .unset, .unset] [(.int (o_dr p2))])
      obtain ⟨ca, e_ca, n_ca, h_ca, s_ca⟩ := o_drP p2
      rw [e_ca]
      refine o_istore X3 hx (y_ at_36) (A' := #[vI p1, vI p2, vI p3, vI p4, vI kl, vI BB, vI AA, vI ca, .unset, .unset, .unset, .unset, .unset, .unset, .unset, .unset, .unset]) rfl ?_
      refine o_iloadN X3 hx (y_ at_38) rfl ?_
      refine o_sta (y := o_m62) (argsL := [(.int p3)]) (S := []) (W := 0) X3 hx hZ hown (k_ 0 rfl) (k_ 1 rfl) (k_ 2 rfl) (k_ 3 rfl) (backOf (W := 0) (rmdra l Z a0 hw [] p3 h0 n0 O0) hZ (k_ 3 rfl) (k_ 2 rfl) (by decide) (by decide)) hh3 hml (lenOf o_pd__28I_29C rfl) (y_ at_39) (fun T4 L4 v4 X4 hQ4 => ?_)
      obtain ⟨rfl, N4q, hh4⟩ := hQ4
      have N4 := Fr.app N3 N4q
      show o_G p e below _ T4 (mkF m 42 #[vI p1, vI p2, vI p3, vI p4, vI kl, vI BB, vI AA, vI ca, .unset, .unset, .unset, .unset, .unset, .unset, .unset, .unset, .unset] [(.int (o_dr p3))])
      obtain ⟨cb, e_cb, n_cb, h_cb, s_cb⟩ := o_drP p3
      rw [e_cb]
      refine o_istore X4 hx (y_ at_42) (A' := #[vI p1, vI p2, vI p3, vI p4, vI kl, vI BB, vI AA, vI ca, vI cb, .unset, .unset, .unset, .unset, .unset, .unset, .unset, .unset]) rfl ?_
      refine o_iloadN X4 hx (y_ at_44) rfl ?_
      refine o_sta (y := o_m62) (argsL := [(.int p4)]) (S := []) (W := 0) X4 hx hZ hown (k_ 0 rfl) (k_ 1 rfl) (k_ 2 rfl) (k_ 3 rfl) (backOf (W := 0) (rmdra l Z a0 hw [] p4 h0 n0 O0) hZ (k_ 3 rfl) (k_ 2 rfl) (by decide) (by decide)) hh4 hml (lenOf o_pd__28I_29C rfl) (y_ at_45) (fun T5 L5 v5 X5 hQ5 => ?_)
      obtain ⟨rfl, N5q, hh5⟩ := hQ5
      have N5 := Fr.app N4 N5q
      show o_G p e below _ T5 (mkF m 48 #[vI p1, vI p2, vI p3, vI p4, vI kl, vI BB, vI AA, vI ca, vI cb, .unset, .unset, .unset, .unset, .unset, .unset, .unset, .unset] [(.int (o_dr p4))])
      obtain ⟨cc, e_cc, n_cc, h_cc, s_cc⟩ := o_drP p4
      rw [e_cc]
      refine o_istore X5 hx (y_ at_48) (A' := #[vI p1, vI p2, vI p3, vI p4, vI kl, vI BB, vI AA, vI ca, vI cb, vI cc, .unset, .unset, .unset, .unset, .unset, .unset, .unset]) rfl ?_
      refine o_iload X5 hx (y_ at_50) rfl ?_
      refine o_iF (t := 111) X5 hx (y_ at_52) (fun hq => ?_) (fun hq => ?_)
      · have hc52 := o_h_ne.1 hq
        have hT : ∀ (T_ : State) (h_ : Heap) (L_ : List Loc) (bc bp : Addr) (kc kp : ClassId) (ds : List Int32) (lz pz : Int32), Stand p l e room_1 (s.setVm s.vm) m #[(.int p1), (.int p2), (.int p3), (.int p4)] below meth c T_ L_ 8 64 → T_.heap = h_ → Fr n0 L_ → Old Z n0 h_ → CHr Z o_EL s.vm h0 s.vm h_ → Arv Z h_ bc kc .char kl (ds.map Value.int) (.int 0) → Arv Z h_ bp kp .char lz ((o_wr BB AA ds).map Value.int) (.int 0) → kl = Int32.ofNat ds.length → lz = Int32.ofNat (o_wr BB AA ds).length → o_c16 ds → o_ns ds → 1 ≤ ds.length → ds.length ≤ 3 → o_G p e below (o_EW s (Q0 Z p1 p2 p3 p4 fm zC_ h0 n0) room_1.cells room_1.slots) T_ (mkF m 254 #[vI p1, vI p2, vI p3, vI p4, vI kl, vI BB, vI AA, vI ca, vI cb, vI cc, vR bc, vI lz, vR bp, vI pz, .unset, .unset, .unset] []) := by
          intro T_ h_ L_ bc bp kc kp ds lz pz X_ e_ N_ O_ C_ V_c V_p hn hm h16 hns hl1 hqq
          refine o_new X_ hx hZ hown (k_ 238 rfl) (k_ 14 rfl) (k_ 6 rfl) e_ (y_ at_254) (by decide) (by decide) (fun T6 h6 b6 X6 e6 gg6 E6 A6 D6 => ?_)
          have g_b6 := o_fresh O_ gg6
          have O6 := Old.ext O_ E6
          have C7 := CHr.trans C_ (CHr.ext E6 C_.1)
          have F6_value : o_FV Z h6 b6 .null := D6 (Or.inr (k_ 27 rfl)) (ty := (.array .byte)) (by decide)
          have F6_coder : o_FC Z h6 b6 (.int 0) := D6 (Or.inr (k_ 29 rfl)) (ty := .byte) (by decide)
          refine o_dup X6 hx (y_ at_257) rfl ?_
          refine o_aload X6 hx (y_ at_258) rfl rfl ?_
          have c8 := (Arv.ext V_p E6)
          refine o_ini (y := o_m41) (b := b6) (argsL := [(.ref bp)]) (S := [(.ref b6)]) (W := 1) rfl X6 hx hZ hown (k_ 239 rfl) (k_ 240 rfl) (k_ 241 rfl) (backOf (W := 1) (rmstc l Z a0 hw [] b6 bp lz kp (o_wr BB AA ds) zC_ h6 n0 O6 A6 F6_value F6_coder g_b6 c8 hm (o_wr16 h16) (o_wr1 hl1) (o_wrl hqq) S_u SC_ hC_) hZ (k_ 241 rfl) (k_ 6 rfl) (by decide) (by decide)) e6 hml (lenOf o_pd__28_5bC_29V rfl) (y_ at_260) (fun T9 L9 v9 X9 hQ9 => ?_)
          obtain ⟨rfl, N9q, Kp9, t9, kd9, g_t9, ht9, hne9, Sf9⟩ := hQ9
          have N9 := Fr.app N_ N9q
          have O10 := Old.keep O6 Kp9 (allS g_b6 all0)
          have C11 := CHr.trans C7 (CHr.keep Kp9 (sfS (o_safeN hZ.alike A6 F6_value) sf0) C7.1)
          show o_G p e below _ T9 (mkF m 263 #[vI p1, vI p2, vI p3, vI p4, vI kl, vI BB, vI AA, vI ca, vI cb, vI cc, vR bc, vI lz, vR bp, vI pz, .unset, .unset, .unset] [(.ref b6)])
          refine o_astore X9 hx (y_ at_263) rfl (A' := #[vI p1, vI p2, vI p3, vI p4, vI kl, vI BB, vI AA, vI ca, vI cb, vI cc, vR bc, vI lz, vR bp, vI pz, vR b6, .unset, .unset]) rfl ?_
          refine o_new X9 hx hZ hown (k_ 238 rfl) (k_ 14 rfl) (k_ 6 rfl) rfl (y_ at_265) (by decide) (by decide) (fun T12 h12 b12 X12 e12 gg12 E12 A12 D12 => ?_)
          have g_b12 := o_fresh O10 gg12
          have O12 := Old.ext O10 E12
          have C13 := CHr.trans C11 (CHr.ext E12 C11.1)
          have F12_value : o_FV Z h12 b12 .null := D12 (Or.inr (k_ 27 rfl)) (ty := (.array .byte)) (by decide)
          have F12_coder : o_FC Z h12 b12 (.int 0) := D12 (Or.inr (k_ 29 rfl)) (ty := .byte) (by decide)
          refine o_dup X12 hx (y_ at_268) rfl ?_
          refine o_aload X12 hx (y_ at_269) rfl rfl ?_
          have c14 := (Arv.ext (Arv.keep (Arv.ext V_c E6) Kp9 (ninS (o_ng V_c.lt gg6) nin0)) E12)
          refine o_ini (y := o_m41) (b := b12) (argsL := [(.ref bc)]) (S := [(.ref b12)]) (W := 1) rfl X12 hx hZ hown (k_ 239 rfl) (k_ 240 rfl) (k_ 241 rfl) (backOf (W := 1) (rmstc l Z a0 hw [] b12 bc kl kc ds zC_ h12 n0 O12 A12 F12_value F12_coder g_b12 c14 hn h16 hl1 (Nat.le_trans hqq (by decide)) S_u SC_ hC_) hZ (k_ 241 rfl) (k_ 6 rfl) (by decide) (by decide)) e12 hml (lenOf o_pd__28_5bC_29V rfl) (y_ at_271) (fun T15 L15 v15 X15 hQ15 => ?_)
          obtain ⟨rfl, N15q, Kp15, t15, kd15, g_t15, ht15, hne15, Sf15⟩ := hQ15
          have N15 := Fr.app N9 N15q
          have O16 := Old.keep O12 Kp15 (allS g_b12 all0)
          have C17 := CHr.trans C13 (CHr.keep Kp15 (sfS (o_safeN hZ.alike A12 F12_value) sf0) C13.1)
          show o_G p e below _ T15 (mkF m 274 #[vI p1, vI p2, vI p3, vI p4, vI kl, vI BB, vI AA, vI ca, vI cb, vI cc, vR bc, vI lz, vR bp, vI pz, vR b6, .unset, .unset] [(.ref b12)])
          refine o_astore X15 hx (y_ at_274) rfl (A' := #[vI p1, vI p2, vI p3, vI p4, vI kl, vI BB, vI AA, vI ca, vI cb, vI cc, vR bc, vI lz, vR bp, vI pz, vR b6, vR b12, .unset]) rfl ?_
          refine o_aload X15 hx (y_ at_276) rfl rfl ?_
          have c18 := (o_A.keep (o_A.ext E12 Sf9) Kp15 (ninS (o_ng Sf9.lt gg12) nin0) (ninS (o_ng Sf9.lt2 gg12) nin0))
          refine o_staticH (y := o_m74) (argsL := [(.ref b6)]) (S := []) (W := 0) X15 hx hZ hS0 hown (k_ 30 rfl) (k_ 31 rfl) (k_ 32 rfl) (k_ 33 rfl) (by decide) (backOfSH (W := 0) (rmpar l Z a0 hw [] b6 t9 kd9 BB AA ds fm zC_ T15.heap n0 O16 c18 h_BB h_AA hns hl1 hqq S_u S_f hfm SC_ hC_) hZ (k_ 33 rfl) (k_ 32 rfl) (by decide) (by decide) hEL C17.1) rfl (Nat.le_trans (Nat.le_trans (Nat.le_trans (Nat.le_trans (Nat.zero_le _) E6.1) Kp9.1) E12.1) Kp15.1) (by rw [hml]; rfl) (lenOf o_pd__28Ljava_2flang_2fString_3b_29Lorg_2fadviceweft_2fpointcut_2fNamePattern_3b rfl) rfl (Nat.le_of_eq rfl) (y_ at_278) (by decide) (by decide) (fun T19 L19 v19 k19 X19 hS19 hk19 hZ19 hown19 hQ19 hC19 => ?_)
          obtain ⟨b19, x19, t19, kd19, rfl, N19q, Kp19, g_b19, hb19, Ex19, Fk19, Fb19, Fa19, Sf19⟩ := hQ19
          have N19 := Fr.app N15 N19q
          have O20 := Old.keep O16 Kp19 all0
          have C21 := CHr.trans C17 (hC19)
          show o_G p e below _ T19 (mkF m 281 #[vI p1, vI p2, vI p3, vI p4, vI kl, vI BB, vI AA, vI ca, vI cb, vI cc, vR bc, vI lz, vR bp, vI pz, vR b6, vR b12, .unset] [(.ref b19)])
          refine o_astore X19 hx (y_ at_281) rfl (A' := #[vI p1, vI p2, vI p3, vI p4, vI kl, vI BB, vI AA, vI ca, vI cb, vI cc, vR bc, vI lz, vR bp, vI pz, vR b6, vR b12, vR b19]) rfl ?_
          refine o_aload X19 hx (y_ at_283) rfl rfl ?_
          refine o_vir (y := o_m63) (b := b19) (argsL := []) (S := []) (W := 0) X19 hx hZ19 hown19 (k_ 106 rfl) (k_ 107 rfl) (k_ 109 rfl) (k_ 108 rfl) (backOf (W := 0) (rmgco l Z a0 hw [] b19 x19 T19.heap n0 O20 Fk19) hZ19 (k_ 110 rfl) (k_ 32 rfl) (by decide) (by decide)) rfl Ex19 hml (lenOf o_pd__28_29Ljava_2flang_2fString_3b rfl) (y_ at_285) (fun T22 L22 v22 X22 hQ22 => ?_)
          obtain ⟨rfl, N22q, hh22⟩ := hQ22
          have N22 := Fr.app N19 N22q
          show o_G p e below _ T22 (mkF m 288 #[vI p1, vI p2, vI p3, vI p4, vI kl, vI BB, vI AA, vI ca, vI cb, vI cc, vR bc, vI lz, vR bp, vI pz, vR b6, vR b12, vR b19] [(.ref x19)])
          refine o_aload X22 hx (y_ at_288) rfl rfl ?_
          have c23 := (o_A.keep Sf15 Kp19 nin0 nin0)
          refine o_vir (y := o_m15) (b := x19) (argsL := [(.ref b12)]) (S := []) (W := 0) X22 hx hZ19 hown19 (k_ 236 rfl) (k_ 43 rfl) (k_ 45 rfl) (k_ 44 rfl) (backOf (W := 0) (rmeqs l Z a0 hw [] x19 b12 t19 t15 kd19 kd15 ds zC_ T19.heap n0 O20 Sf19 c23 SC_ hC_) hZ19 (k_ 46 rfl) (k_ 6 rfl) (by decide) (by decide)) hh22 Sf19.1 hml (lenOf o_pd__28Ljava_2flang_2fObject_3b_29Z rfl) (y_ at_290) (fun T24 L24 v24 X24 hQ24 => ?_)
          obtain ⟨rfl, N24q, hh24⟩ := hQ24
          have N24 := Fr.app N22 N24q
          show o_G p e below _ T24 (mkF m 293 #[vI p1, vI p2, vI p3, vI p4, vI kl, vI BB, vI AA, vI ca, vI cb, vI cc, vR bc, vI lz, vR bp, vI pz, vR b6, vR b12, vR b19] [(.int 1)])
          refine o_iFF X24 hx (y_ at_293) ?_
          refine o_aload X24 hx (y_ at_296) rfl rfl ?_
          refine o_vir (y := o_m64) (b := b19) (argsL := []) (S := []) (W := 0) X24 hx hZ19 hown19 (k_ 112 rfl) (k_ 113 rfl) (k_ 115 rfl) (k_ 114 rfl) (backOf (W := 0) (rmgab l Z a0 hw [] b19 BB T19.heap n0 O20 Fb19 h_BB) hZ19 (k_ 116 rfl) (k_ 32 rfl) (by decide) (by decide)) hh24 Ex19 hml (lenOf o_pd__28_29Z rfl) (y_ at_298) (fun T25 L25 v25 X25 hQ25 => ?_)
          obtain ⟨rfl, N25q, hh25⟩ := hQ25
          have N25 := Fr.app N24 N25q
          show o_G p e below _ T25 (mkF m 301 #[vI p1, vI p2, vI p3, vI p4, vI kl, vI BB, vI AA, vI ca, vI cb, vI cc, vR bc, vI lz, vR bp, vI pz, vR b6, vR b12, vR b19] [(.int BB)])
          refine o_iload X25 hx (y_ at_301) rfl ?_
          refine o_iC (t := 333) X25 hx (y_ at_303) (fun hq => ?_) (fun hq => ?_)
          · have hc303 := o_c_ne.1 hq
            exact absurd rfl hc303
          have hc303 := o_c_ne.2 hq
          refine o_aload X25 hx (y_ at_306) rfl rfl ?_
          refine o_vir (y := o_m65) (b := b19) (argsL := []) (S := []) (W := 0) X25 hx hZ19 hown19 (k_ 117 rfl) (k_ 118 rfl) (k_ 120 rfl) (k_ 119 rfl) (backOf (W := 0) (rmgaa l Z a0 hw [] b19 AA T19.heap n0 O20 Fa19 h_AA) hZ19 (k_ 121 rfl) (k_ 32 rfl) (by decide) (by decide)) hh25 Ex19 hml (lenOf o_pd__28_29Z rfl) (y_ at_308) (fun T26 L26 v26 X26 hQ26 => ?_)
          obtain ⟨rfl, N26q, hh26⟩ := hQ26
          have N26 := Fr.app N25 N26q
          show o_G p e below _ T26 (mkF m 311 #[vI p1, vI p2, vI p3, vI p4, vI kl, vI BB, vI AA, vI ca, vI cb, vI cc, vR bc, vI lz, vR bp, vI pz, vR b6, vR b12, vR b19] [(.int AA)])
          refine o_iload X26 hx (y_ at_311) rfl ?_
          refine o_iC (t := 333) X26 hx (y_ at_313) (fun hq => ?_) (fun hq => ?_)
          · have hc313 := o_c_ne.1 hq
            exact absurd rfl hc313
          have hc313 := o_c_ne.2 hq
          refine o_aload X26 hx (y_ at_316) rfl rfl ?_
          refine o_virtualH (y := o_m72) (z := o_m72) (b := b19) (argsL := []) (S := []) (W := 0) X26 hx hZ19 hS19 hown19 (k_ 122 rfl) (k_ 123 rfl) (notFace_of_selects (args := #[]) (mvT hZ19 (k_ 125 rfl))) (k_ 125 rfl) (k_ 124 rfl) (by decide) (backOfSH (W := 0) (rmtsn l Z a0 hw [] b19 x19 BB AA t19 kd19 ds fm zC_ T19.heap n0 O20 Fk19 Fb19 Fa19 Sf19 hqq S_u S_f hfm SC_ hC_) hZ19 (k_ 126 rfl) (k_ 32 rfl) (by decide) (by decide) hEL C21.1) hh26 hk19 Ex19 (by rw [hml]; rfl) (lenOf o_pd__28_29Ljava_2flang_2fString_3b rfl) rfl (Nat.le_of_eq rfl) (y_ at_318) (by decide) (by decide) (fun T27 L27 v27 k27 X27 hS27 hk27 hZ27 hown27 hQ27 hC27 => ?_)
          obtain ⟨x27, t27, kd27, rfl, N27q, Kp27, g_x27, hx27, g_t27, ht27, hne27, Sf27⟩ := hQ27
          have N27 := Fr.app N26 N27q
          have O28 := Old.keep O20 Kp27 all0
          have C29 := CHr.trans C21 (hC27)
          show o_G p e below _ T27 (mkF m 321 #[vI p1, vI p2, vI p3, vI p4, vI kl, vI BB, vI AA, vI ca, vI cb, vI cc, vR bc, vI lz, vR bp, vI pz, vR b6, vR b12, vR b19] [(.ref x27)])
          refine o_aload X27 hx (y_ at_321) rfl rfl ?_
          have c30 := (o_A.keep (o_A.keep c18 Kp19 nin0 nin0) Kp27 nin0 nin0)
          refine o_vir (y := o_m15) (b := x27) (argsL := [(.ref b6)]) (S := []) (W := 0) X27 hx hZ27 hown27 (k_ 236 rfl) (k_ 43 rfl) (k_ 45 rfl) (k_ 44 rfl) (backOf (W := 0) (rmeqs l Z a0 hw [] x27 b6 t27 t9 kd27 kd9 (o_wr BB AA ds) zC_ T27.heap n0 O28 Sf27 c30 SC_ hC_) hZ27 (k_ 46 rfl) (k_ 6 rfl) (by decide) (by decide)) rfl Sf27.1 hml (lenOf o_pd__28Ljava_2flang_2fObject_3b_29Z rfl) (y_ at_323) (fun T31 L31 v31 X31 hQ31 => ?_)
          obtain ⟨rfl, N31q, hh31⟩ := hQ31
          have N31 := Fr.app N27 N31q
          show o_G p e below _ T31 (mkF m 326 #[vI p1, vI p2, vI p3, vI p4, vI kl, vI BB, vI AA, vI ca, vI cb, vI cc, vR bc, vI lz, vR bp, vI pz, vR b6, vR b12, vR b19] [(.int 1)])
          refine o_iFF X31 hx (y_ at_326) ?_
          refine o_iconst X31 hx (y_ at_329) (x := 1) rfl ?_
          refine o_gO (t := 334) X31 hx (y_ at_330) ?_
          exact o_retNW X31 hx hS27 (by rw [hh31]; exact hk27) (t := .boolean) hrt hlk (by simp) (y_ at_334) rfl (by decide) (by decide) (o_hQ hh31 ⟨rfl, N31⟩)
        rcases o_k3 hkl hc52 with rfl | rfl | rfl
        · skip
          refine o_iload X5 hx (y_ at_111) rfl ?_
          refine o_newA (cap := 1) X5 hx hZ (k_ 237 rfl) hh5 (y_ at_113) (by decide) (by decide) (by decide) (by decide) (by decide) (fun T32 h32 k32 b32 X32 e32 gg32 E32 A32 => ?_)
          have g_b32 := o_fresh O0 gg32
          have O32 := Old.ext O0 E32
          have C33 := CHr.trans C0 (CHr.ext E32 C0.1)
          have V32 : Arv Z h32 b32 k32 .char (1 : Int32) [(.int 0)] (.int 0) := A32.pad (pad_rep [] (.int 0) 1)
          refine o_astore X32 hx (y_ at_115) rfl (A' := #[vI p1, vI p2, vI p3, vI p4, vI 1, vI BB, vI AA, vI ca, vI cb, vI cc, vR b32, .unset, .unset, .unset, .unset, .unset, .unset]) rfl ?_
          refine o_aload X32 hx (y_ at_117) rfl rfl ?_
          refine o_iconst X32 hx (y_ at_119) (x := 0) rfl ?_
          refine o_iload X32 hx (y_ at_120) rfl ?_
          refine o_stC (i := 0) (z := ca) X32 hx hZ e32 V32 (y_ at_122) ⟨by decide, by decide⟩ rfl (o_b rfl) n_ca (fun T34 h34 X34 e34 W34 V34 => ?_)
          have N34 := Fr.snoc X34 N5 g_b32
          have O34 := Old.wr O32 W34 g_b32
          have C35 := CHr.trans C33 (CHr.wr W34 (Safe.arv hZ.alike V32 (by decide)) C33.1)
          refine o_iload X34 hx (y_ at_123) rfl ?_
          refine o_iconst X34 hx (y_ at_125) (x := 1) rfl ?_
          refine o_iCT (t := 135) X34 hx (y_ at_126) ?_
          refine o_iload X34 hx (y_ at_135) rfl ?_
          refine o_iconst X34 hx (y_ at_137) (x := 2) rfl ?_
          refine o_iCT (t := 147) X34 hx (y_ at_138) ?_
          rcases h_BB with rfl | rfl <;> rcases h_AA with rfl | rfl
          · skip
            refine o_iload X34 hx (y_ at_147) rfl ?_
            refine o_iload X34 hx (y_ at_149) rfl ?_
            refine o_iFT (t := 158) X34 hx (y_ at_151) ?_
            refine o_iconst X34 hx (y_ at_158) (x := 0) rfl ?_
            refine o_iadd X34 hx (y_ at_159) ?_
            refine o_valE (z := 1) (by decide) ?_
            refine o_iload X34 hx (y_ at_160) rfl ?_
            refine o_iFT (t := 169) X34 hx (y_ at_162) ?_
            refine o_iconst X34 hx (y_ at_169) (x := 0) rfl ?_
            refine o_iadd X34 hx (y_ at_170) ?_
            refine o_valE (z := 1) (by decide) ?_
            refine o_istore X34 hx (y_ at_171) (A' := #[vI p1, vI p2, vI p3, vI p4, vI 1, vI 0, vI 0, vI ca, vI cb, vI cc, vR b32, vI 1, .unset, .unset, .unset, .unset, .unset]) rfl ?_
            refine o_iload X34 hx (y_ at_173) rfl ?_
            refine o_newA (cap := 1) X34 hx hZ (k_ 237 rfl) e34 (y_ at_175) (by decide) (by decide) (by decide) (by decide) (by decide) (fun T36 h36 k36 b36 X36 e36 gg36 E36 A36 => ?_)
            have g_b36 := o_fresh O34 gg36
            have O36 := Old.ext O34 E36
            have C37 := CHr.trans C35 (CHr.ext E36 C35.1)
            have V36 : Arv Z h36 b36 k36 .char (1 : Int32) [(.int 0)] (.int 0) := A36.pad (pad_rep [] (.int 0) 1)
            refine o_astore X36 hx (y_ at_177) rfl (A' := #[vI p1, vI p2, vI p3, vI p4, vI 1, vI 0, vI 0, vI ca, vI cb, vI cc, vR b32, vI 1, vR b36, .unset, .unset, .unset, .unset]) rfl ?_
            refine o_iload X36 hx (y_ at_179) rfl ?_
            refine o_iFT (t := 188) X36 hx (y_ at_181) ?_
            refine o_iconst X36 hx (y_ at_188) (x := 0) rfl ?_
            refine o_istore X36 hx (y_ at_189) (A' := #[vI p1, vI p2, vI p3, vI p4, vI 1, vI 0, vI 0, vI ca, vI cb, vI cc, vR b32, vI 1, vR b36, vI 0, .unset, .unset, .unset]) rfl ?_
            refine o_iload X36 hx (y_ at_191) rfl ?_
            refine o_iFT (t := 202) X36 hx (y_ at_193) ?_
            refine o_aload X36 hx (y_ at_202) rfl rfl ?_
            refine o_iload X36 hx (y_ at_204) rfl ?_
            refine o_iload X36 hx (y_ at_206) rfl ?_
            refine o_stC (i := 0) (z := ca) X36 hx hZ e36 V36 (y_ at_208) ⟨by decide, by decide⟩ rfl (o_b rfl) n_ca (fun T38 h38 X38 e38 W38 V38 => ?_)
            have N38 := Fr.snoc X38 N34 g_b36
            have O38 := Old.wr O36 W38 g_b36
            have C39 := CHr.trans C37 (CHr.wr W38 (Safe.arv hZ.alike V36 (by decide)) C37.1)
            refine o_iload X38 hx (y_ at_209) rfl ?_
            refine o_iconst X38 hx (y_ at_211) (x := 1) rfl ?_
            refine o_iCT (t := 224) X38 hx (y_ at_212) ?_
            refine o_iload X38 hx (y_ at_224) rfl ?_
            refine o_iconst X38 hx (y_ at_226) (x := 2) rfl ?_
            refine o_iCT (t := 239) X38 hx (y_ at_227) ?_
            refine o_iload X38 hx (y_ at_239) rfl ?_
            refine o_iFT (t := 254) X38 hx (y_ at_241) ?_
            have c40 := (Arv.other (Arv.ext V34 E36) W38 (o_ng V34.lt gg36))
            exact hT _ _ _ b32 b36 _ _ ([ca] : List Int32) _ _ (o_up X38 (by decide) (by decide)) e38 N38 O38 C39 c40 (by rw [o_w00]; exact V38) rfl (by rw [o_w00]; rfl) (o_c16S h_ca o_c160) (o_nsS s_ca o_ns0) (o_b rfl) (o_b rfl)
          · skip
            refine o_iload X34 hx (y_ at_147) rfl ?_
            refine o_iload X34 hx (y_ at_149) rfl ?_
            refine o_iFT (t := 158) X34 hx (y_ at_151) ?_
            refine o_iconst X34 hx (y_ at_158) (x := 0) rfl ?_
            refine o_iadd X34 hx (y_ at_159) ?_
            refine o_valE (z := 1) (by decide) ?_
            refine o_iload X34 hx (y_ at_160) rfl ?_
            refine o_iFF X34 hx (y_ at_162) ?_
            refine o_iconst X34 hx (y_ at_165) (x := 1) rfl ?_
            refine o_gO (t := 170) X34 hx (y_ at_166) ?_
            refine o_iadd X34 hx (y_ at_170) ?_
            refine o_valE (z := 2) (by decide) ?_
            refine o_istore X34 hx (y_ at_171) (A' := #[vI p1, vI p2, vI p3, vI p4, vI 1, vI 0, vI 1, vI ca, vI cb, vI cc, vR b32, vI 2, .unset, .unset, .unset, .unset, .unset]) rfl ?_
            refine o_iload X34 hx (y_ at_173) rfl ?_
            refine o_newA (cap := 2) X34 hx hZ (k_ 237 rfl) e34 (y_ at_175) (by decide) (by decide) (by decide) (by decide) (by decide) (fun T41 h41 k41 b41 X41 e41 gg41 E41 A41 => ?_)
            have g_b41 := o_fresh O34 gg41
            have O41 := Old.ext O34 E41
            have C42 := CHr.trans C35 (CHr.ext E41 C35.1)
            have V41 : Arv Z h41 b41 k41 .char (2 : Int32) [(.int 0), (.int 0)] (.int 0) := A41.pad (pad_rep [] (.int 0) 2)
            refine o_astore X41 hx (y_ at_177) rfl (A' := #[vI p1, vI p2, vI p3, vI p4, vI 1, vI 0, vI 1, vI ca, vI cb, vI cc, vR b32, vI 2, vR b41, .unset, .unset, .unset, .unset]) rfl ?_
            refine o_iload X41 hx (y_ at_179) rfl ?_
            refine o_iFT (t := 188) X41 hx (y_ at_181) ?_
            refine o_iconst X41 hx (y_ at_188) (x := 0) rfl ?_
            refine o_istore X41 hx (y_ at_189) (A' := #[vI p1, vI p2, vI p3, vI p4, vI 1, vI 0, vI 1, vI ca, vI cb, vI cc, vR b32, vI 2, vR b41, vI 0, .unset, .unset, .unset]) rfl ?_
            refine o_iload X41 hx (y_ at_191) rfl ?_
            refine o_iFT (t := 202) X41 hx (y_ at_193) ?_
            refine o_aload X41 hx (y_ at_202) rfl rfl ?_
            refine o_iload X41 hx (y_ at_204) rfl ?_
            refine o_iload X41 hx (y_ at_206) rfl ?_
            refine o_stC (i := 0) (z := ca) X41 hx hZ e41 V41 (y_ at_208) ⟨by decide, by decide⟩ rfl (o_b rfl) n_ca (fun T43 h43 X43 e43 W43 V43 => ?_)
            have N43 := Fr.snoc X43 N34 g_b41
            have O43 := Old.wr O41 W43 g_b41
            have C44 := CHr.trans C42 (CHr.wr W43 (Safe.arv hZ.alike V41 (by decide)) C42.1)
            refine o_iload X43 hx (y_ at_209) rfl ?_
            refine o_iconst X43 hx (y_ at_211) (x := 1) rfl ?_
            refine o_iCT (t := 224) X43 hx (y_ at_212) ?_
            refine o_iload X43 hx (y_ at_224) rfl ?_
            refine o_iconst X43 hx (y_ at_226) (x := 2) rfl ?_
            refine o_iCT (t := 239) X43 hx (y_ at_227) ?_
            refine o_iload X43 hx (y_ at_239) rfl ?_
            refine o_iFF X43 hx (y_ at_241) ?_
            refine o_aload X43 hx (y_ at_244) rfl rfl ?_
            refine o_iload X43 hx (y_ at_246) rfl ?_
            refine o_iload X43 hx (y_ at_248) rfl ?_
            refine o_iadd X43 hx (y_ at_250) ?_
            refine o_valE (z := 1) (by decide) ?_
            refine o_bipush X43 hx (y_ at_251) (x := 42) rfl ?_
            refine o_stC (i := 1) (z := 42) X43 hx hZ e43 V43 (y_ at_253) ⟨by decide, by decide⟩ rfl (o_b rfl) (by decide) (fun T45 h45 X45 e45 W45 V45 => ?_)
            have N45 := Fr.snoc X45 N43 g_b41
            have O45 := Old.wr O43 W45 g_b41
            have C46 := CHr.trans C44 (CHr.wr W45 (Safe.arv hZ.alike V43 (by decide)) C44.1)
            have c47 := (Arv.other (Arv.other (Arv.ext V34 E41) W43 (o_ng V34.lt gg41)) W45 (o_ng V34.lt gg41))
            exact hT _ _ _ b32 b41 _ _ ([ca] : List Int32) _ _ (o_up X45 (by decide) (by decide)) e45 N45 O45 C46 c47 (by rw [o_w01]; exact V45) rfl (by rw [o_w01]; rfl) (o_c16S h_ca o_c160) (o_nsS s_ca o_ns0) (o_b rfl) (o_b rfl)
          · skip
            refine o_iload X34 hx (y_ at_147) rfl ?_
            refine o_iload X34 hx (y_ at_149) rfl ?_
            refine o_iFF X34 hx (y_ at_151) ?_
            refine o_iconst X34 hx (y_ at_154) (x := 1) rfl ?_
            refine o_gO (t := 159) X34 hx (y_ at_155) ?_
            refine o_iadd X34 hx (y_ at_159) ?_
            refine o_valE (z := 2) (by decide) ?_
            refine o_iload X34 hx (y_ at_160) rfl ?_
            refine o_iFT (t := 169) X34 hx (y_ at_162) ?_
            refine o_iconst X34 hx (y_ at_169) (x := 0) rfl ?_
            refine o_iadd X34 hx (y_ at_170) ?_
            refine o_valE (z := 2) (by decide) ?_
            refine o_istore X34 hx (y_ at_171) (A' := #[vI p1, vI p2, vI p3, vI p4, vI 1, vI 1, vI 0, vI ca, vI cb, vI cc, vR b32, vI 2, .unset, .unset, .unset, .unset, .unset]) rfl ?_
            refine o_iload X34 hx (y_ at_173) rfl ?_
            refine o_newA (cap := 2) X34 hx hZ (k_ 237 rfl) e34 (y_ at_175) (by decide) (by decide) (by decide) (by decide) (by decide) (fun T48 h48 k48 b48 X48 e48 gg48 E48 A48 => ?_)
            have g_b48 := o_fresh O34 gg48
            have O48 := Old.ext O34 E48
            have C49 := CHr.trans C35 (CHr.ext E48 C35.1)
            have V48 : Arv Z h48 b48 k48 .char (2 : Int32) [(.int 0), (.int 0)] (.int 0) := A48.pad (pad_rep [] (.int 0) 2)
            refine o_astore X48 hx (y_ at_177) rfl (A' := #[vI p1, vI p2, vI p3, vI p4, vI 1, vI 1, vI 0, vI ca, vI cb, vI cc, vR b32, vI 2, vR b48, .unset, .unset, .unset, .unset]) rfl ?_
            refine o_iload X48 hx (y_ at_179) rfl ?_
            refine o_iFF X48 hx (y_ at_181) ?_
            refine o_iconst X48 hx (y_ at_184) (x := 1) rfl ?_
            refine o_gO (t := 189) X48 hx (y_ at_185) ?_
            refine o_istore X48 hx (y_ at_189) (A' := #[vI p1, vI p2, vI p3, vI p4, vI 1, vI 1, vI 0, vI ca, vI cb, vI cc, vR b32, vI 2, vR b48, vI 1, .unset, .unset, .unset]) rfl ?_
            refine o_iload X48 hx (y_ at_191) rfl ?_
            refine o_iFF X48 hx (y_ at_193) ?_
            refine o_aload X48 hx (y_ at_196) rfl rfl ?_
            refine o_iconst X48 hx (y_ at_198) (x := 0) rfl ?_
            refine o_bipush X48 hx (y_ at_199) (x := 42) rfl ?_
            refine o_stC (i := 0) (z := 42) X48 hx hZ e48 V48 (y_ at_201) ⟨by decide, by decide⟩ rfl (o_b rfl) (by decide) (fun T50 h50 X50 e50 W50 V50 => ?_)
            have N50 := Fr.snoc X50 N34 g_b48
            have O50 := Old.wr O48 W50 g_b48
            have C51 := CHr.trans C49 (CHr.wr W50 (Safe.arv hZ.alike V48 (by decide)) C49.1)
            refine o_aload X50 hx (y_ at_202) rfl rfl ?_
            refine o_iload X50 hx (y_ at_204) rfl ?_
            refine o_iload X50 hx (y_ at_206) rfl ?_
            refine o_stC (i := 1) (z := ca) X50 hx hZ e50 V50 (y_ at_208) ⟨by decide, by decide⟩ rfl (o_b rfl) n_ca (fun T52 h52 X52 e52 W52 V52 => ?_)
            have N52 := Fr.snoc X52 N50 g_b48
            have O52 := Old.wr O50 W52 g_b48
            have C53 := CHr.trans C51 (CHr.wr W52 (Safe.arv hZ.alike V50 (by decide)) C51.1)
            refine o_iload X52 hx (y_ at_209) rfl ?_
            refine o_iconst X52 hx (y_ at_211) (x := 1) rfl ?_
            refine o_iCT (t := 224) X52 hx (y_ at_212) ?_
            refine o_iload X52 hx (y_ at_224) rfl ?_
            refine o_iconst X52 hx (y_ at_226) (x := 2) rfl ?_
            refine o_iCT (t := 239) X52 hx (y_ at_227) ?_
            refine o_iload X52 hx (y_ at_239) rfl ?_
            refine o_iFT (t := 254) X52 hx (y_ at_241) ?_
            have c54 := (Arv.other (Arv.other (Arv.ext V34 E48) W50 (o_ng V34.lt gg48)) W52 (o_ng V34.lt gg48))
            exact hT _ _ _ b32 b48 _ _ ([ca] : List Int32) _ _ (o_up X52 (by decide) (by decide)) e52 N52 O52 C53 c54 (by rw [o_w10]; exact V52) rfl (by rw [o_w10]; rfl) (o_c16S h_ca o_c160) (o_nsS s_ca o_ns0) (o_b rfl) (o_b rfl)
          · skip
            refine o_iload X34 hx (y_ at_147) rfl ?_
            refine o_iload X34 hx (y_ at_149) rfl ?_
            refine o_iFF X34 hx (y_ at_151) ?_
            refine o_iconst X34 hx (y_ at_154) (x := 1) rfl ?_
            refine o_gO (t := 159) X34 hx (y_ at_155) ?_
            refine o_iadd X34 hx (y_ at_159) ?_
            refine o_valE (z := 2) (by decide) ?_
            refine o_iload X34 hx (y_ at_160) rfl ?_
            refine o_iFF X34 hx (y_ at_162) ?_
            refine o_iconst X34 hx (y_ at_165) (x := 1) rfl ?_
            refine o_gO (t := 170) X34 hx (y_ at_166) ?_
            refine o_iadd X34 hx (y_ at_170) ?_
            refine o_valE (z := 3) (by decide) ?_
            refine o_istore X34 hx (y_ at_171) (A' := #[vI p1, vI p2, vI p3, vI p4, vI 1, vI 1, vI 1, vI ca, vI cb, vI cc, vR b32, vI 3, .unset, .unset, .unset, .unset, .unset]) rfl ?_
            refine o_iload X34 hx (y_ at_173) rfl ?_
            refine o_newA (cap := 3) X34 hx hZ (k_ 237 rfl) e34 (y_ at_175) (by decide) (by decide) (by decide) (by decide) (by decide) (fun T55 h55 k55 b55 X55 e55 gg55 E55 A55 => ?_)
            have g_b55 := o_fresh O34 gg55
            have O55 := Old.ext O34 E55
            have C56 := CHr.trans C35 (CHr.ext E55 C35.1)
            have V55 : Arv Z h55 b55 k55 .char (3 : Int32) [(.int 0), (.int 0), (.int 0)] (.int 0) := A55.pad (pad_rep [] (.int 0) 3)
            refine o_astore X55 hx (y_ at_177) rfl (A' := #[vI p1, vI p2, vI p3, vI p4, vI 1, vI 1, vI 1, vI ca, vI cb, vI cc, vR b32, vI 3, vR b55, .unset, .unset, .unset, .unset]) rfl ?_
            refine o_iload X55 hx (y_ at_179) rfl ?_
            refine o_iFF X55 hx (y_ at_181) ?_
            refine o_iconst X55 hx (y_ at_184) (x := 1) rfl ?_
            refine o_gO (t := 189) X55 hx (y_ at_185) ?_
            refine o_istore X55 hx (y_ at_189) (A' := #[vI p1, vI p2, vI p3, vI p4, vI 1, vI 1, vI 1, vI ca, vI cb, vI cc, vR b32, vI 3, vR b55, vI 1, .unset, .unset, .unset]) rfl ?_
            refine o_iload X55 hx (y_ at_191) rfl ?_
            refine o_iFF X55 hx (y_ at_193) ?_
            refine o_aload X55 hx (y_ at_196) rfl rfl ?_
            refine o_iconst X55 hx (y_ at_198) (x := 0) rfl ?_
            refine o_bipush X55 hx (y_ at_199) (x := 42) rfl ?_
            refine o_stC (i := 0) (z := 42) X55 hx hZ e55 V55 (y_ at_201) ⟨by decide, by decide⟩ rfl (o_b rfl) (by decide) (fun T57 h57 X57 e57 W57 V57 => ?_)
            have N57 := Fr.snoc X57 N34 g_b55
            have O57 := Old.wr O55 W57 g_b55
            have C58 := CHr.trans C56 (CHr.wr W57 (Safe.arv hZ.alike V55 (by decide)) C56.1)
            refine o_aload X57 hx (y_ at_202) rfl rfl ?_
            refine o_iload X57 hx (y_ at_204) rfl ?_
            refine o_iload X57 hx (y_ at_206) rfl ?_
            refine o_stC (i := 1) (z := ca) X57 hx hZ e57 V57 (y_ at_208) ⟨by decide, by decide⟩ rfl (o_b rfl) n_ca (fun T59 h59 X59 e59 W59 V59 => ?_)
            have N59 := Fr.snoc X59 N57 g_b55
            have O59 := Old.wr O57 W59 g_b55
            have C60 := CHr.trans C58 (CHr.wr W59 (Safe.arv hZ.alike V57 (by decide)) C58.1)
            refine o_iload X59 hx (y_ at_209) rfl ?_
            refine o_iconst X59 hx (y_ at_211) (x := 1) rfl ?_
            refine o_iCT (t := 224) X59 hx (y_ at_212) ?_
            refine o_iload X59 hx (y_ at_224) rfl ?_
            refine o_iconst X59 hx (y_ at_226) (x := 2) rfl ?_
            refine o_iCT (t := 239) X59 hx (y_ at_227) ?_
            refine o_iload X59 hx (y_ at_239) rfl ?_
            refine o_iFF X59 hx (y_ at_241) ?_
            refine o_aload X59 hx (y_ at_244) rfl rfl ?_
            refine o_iload X59 hx (y_ at_246) rfl ?_
            refine o_iload X59 hx (y_ at_248) rfl ?_
            refine o_iadd X59 hx (y_ at_250) ?_
            refine o_valE (z := 2) (by decide) ?_
            refine o_bipush X59 hx (y_ at_251) (x := 42) rfl ?_
            refine o_stC (i := 2) (z := 42) X59 hx hZ e59 V59 (y_ at_253) ⟨by decide, by decide⟩ rfl (o_b rfl) (by decide) (fun T61 h61 X61 e61 W61 V61 => ?_)
            have N61 := Fr.snoc X61 N59 g_b55
            have O61 := Old.wr O59 W61 g_b55
            have C62 := CHr.trans C60 (CHr.wr W61 (Safe.arv hZ.alike V59 (by decide)) C60.1)
            have c63 := (Arv.other (Arv.other (Arv.other (Arv.ext V34 E55) W57 (o_ng V34.lt gg55)) W59 (o_ng V34.lt gg55)) W61 (o_ng V34.lt gg55))
            exact hT _ _ _ b32 b55 _ _ ([ca] : List Int32) _ _ (o_up X61 (by decide) (by decide)) e61 N61 O61 C62 c63 (by rw [o_w11]; exact V61) rfl (by rw [o_w11]; rfl) (o_c16S h_ca o_c160) (o_nsS s_ca o_ns0) (o_b rfl) (o_b rfl)
        · skip
          refine o_iload X5 hx (y_ at_111) rfl ?_
          refine o_newA (cap := 2) X5 hx hZ (k_ 237 rfl) hh5 (y_ at_113) (by decide) (by decide) (by decide) (by decide) (by decide) (fun T64 h64 k64 b64 X64 e64 gg64 E64 A64 => ?_)
          have g_b64 := o_fresh O0 gg64
          have O64 := Old.ext O0 E64
          have C65 := CHr.trans C0 (CHr.ext E64 C0.1)
          have V64 : Arv Z h64 b64 k64 .char (2 : Int32) [(.int 0), (.int 0)] (.int 0) := A64.pad (pad_rep [] (.int 0) 2)
          refine o_astore X64 hx (y_ at_115) rfl (A' := #[vI p1, vI p2, vI p3, vI p4, vI 2, vI BB, vI AA, vI ca, vI cb, vI cc, vR b64, .unset, .unset, .unset, .unset, .unset, .unset]) rfl ?_
          refine o_aload X64 hx (y_ at_117) rfl rfl ?_
          refine o_iconst X64 hx (y_ at_119) (x := 0) rfl ?_
          refine o_iload X64 hx (y_ at_120) rfl ?_
          refine o_stC (i := 0) (z := ca) X64 hx hZ e64 V64 (y_ at_122) ⟨by decide, by decide⟩ rfl (o_b rfl) n_ca (fun T66 h66 X66 e66 W66 V66 => ?_)
          have N66 := Fr.snoc X66 N5 g_b64
          have O66 := Old.wr O64 W66 g_b64
          have C67 := CHr.trans C65 (CHr.wr W66 (Safe.arv hZ.alike V64 (by decide)) C65.1)
          refine o_iload X66 hx (y_ at_123) rfl ?_
          refine o_iconst X66 hx (y_ at_125) (x := 1) rfl ?_
          refine o_iCF X66 hx (y_ at_126) ?_
          refine o_aload X66 hx (y_ at_129) rfl rfl ?_
          refine o_iconst X66 hx (y_ at_131) (x := 1) rfl ?_
          refine o_iload X66 hx (y_ at_132) rfl ?_
          refine o_stC (i := 1) (z := cb) X66 hx hZ e66 V66 (y_ at_134) ⟨by decide, by decide⟩ rfl (o_b rfl) n_cb (fun T68 h68 X68 e68 W68 V68 => ?_)
          have N68 := Fr.snoc X68 N66 g_b64
          have O68 := Old.wr O66 W68 g_b64
          have C69 := CHr.trans C67 (CHr.wr W68 (Safe.arv hZ.alike V66 (by decide)) C67.1)
          refine o_iload X68 hx (y_ at_135) rfl ?_
          refine o_iconst X68 hx (y_ at_137) (x := 2) rfl ?_
          refine o_iCT (t := 147) X68 hx (y_ at_138) ?_
          rcases h_BB with rfl | rfl <;> rcases h_AA with rfl | rfl
          · skip
            refine o_iload X68 hx (y_ at_147) rfl ?_
            refine o_iload X68 hx (y_ at_149) rfl ?_
            refine o_iFT (t := 158) X68 hx (y_ at_151) ?_
            refine o_iconst X68 hx (y_ at_158) (x := 0) rfl ?_
            refine o_iadd X68 hx (y_ at_159) ?_
            refine o_valE (z := 2) (by decide) ?_
            refine o_iload X68 hx (y_ at_160) rfl ?_
            refine o_iFT (t := 169) X68 hx (y_ at_162) ?_
            refine o_iconst X68 hx (y_ at_169) (x := 0) rfl ?_
            refine o_iadd X68 hx (y_ at_170) ?_
            refine o_valE (z := 2) (by decide) ?_
            refine o_istore X68 hx (y_ at_171) (A' := #[vI p1, vI p2, vI p3, vI p4, vI 2, vI 0, vI 0, vI ca, vI cb, vI cc, vR b64, vI 2, .unset, .unset, .unset, .unset, .unset]) rfl ?_
            refine o_iload X68 hx (y_ at_173) rfl ?_
            refine o_newA (cap := 2) X68 hx hZ (k_ 237 rfl) e68 (y_ at_175) (by decide) (by decide) (by decide) (by decide) (by decide) (fun T70 h70 k70 b70 X70 e70 gg70 E70 A70 => ?_)
            have g_b70 := o_fresh O68 gg70
            have O70 := Old.ext O68 E70
            have C71 := CHr.trans C69 (CHr.ext E70 C69.1)
            have V70 : Arv Z h70 b70 k70 .char (2 : Int32) [(.int 0), (.int 0)] (.int 0) := A70.pad (pad_rep [] (.int 0) 2)
            refine o_astore X70 hx (y_ at_177) rfl (A' := #[vI p1, vI p2, vI p3, vI p4, vI 2, vI 0, vI 0, vI ca, vI cb, vI cc, vR b64, vI 2, vR b70, .unset, .unset, .unset, .unset]) rfl ?_
            refine o_iload X70 hx (y_ at_179) rfl ?_
            refine o_iFT (t := 188) X70 hx (y_ at_181) ?_
            refine o_iconst X70 hx (y_ at_188) (x := 0) rfl ?_
            refine o_istore X70 hx (y_ at_189) (A' := #[vI p1, vI p2, vI p3, vI p4, vI 2, vI 0, vI 0, vI ca, vI cb, vI cc, vR b64, vI 2, vR b70, vI 0, .unset, .unset, .unset]) rfl ?_
            refine o_iload X70 hx (y_ at_191) rfl ?_
            refine o_iFT (t := 202) X70 hx (y_ at_193) ?_
            refine o_aload X70 hx (y_ at_202) rfl rfl ?_
            refine o_iload X70 hx (y_ at_204) rfl ?_
            refine o_iload X70 hx (y_ at_206) rfl ?_
            refine o_stC (i := 0) (z := ca) X70 hx hZ e70 V70 (y_ at_208) ⟨by decide, by decide⟩ rfl (o_b rfl) n_ca (fun T72 h72 X72 e72 W72 V72 => ?_)
            have N72 := Fr.snoc X72 N68 g_b70
            have O72 := Old.wr O70 W72 g_b70
            have C73 := CHr.trans C71 (CHr.wr W72 (Safe.arv hZ.alike V70 (by decide)) C71.1)
            refine o_iload X72 hx (y_ at_209) rfl ?_
            refine o_iconst X72 hx (y_ at_211) (x := 1) rfl ?_
            refine o_iCF X72 hx (y_ at_212) ?_
            refine o_aload X72 hx (y_ at_215) rfl rfl ?_
            refine o_iload X72 hx (y_ at_217) rfl ?_
            refine o_iconst X72 hx (y_ at_219) (x := 1) rfl ?_
            refine o_iadd X72 hx (y_ at_220) ?_
            refine o_valE (z := 1) (by decide) ?_
            refine o_iload X72 hx (y_ at_221) rfl ?_
            refine o_stC (i := 1) (z := cb) X72 hx hZ e72 V72 (y_ at_223) ⟨by decide, by decide⟩ rfl (o_b rfl) n_cb (fun T74 h74 X74 e74 W74 V74 => ?_)
            have N74 := Fr.snoc X74 N72 g_b70
            have O74 := Old.wr O72 W74 g_b70
            have C75 := CHr.trans C73 (CHr.wr W74 (Safe.arv hZ.alike V72 (by decide)) C73.1)
            refine o_iload X74 hx (y_ at_224) rfl ?_
            refine o_iconst X74 hx (y_ at_226) (x := 2) rfl ?_
            refine o_iCT (t := 239) X74 hx (y_ at_227) ?_
            refine o_iload X74 hx (y_ at_239) rfl ?_
            refine o_iFT (t := 254) X74 hx (y_ at_241) ?_
            have c76 := (Arv.other (Arv.other (Arv.ext V68 E70) W72 (o_ng V68.lt gg70)) W74 (o_ng V68.lt gg70))
            exact hT _ _ _ b64 b70 _ _ ([ca, cb] : List Int32) _ _ (o_up X74 (by decide) (by decide)) e74 N74 O74 C75 c76 (by rw [o_w00]; exact V74) rfl (by rw [o_w00]; rfl) (o_c16S h_ca (o_c16S h_cb o_c160)) (o_nsS s_ca (o_nsS s_cb o_ns0)) (o_b rfl) (o_b rfl)
          · skip
            refine o_iload X68 hx (y_ at_147) rfl ?_
            refine o_iload X68 hx (y_ at_149) rfl ?_
            refine o_iFT (t := 158) X68 hx (y_ at_151) ?_
            refine o_iconst X68 hx (y_ at_158) (x := 0) rfl ?_
            refine o_iadd X68 hx (y_ at_159) ?_
            refine o_valE (z := 2) (by decide) ?_
            refine o_iload X68 hx (y_ at_160) rfl ?_
            refine o_iFF X68 hx (y_ at_162) ?_
            refine o_iconst X68 hx (y_ at_165) (x := 1) rfl ?_
            refine o_gO (t := 170) X68 hx (y_ at_166) ?_
            refine o_iadd X68 hx (y_ at_170) ?_
            refine o_valE (z := 3) (by decide) ?_
            refine o_istore X68 hx (y_ at_171) (A' := #[vI p1, vI p2, vI p3, vI p4, vI 2, vI 0, vI 1, vI ca, vI cb, vI cc, vR b64, vI 3, .unset, .unset, .unset, .unset, .unset]) rfl ?_
            refine o_iload X68 hx (y_ at_173) rfl ?_
            refine o_newA (cap := 3) X68 hx hZ (k_ 237 rfl) e68 (y_ at_175) (by decide) (by decide) (by decide) (by decide) (by decide) (fun T77 h77 k77 b77 X77 e77 gg77 E77 A77 => ?_)
            have g_b77 := o_fresh O68 gg77
            have O77 := Old.ext O68 E77
            have C78 := CHr.trans C69 (CHr.ext E77 C69.1)
            have V77 : Arv Z h77 b77 k77 .char (3 : Int32) [(.int 0), (.int 0), (.int 0)] (.int 0) := A77.pad (pad_rep [] (.int 0) 3)
            refine o_astore X77 hx (y_ at_177) rfl (A' := #[vI p1, vI p2, vI p3, vI p4, vI 2, vI 0, vI 1, vI ca, vI cb, vI cc, vR b64, vI 3, vR b77, .unset, .unset, .unset, .unset]) rfl ?_
            refine o_iload X77 hx (y_ at_179) rfl ?_
            refine o_iFT (t := 188) X77 hx (y_ at_181) ?_
            refine o_iconst X77 hx (y_ at_188) (x := 0) rfl ?_
            refine o_istore X77 hx (y_ at_189) (A' := #[vI p1, vI p2, vI p3, vI p4, vI 2, vI 0, vI 1, vI ca, vI cb, vI cc, vR b64, vI 3, vR b77, vI 0, .unset, .unset, .unset]) rfl ?_
            refine o_iload X77 hx (y_ at_191) rfl ?_
            refine o_iFT (t := 202) X77 hx (y_ at_193) ?_
            refine o_aload X77 hx (y_ at_202) rfl rfl ?_
            refine o_iload X77 hx (y_ at_204) rfl ?_
            refine o_iload X77 hx (y_ at_206) rfl ?_
            refine o_stC (i := 0) (z := ca) X77 hx hZ e77 V77 (y_ at_208) ⟨by decide, by decide⟩ rfl (o_b rfl) n_ca (fun T79 h79 X79 e79 W79 V79 => ?_)
            have N79 := Fr.snoc X79 N68 g_b77
            have O79 := Old.wr O77 W79 g_b77
            have C80 := CHr.trans C78 (CHr.wr W79 (Safe.arv hZ.alike V77 (by decide)) C78.1)
            refine o_iload X79 hx (y_ at_209) rfl ?_
            refine o_iconst X79 hx (y_ at_211) (x := 1) rfl ?_
            refine o_iCF X79 hx (y_ at_212) ?_
            refine o_aload X79 hx (y_ at_215) rfl rfl ?_
            refine o_iload X79 hx (y_ at_217) rfl ?_
            refine o_iconst X79 hx (y_ at_219) (x := 1) rfl ?_
            refine o_iadd X79 hx (y_ at_220) ?_
            refine o_valE (z := 1) (by decide) ?_
            refine o_iload X79 hx (y_ at_221) rfl ?_
            refine o_stC (i := 1) (z := cb) X79 hx hZ e79 V79 (y_ at_223) ⟨by decide, by decide⟩ rfl (o_b rfl) n_cb (fun T81 h81 X81 e81 W81 V81 => ?_)
            have N81 := Fr.snoc X81 N79 g_b77
            have O81 := Old.wr O79 W81 g_b77
            have C82 := CHr.trans C80 (CHr.wr W81 (Safe.arv hZ.alike V79 (by decide)) C80.1)
            refine o_iload X81 hx (y_ at_224) rfl ?_
            refine o_iconst X81 hx (y_ at_226) (x := 2) rfl ?_
            refine o_iCT (t := 239) X81 hx (y_ at_227) ?_
            refine o_iload X81 hx (y_ at_239) rfl ?_
            refine o_iFF X81 hx (y_ at_241) ?_
            refine o_aload X81 hx (y_ at_244) rfl rfl ?_
            refine o_iload X81 hx (y_ at_246) rfl ?_
            refine o_iload X81 hx (y_ at_248) rfl ?_
            refine o_iadd X81 hx (y_ at_250) ?_
            refine o_valE (z := 2) (by decide) ?_
            refine o_bipush X81 hx (y_ at_251) (x := 42) rfl ?_
            refine o_stC (i := 2) (z := 42) X81 hx hZ e81 V81 (y_ at_253) ⟨by decide, by decide⟩ rfl (o_b rfl) (by decide) (fun T83 h83 X83 e83 W83 V83 => ?_)
            have N83 := Fr.snoc X83 N81 g_b77
            have O83 := Old.wr O81 W83 g_b77
            have C84 := CHr.trans C82 (CHr.wr W83 (Safe.arv hZ.alike V81 (by decide)) C82.1)
            have c85 := (Arv.other (Arv.other (Arv.other (Arv.ext V68 E77) W79 (o_ng V68.lt gg77)) W81 (o_ng V68.lt gg77)) W83 (o_ng V68.lt gg77))
            exact hT _ _ _ b64 b77 _ _ ([ca, cb] : List Int32) _ _ (o_up X83 (by decide) (by decide)) e83 N83 O83 C84 c85 (by rw [o_w01]; exact V83) rfl (by rw [o_w01]; rfl) (o_c16S h_ca (o_c16S h_cb o_c160)) (o_nsS s_ca (o_nsS s_cb o_ns0)) (o_b rfl) (o_b rfl)
          · skip
            refine o_iload X68 hx (y_ at_147) rfl ?_
            refine o_iload X68 hx (y_ at_149) rfl ?_
            refine o_iFF X68 hx (y_ at_151) ?_
            refine o_iconst X68 hx (y_ at_154) (x := 1) rfl ?_
            refine o_gO (t := 159) X68 hx (y_ at_155) ?_
            refine o_iadd X68 hx (y_ at_159) ?_
            refine o_valE (z := 3) (by decide) ?_
            refine o_iload X68 hx (y_ at_160) rfl ?_
            refine o_iFT (t := 169) X68 hx (y_ at_162) ?_
            refine o_iconst X68 hx (y_ at_169) (x := 0) rfl ?_
            refine o_iadd X68 hx (y_ at_170) ?_
            refine o_valE (z := 3) (by decide) ?_
            refine o_istore X68 hx (y_ at_171) (A' := #[vI p1, vI p2, vI p3, vI p4, vI 2, vI 1, vI 0, vI ca, vI cb, vI cc, vR b64, vI 3, .unset, .unset, .unset, .unset, .unset]) rfl ?_
            refine o_iload X68 hx (y_ at_173) rfl ?_
            refine o_newA (cap := 3) X68 hx hZ (k_ 237 rfl) e68 (y_ at_175) (by decide) (by decide) (by decide) (by decide) (by decide) (fun T86 h86 k86 b86 X86 e86 gg86 E86 A86 => ?_)
            have g_b86 := o_fresh O68 gg86
            have O86 := Old.ext O68 E86
            have C87 := CHr.trans C69 (CHr.ext E86 C69.1)
            have V86 : Arv Z h86 b86 k86 .char (3 : Int32) [(.int 0), (.int 0), (.int 0)] (.int 0) := A86.pad (pad_rep [] (.int 0) 3)
            refine o_astore X86 hx (y_ at_177) rfl (A' := #[vI p1, vI p2, vI p3, vI p4, vI 2, vI 1, vI 0, vI ca, vI cb, vI cc, vR b64, vI 3, vR b86, .unset, .unset, .unset, .unset]) rfl ?_
            refine o_iload X86 hx (y_ at_179) rfl ?_
            refine o_iFF X86 hx (y_ at_181) ?_
            refine o_iconst X86 hx (y_ at_184) (x := 1) rfl ?_
            refine o_gO (t := 189) X86 hx (y_ at_185) ?_
            refine o_istore X86 hx (y_ at_189) (A' := #[vI p1, vI p2, vI p3, vI p4, vI 2, vI 1, vI 0, vI ca, vI cb, vI cc, vR b64, vI 3, vR b86, vI 1, .unset, .unset, .unset]) rfl ?_
            refine o_iload X86 hx (y_ at_191) rfl ?_
            refine o_iFF X86 hx (y_ at_193) ?_
            refine o_aload X86 hx (y_ at_196) rfl rfl ?_
            refine o_iconst X86 hx (y_ at_198) (x := 0) rfl ?_
            refine o_bipush X86 hx (y_ at_199) (x := 42) rfl ?_
            refine o_stC (i := 0) (z := 42) X86 hx hZ e86 V86 (y_ at_201) ⟨by decide, by decide⟩ rfl (o_b rfl) (by decide) (fun T88 h88 X88 e88 W88 V88 => ?_)
            have N88 := Fr.snoc X88 N68 g_b86
            have O88 := Old.wr O86 W88 g_b86
            have C89 := CHr.trans C87 (CHr.wr W88 (Safe.arv hZ.alike V86 (by decide)) C87.1)
            refine o_aload X88 hx (y_ at_202) rfl rfl ?_
            refine o_iload X88 hx (y_ at_204) rfl ?_
            refine o_iload X88 hx (y_ at_206) rfl ?_
            refine o_stC (i := 1) (z := ca) X88 hx hZ e88 V88 (y_ at_208) ⟨by decide, by decide⟩ rfl (o_b rfl) n_ca (fun T90 h90 X90 e90 W90 V90 => ?_)
            have N90 := Fr.snoc X90 N88 g_b86
            have O90 := Old.wr O88 W90 g_b86
            have C91 := CHr.trans C89 (CHr.wr W90 (Safe.arv hZ.alike V88 (by decide)) C89.1)
            refine o_iload X90 hx (y_ at_209) rfl ?_
            refine o_iconst X90 hx (y_ at_211) (x := 1) rfl ?_
            refine o_iCF X90 hx (y_ at_212) ?_
            refine o_aload X90 hx (y_ at_215) rfl rfl ?_
            refine o_iload X90 hx (y_ at_217) rfl ?_
            refine o_iconst X90 hx (y_ at_219) (x := 1) rfl ?_
            refine o_iadd X90 hx (y_ at_220) ?_
            refine o_valE (z := 2) (by decide) ?_
            refine o_iload X90 hx (y_ at_221) rfl ?_
            refine o_stC (i := 2) (z := cb) X90 hx hZ e90 V90 (y_ at_223) ⟨by decide, by decide⟩ rfl (o_b rfl) n_cb (fun T92 h92 X92 e92 W92 V92 => ?_)
            have N92 := Fr.snoc X92 N90 g_b86
            have O92 := Old.wr O90 W92 g_b86
            have C93 := CHr.trans C91 (CHr.wr W92 (Safe.arv hZ.alike V90 (by decide)) C91.1)
            refine o_iload X92 hx (y_ at_224) rfl ?_
            refine o_iconst X92 hx (y_ at_226) (x := 2) rfl ?_
            refine o_iCT (t := 239) X92 hx (y_ at_227) ?_
            refine o_iload X92 hx (y_ at_239) rfl ?_
            refine o_iFT (t := 254) X92 hx (y_ at_241) ?_
            have c94 := (Arv.other (Arv.other (Arv.other (Arv.ext V68 E86) W88 (o_ng V68.lt gg86)) W90 (o_ng V68.lt gg86)) W92 (o_ng V68.lt gg86))
            exact hT _ _ _ b64 b86 _ _ ([ca, cb] : List Int32) _ _ (o_up X92 (by decide) (by decide)) e92 N92 O92 C93 c94 (by rw [o_w10]; exact V92) rfl (by rw [o_w10]; rfl) (o_c16S h_ca (o_c16S h_cb o_c160)) (o_nsS s_ca (o_nsS s_cb o_ns0)) (o_b rfl) (o_b rfl)
          · skip
            refine o_iload X68 hx (y_ at_147) rfl ?_
            refine o_iload X68 hx (y_ at_149) rfl ?_
            refine o_iFF X68 hx (y_ at_151) ?_
            refine o_iconst X68 hx (y_ at_154) (x := 1) rfl ?_
            refine o_gO (t := 159) X68 hx (y_ at_155) ?_
            refine o_iadd X68 hx (y_ at_159) ?_
            refine o_valE (z := 3) (by decide) ?_
            refine o_iload X68 hx (y_ at_160) rfl ?_
            refine o_iFF X68 hx (y_ at_162) ?_
            refine o_iconst X68 hx (y_ at_165) (x := 1) rfl ?_
            refine o_gO (t := 170) X68 hx (y_ at_166) ?_
            refine o_iadd X68 hx (y_ at_170) ?_
            refine o_valE (z := 4) (by decide) ?_
            refine o_istore X68 hx (y_ at_171) (A' := #[vI p1, vI p2, vI p3, vI p4, vI 2, vI 1, vI 1, vI ca, vI cb, vI cc, vR b64, vI 4, .unset, .unset, .unset, .unset, .unset]) rfl ?_
            refine o_iload X68 hx (y_ at_173) rfl ?_
            refine o_newA (cap := 4) X68 hx hZ (k_ 237 rfl) e68 (y_ at_175) (by decide) (by decide) (by decide) (by decide) (by decide) (fun T95 h95 k95 b95 X95 e95 gg95 E95 A95 => ?_)
            have g_b95 := o_fresh O68 gg95
            have O95 := Old.ext O68 E95
            have C96 := CHr.trans C69 (CHr.ext E95 C69.1)
            have V95 : Arv Z h95 b95 k95 .char (4 : Int32) [(.int 0), (.int 0), (.int 0), (.int 0)] (.int 0) := A95.pad (pad_rep [] (.int 0) 4)
            refine o_astore X95 hx (y_ at_177) rfl (A' := #[vI p1, vI p2, vI p3, vI p4, vI 2, vI 1, vI 1, vI ca, vI cb, vI cc, vR b64, vI 4, vR b95, .unset, .unset, .unset, .unset]) rfl ?_
            refine o_iload X95 hx (y_ at_179) rfl ?_
            refine o_iFF X95 hx (y_ at_181) ?_
            refine o_iconst X95 hx (y_ at_184) (x := 1) rfl ?_
            refine o_gO (t := 189) X95 hx (y_ at_185) ?_
            refine o_istore X95 hx (y_ at_189) (A' := #[vI p1, vI p2, vI p3, vI p4, vI 2, vI 1, vI 1, vI ca, vI cb, vI cc, vR b64, vI 4, vR b95, vI 1, .unset, .unset, .unset]) rfl ?_
            refine o_iload X95 hx (y_ at_191) rfl ?_
            refine o_iFF X95 hx (y_ at_193) ?_
            refine o_aload X95 hx (y_ at_196) rfl rfl ?_
            refine o_iconst X95 hx (y_ at_198) (x := 0) rfl ?_
            refine o_bipush X95 hx (y_ at_199) (x := 42) rfl ?_
            refine o_stC (i := 0) (z := 42) X95 hx hZ e95 V95 (y_ at_201) ⟨by decide, by decide⟩ rfl (o_b rfl) (by decide) (fun T97 h97 X97 e97 W97 V97 => ?_)
            have N97 := Fr.snoc X97 N68 g_b95
            have O97 := Old.wr O95 W97 g_b95
            have C98 := CHr.trans C96 (CHr.wr W97 (Safe.arv hZ.alike V95 (by decide)) C96.1)
            refine o_aload X97 hx (y_ at_202) rfl rfl ?_
            refine o_iload X97 hx (y_ at_204) rfl ?_
            refine o_iload X97 hx (y_ at_206) rfl ?_
            refine o_stC (i := 1) (z := ca) X97 hx hZ e97 V97 (y_ at_208) ⟨by decide, by decide⟩ rfl (o_b rfl) n_ca (fun T99 h99 X99 e99 W99 V99 => ?_)
            have N99 := Fr.snoc X99 N97 g_b95
            have O99 := Old.wr O97 W99 g_b95
            have C100 := CHr.trans C98 (CHr.wr W99 (Safe.arv hZ.alike V97 (by decide)) C98.1)
            refine o_iload X99 hx (y_ at_209) rfl ?_
            refine o_iconst X99 hx (y_ at_211) (x := 1) rfl ?_
            refine o_iCF X99 hx (y_ at_212) ?_
            refine o_aload X99 hx (y_ at_215) rfl rfl ?_
            refine o_iload X99 hx (y_ at_217) rfl ?_
            refine o_iconst X99 hx (y_ at_219) (x := 1) rfl ?_
            refine o_iadd X99 hx (y_ at_220) ?_
            refine o_valE (z := 2) (by decide) ?_
            refine o_iload X99 hx (y_ at_221) rfl ?_
            refine o_stC (i := 2) (z := cb) X99 hx hZ e99 V99 (y_ at_223) ⟨by decide, by decide⟩ rfl (o_b rfl) n_cb (fun T101 h101 X101 e101 W101 V101 => ?_)
            have N101 := Fr.snoc X101 N99 g_b95
            have O101 := Old.wr O99 W101 g_b95
            have C102 := CHr.trans C100 (CHr.wr W101 (Safe.arv hZ.alike V99 (by decide)) C100.1)
            refine o_iload X101 hx (y_ at_224) rfl ?_
            refine o_iconst X101 hx (y_ at_226) (x := 2) rfl ?_
            refine o_iCT (t := 239) X101 hx (y_ at_227) ?_
            refine o_iload X101 hx (y_ at_239) rfl ?_
            refine o_iFF X101 hx (y_ at_241) ?_
            refine o_aload X101 hx (y_ at_244) rfl rfl ?_
            refine o_iload X101 hx (y_ at_246) rfl ?_
            refine o_iload X101 hx (y_ at_248) rfl ?_
            refine o_iadd X101 hx (y_ at_250) ?_
            refine o_valE (z := 3) (by decide) ?_
            refine o_bipush X101 hx (y_ at_251) (x := 42) rfl ?_
            refine o_stC (i := 3) (z := 42) X101 hx hZ e101 V101 (y_ at_253) ⟨by decide, by decide⟩ rfl (o_b rfl) (by decide) (fun T103 h103 X103 e103 W103 V103 => ?_)
            have N103 := Fr.snoc X103 N101 g_b95
            have O103 := Old.wr O101 W103 g_b95
            have C104 := CHr.trans C102 (CHr.wr W103 (Safe.arv hZ.alike V101 (by decide)) C102.1)
            have c105 := (Arv.other (Arv.other (Arv.other (Arv.other (Arv.ext V68 E95) W97 (o_ng V68.lt gg95)) W99 (o_ng V68.lt gg95)) W101 (o_ng V68.lt gg95)) W103 (o_ng V68.lt gg95))
            exact hT _ _ _ b64 b95 _ _ ([ca, cb] : List Int32) _ _ (o_up X103 (by decide) (by decide)) e103 N103 O103 C104 c105 (by rw [o_w11]; exact V103) rfl (by rw [o_w11]; rfl) (o_c16S h_ca (o_c16S h_cb o_c160)) (o_nsS s_ca (o_nsS s_cb o_ns0)) (o_b rfl) (o_b rfl)
        · skip
          refine o_iload X5 hx (y_ at_111) rfl ?_
          refine o_newA (cap := 3) X5 hx hZ (k_ 237 rfl) hh5 (y_ at_113) (by decide) (by decide) (by decide) (by decide) (by decide) (fun T106 h106 k106 b106 X106 e106 gg106 E106 A106 => ?_)
          have g_b106 := o_fresh O0 gg106
          have O106 := Old.ext O0 E106
          have C107 := CHr.trans C0 (CHr.ext E106 C0.1)
          have V106 : Arv Z h106 b106 k106 .char (3 : Int32) [(.int 0), (.int 0), (.int 0)] (.int 0) := A106.pad (pad_rep [] (.int 0) 3)
          refine o_astore X106 hx (y_ at_115) rfl (A' := #[vI p1, vI p2, vI p3, vI p4, vI 3, vI BB, vI AA, vI ca, vI cb, vI cc, vR b106, .unset, .unset, .unset, .unset, .unset, .unset]) rfl ?_
          refine o_aload X106 hx (y_ at_117) rfl rfl ?_
          refine o_iconst X106 hx (y_ at_119) (x := 0) rfl ?_
          refine o_iload X106 hx (y_ at_120) rfl ?_
          refine o_stC (i := 0) (z := ca) X106 hx hZ e106 V106 (y_ at_122) ⟨by decide, by decide⟩ rfl (o_b rfl) n_ca (fun T108 h108 X108 e108 W108 V108 => ?_)
          have N108 := Fr.snoc X108 N5 g_b106
          have O108 := Old.wr O106 W108 g_b106
          have C109 := CHr.trans C107 (CHr.wr W108 (Safe.arv hZ.alike V106 (by decide)) C107.1)
          refine o_iload X108 hx (y_ at_123) rfl ?_
          refine o_iconst X108 hx (y_ at_125) (x := 1) rfl ?_
          refine o_iCF X108 hx (y_ at_126) ?_
          refine o_aload X108 hx (y_ at_129) rfl rfl ?_
          refine o_iconst X108 hx (y_ at_131) (x := 1) rfl ?_
          refine o_iload X108 hx (y_ at_132) rfl ?_
          refine o_stC (i := 1) (z := cb) X108 hx hZ e108 V108 (y_ at_134) ⟨by decide, by decide⟩ rfl (o_b rfl) n_cb (fun T110 h110 X110 e110 W110 V110 => ?_)
          have N110 := Fr.snoc X110 N108 g_b106
          have O110 := Old.wr O108 W110 g_b106
          have C111 := CHr.trans C109 (CHr.wr W110 (Safe.arv hZ.alike V108 (by decide)) C109.1)
          refine o_iload X110 hx (y_ at_135) rfl ?_
          refine o_iconst X110 hx (y_ at_137) (x := 2) rfl ?_
          refine o_iCF X110 hx (y_ at_138) ?_
          refine o_aload X110 hx (y_ at_141) rfl rfl ?_
          refine o_iconst X110 hx (y_ at_143) (x := 2) rfl ?_
          refine o_iload X110 hx (y_ at_144) rfl ?_
          refine o_stC (i := 2) (z := cc) X110 hx hZ e110 V110 (y_ at_146) ⟨by decide, by decide⟩ rfl (o_b rfl) n_cc (fun T112 h112 X112 e112 W112 V112 => ?_)
          have N112 := Fr.snoc X112 N110 g_b106
          have O112 := Old.wr O110 W112 g_b106
          have C113 := CHr.trans C111 (CHr.wr W112 (Safe.arv hZ.alike V110 (by decide)) C111.1)
          rcases h_BB with rfl | rfl <;> rcases h_AA with rfl | rfl
          · skip
            refine o_iload X112 hx (y_ at_147) rfl ?_
            refine o_iload X112 hx (y_ at_149) rfl ?_
            refine o_iFT (t := 158) X112 hx (y_ at_151) ?_
            refine o_iconst X112 hx (y_ at_158) (x := 0) rfl ?_
            refine o_iadd X112 hx (y_ at_159) ?_
            refine o_valE (z := 3) (by decide) ?_
            refine o_iload X112 hx (y_ at_160) rfl ?_
            refine o_iFT (t := 169) X112 hx (y_ at_162) ?_
            refine o_iconst X112 hx (y_ at_169) (x := 0) rfl ?_
            refine o_iadd X112 hx (y_ at_170) ?_
            refine o_valE (z := 3) (by decide) ?_
            refine o_istore X112 hx (y_ at_171) (A' := #[vI p1, vI p2, vI p3, vI p4, vI 3, vI 0, vI 0, vI ca, vI cb, vI cc, vR b106, vI 3, .unset, .unset, .unset, .unset, .unset]) rfl ?_
            refine o_iload X112 hx (y_ at_173) rfl ?_
            refine o_newA (cap := 3) X112 hx hZ (k_ 237 rfl) e112 (y_ at_175) (by decide) (by decide) (by decide) (by decide) (by decide) (fun T114 h114 k114 b114 X114 e114 gg114 E114 A114 => ?_)
            have g_b114 := o_fresh O112 gg114
            have O114 := Old.ext O112 E114
            have C115 := CHr.trans C113 (CHr.ext E114 C113.1)
            have V114 : Arv Z h114 b114 k114 .char (3 : Int32) [(.int 0), (.int 0), (.int 0)] (.int 0) := A114.pad (pad_rep [] (.int 0) 3)
            refine o_astore X114 hx (y_ at_177) rfl (A' := #[vI p1, vI p2, vI p3, vI p4, vI 3, vI 0, vI 0, vI ca, vI cb, vI cc, vR b106, vI 3, vR b114, .unset, .unset, .unset, .unset]) rfl ?_
            refine o_iload X114 hx (y_ at_179) rfl ?_
            refine o_iFT (t := 188) X114 hx (y_ at_181) ?_
            refine o_iconst X114 hx (y_ at_188) (x := 0) rfl ?_
            refine o_istore X114 hx (y_ at_189) (A' := #[vI p1, vI p2, vI p3, vI p4, vI 3, vI 0, vI 0, vI ca, vI cb, vI cc, vR b106, vI 3, vR b114, vI 0, .unset, .unset, .unset]) rfl ?_
            refine o_iload X114 hx (y_ at_191) rfl ?_
            refine o_iFT (t := 202) X114 hx (y_ at_193) ?_
            refine o_aload X114 hx (y_ at_202) rfl rfl ?_
            refine o_iload X114 hx (y_ at_204) rfl ?_
            refine o_iload X114 hx (y_ at_206) rfl ?_
            refine o_stC (i := 0) (z := ca) X114 hx hZ e114 V114 (y_ at_208) ⟨by decide, by decide⟩ rfl (o_b rfl) n_ca (fun T116 h116 X116 e116 W116 V116 => ?_)
            have N116 := Fr.snoc X116 N112 g_b114
            have O116 := Old.wr O114 W116 g_b114
            have C117 := CHr.trans C115 (CHr.wr W116 (Safe.arv hZ.alike V114 (by decide)) C115.1)
            refine o_iload X116 hx (y_ at_209) rfl ?_
            refine o_iconst X116 hx (y_ at_211) (x := 1) rfl ?_
            refine o_iCF X116 hx (y_ at_212) ?_
            refine o_aload X116 hx (y_ at_215) rfl rfl ?_
            refine o_iload X116 hx (y_ at_217) rfl ?_
            refine o_iconst X116 hx (y_ at_219) (x := 1) rfl ?_
            refine o_iadd X116 hx (y_ at_220) ?_
            refine o_valE (z := 1) (by decide) ?_
            refine o_iload X116 hx (y_ at_221) rfl ?_
            refine o_stC (i := 1) (z := cb) X116 hx hZ e116 V116 (y_ at_223) ⟨by decide, by decide⟩ rfl (o_b rfl) n_cb (fun T118 h118 X118 e118 W118 V118 => ?_)
            have N118 := Fr.snoc X118 N116 g_b114
            have O118 := Old.wr O116 W118 g_b114
            have C119 := CHr.trans C117 (CHr.wr W118 (Safe.arv hZ.alike V116 (by decide)) C117.1)
            refine o_iload X118 hx (y_ at_224) rfl ?_
            refine o_iconst X118 hx (y_ at_226) (x := 2) rfl ?_
            refine o_iCF X118 hx (y_ at_227) ?_
            refine o_aload X118 hx (y_ at_230) rfl rfl ?_
            refine o_iload X118 hx (y_ at_232) rfl ?_
            refine o_iconst X118 hx (y_ at_234) (x := 2) rfl ?_
            refine o_iadd X118 hx (y_ at_235) ?_
            refine o_valE (z := 2) (by decide) ?_
            refine o_iload X118 hx (y_ at_236) rfl ?_
            refine o_stC (i := 2) (z := cc) X118 hx hZ e118 V118 (y_ at_238) ⟨by decide, by decide⟩ rfl (o_b rfl) n_cc (fun T120 h120 X120 e120 W120 V120 => ?_)
            have N120 := Fr.snoc X120 N118 g_b114
            have O120 := Old.wr O118 W120 g_b114
            have C121 := CHr.trans C119 (CHr.wr W120 (Safe.arv hZ.alike V118 (by decide)) C119.1)
            refine o_iload X120 hx (y_ at_239) rfl ?_
            refine o_iFT (t := 254) X120 hx (y_ at_241) ?_
            have c122 := (Arv.other (Arv.other (Arv.other (Arv.ext V112 E114) W116 (o_ng V112.lt gg114)) W118 (o_ng V112.lt gg114)) W120 (o_ng V112.lt gg114))
            exact hT _ _ _ b106 b114 _ _ ([ca, cb, cc] : List Int32) _ _ (o_up X120 (by decide) (by decide)) e120 N120 O120 C121 c122 (by rw [o_w00]; exact V120) rfl (by rw [o_w00]; rfl) (o_c16S h_ca (o_c16S h_cb (o_c16S h_cc o_c160))) (o_nsS s_ca (o_nsS s_cb (o_nsS s_cc o_ns0))) (o_b rfl) (o_b rfl)
          · skip
            refine o_iload X112 hx (y_ at_147) rfl ?_
            refine o_iload X112 hx (y_ at_149) rfl ?_
            refine o_iFT (t := 158) X112 hx (y_ at_151) ?_
            refine o_iconst X112 hx (y_ at_158) (x := 0) rfl ?_
            refine o_iadd X112 hx (y_ at_159) ?_
            refine o_valE (z := 3) (by decide) ?_
            refine o_iload X112 hx (y_ at_160) rfl ?_
            refine o_iFF X112 hx (y_ at_162) ?_
            refine o_iconst X112 hx (y_ at_165) (x := 1) rfl ?_
            refine o_gO (t := 170) X112 hx (y_ at_166) ?_
            refine o_iadd X112 hx (y_ at_170) ?_
            refine o_valE (z := 4) (by decide) ?_
            refine o_istore X112 hx (y_ at_171) (A' := #[vI p1, vI p2, vI p3, vI p4, vI 3, vI 0, vI 1, vI ca, vI cb, vI cc, vR b106, vI 4, .unset, .unset, .unset, .unset, .unset]) rfl ?_
            refine o_iload X112 hx (y_ at_173) rfl ?_
            refine o_newA (cap := 4) X112 hx hZ (k_ 237 rfl) e112 (y_ at_175) (by decide) (by decide) (by decide) (by decide) (by decide) (fun T123 h123 k123 b123 X123 e123 gg123 E123 A123 => ?_)
            have g_b123 := o_fresh O112 gg123
            have O123 := Old.ext O112 E123
            have C124 := CHr.trans C113 (CHr.ext E123 C113.1)
            have V123 : Arv Z h123 b123 k123 .char (4 : Int32) [(.int 0), (.int 0), (.int 0), (.int 0)] (.int 0) := A123.pad (pad_rep [] (.int 0) 4)
            refine o_astore X123 hx (y_ at_177) rfl (A' := #[vI p1, vI p2, vI p3, vI p4, vI 3, vI 0, vI 1, vI ca, vI cb, vI cc, vR b106, vI 4, vR b123, .unset, .unset, .unset, .unset]) rfl ?_
            refine o_iload X123 hx (y_ at_179) rfl ?_
            refine o_iFT (t := 188) X123 hx (y_ at_181) ?_
            refine o_iconst X123 hx (y_ at_188) (x := 0) rfl ?_
            refine o_istore X123 hx (y_ at_189) (A' := #[vI p1, vI p2, vI p3, vI p4, vI 3, vI 0, vI 1, vI ca, vI cb, vI cc, vR b106, vI 4, vR b123, vI 0, .unset, .unset, .unset]) rfl ?_
            refine o_iload X123 hx (y_ at_191) rfl ?_
            refine o_iFT (t := 202) X123 hx (y_ at_193) ?_
            refine o_aload X123 hx (y_ at_202) rfl rfl ?_
            refine o_iload X123 hx (y_ at_204) rfl ?_
            refine o_iload X123 hx (y_ at_206) rfl ?_
            refine o_stC (i := 0) (z := ca) X123 hx hZ e123 V123 (y_ at_208) ⟨by decide, by decide⟩ rfl (o_b rfl) n_ca (fun T125 h125 X125 e125 W125 V125 => ?_)
            have N125 := Fr.snoc X125 N112 g_b123
            have O125 := Old.wr O123 W125 g_b123
            have C126 := CHr.trans C124 (CHr.wr W125 (Safe.arv hZ.alike V123 (by decide)) C124.1)
            refine o_iload X125 hx (y_ at_209) rfl ?_
            refine o_iconst X125 hx (y_ at_211) (x := 1) rfl ?_
            refine o_iCF X125 hx (y_ at_212) ?_
            refine o_aload X125 hx (y_ at_215) rfl rfl ?_
            refine o_iload X125 hx (y_ at_217) rfl ?_
            refine o_iconst X125 hx (y_ at_219) (x := 1) rfl ?_
            refine o_iadd X125 hx (y_ at_220) ?_
            refine o_valE (z := 1) (by decide) ?_
            refine o_iload X125 hx (y_ at_221) rfl ?_
            refine o_stC (i := 1) (z := cb) X125 hx hZ e125 V125 (y_ at_223) ⟨by decide, by decide⟩ rfl (o_b rfl) n_cb (fun T127 h127 X127 e127 W127 V127 => ?_)
            have N127 := Fr.snoc X127 N125 g_b123
            have O127 := Old.wr O125 W127 g_b123
            have C128 := CHr.trans C126 (CHr.wr W127 (Safe.arv hZ.alike V125 (by decide)) C126.1)
            refine o_iload X127 hx (y_ at_224) rfl ?_
            refine o_iconst X127 hx (y_ at_226) (x := 2) rfl ?_
            refine o_iCF X127 hx (y_ at_227) ?_
            refine o_aload X127 hx (y_ at_230) rfl rfl ?_
            refine o_iload X127 hx (y_ at_232) rfl ?_
            refine o_iconst X127 hx (y_ at_234) (x := 2) rfl ?_
            refine o_iadd X127 hx (y_ at_235) ?_
            refine o_valE (z := 2) (by decide) ?_
            refine o_iload X127 hx (y_ at_236) rfl ?_
            refine o_stC (i := 2) (z := cc) X127 hx hZ e127 V127 (y_ at_238) ⟨by decide, by decide⟩ rfl (o_b rfl) n_cc (fun T129 h129 X129 e129 W129 V129 => ?_)
            have N129 := Fr.snoc X129 N127 g_b123
            have O129 := Old.wr O127 W129 g_b123
            have C130 := CHr.trans C128 (CHr.wr W129 (Safe.arv hZ.alike V127 (by decide)) C128.1)
            refine o_iload X129 hx (y_ at_239) rfl ?_
            refine o_iFF X129 hx (y_ at_241) ?_
            refine o_aload X129 hx (y_ at_244) rfl rfl ?_
            refine o_iload X129 hx (y_ at_246) rfl ?_
            refine o_iload X129 hx (y_ at_248) rfl ?_
            refine o_iadd X129 hx (y_ at_250) ?_
            refine o_valE (z := 3) (by decide) ?_
            refine o_bipush X129 hx (y_ at_251) (x := 42) rfl ?_
            refine o_stC (i := 3) (z := 42) X129 hx hZ e129 V129 (y_ at_253) ⟨by decide, by decide⟩ rfl (o_b rfl) (by decide) (fun T131 h131 X131 e131 W131 V131 => ?_)
            have N131 := Fr.snoc X131 N129 g_b123
            have O131 := Old.wr O129 W131 g_b123
            have C132 := CHr.trans C130 (CHr.wr W131 (Safe.arv hZ.alike V129 (by decide)) C130.1)
            have c133 := (Arv.other (Arv.other (Arv.other (Arv.other (Arv.ext V112 E123) W125 (o_ng V112.lt gg123)) W127 (o_ng V112.lt gg123)) W129 (o_ng V112.lt gg123)) W131 (o_ng V112.lt gg123))
            exact hT _ _ _ b106 b123 _ _ ([ca, cb, cc] : List Int32) _ _ (o_up X131 (by decide) (by decide)) e131 N131 O131 C132 c133 (by rw [o_w01]; exact V131) rfl (by rw [o_w01]; rfl) (o_c16S h_ca (o_c16S h_cb (o_c16S h_cc o_c160))) (o_nsS s_ca (o_nsS s_cb (o_nsS s_cc o_ns0))) (o_b rfl) (o_b rfl)
          · skip
            refine o_iload X112 hx (y_ at_147) rfl ?_
            refine o_iload X112 hx (y_ at_149) rfl ?_
            refine o_iFF X112 hx (y_ at_151) ?_
            refine o_iconst X112 hx (y_ at_154) (x := 1) rfl ?_
            refine o_gO (t := 159) X112 hx (y_ at_155) ?_
            refine o_iadd X112 hx (y_ at_159) ?_
            refine o_valE (z := 4) (by decide) ?_
            refine o_iload X112 hx (y_ at_160) rfl ?_
            refine o_iFT (t := 169) X112 hx (y_ at_162) ?_
            refine o_iconst X112 hx (y_ at_169) (x := 0) rfl ?_
            refine o_iadd X112 hx (y_ at_170) ?_
            refine o_valE (z := 4) (by decide) ?_
            refine o_istore X112 hx (y_ at_171) (A' := #[vI p1, vI p2, vI p3, vI p4, vI 3, vI 1, vI 0, vI ca, vI cb, vI cc, vR b106, vI 4, .unset, .unset, .unset, .unset, .unset]) rfl ?_
            refine o_iload X112 hx (y_ at_173) rfl ?_
            refine o_newA (cap := 4) X112 hx hZ (k_ 237 rfl) e112 (y_ at_175) (by decide) (by decide) (by decide) (by decide) (by decide) (fun T134 h134 k134 b134 X134 e134 gg134 E134 A134 => ?_)
            have g_b134 := o_fresh O112 gg134
            have O134 := Old.ext O112 E134
            have C135 := CHr.trans C113 (CHr.ext E134 C113.1)
            have V134 : Arv Z h134 b134 k134 .char (4 : Int32) [(.int 0), (.int 0), (.int 0), (.int 0)] (.int 0) := A134.pad (pad_rep [] (.int 0) 4)
            refine o_astore X134 hx (y_ at_177) rfl (A' := #[vI p1, vI p2, vI p3, vI p4, vI 3, vI 1, vI 0, vI ca, vI cb, vI cc, vR b106, vI 4, vR b134, .unset, .unset, .unset, .unset]) rfl ?_
            refine o_iload X134 hx (y_ at_179) rfl ?_
            refine o_iFF X134 hx (y_ at_181) ?_
            refine o_iconst X134 hx (y_ at_184) (x := 1) rfl ?_
            refine o_gO (t := 189) X134 hx (y_ at_185) ?_
            refine o_istore X134 hx (y_ at_189) (A' := #[vI p1, vI p2, vI p3, vI p4, vI 3, vI 1, vI 0, vI ca, vI cb, vI cc, vR b106, vI 4, vR b134, vI 1, .unset, .unset, .unset]) rfl ?_
            refine o_iload X134 hx (y_ at_191) rfl ?_
            refine o_iFF X134 hx (y_ at_193) ?_
            refine o_aload X134 hx (y_ at_196) rfl rfl ?_
            refine o_iconst X134 hx (y_ at_198) (x := 0) rfl ?_
            refine o_bipush X134 hx (y_ at_199) (x := 42) rfl ?_
            refine o_stC (i := 0) (z := 42) X134 hx hZ e134 V134 (y_ at_201) ⟨by decide, by decide⟩ rfl (o_b rfl) (by decide) (fun T136 h136 X136 e136 W136 V136 => ?_)
            have N136 := Fr.snoc X136 N112 g_b134
            have O136 := Old.wr O134 W136 g_b134
            have C137 := CHr.trans C135 (CHr.wr W136 (Safe.arv hZ.alike V134 (by decide)) C135.1)
            refine o_aload X136 hx (y_ at_202) rfl rfl ?_
            refine o_iload X136 hx (y_ at_204) rfl ?_
            refine o_iload X136 hx (y_ at_206) rfl ?_
            refine o_stC (i := 1) (z := ca) X136 hx hZ e136 V136 (y_ at_208) ⟨by decide, by decide⟩ rfl (o_b rfl) n_ca (fun T138 h138 X138 e138 W138 V138 => ?_)
            have N138 := Fr.snoc X138 N136 g_b134
            have O138 := Old.wr O136 W138 g_b134
            have C139 := CHr.trans C137 (CHr.wr W138 (Safe.arv hZ.alike V136 (by decide)) C137.1)
            refine o_iload X138 hx (y_ at_209) rfl ?_
            refine o_iconst X138 hx (y_ at_211) (x := 1) rfl ?_
            refine o_iCF X138 hx (y_ at_212) ?_
            refine o_aload X138 hx (y_ at_215) rfl rfl ?_
            refine o_iload X138 hx (y_ at_217) rfl ?_
            refine o_iconst X138 hx (y_ at_219) (x := 1) rfl ?_
            refine o_iadd X138 hx (y_ at_220) ?_
            refine o_valE (z := 2) (by decide) ?_
            refine o_iload X138 hx (y_ at_221) rfl ?_
            refine o_stC (i := 2) (z := cb) X138 hx hZ e138 V138 (y_ at_223) ⟨by decide, by decide⟩ rfl (o_b rfl) n_cb (fun T140 h140 X140 e140 W140 V140 => ?_)
            have N140 := Fr.snoc X140 N138 g_b134
            have O140 := Old.wr O138 W140 g_b134
            have C141 := CHr.trans C139 (CHr.wr W140 (Safe.arv hZ.alike V138 (by decide)) C139.1)
            refine o_iload X140 hx (y_ at_224) rfl ?_
            refine o_iconst X140 hx (y_ at_226) (x := 2) rfl ?_
            refine o_iCF X140 hx (y_ at_227) ?_
            refine o_aload X140 hx (y_ at_230) rfl rfl ?_
            refine o_iload X140 hx (y_ at_232) rfl ?_
            refine o_iconst X140 hx (y_ at_234) (x := 2) rfl ?_
            refine o_iadd X140 hx (y_ at_235) ?_
            refine o_valE (z := 3) (by decide) ?_
            refine o_iload X140 hx (y_ at_236) rfl ?_
            refine o_stC (i := 3) (z := cc) X140 hx hZ e140 V140 (y_ at_238) ⟨by decide, by decide⟩ rfl (o_b rfl) n_cc (fun T142 h142 X142 e142 W142 V142 => ?_)
            have N142 := Fr.snoc X142 N140 g_b134
            have O142 := Old.wr O140 W142 g_b134
            have C143 := CHr.trans C141 (CHr.wr W142 (Safe.arv hZ.alike V140 (by decide)) C141.1)
            refine o_iload X142 hx (y_ at_239) rfl ?_
            refine o_iFT (t := 254) X142 hx (y_ at_241) ?_
            have c144 := (Arv.other (Arv.other (Arv.other (Arv.other (Arv.ext V112 E134) W136 (o_ng V112.lt gg134)) W138 (o_ng V112.lt gg134)) W140 (o_ng V112.lt gg134)) W142 (o_ng V112.lt gg134))
            exact hT _ _ _ b106 b134 _ _ ([ca, cb, cc] : List Int32) _ _ (o_up X142 (by decide) (by decide)) e142 N142 O142 C143 c144 (by rw [o_w10]; exact V142) rfl (by rw [o_w10]; rfl) (o_c16S h_ca (o_c16S h_cb (o_c16S h_cc o_c160))) (o_nsS s_ca (o_nsS s_cb (o_nsS s_cc o_ns0))) (o_b rfl) (o_b rfl)
          · skip
            refine o_iload X112 hx (y_ at_147) rfl ?_
            refine o_iload X112 hx (y_ at_149) rfl ?_
            refine o_iFF X112 hx (y_ at_151) ?_
            refine o_iconst X112 hx (y_ at_154) (x := 1) rfl ?_
            refine o_gO (t := 159) X112 hx (y_ at_155) ?_
            refine o_iadd X112 hx (y_ at_159) ?_
            refine o_valE (z := 4) (by decide) ?_
            refine o_iload X112 hx (y_ at_160) rfl ?_
            refine o_iFF X112 hx (y_ at_162) ?_
            refine o_iconst X112 hx (y_ at_165) (x := 1) rfl ?_
            refine o_gO (t := 170) X112 hx (y_ at_166) ?_
            refine o_iadd X112 hx (y_ at_170) ?_
            refine o_valE (z := 5) (by decide) ?_
            refine o_istore X112 hx (y_ at_171) (A' := #[vI p1, vI p2, vI p3, vI p4, vI 3, vI 1, vI 1, vI ca, vI cb, vI cc, vR b106, vI 5, .unset, .unset, .unset, .unset, .unset]) rfl ?_
            refine o_iload X112 hx (y_ at_173) rfl ?_
            refine o_newA (cap := 5) X112 hx hZ (k_ 237 rfl) e112 (y_ at_175) (by decide) (by decide) (by decide) (by decide) (by decide) (fun T145 h145 k145 b145 X145 e145 gg145 E145 A145 => ?_)
            have g_b145 := o_fresh O112 gg145
            have O145 := Old.ext O112 E145
            have C146 := CHr.trans C113 (CHr.ext E145 C113.1)
            have V145 : Arv Z h145 b145 k145 .char (5 : Int32) [(.int 0), (.int 0), (.int 0), (.int 0), (.int 0)] (.int 0) := A145.pad (pad_rep [] (.int 0) 5)
            refine o_astore X145 hx (y_ at_177) rfl (A' := #[vI p1, vI p2, vI p3, vI p4, vI 3, vI 1, vI 1, vI ca, vI cb, vI cc, vR b106, vI 5, vR b145, .unset, .unset, .unset, .unset]) rfl ?_
            refine o_iload X145 hx (y_ at_179) rfl ?_
            refine o_iFF X145 hx (y_ at_181) ?_
            refine o_iconst X145 hx (y_ at_184) (x := 1) rfl ?_
            refine o_gO (t := 189) X145 hx (y_ at_185) ?_
            refine o_istore X145 hx (y_ at_189) (A' := #[vI p1, vI p2, vI p3, vI p4, vI 3, vI 1, vI 1, vI ca, vI cb, vI cc, vR b106, vI 5, vR b145, vI 1, .unset, .unset, .unset]) rfl ?_
            refine o_iload X145 hx (y_ at_191) rfl ?_
            refine o_iFF X145 hx (y_ at_193) ?_
            refine o_aload X145 hx (y_ at_196) rfl rfl ?_
            refine o_iconst X145 hx (y_ at_198) (x := 0) rfl ?_
            refine o_bipush X145 hx (y_ at_199) (x := 42) rfl ?_
            refine o_stC (i := 0) (z := 42) X145 hx hZ e145 V145 (y_ at_201) ⟨by decide, by decide⟩ rfl (o_b rfl) (by decide) (fun T147 h147 X147 e147 W147 V147 => ?_)
            have N147 := Fr.snoc X147 N112 g_b145
            have O147 := Old.wr O145 W147 g_b145
            have C148 := CHr.trans C146 (CHr.wr W147 (Safe.arv hZ.alike V145 (by decide)) C146.1)
            refine o_aload X147 hx (y_ at_202) rfl rfl ?_
            refine o_iload X147 hx (y_ at_204) rfl ?_
            refine o_iload X147 hx (y_ at_206) rfl ?_
            refine o_stC (i := 1) (z := ca) X147 hx hZ e147 V147 (y_ at_208) ⟨by decide, by decide⟩ rfl (o_b rfl) n_ca (fun T149 h149 X149 e149 W149 V149 => ?_)
            have N149 := Fr.snoc X149 N147 g_b145
            have O149 := Old.wr O147 W149 g_b145
            have C150 := CHr.trans C148 (CHr.wr W149 (Safe.arv hZ.alike V147 (by decide)) C148.1)
            refine o_iload X149 hx (y_ at_209) rfl ?_
            refine o_iconst X149 hx (y_ at_211) (x := 1) rfl ?_
            refine o_iCF X149 hx (y_ at_212) ?_
            refine o_aload X149 hx (y_ at_215) rfl rfl ?_
            refine o_iload X149 hx (y_ at_217) rfl ?_
            refine o_iconst X149 hx (y_ at_219) (x := 1) rfl ?_
            refine o_iadd X149 hx (y_ at_220) ?_
            refine o_valE (z := 2) (by decide) ?_
            refine o_iload X149 hx (y_ at_221) rfl ?_
            refine o_stC (i := 2) (z := cb) X149 hx hZ e149 V149 (y_ at_223) ⟨by decide, by decide⟩ rfl (o_b rfl) n_cb (fun T151 h151 X151 e151 W151 V151 => ?_)
            have N151 := Fr.snoc X151 N149 g_b145
            have O151 := Old.wr O149 W151 g_b145
            have C152 := CHr.trans C150 (CHr.wr W151 (Safe.arv hZ.alike V149 (by decide)) C150.1)
            refine o_iload X151 hx (y_ at_224) rfl ?_
            refine o_iconst X151 hx (y_ at_226) (x := 2) rfl ?_
            refine o_iCF X151 hx (y_ at_227) ?_
            refine o_aload X151 hx (y_ at_230) rfl rfl ?_
            refine o_iload X151 hx (y_ at_232) rfl ?_
            refine o_iconst X151 hx (y_ at_234) (x := 2) rfl ?_
            refine o_iadd X151 hx (y_ at_235) ?_
            refine o_valE (z := 3) (by decide) ?_
            refine o_iload X151 hx (y_ at_236) rfl ?_
            refine o_stC (i := 3) (z := cc) X151 hx hZ e151 V151 (y_ at_238) ⟨by decide, by decide⟩ rfl (o_b rfl) n_cc (fun T153 h153 X153 e153 W153 V153 => ?_)
            have N153 := Fr.snoc X153 N151 g_b145
            have O153 := Old.wr O151 W153 g_b145
            have C154 := CHr.trans C152 (CHr.wr W153 (Safe.arv hZ.alike V151 (by decide)) C152.1)
            refine o_iload X153 hx (y_ at_239) rfl ?_
            refine o_iFF X153 hx (y_ at_241) ?_
            refine o_aload X153 hx (y_ at_244) rfl rfl ?_
            refine o_iload X153 hx (y_ at_246) rfl ?_
            refine o_iload X153 hx (y_ at_248) rfl ?_
            refine o_iadd X153 hx (y_ at_250) ?_
            refine o_valE (z := 4) (by decide) ?_
            refine o_bipush X153 hx (y_ at_251) (x := 42) rfl ?_
            refine o_stC (i := 4) (z := 42) X153 hx hZ e153 V153 (y_ at_253) ⟨by decide, by decide⟩ rfl (o_b rfl) (by decide) (fun T155 h155 X155 e155 W155 V155 => ?_)
            have N155 := Fr.snoc X155 N153 g_b145
            have O155 := Old.wr O153 W155 g_b145
            have C156 := CHr.trans C154 (CHr.wr W155 (Safe.arv hZ.alike V153 (by decide)) C154.1)
            have c157 := (Arv.other (Arv.other (Arv.other (Arv.other (Arv.other (Arv.ext V112 E145) W147 (o_ng V112.lt gg145)) W149 (o_ng V112.lt gg145)) W151 (o_ng V112.lt gg145)) W153 (o_ng V112.lt gg145)) W155 (o_ng V112.lt gg145))
            exact hT _ _ _ b106 b145 _ _ ([ca, cb, cc] : List Int32) _ _ (o_up X155 (by decide) (by decide)) e155 N155 O155 C156 c157 (by rw [o_w11]; exact V155) rfl (by rw [o_w11]; rfl) (o_c16S h_ca (o_c16S h_cb (o_c16S h_cc o_c160))) (o_nsS s_ca (o_nsS s_cb (o_nsS s_cc o_ns0))) (o_b rfl) (o_b rfl)
      have hc52 := o_h_ne.2 hq
      refine o_bipush X5 hx (y_ at_55) (x := 42) rfl ?_
      refine o_sta (y := o_m68) (argsL := [(.int 42)]) (S := []) (W := 0) X5 hx hZ hown (k_ 4 rfl) (k_ 5 rfl) (k_ 6 rfl) (k_ 7 rfl) (backOf (W := 0) (rmvoc l Z a0 hw [] (42 : Int32) zC_ h0 n0 O0 (by decide) SC_ hC_) hZ (k_ 7 rfl) (k_ 6 rfl) (by decide) (by decide)) hh5 hml (lenOf o_pd__28C_29Ljava_2flang_2fString_3b rfl) (y_ at_57) (fun T158 L158 v158 X158 hQ158 => ?_)
      obtain ⟨x158, t158, kd158, rfl, N158q, Kp158, g_x158, hx158, g_t158, ht158, hne158, Sf158⟩ := hQ158
      have N158 := Fr.app N5 N158q
      have O159 := Old.keep O0 Kp158 all0
      have C160 := CHr.trans C0 (CHr.keep Kp158 sf0 C0.1)
      show o_G p e below _ T158 (mkF m 60 #[vI p1, vI p2, vI p3, vI p4, vI kl, vI BB, vI AA, vI ca, vI cb, vI cc, .unset, .unset, .unset, .unset, .unset, .unset, .unset] [(.ref x158)])
      refine o_staticH (y := o_m74) (argsL := [(.ref x158)]) (S := []) (W := 0) X158 hx hZ hS0 hown (k_ 30 rfl) (k_ 31 rfl) (k_ 32 rfl) (k_ 33 rfl) (by decide) (backOfSH (W := 0) (rmpas l Z a0 hw [] x158 t158 kd158 zC_ T158.heap n0 O159 Sf158 S_u SC_ hC_) hZ (k_ 33 rfl) (k_ 32 rfl) (by decide) (by decide) hEL C160.1) rfl (Nat.le_trans hk0 Kp158.1) (by rw [hml]; rfl) (lenOf o_pd__28Ljava_2flang_2fString_3b_29Lorg_2fadviceweft_2fpointcut_2fNamePattern_3b rfl) rfl (Nat.le_of_eq rfl) (y_ at_60) (by decide) (by decide) (fun T161 L161 v161 k161 X161 hS161 hk161 hZ161 hown161 hQ161 hC161 => ?_)
      obtain ⟨b161, x161, t161, kd161, rfl, N161q, Kp161, g_b161, hb161, Ex161, Fk161, Fb161, Fa161, Sf161⟩ := hQ161
      have N161 := Fr.app N158 N161q
      have O162 := Old.keep O159 Kp161 all0
      have C163 := CHr.trans C160 (hC161)
      show o_G p e below _ T161 (mkF m 63 #[vI p1, vI p2, vI p3, vI p4, vI kl, vI BB, vI AA, vI ca, vI cb, vI cc, .unset, .unset, .unset, .unset, .unset, .unset, .unset] [(.ref b161)])
      refine o_astore X161 hx (y_ at_63) rfl (A' := #[vI p1, vI p2, vI p3, vI p4, vI kl, vI BB, vI AA, vI ca, vI cb, vI cc, vR b161, .unset, .unset, .unset, .unset, .unset, .unset]) rfl ?_
      refine o_aload X161 hx (y_ at_65) rfl rfl ?_
      refine o_vir (y := o_m63) (b := b161) (argsL := []) (S := []) (W := 0) X161 hx hZ161 hown161 (k_ 106 rfl) (k_ 107 rfl) (k_ 109 rfl) (k_ 108 rfl) (backOf (W := 0) (rmgco l Z a0 hw [] b161 x161 T161.heap n0 O162 Fk161) hZ161 (k_ 110 rfl) (k_ 32 rfl) (by decide) (by decide)) rfl Ex161 hml (lenOf o_pd__28_29Ljava_2flang_2fString_3b rfl) (y_ at_67) (fun T164 L164 v164 X164 hQ164 => ?_)
      obtain ⟨rfl, N164q, hh164⟩ := hQ164
      have N164 := Fr.app N161 N164q
      show o_G p e below _ T164 (mkF m 70 #[vI p1, vI p2, vI p3, vI p4, vI kl, vI BB, vI AA, vI ca, vI cb, vI cc, vR b161, .unset, .unset, .unset, .unset, .unset, .unset] [(.ref x161)])
      refine o_vir (y := o_m13) (b := x161) (argsL := []) (S := []) (W := 0) X164 hx hZ161 hown161 (k_ 111 rfl) (k_ 96 rfl) (k_ 98 rfl) (k_ 97 rfl) (backOf (W := 0) (rmis0 l Z a0 hw [] x161 t161 T161.heap n0 O162 Sf161.nil) hZ161 (k_ 99 rfl) (k_ 6 rfl) (by decide) (by decide)) hh164 Sf161.1 hml (lenOf o_pd__28_29Z rfl) (y_ at_70) (fun T165 L165 v165 X165 hQ165 => ?_)
      obtain ⟨rfl, N165q, hh165⟩ := hQ165
      have N165 := Fr.app N164 N165q
      show o_G p e below _ T165 (mkF m 73 #[vI p1, vI p2, vI p3, vI p4, vI kl, vI BB, vI AA, vI ca, vI cb, vI cc, vR b161, .unset, .unset, .unset, .unset, .unset, .unset] [(.int 1)])
      refine o_iFF X165 hx (y_ at_73) ?_
      refine o_aload X165 hx (y_ at_76) rfl rfl ?_
      refine o_vir (y := o_m64) (b := b161) (argsL := []) (S := []) (W := 0) X165 hx hZ161 hown161 (k_ 112 rfl) (k_ 113 rfl) (k_ 115 rfl) (k_ 114 rfl) (backOf (W := 0) (rmgab l Z a0 hw [] b161 (1 : Int32) T161.heap n0 O162 Fb161 (by decide)) hZ161 (k_ 116 rfl) (k_ 32 rfl) (by decide) (by decide)) hh165 Ex161 hml (lenOf o_pd__28_29Z rfl) (y_ at_78) (fun T166 L166 v166 X166 hQ166 => ?_)
      obtain ⟨rfl, N166q, hh166⟩ := hQ166
      have N166 := Fr.app N165 N166q
      show o_G p e below _ T166 (mkF m 81 #[vI p1, vI p2, vI p3, vI p4, vI kl, vI BB, vI AA, vI ca, vI cb, vI cc, vR b161, .unset, .unset, .unset, .unset, .unset, .unset] [(.int 1)])
      refine o_iFF X166 hx (y_ at_81) ?_
      refine o_aload X166 hx (y_ at_84) rfl rfl ?_
      refine o_vir (y := o_m65) (b := b161) (argsL := []) (S := []) (W := 0) X166 hx hZ161 hown161 (k_ 117 rfl) (k_ 118 rfl) (k_ 120 rfl) (k_ 119 rfl) (backOf (W := 0) (rmgaa l Z a0 hw [] b161 (0 : Int32) T161.heap n0 O162 Fa161 (by decide)) hZ161 (k_ 121 rfl) (k_ 32 rfl) (by decide) (by decide)) hh166 Ex161 hml (lenOf o_pd__28_29Z rfl) (y_ at_86) (fun T167 L167 v167 X167 hQ167 => ?_)
      obtain ⟨rfl, N167q, hh167⟩ := hQ167
      have N167 := Fr.app N166 N167q
      show o_G p e below _ T167 (mkF m 89 #[vI p1, vI p2, vI p3, vI p4, vI kl, vI BB, vI AA, vI ca, vI cb, vI cc, vR b161, .unset, .unset, .unset, .unset, .unset, .unset] [(.int 0)])
      refine o_iFF X167 hx (y_ at_89) ?_
      refine o_aload X167 hx (y_ at_92) rfl rfl ?_
      refine o_virtualH (y := o_m72) (z := o_m72) (b := b161) (argsL := []) (S := []) (W := 0) X167 hx hZ161 hS161 hown161 (k_ 122 rfl) (k_ 123 rfl) (notFace_of_selects (args := #[]) (mvT hZ161 (k_ 125 rfl))) (k_ 125 rfl) (k_ 124 rfl) (by decide) (backOfSH (W := 0) (rmtsn l Z a0 hw [] b161 x161 (1 : Int32) (0 : Int32) t161 kd161 ([] : List Int32) fm zC_ T161.heap n0 O162 Fk161 Fb161 Fa161 Sf161 (by decide) S_u S_f hfm SC_ hC_) hZ161 (k_ 126 rfl) (k_ 32 rfl) (by decide) (by decide) hEL C163.1) hh167 hk161 Ex161 (by rw [hml]; rfl) (lenOf o_pd__28_29Ljava_2flang_2fString_3b rfl) rfl (Nat.le_of_eq rfl) (y_ at_94) (by decide) (by decide) (fun T168 L168 v168 k168 X168 hS168 hk168 hZ168 hown168 hQ168 hC168 => ?_)
      obtain ⟨x168, t168, kd168, rfl, N168q, Kp168, g_x168, hx168, g_t168, ht168, hne168, Sf168⟩ := hQ168
      have N168 := Fr.app N167 N168q
      have O169 := Old.keep O162 Kp168 all0
      have C170 := CHr.trans C163 (hC168)
      show o_G p e below _ T168 (mkF m 97 #[vI p1, vI p2, vI p3, vI p4, vI kl, vI BB, vI AA, vI ca, vI cb, vI cc, vR b161, .unset, .unset, .unset, .unset, .unset, .unset] [(.ref x168)])
      refine o_ldcH (n := 4) (vs := [.int 42]) (z := 1) X168 hx hZ168 hown168 (k_ 235 rfl) (fun d hd => hw d (o_strat d hd)) rfl hS168 hk168 hEL (by decide) C170.1 ⟨by decide, by decide⟩ (by decide) (by decide) (y_ at_97) (by decide) (by decide) (by decide) (by decide) (fun a171 b171 kb171 T171 k171 X171 E171 hS171 hk171 hZ171 hown171 Ex171 Co171 Va171 Av171 hC171 Li171 Sa171 => ?_)
      have O171 := Old.ext O169 E171
      have C172 := CHr.trans C170 (hC171)
      show o_G p e below _ T171 (mkF m 99 #[vI p1, vI p2, vI p3, vI p4, vI kl, vI BB, vI AA, vI ca, vI cb, vI cc, vR b161, .unset, .unset, .unset, .unset, .unset, .unset] [(.ref a171), (.ref x168)])
      have Ss171 : o_Str Z T171.heap a171 b171 o_star := ⟨Ex171, Co171, Va171, ⟨_, Av171⟩, by decide, by decide⟩
      have Sb173 := Ss171.asA (by decide)
      have c174 := (o_A.ext E171 Sf168)
      refine o_vir (y := o_m15) (b := x168) (argsL := [(.ref a171)]) (S := []) (W := 0) X171 hx hZ171 hown171 (k_ 236 rfl) (k_ 43 rfl) (k_ 45 rfl) (k_ 44 rfl) (backOf (W := 0) (rmeqs l Z a0 hw [] x168 a171 t168 b171 kd168 0 (o_wr (1 : Int32) (0 : Int32) ([] : List Int32)) zC_ T171.heap n0 O171 c174 Sb173 SC_ hC_) hZ171 (k_ 46 rfl) (k_ 6 rfl) (by decide) (by decide)) rfl c174.1 hml (lenOf o_pd__28Ljava_2flang_2fObject_3b_29Z rfl) (y_ at_99) (fun T175 L175 v175 X175 hQ175 => ?_)
      obtain ⟨rfl, N175q, hh175⟩ := hQ175
      have N175 := Fr.app N168 N175q
      show o_G p e below _ T175 (mkF m 102 #[vI p1, vI p2, vI p3, vI p4, vI kl, vI BB, vI AA, vI ca, vI cb, vI cc, vR b161, .unset, .unset, .unset, .unset, .unset, .unset] [(.int 1)])
      refine o_iFF X175 hx (y_ at_102) ?_
      refine o_iconst X175 hx (y_ at_105) (x := 1) rfl ?_
      refine o_gO (t := 110) X175 hx (y_ at_106) ?_
      exact o_retNW X175 hx hS171 (by rw [hh175]; exact hk171) (t := .boolean) hrt hlk (by simp) (y_ at_110) rfl (by decide) (by decide) (o_hQ hh175 ⟨rfl, N175⟩)
    refine o_iF (t := 29) X1 hx (y_ at_22) (fun hq => ?_) (fun hq => ?_)
    · have hc22 := o_h_eq.1 hq
      refine o_iconst X1 hx (y_ at_29) (x := 0) rfl ?_
      exact J30 _ X1 e1 (0 : Int32) (Or.inl rfl)
    have hc22 := o_h_eq.2 hq
    refine o_iconst X1 hx (y_ at_25) (x := 1) rfl ?_
    refine o_gO (t := 30) X1 hx (y_ at_26) ?_
    exact J30 _ X1 e1 (1 : Int32) (Or.inr rfl)
  refine o_iF (t := 15) X0 hx (y_ at_8) (fun hq => ?_) (fun hq => ?_)
  · have hc8 := o_h_eq.1 hq
    refine o_iconst X0 hx (y_ at_15) (x := 0) rfl ?_
    exact J16 _ X0 e0 (0 : Int32) (Or.inl rfl)
  have hc8 := o_h_eq.2 hq
  refine o_iconst X0 hx (y_ at_11) (x := 1) rfl ?_
  refine o_gO (t := 16) X0 hx (y_ at_12) ?_
  exact J16 _ X0 e0 (1 : Int32) (Or.inr rfl)
end OwnRm
set_option maxRecDepth 65536 in
set_option maxHeartbeats 40000000 in
theorem comes_1 {Post : Tables → Env → Array Value → State → Outcome → State → Prop} (hpost : ∀ tb e args s v u, (limb_1_1.after args s (.returned v) u = true ∧ limb_1_2.after args s (.returned v) u = true) → ReturnedEndW s (.returned v) u (Jvm.fieldLocs frame_1_writes args s ++ Jvm.arrayLocs frame_1_arrays args s ++ Jvm.staticLocs frame_1_statics s) 56 5440 → Post tb e args s (.returned v) u) :
    ArmFor flags0 classFile x code maxLocals ret World_1 tables_1 room_1 Calls_1 rest_1 Pre_1 Post := by
  intro l hfl _ _ p e ha hc hk s m args below hf hA hF happ hP
  obtain ⟨hcalls, hrest, hpre⟩ := hP
  obtain ⟨-, -, -, hnamed, -, -, -, hat⟩ := (Spec.applies_iff hf).mp happ
  obtain ⟨hg, hn⟩ := and_e (Cond.before_iff.mp (show (Jvm.Cond.and given_1 narrow_1).before args s = true from hpre))
  obtain ⟨hg0, hgr0⟩ := and_e hg
  obtain ⟨hg1, hgr1⟩ := and_e hgr0
  obtain ⟨hg2, hgr2⟩ := and_e hgr1
  obtain ⟨hg3, hgr3⟩ := and_e hgr2
  have hg4 := hgr3
  obtain ⟨w0, w1, w2, w3, rfl⟩ : ∃ w0 w1 w2 w3 : Value, args = #[w0, w1, w2, w3] := by
    have hs : args.size = 4 := by simpa [Cond.value, given_1] using hg0
    obtain ⟨L⟩ := args
    match L, hs with
    | [w0, w1, w2, w3], _ => exact ⟨w0, w1, w2, w3, rfl⟩
  have hw := fun d (hd : d ∈ tables_1) => atoms_spec (ws := Jvm.Cond.code x code maxLocals ret :: tables_1) hat d (List.mem_cons_of_mem _ hd)
  obtain ⟨hsets, hown0⟩ := atoms_of _ (rest_1_c_eq ▸ (show rest_1_c.before _ s = true from hrest))
  obtain ⟨i0, ei0⟩ := is_v hg1
  obtain rfl : w0 = (.int i0) := Option.some.inj ei0
  obtain ⟨i1, ei1⟩ := is_v hg2
  obtain rfl : w1 = (.int i1) := Option.some.inj ei1
  obtain ⟨i2, ei2⟩ := is_v hg3
  obtain rfl : w2 = (.int i2) := Option.some.inj ei2
  obtain ⟨i3, ei3⟩ := is_v hg4
  obtain rfl : w3 = (.int i3) := Option.some.inj ei3
  have hn0 := hn
  obtain ⟨zC_, eC_⟩ := is_v (Cond.before_iff.mp (hsets _ (List.mem_of_getElem? (i := 1) rfl)))
  have SC_ := Sta.start eC_ (Or.inl (hsets _ (List.mem_of_getElem? (i := 0) rfl)))
  have hC_ : ¬ zC_ = 0 := o_not_zero (Cond.before_iff.mp (hsets _ (List.mem_of_getElem? (i := 2) rfl))) eC_
  have hCH : CHv s o_EL s.vm s.heap := CHv.start (o_EWs hw) (fun p hp => hcalls.1 p (o_ELsub p hp)) (by exact (hsets _ (List.mem_of_getElem? (i := 2) rfl))) (o_k hw 18 rfl) (o_k hw 14 rfl)
  obtain ⟨fm, efm, hfm⟩ := isR_v (Cond.before_iff.mp (hsets _ (List.mem_of_getElem? (i := 8) rfl)))
  have S_f := Sta.start efm (Or.inl (hsets _ (List.mem_of_getElem? (i := 7) rfl)))
  have S_ad := Sta.start (o_eqk (Cond.before_iff.mp (hsets _ (List.mem_of_getElem? (i := 12) rfl)))) (Or.inl (hsets _ (List.mem_of_getElem? (i := 11) rfl)))
  have S_hi := Sta.start (o_eqk (Cond.before_iff.mp (hsets _ (List.mem_of_getElem? (i := 15) rfl)))) (Or.inl (hsets _ (List.mem_of_getElem? (i := 14) rfl)))
  have S_lo := Sta.start (o_eqk (Cond.before_iff.mp (hsets _ (List.mem_of_getElem? (i := 18) rfl)))) (Or.inl (hsets _ (List.mem_of_getElem? (i := 17) rfl)))
  obtain ⟨n, o, h1, h2, h3, _, L, rfl, ⟨rfl, N⟩, hq⟩ := rm0 l s _ hw tables_1 i0 i1 i2 i3 fm zC_ s.heap s.heap.size (Old.start s) ⟨S_ad, S_hi, S_lo⟩ S_f hfm SC_ hC_ p e ha hc hk s m _ below hf ((Spec.applies_iff_loose hf).mp happ).1 ⟨rfl, State.Warmed39.refl s, rfl, hCH⟩ trivial
  refine ⟨n, _, h1, h2, h3, hpost _ _ _ _ _ _ ⟨Cond.after_iff.mpr rfl, Cond.after_iff.mpr (eq_i res_at (Term.int_eval (1)) rfl)⟩ ⟨hq.1, hq.2.1, hq.2.2.1, (hq.2.2.2.sift fun y hy => Or.inr (N y hy)).mono (by decide) (by decide)⟩⟩
theorem main_1_1 : Claimed_1_1 := comes_1 fun _ _ _ _ _ _ h hF => ⟨h.1, hF⟩
theorem main_1_2 : Claimed_1_2 := comes_1 fun _ _ _ _ _ _ h hF => ⟨h.2, hF⟩
end Jvm.Pilot.@@N@@
namespace Jvm.Pilot.@@N@@
open Jvm Jvm.ClassFile Sem Op Lib Jvm.Free Jvm.Stand Jvm.Pilot.@@N@@.Jvm.D
/-! MADE BY PROGRAM (witnessworld.py) out of the Statement's table words and the real class files: 26 classes; the members and pool entries that the words name. The judged class is class 1, her method 1. -/
namespace start1
open Jvm.ClassFile
def u (s : String) : CpInfo := .utf8 (stringToUtf16 s)
/-- a pool by its gaps: so many unusable entries, then the entry; so many at the end -/
def gap : Nat → List CpInfo → List CpInfo
  | 0, r => r
  | n + 1, r => .unusable :: gap n r
def poolList (es : List (Nat × CpInfo)) (last : Nat) : List CpInfo := es.foldr (fun e r => gap e.1 (e.2 :: r)) (gap last [])
def pool (es : List (Nat × CpInfo)) (last : Nat) : Array CpInfo := ⟨poolList es last⟩
def fileOf (pool : Array CpInfo) (this : Nat) (attrs : Array Attribute := #[]) (ms : Array MethodInfo := #[]) (fl : Nat := 33) (sup : Nat := 0) (ifs : Array Nat := #[]) (fds : Array FieldInfo := #[]) : ClassFile where
  minorVersion := 0
  majorVersion := 65
  constantPool := pool
  accessFlags := fl
  thisClass := this
  superClass := sup
  interfaces := ifs
  fields := fds
  methods := ms
  attributes := attrs
def plain (name : String) (sup : Option ClassId) : Class where
  name := name
  kind := .ordinary
  loader := none
  accessFlags := 33
  super := sup
  interfaces := #[]
  cf := none
  fields := #[]
  methods := #[]
  instanceTypes := #[]
  staticTypes := #[]
  resolved := #[]
  callSites := []
  init := .initialized
  statics := none
  mirror := none

def pool0 : Array CpInfo := pool [(5, u "<init>"), (0, u "()V"), (1, .class_ 10), (1, u "java/lang/Object")] 113

def k0c0 : Code := { maxStack := 0, maxLocals := 1, code := object_method_1_code, exceptionTable := #[], attributes := #[] }
def k0m0 : Method := { name := "<init>", desc := "()V", sig := { parameters := [], returnType := none }, accessFlags := 1, code := some k0c0 }
/-- java/lang/Object -/
def k0 : Class := { plain "java/lang/Object" none with
  accessFlags := 33
  interfaces := #[]
  cf := some (fileOf pool0 8 #[] #[{ accessFlags := 1, nameIndex := 5, descriptorIndex := 6, attributes := #[] }] 33 0 #[] #[])
  fields := #[]
  methods := #[k0m0]
  instanceTypes := #[]
  staticTypes := #[]
  resolved := Array.replicate 124 none
  statics := none }

def pool1 : Array CpInfo := pool [(2, .class_ 4), (1, u "java/lang/Object"), (0, u "<init>"), (0, u "()V"), (0, .methodref 8 9), (0, .class_ 10), (0, .nameAndType 11 12), (0, u "org/adviceweft/pointcut/NamePatternParsePinLaw"), (0, u "drawn"), (0, u "(I)C"), (0, .methodref 14 15), (0, .class_ 16), (0, .nameAndType 17 18), (0, u "java/lang/String"), (0, u "valueOf"), (0, u "(C)Ljava/lang/String;"), (0, .methodref 20 21), (0, .class_ 22), (0, .nameAndType 23 24), (0, u "org/adviceweft/pointcut/NamePattern"), (0, u "parse"), (0, u "(Ljava/lang/String;)Lorg/adviceweft/pointcut/NamePattern;"), (0, .methodref 20 26), (0, .nameAndType 27 28), (0, u "core"), (0, u "()Ljava/lang/String;"), (0, .methodref 14 30), (0, .nameAndType 31 32), (0, u "isEmpty"), (0, u "()Z"), (0, .methodref 20 34), (0, .nameAndType 35 32), (0, u "anyBefore"), (0, .methodref 20 37), (0, .nameAndType 38 32), (0, u "anyAfter"), (0, .methodref 20 40), (0, .nameAndType 41 28), (0, u "toString"), (0, .string 43), (0, u "*"), (0, .methodref 14 45), (0, .nameAndType 46 47), (0, u "equals"), (0, u "(Ljava/lang/Object;)Z"), (0, .methodref 14 49), (0, .nameAndType 5 50), (0, u "([C)V"), (2, u "law"), (0, u "(IIII)Z")] 5

def k1m0 : Method := { name := "<init>", desc := "()V", sig := { parameters := [], returnType := none }, accessFlags := 1, code := none }
def k1c1 : Code := { maxStack := 3, maxLocals := 17, code := code, exceptionTable := #[], attributes := #[] }
def k1m1 : Method := { name := "law", desc := "(IIII)Z", sig := { parameters := [.int, .int, .int, .int], returnType := some .boolean }, accessFlags := 9, code := some k1c1 }
def k1c2 : Code := { maxStack := 2, maxLocals := 2, code := method_3_code, exceptionTable := #[], attributes := #[] }
def k1m2 : Method := { name := "drawn", desc := "(I)C", sig := { parameters := [.int], returnType := some .char }, accessFlags := 10, code := some k1c2 }
/-- org/adviceweft/pointcut/NamePatternParsePinLaw -/
def k1 : Class := { plain "org/adviceweft/pointcut/NamePatternParsePinLaw" (some 0) with
  accessFlags := 49
  interfaces := #[]
  cf := some (fileOf pool1 8 #[] #[{ accessFlags := 1, nameIndex := 5, descriptorIndex := 6, attributes := #[] }, { accessFlags := 9, nameIndex := 53, descriptorIndex := 54, attributes := #[] }, { accessFlags := 10, nameIndex := 11, descriptorIndex := 12, attributes := #[] }] 49 2 #[] #[])
  fields := #[]
  methods := #[k1m0, k1m1, k1m2]
  instanceTypes := #[]
  staticTypes := #[]
  resolved := Array.replicate 60 none
  statics := none }

def pool2 : Array CpInfo := pool [(1, .class_ 2), (0, u "java/io/Serializable"), (0, .class_ 4), (0, u "java/lang/Object")] 2

/-- java/io/Serializable -/
def k2 : Class := { plain "java/io/Serializable" (some 0) with
  accessFlags := 1537
  interfaces := #[]
  cf := some (fileOf pool2 1 #[] #[] 1537 3 #[] #[])
  fields := #[]
  methods := #[]
  instanceTypes := #[]
  staticTypes := #[]
  resolved := Array.replicate 7 none
  statics := none }

def pool3 : Array CpInfo := pool [(1, .class_ 2), (0, u "java/lang/Comparable"), (0, .class_ 4), (0, u "java/lang/Object")] 7

/-- java/lang/Comparable -/
def k3 : Class := { plain "java/lang/Comparable" (some 0) with
  accessFlags := 1537
  interfaces := #[]
  cf := some (fileOf pool3 1 #[] #[] 1537 3 #[] #[])
  fields := #[]
  methods := #[]
  instanceTypes := #[]
  staticTypes := #[]
  resolved := Array.replicate 12 none
  statics := none }

def pool4 : Array CpInfo := pool [(2, .class_ 4), (1, u "java/lang/CharSequence"), (42, .class_ 48), (0, u "java/lang/CharSequence$1CodePointIterator"), (10, .class_ 60), (0, u "java/lang/CharSequence$1CharIterator"), (5, .class_ 67), (0, u "java/lang/Object"), (10, u "toString"), (0, u "()Ljava/lang/String;")] 51

def k4m0 : Method := { name := "toString", desc := "()Ljava/lang/String;", sig := { parameters := [], returnType := some (.object "java/lang/String") }, accessFlags := 1025, code := none }
/-- java/lang/CharSequence -/
def k4 : Class := { plain "java/lang/CharSequence" (some 0) with
  accessFlags := 1537
  interfaces := #[]
  cf := some (fileOf pool4 2 #[.nestMembers #[47, 59]] #[{ accessFlags := 1025, nameIndex := 78, descriptorIndex := 79, attributes := #[] }] 1537 66 #[] #[])
  fields := #[]
  methods := #[k4m0]
  instanceTypes := #[]
  staticTypes := #[]
  resolved := Array.replicate 131 none
  statics := none }

def pool5 : Array CpInfo := pool [(1, .class_ 2), (0, u "java/lang/constant/Constable"), (0, .class_ 4), (0, u "java/lang/Object")] 6

/-- java/lang/constant/Constable -/
def k5 : Class := { plain "java/lang/constant/Constable" (some 0) with
  accessFlags := 1537
  interfaces := #[]
  cf := some (fileOf pool5 1 #[] #[] 1537 3 #[] #[])
  fields := #[]
  methods := #[]
  instanceTypes := #[]
  staticTypes := #[]
  resolved := Array.replicate 11 none
  statics := none }

def pool6 : Array CpInfo := pool [(1, .class_ 2), (0, u "java/lang/constant/ConstantDesc"), (0, .class_ 4), (0, u "java/lang/Object")] 32

/-- java/lang/constant/ConstantDesc -/
def k6 : Class := { plain "java/lang/constant/ConstantDesc" (some 0) with
  accessFlags := 1537
  interfaces := #[]
  cf := some (fileOf pool6 1 #[] #[] 1537 3 #[] #[])
  fields := #[]
  methods := #[]
  instanceTypes := #[]
  staticTypes := #[]
  resolved := Array.replicate 37 none
  statics := none }

def pool7 : Array CpInfo := pool [(1, .methodref 2 3), (0, .class_ 4), (0, .nameAndType 5 6), (0, u "java/lang/Object"), (0, u "<init>"), (0, u "()V"), (2, .fieldref 10 11), (0, .class_ 12), (0, .nameAndType 13 14), (0, u "java/lang/String"), (0, u "value"), (0, u "[B"), (0, .fieldref 10 16), (0, .nameAndType 17 18), (0, u "coder"), (0, u "B"), (2, u "hash"), (0, u "I"), (2, u "hashIsZero"), (0, u "Z"), (0, .methodref 10 28), (0, .nameAndType 5 29), (0, u "([CIILjava/lang/Void;)V"), (6, u "checkBoundsOffCount"), (0, u "(III)I"), (0, .fieldref 10 39), (0, .nameAndType 40 26), (0, u "COMPACT_STRINGS"), (1, .class_ 44), (1, u "java/lang/StringUTF16"), (0, u "compress"), (1, .methodref 42 48), (0, .nameAndType 49 50), (0, u "coderFromArrayLen"), (0, u "([BI)B"), (2, u "toBytes"), (0, .methodref 55 56), (0, .class_ 57), (0, .nameAndType 58 59), (0, u "java/util/Arrays"), (0, u "copyOfRange"), (0, u "([BII)[B"), (46, .methodref 107 108), (0, .class_ 109), (0, .nameAndType 110 111), (0, u "java/lang/StringLatin1"), (0, u "inflate"), (0, u "([BI[BII)V"), (30, u "()Z"), (34, .methodref 42 178), (0, .nameAndType 45 179), (0, u "([CII)[B"), (13, .class_ 195), (1, u "java/lang/System"), (13, .methodref 10 210), (0, .nameAndType 5 211), (0, u "([BB)V"), (0, .methodref 193 213), (0, .nameAndType 214 215), (0, u "arraycopy"), (0, u "(Ljava/lang/Object;ILjava/lang/Object;II)V"), (118, u "()I"), (0, .methodref 10 336), (0, .nameAndType 17 337), (0, u "()B"), (2, u "()[B"), (19, .methodref 42 361), (0, .nameAndType 362 363), (0, u "getChar"), (0, u "([BI)C"), (5, u "(C)Z"), (6, u "([BI[BII)I"), (85, .nameAndType 463 464), (0, u "toString"), (0, u "()Ljava/lang/String;"), (24, .methodref 10 490), (0, .nameAndType 5 491), (0, u "(Ljava/lang/AbstractStringBuilder;Ljava/lang/Void;)V"), (0, .methodref 10 493), (0, .nameAndType 494 142), (0, u "isLatin1"), (10, .methodref 10 506), (0, .nameAndType 507 334), (0, u "length"), (5, u "checkFromToIndex"), (7, .methodref 10 522), (0, .nameAndType 523 524), (0, u "checkBoundsBeginEnd"), (0, u "(III)V"), (7, u "getBytes"), (8, .methodref 107 542), (0, .nameAndType 543 544), (0, u "equals"), (0, u "([B[B)Z"), (3, u "(Ljava/lang/CharSequence;)Z"), (0, .methodref 550 506), (0, .class_ 551), (0, u "java/lang/AbstractStringBuilder"), (0, .methodref 550 553), (0, .nameAndType 554 340), (0, u "getValue"), (4, .class_ 561), (1, u "jdk/internal/util/ArraysSupport"), (0, u "mismatch"), (10, u "(Ljava/lang/Object;)Z"), (1, .class_ 576), (0, u "java/lang/CharSequence"), (12, u "([B[B)I"), (9, u "CASE_INSENSITIVE_ORDER"), (0, u "Ljava/util/Comparator;"), (6, .methodref 559 608), (0, .nameAndType 562 376), (15, .methodref 10 625), (0, .nameAndType 626 627), (0, u "startsWith"), (0, u "(Ljava/lang/String;I)Z"), (7, u "indexOf"), (11, .methodref 107 648), (0, .nameAndType 635 589), (1, .methodref 42 651), (0, .nameAndType 652 589), (0, u "indexOfLatin1"), (30, u "substring"), (0, u "(II)Ljava/lang/String;"), (0, .methodref 107 686), (0, .nameAndType 687 688), (0, u "newString"), (0, u "([BII)Ljava/lang/String;"), (0, .methodref 42 686), (2, u "isEmpty"), (17, .interfaceMethodref 575 462), (0, .methodref 10 712), (0, .nameAndType 635 713), (0, u "(Ljava/lang/String;)I"), (68, u "valueOf"), (0, u "(C)Ljava/lang/String;"), (37, u "([BIB)V"), (188, u "([C)V"), (4, .methodref 107 1016), (0, .nameAndType 1017 369), (0, u "canEncode"), (0, .methodref 107 1019), (0, .nameAndType 53 1020), (0, u "(C)[B"), (26, .methodref 550 493), (0, .fieldref 550 1049), (0, .nameAndType 1050 26), (0, u "maybeLatin1"), (2, .fieldref 1054 1055), (0, .class_ 1056), (0, .nameAndType 1057 1058), (0, u "jdk/internal/util/Preconditions"), (0, u "SIOOBE_FORMATTER"), (0, u "Ljava/util/function/BiFunction;"), (3, .methodref 1054 1063), (0, .nameAndType 513 1064), (0, u "(IIILjava/util/function/BiFunction;)I"), (0, .methodref 1054 1066), (0, .nameAndType 1067 1064), (0, u "checkFromIndexSize"), (33, u "serialPersistentFields"), (0, u "[Ljava/io/ObjectStreamField;"), (0, .class_ 1104), (0, u "java/lang/String$CaseInsensitiveComparator"), (1, .class_ 1107), (0, u "java/io/Serializable"), (0, .class_ 1109), (0, u "java/lang/Comparable"), (0, .class_ 1111), (0, u "java/lang/constant/Constable"), (0, .class_ 1113), (0, u "java/lang/constant/ConstantDesc"), (2, u "serialVersionUID"), (0, u "J"), (3, u "REPL"), (0, u "C"), (2, u "LATIN1"), (1, u "UTF16"), (105, u "(Ljava/lang/StringBuilder;)V"), (23, u "(Ljava/lang/String;)Z"), (14, u "endsWith"), (18, u "contains")] 159

def k7m0 : Method := { name := "<init>", desc := "()V", sig := { parameters := [], returnType := none }, accessFlags := 1, code := none }
def k7c1 : Code := { maxStack := 5, maxLocals := 2, code := jdk_42_method_3_code, exceptionTable := #[], attributes := #[] }
def k7m1 : Method := { name := "<init>", desc := "([C)V", sig := { parameters := [(.array .char)], returnType := none }, accessFlags := 1, code := some k7c1 }
def k7c2 : Code := { maxStack := 3, maxLocals := 2, code := jdk_42_method_53_code, exceptionTable := #[], attributes := #[] }
def k7m2 : Method := { name := "<init>", desc := "(Ljava/lang/StringBuilder;)V", sig := { parameters := [(.object "java/lang/StringBuilder")], returnType := none }, accessFlags := 1, code := some k7c2 }
def k7c3 : Code := { maxStack := 2, maxLocals := 1, code := jdk_42_method_54_code, exceptionTable := #[], attributes := #[] }
def k7m3 : Method := { name := "length", desc := "()I", sig := { parameters := [], returnType := some .int }, accessFlags := 1, code := some k7c3 }
def k7c4 : Code := { maxStack := 1, maxLocals := 1, code := jdk_42_method_55_code, exceptionTable := #[], attributes := #[] }
def k7m4 : Method := { name := "isEmpty", desc := "()Z", sig := { parameters := [], returnType := some .boolean }, accessFlags := 1, code := some k7c4 }
def k7c5 : Code := { maxStack := 2, maxLocals := 3, code := jdk_42_method_66_code, exceptionTable := #[], attributes := #[] }
def k7m5 : Method := { name := "equals", desc := "(Ljava/lang/Object;)Z", sig := { parameters := [(.object "java/lang/Object")], returnType := some .boolean }, accessFlags := 1, code := some k7c5 }
def k7c6 : Code := { maxStack := 5, maxLocals := 8, code := jdk_42_method_75_code, exceptionTable := #[], attributes := #[] }
def k7m6 : Method := { name := "startsWith", desc := "(Ljava/lang/String;I)Z", sig := { parameters := [(.object "java/lang/String"), .int], returnType := some .boolean }, accessFlags := 1, code := some k7c6 }
def k7c7 : Code := { maxStack := 3, maxLocals := 2, code := jdk_42_method_76_code, exceptionTable := #[], attributes := #[] }
def k7m7 : Method := { name := "startsWith", desc := "(Ljava/lang/String;)Z", sig := { parameters := [(.object "java/lang/String")], returnType := some .boolean }, accessFlags := 1, code := some k7c7 }
def k7c8 : Code := { maxStack := 4, maxLocals := 2, code := jdk_42_method_77_code, exceptionTable := #[], attributes := #[] }
def k7m8 : Method := { name := "endsWith", desc := "(Ljava/lang/String;)Z", sig := { parameters := [(.object "java/lang/String")], returnType := some .boolean }, accessFlags := 1, code := some k7c8 }
def k7c9 : Code := { maxStack := 2, maxLocals := 3, code := jdk_42_method_84_code, exceptionTable := #[], attributes := #[] }
def k7m9 : Method := { name := "indexOf", desc := "(Ljava/lang/String;)I", sig := { parameters := [(.object "java/lang/String")], returnType := some .int }, accessFlags := 1, code := some k7c9 }
def k7c10 : Code := { maxStack := 3, maxLocals := 5, code := jdk_42_method_92_code, exceptionTable := #[], attributes := #[] }
def k7m10 : Method := { name := "substring", desc := "(II)Ljava/lang/String;", sig := { parameters := [.int, .int], returnType := some (.object "java/lang/String") }, accessFlags := 1, code := some k7c10 }
def k7c11 : Code := { maxStack := 2, maxLocals := 2, code := jdk_42_method_97_code, exceptionTable := #[], attributes := #[] }
def k7m11 : Method := { name := "contains", desc := "(Ljava/lang/CharSequence;)Z", sig := { parameters := [(.object "java/lang/CharSequence")], returnType := some .boolean }, accessFlags := 1, code := some k7c11 }
def k7c12 : Code := { maxStack := 1, maxLocals := 1, code := jdk_42_method_126_code, exceptionTable := #[], attributes := #[] }
def k7m12 : Method := { name := "toString", desc := "()Ljava/lang/String;", sig := { parameters := [], returnType := some (.object "java/lang/String") }, accessFlags := 1, code := some k7c12 }
def k7c13 : Code := { maxStack := 4, maxLocals := 1, code := jdk_42_method_139_code, exceptionTable := #[], attributes := #[] }
def k7m13 : Method := { name := "valueOf", desc := "(C)Ljava/lang/String;", sig := { parameters := [.char], returnType := some (.object "java/lang/String") }, accessFlags := 9, code := some k7c13 }
def k7c14 : Code := { maxStack := 5, maxLocals := 4, code := jdk_42_method_147_code, exceptionTable := #[], attributes := #[] }
def k7m14 : Method := { name := "getBytes", desc := "([BIB)V", sig := { parameters := [(.array .byte), .int, .byte], returnType := none }, accessFlags := 0, code := some k7c14 }
def k7c15 : Code := { maxStack := 4, maxLocals := 6, code := jdk_42_method_149_code, exceptionTable := #[], attributes := #[] }
def k7m15 : Method := { name := "<init>", desc := "([CIILjava/lang/Void;)V", sig := { parameters := [(.array .char), .int, .int, (.object "java/lang/Void")], returnType := none }, accessFlags := 2, code := some k7c15 }
def k7c16 : Code := { maxStack := 5, maxLocals := 5, code := jdk_42_method_150_code, exceptionTable := #[], attributes := #[] }
def k7m16 : Method := { name := "<init>", desc := "(Ljava/lang/AbstractStringBuilder;Ljava/lang/Void;)V", sig := { parameters := [(.object "java/lang/AbstractStringBuilder"), (.object "java/lang/Void")], returnType := none }, accessFlags := 0, code := some k7c16 }
def k7c17 : Code := { maxStack := 2, maxLocals := 3, code := jdk_42_method_151_code, exceptionTable := #[], attributes := #[] }
def k7m17 : Method := { name := "<init>", desc := "([BB)V", sig := { parameters := [(.array .byte), .byte], returnType := none }, accessFlags := 0, code := some k7c17 }
def k7c18 : Code := { maxStack := 1, maxLocals := 1, code := jdk_42_method_152_code, exceptionTable := #[], attributes := #[] }
def k7m18 : Method := { name := "coder", desc := "()B", sig := { parameters := [], returnType := some .byte }, accessFlags := 0, code := some k7c18 }
def k7c19 : Code := { maxStack := 1, maxLocals := 1, code := jdk_42_method_154_code, exceptionTable := #[], attributes := #[] }
def k7m19 : Method := { name := "isLatin1", desc := "()Z", sig := { parameters := [], returnType := some .boolean }, accessFlags := 0, code := some k7c19 }
def k7c20 : Code := { maxStack := 4, maxLocals := 3, code := jdk_42_method_157_code, exceptionTable := #[], attributes := #[] }
def k7m20 : Method := { name := "checkBoundsOffCount", desc := "(III)I", sig := { parameters := [.int, .int, .int], returnType := some .int }, accessFlags := 8, code := some k7c20 }
def k7c21 : Code := { maxStack := 4, maxLocals := 3, code := jdk_42_method_158_code, exceptionTable := #[], attributes := #[] }
def k7m21 : Method := { name := "checkBoundsBeginEnd", desc := "(III)V", sig := { parameters := [.int, .int, .int], returnType := none }, accessFlags := 8, code := some k7c21 }
/-- java/lang/String -/
def k7 : Class := { plain "java/lang/String" (some 0) with
  accessFlags := 49
  interfaces := #[2, 3, 4, 5, 6]
  cf := some (fileOf pool7 10 #[.nestMembers #[1103]] #[{ accessFlags := 1, nameIndex := 5, descriptorIndex := 6, attributes := #[] }, { accessFlags := 1, nameIndex := 5, descriptorIndex := 1010, attributes := #[] }, { accessFlags := 1, nameIndex := 5, descriptorIndex := 1233, attributes := #[] }, { accessFlags := 1, nameIndex := 507, descriptorIndex := 334, attributes := #[] }, { accessFlags := 1, nameIndex := 692, descriptorIndex := 142, attributes := #[] }, { accessFlags := 1, nameIndex := 543, descriptorIndex := 573, attributes := #[] }, { accessFlags := 1, nameIndex := 626, descriptorIndex := 627, attributes := #[] }, { accessFlags := 1, nameIndex := 626, descriptorIndex := 1257, attributes := #[] }, { accessFlags := 1, nameIndex := 1272, descriptorIndex := 1257, attributes := #[] }, { accessFlags := 1, nameIndex := 635, descriptorIndex := 713, attributes := #[] }, { accessFlags := 1, nameIndex := 683, descriptorIndex := 684, attributes := #[] }, { accessFlags := 1, nameIndex := 1291, descriptorIndex := 548, attributes := #[] }, { accessFlags := 1, nameIndex := 463, descriptorIndex := 464, attributes := #[] }, { accessFlags := 9, nameIndex := 782, descriptorIndex := 783, attributes := #[] }, { accessFlags := 0, nameIndex := 532, descriptorIndex := 821, attributes := #[] }, { accessFlags := 2, nameIndex := 5, descriptorIndex := 29, attributes := #[] }, { accessFlags := 0, nameIndex := 5, descriptorIndex := 491, attributes := #[] }, { accessFlags := 0, nameIndex := 5, descriptorIndex := 211, attributes := #[] }, { accessFlags := 0, nameIndex := 17, descriptorIndex := 337, attributes := #[] }, { accessFlags := 0, nameIndex := 494, descriptorIndex := 142, attributes := #[] }, { accessFlags := 8, nameIndex := 36, descriptorIndex := 37, attributes := #[] }, { accessFlags := 8, nameIndex := 523, descriptorIndex := 524, attributes := #[] }] 49 2 #[1106, 1108, 575, 1110, 1112] #[{ accessFlags := 18, nameIndex := 13, descriptorIndex := 14, attributes := #[] }, { accessFlags := 18, nameIndex := 17, descriptorIndex := 18, attributes := #[] }, { accessFlags := 2, nameIndex := 21, descriptorIndex := 22, attributes := #[] }, { accessFlags := 2, nameIndex := 25, descriptorIndex := 26, attributes := #[] }, { accessFlags := 26, nameIndex := 1116, descriptorIndex := 1117, attributes := #[] }, { accessFlags := 24, nameIndex := 40, descriptorIndex := 26, attributes := #[] }, { accessFlags := 26, nameIndex := 1101, descriptorIndex := 1102, attributes := #[] }, { accessFlags := 26, nameIndex := 1121, descriptorIndex := 1122, attributes := #[] }, { accessFlags := 25, nameIndex := 599, descriptorIndex := 600, attributes := #[] }, { accessFlags := 24, nameIndex := 1125, descriptorIndex := 18, attributes := #[] }, { accessFlags := 24, nameIndex := 1127, descriptorIndex := 18, attributes := #[] }])
  fields := #[{ name := "value", type := (.array .byte), accessFlags := 18, slot := 0, constantValue := 0 }, { name := "coder", type := .byte, accessFlags := 18, slot := 1, constantValue := 0 }, { name := "hash", type := .int, accessFlags := 2, slot := 2, constantValue := 0 }, { name := "hashIsZero", type := .boolean, accessFlags := 2, slot := 3, constantValue := 0 }, { name := "serialVersionUID", type := .long, accessFlags := 26, slot := 0, constantValue := 0 }, { name := "COMPACT_STRINGS", type := .boolean, accessFlags := 24, slot := 1, constantValue := 0 }, { name := "serialPersistentFields", type := (.array (.object "java/io/ObjectStreamField")), accessFlags := 26, slot := 2, constantValue := 0 }, { name := "REPL", type := .char, accessFlags := 26, slot := 3, constantValue := 0 }, { name := "CASE_INSENSITIVE_ORDER", type := (.object "java/util/Comparator"), accessFlags := 25, slot := 4, constantValue := 0 }, { name := "LATIN1", type := .byte, accessFlags := 24, slot := 5, constantValue := 0 }, { name := "UTF16", type := .byte, accessFlags := 24, slot := 6, constantValue := 0 }]
  methods := #[k7m0, k7m1, k7m2, k7m3, k7m4, k7m5, k7m6, k7m7, k7m8, k7m9, k7m10, k7m11, k7m12, k7m13, k7m14, k7m15, k7m16, k7m17, k7m18, k7m19, k7m20, k7m21]
  instanceTypes := #[(.array .byte), .byte, .int, .boolean]
  staticTypes := #[.long, .boolean, (.array (.object "java/io/ObjectStreamField")), .char, (.object "java/util/Comparator"), .byte, .byte]
  resolved := Array.replicate 1451 none
  statics := some 0 }

def pool8 : Array CpInfo := pool [(1, .class_ 2), (0, u "java/lang/String"), (1, .class_ 6), (1, u "java/lang/Object"), (0, u "<init>"), (0, u "()V"), (5, .class_ 16), (1, u "java/lang/StringLatin1"), (0, u "inflate"), (2, .class_ 22), (1, u "java/lang/StringUTF16"), (3, .nameAndType 17 27), (0, u "([BI[BII)V"), (62, u "canEncode"), (8, .methodref 14 100), (0, .nameAndType 101 102), (0, u "indexOf"), (0, u "([BI[BII)I"), (2, u "(C)Z"), (6, .methodref 1 113), (0, .nameAndType 7 114), (0, u "([BB)V"), (6, u "$assertionsDisabled"), (0, u "Z"), (8, .class_ 133), (1, u "java/util/Arrays"), (62, u "newString"), (0, u "([BII)Ljava/lang/String;"), (23, .class_ 223), (1, u "java/lang/StringLatin1$LinesSpliterator"), (8, .methodref 131 233), (0, .nameAndType 234 235), (0, u "copyOfRange"), (0, u "([BII)[B"), (4, .methodref 20 26), (40, u "equals"), (0, u "([B[B)Z"), (4, u "([B[B)I"), (92, u "toBytes"), (1, u "(C)[B"), (7, .class_ 391), (0, u "java/lang/StringLatin1$CharsSpliterator")] 3

def k8m0 : Method := { name := "<init>", desc := "()V", sig := { parameters := [], returnType := none }, accessFlags := 0, code := none }
def k8c1 : Code := { maxStack := 2, maxLocals := 1, code := jdk_43_method_3_code, exceptionTable := #[], attributes := #[] }
def k8m1 : Method := { name := "canEncode", desc := "(C)Z", sig := { parameters := [.char], returnType := some .boolean }, accessFlags := 9, code := some k8c1 }
def k8c2 : Code := { maxStack := 3, maxLocals := 3, code := jdk_43_method_13_code, exceptionTable := #[], attributes := #[] }
def k8m2 : Method := { name := "equals", desc := "([B[B)Z", sig := { parameters := [(.array .byte), (.array .byte)], returnType := some .boolean }, accessFlags := 9, code := some k8c2 }
def k8c3 : Code := { maxStack := 5, maxLocals := 2, code := jdk_43_method_24_code, exceptionTable := #[], attributes := #[] }
def k8m3 : Method := { name := "indexOf", desc := "([B[B)I", sig := { parameters := [(.array .byte), (.array .byte)], returnType := some .int }, accessFlags := 9, code := some k8c3 }
def k8c4 : Code := { maxStack := 3, maxLocals := 11, code := jdk_43_method_25_code, exceptionTable := #[], attributes := #[] }
def k8m4 : Method := { name := "indexOf", desc := "([BI[BII)I", sig := { parameters := [(.array .byte), .int, (.array .byte), .int, .int], returnType := some .int }, accessFlags := 9, code := some k8c4 }
def k8c5 : Code := { maxStack := 4, maxLocals := 1, code := jdk_43_method_46_code, exceptionTable := #[], attributes := #[] }
def k8m5 : Method := { name := "toBytes", desc := "(C)[B", sig := { parameters := [.char], returnType := some (.array .byte) }, accessFlags := 9, code := some k8c5 }
def k8c6 : Code := { maxStack := 6, maxLocals := 3, code := jdk_43_method_47_code, exceptionTable := #[], attributes := #[] }
def k8m6 : Method := { name := "newString", desc := "([BII)Ljava/lang/String;", sig := { parameters := [(.array .byte), .int, .int], returnType := some (.object "java/lang/String") }, accessFlags := 9, code := some k8c6 }
def k8c7 : Code := { maxStack := 5, maxLocals := 5, code := jdk_43_method_50_code, exceptionTable := #[], attributes := #[] }
def k8m7 : Method := { name := "inflate", desc := "([BI[BII)V", sig := { parameters := [(.array .byte), .int, (.array .byte), .int, .int], returnType := none }, accessFlags := 9, code := some k8c7 }
/-- java/lang/StringLatin1 -/
def k8 : Class := { plain "java/lang/StringLatin1" (some 0) with
  accessFlags := 48
  interfaces := #[]
  cf := some (fileOf pool8 14 #[.nestMembers #[390, 221]] #[{ accessFlags := 0, nameIndex := 7, descriptorIndex := 8, attributes := #[] }, { accessFlags := 9, nameIndex := 90, descriptorIndex := 105, attributes := #[] }, { accessFlags := 9, nameIndex := 281, descriptorIndex := 282, attributes := #[] }, { accessFlags := 9, nameIndex := 101, descriptorIndex := 287, attributes := #[] }, { accessFlags := 9, nameIndex := 101, descriptorIndex := 102, attributes := #[] }, { accessFlags := 9, nameIndex := 380, descriptorIndex := 382, attributes := #[] }, { accessFlags := 9, nameIndex := 196, descriptorIndex := 197, attributes := #[] }, { accessFlags := 9, nameIndex := 17, descriptorIndex := 27, attributes := #[] }] 48 4 #[] #[{ accessFlags := 4120, nameIndex := 121, descriptorIndex := 122, attributes := #[] }])
  fields := #[{ name := "$assertionsDisabled", type := .boolean, accessFlags := 4120, slot := 0, constantValue := 0 }]
  methods := #[k8m0, k8m1, k8m2, k8m3, k8m4, k8m5, k8m6, k8m7]
  instanceTypes := #[]
  staticTypes := #[.boolean]
  resolved := Array.replicate 395 none
  statics := none }

def pool9 : Array CpInfo := pool [(1, .methodref 2 3), (0, .class_ 4), (0, .nameAndType 5 6), (0, u "java/lang/Object"), (0, u "<init>"), (0, u "()V"), (0, .class_ 8), (0, u "java/lang/Record")] 13

def k9c0 : Code := { maxStack := 1, maxLocals := 1, code := jdk_30_method_1_code, exceptionTable := #[], attributes := #[] }
def k9m0 : Method := { name := "<init>", desc := "()V", sig := { parameters := [], returnType := none }, accessFlags := 4, code := some k9c0 }
/-- java/lang/Record -/
def k9 : Class := { plain "java/lang/Record" (some 0) with
  accessFlags := 1057
  interfaces := #[]
  cf := some (fileOf pool9 7 #[] #[{ accessFlags := 4, nameIndex := 5, descriptorIndex := 6, attributes := #[] }] 1057 2 #[] #[])
  fields := #[]
  methods := #[k9m0]
  instanceTypes := #[]
  staticTypes := #[]
  resolved := Array.replicate 22 none
  statics := none }

def pool10 : Array CpInfo := pool [(1, .methodref 2 3), (0, .class_ 4), (0, .nameAndType 5 6), (0, u "java/lang/Record"), (0, u "<init>"), (0, u "()V"), (0, .string 8), (0, u "core"), (0, .methodref 10 11), (0, .class_ 12), (0, .nameAndType 13 14), (0, u "java/util/Objects"), (0, u "requireNonNull"), (0, u "(Ljava/lang/Object;Ljava/lang/String;)Ljava/lang/Object;"), (0, .class_ 16), (0, u "org/adviceweft/pointcut/NamePattern"), (0, .string 18), (0, u "*"), (0, .methodref 20 21), (0, .class_ 22), (0, .nameAndType 23 24), (0, u "java/lang/String"), (0, u "contains"), (0, u "(Ljava/lang/CharSequence;)Z"), (0, .methodref 20 26), (0, .nameAndType 27 28), (0, u "isEmpty"), (0, u "()Z"), (2, .class_ 32), (0, u "java/lang/StringBuilder"), (0, .methodref 31 3), (2, .methodref 31 37), (0, .nameAndType 38 39), (0, u "append"), (0, u "(Ljava/lang/String;)Ljava/lang/StringBuilder;"), (0, .methodref 15 41), (0, .nameAndType 42 43), (0, u "written"), (0, u "(Ljava/lang/String;ZZ)Ljava/lang/String;"), (2, .methodref 31 47), (0, .nameAndType 48 49), (0, u "toString"), (0, u "()Ljava/lang/String;"), (3, .fieldref 15 54), (0, .nameAndType 8 55), (0, u "Ljava/lang/String;"), (0, .fieldref 15 57), (0, .nameAndType 58 59), (0, u "anyBefore"), (0, u "Z"), (0, .fieldref 15 61), (0, .nameAndType 62 59), (0, u "anyAfter"), (0, .string 64), (0, u "pattern"), (0, .methodref 20 66), (0, .nameAndType 67 68), (0, u "equals"), (0, u "(Ljava/lang/Object;)Z"), (0, .string 70), (0, u ""), (0, .methodref 15 72), (0, .nameAndType 5 73), (0, u "(Ljava/lang/String;ZZ)V"), (0, .methodref 20 75), (0, .nameAndType 76 77), (0, u "startsWith"), (0, u "(Ljava/lang/String;)Z"), (0, .methodref 20 79), (0, .nameAndType 80 77), (0, u "endsWith"), (0, .methodref 20 82), (0, .nameAndType 83 84), (0, u "length"), (0, u "()I"), (0, .methodref 20 86), (0, .nameAndType 87 88), (0, u "substring"), (0, u "(II)Ljava/lang/String;"), (7, u "STAR"), (5, u "parse"), (0, u "(Ljava/lang/String;)Lorg/adviceweft/pointcut/NamePattern;")] 23

def k10c0 : Code := { maxStack := 6, maxLocals := 4, code := prog_8_method_1_code, exceptionTable := #[], attributes := #[] }
def k10m0 : Method := { name := "<init>", desc := "(Ljava/lang/String;ZZ)V", sig := { parameters := [(.object "java/lang/String"), .boolean, .boolean], returnType := none }, accessFlags := 1, code := some k10c0 }
def k10c1 : Code := { maxStack := 5, maxLocals := 4, code := prog_8_method_2_code, exceptionTable := #[], attributes := #[] }
def k10m1 : Method := { name := "parse", desc := "(Ljava/lang/String;)Lorg/adviceweft/pointcut/NamePattern;", sig := { parameters := [(.object "java/lang/String")], returnType := some (.object "org/adviceweft/pointcut/NamePattern") }, accessFlags := 9, code := some k10c1 }
def k10c2 : Code := { maxStack := 3, maxLocals := 1, code := prog_8_method_4_code, exceptionTable := #[], attributes := #[] }
def k10m2 : Method := { name := "toString", desc := "()Ljava/lang/String;", sig := { parameters := [], returnType := some (.object "java/lang/String") }, accessFlags := 1, code := some k10c2 }
def k10c3 : Code := { maxStack := 2, maxLocals := 3, code := prog_8_method_5_code, exceptionTable := #[], attributes := #[] }
def k10m3 : Method := { name := "written", desc := "(Ljava/lang/String;ZZ)Ljava/lang/String;", sig := { parameters := [(.object "java/lang/String"), .boolean, .boolean], returnType := some (.object "java/lang/String") }, accessFlags := 10, code := some k10c3 }
def k10c4 : Code := { maxStack := 1, maxLocals := 1, code := prog_8_method_8_code, exceptionTable := #[], attributes := #[] }
def k10m4 : Method := { name := "core", desc := "()Ljava/lang/String;", sig := { parameters := [], returnType := some (.object "java/lang/String") }, accessFlags := 1, code := some k10c4 }
def k10c5 : Code := { maxStack := 1, maxLocals := 1, code := prog_8_method_9_code, exceptionTable := #[], attributes := #[] }
def k10m5 : Method := { name := "anyBefore", desc := "()Z", sig := { parameters := [], returnType := some .boolean }, accessFlags := 1, code := some k10c5 }
def k10c6 : Code := { maxStack := 1, maxLocals := 1, code := prog_8_method_10_code, exceptionTable := #[], attributes := #[] }
def k10m6 : Method := { name := "anyAfter", desc := "()Z", sig := { parameters := [], returnType := some .boolean }, accessFlags := 1, code := some k10c6 }
/-- org/adviceweft/pointcut/NamePattern -/
def k10 : Class := { plain "org/adviceweft/pointcut/NamePattern" (some 9) with
  accessFlags := 49
  interfaces := #[]
  cf := some (fileOf pool10 15 #[] #[{ accessFlags := 1, nameIndex := 5, descriptorIndex := 73, attributes := #[] }, { accessFlags := 9, nameIndex := 102, descriptorIndex := 103, attributes := #[] }, { accessFlags := 1, nameIndex := 48, descriptorIndex := 49, attributes := #[] }, { accessFlags := 10, nameIndex := 42, descriptorIndex := 43, attributes := #[] }, { accessFlags := 1, nameIndex := 8, descriptorIndex := 49, attributes := #[] }, { accessFlags := 1, nameIndex := 58, descriptorIndex := 28, attributes := #[] }, { accessFlags := 1, nameIndex := 62, descriptorIndex := 28, attributes := #[] }] 49 2 #[] #[{ accessFlags := 18, nameIndex := 8, descriptorIndex := 55, attributes := #[] }, { accessFlags := 18, nameIndex := 58, descriptorIndex := 59, attributes := #[] }, { accessFlags := 18, nameIndex := 62, descriptorIndex := 59, attributes := #[] }, { accessFlags := 26, nameIndex := 96, descriptorIndex := 55, attributes := #[] }])
  fields := #[{ name := "core", type := (.object "java/lang/String"), accessFlags := 18, slot := 0, constantValue := 0 }, { name := "anyBefore", type := .boolean, accessFlags := 18, slot := 1, constantValue := 0 }, { name := "anyAfter", type := .boolean, accessFlags := 18, slot := 2, constantValue := 0 }, { name := "STAR", type := (.object "java/lang/String"), accessFlags := 26, slot := 0, constantValue := 0 }]
  methods := #[k10m0, k10m1, k10m2, k10m3, k10m4, k10m5, k10m6]
  instanceTypes := #[(.object "java/lang/String"), .boolean, .boolean]
  staticTypes := #[(.object "java/lang/String")]
  resolved := Array.replicate 127 none
  statics := none }

def pool11 : Array CpInfo := pool [(2, .class_ 4), (1, u "java/lang/Object"), (0, u "<init>"), (0, u "()V"), (35, .class_ 44), (1, u "java/util/Objects"), (0, u "requireNonNull"), (48, u "(Ljava/lang/Object;Ljava/lang/String;)Ljava/lang/Object;")] 89

def k11m0 : Method := { name := "<init>", desc := "()V", sig := { parameters := [], returnType := none }, accessFlags := 2, code := none }
def k11c1 : Code := { maxStack := 3, maxLocals := 2, code := jdk_31_method_11_code, exceptionTable := #[], attributes := #[] }
def k11m1 : Method := { name := "requireNonNull", desc := "(Ljava/lang/Object;Ljava/lang/String;)Ljava/lang/Object;", sig := { parameters := [(.object "java/lang/Object"), (.object "java/lang/String")], returnType := some (.object "java/lang/Object") }, accessFlags := 9, code := some k11c1 }
/-- java/util/Objects -/
def k11 : Class := { plain "java/util/Objects" (some 0) with
  accessFlags := 49
  interfaces := #[]
  cf := some (fileOf pool11 42 #[] #[{ accessFlags := 2, nameIndex := 5, descriptorIndex := 6, attributes := #[] }, { accessFlags := 9, nameIndex := 45, descriptorIndex := 94, attributes := #[] }] 49 2 #[] #[])
  fields := #[]
  methods := #[k11m0, k11m1]
  instanceTypes := #[]
  staticTypes := #[]
  resolved := Array.replicate 184 none
  statics := none }

def pool12 : Array CpInfo := pool [(1, .class_ 2), (0, u "java/lang/Appendable"), (0, .class_ 4), (0, u "java/lang/Object")] 9

/-- java/lang/Appendable -/
def k12 : Class := { plain "java/lang/Appendable" (some 0) with
  accessFlags := 1537
  interfaces := #[]
  cf := some (fileOf pool12 1 #[] #[] 1537 3 #[] #[])
  fields := #[]
  methods := #[]
  instanceTypes := #[]
  staticTypes := #[]
  resolved := Array.replicate 14 none
  statics := none }

def pool13 : Array CpInfo := pool [(1, .class_ 2), (0, u "java/lang/String"), (0, .methodref 4 5), (0, .class_ 6), (0, .nameAndType 7 8), (0, u "java/lang/Object"), (0, u "<init>"), (0, u "()V"), (1, .class_ 12), (1, u "java/lang/AbstractStringBuilder"), (0, u "EMPTYVALUE"), (0, u "[B"), (0, .fieldref 10 16), (0, .nameAndType 17 14), (0, u "value"), (0, .fieldref 1 19), (0, .nameAndType 20 21), (0, u "COMPACT_STRINGS"), (0, u "Z"), (0, .fieldref 10 23), (0, .nameAndType 24 25), (0, u "coder"), (0, u "B"), (0, .methodref 27 28), (0, .class_ 29), (0, .nameAndType 30 31), (0, u "java/lang/StringUTF16"), (0, u "newBytesFor"), (0, u "(I)[B"), (0, .methodref 1 33), (0, .nameAndType 34 35), (0, u "length"), (0, u "()I"), (4, .methodref 1 41), (0, .nameAndType 24 42), (0, u "()B"), (2, u "append"), (0, u "(Ljava/lang/String;)Ljava/lang/AbstractStringBuilder;"), (1, .class_ 49), (0, u "java/lang/CharSequence"), (19, u "(Ljava/lang/String;)V"), (5, u "maybeLatin1"), (3, .fieldref 10 80), (0, .nameAndType 81 82), (0, u "count"), (0, u "I"), (0, .methodref 10 84), (0, .nameAndType 85 86), (0, u "isLatin1"), (0, u "()Z"), (1, .class_ 90), (1, u "java/lang/StringLatin1"), (9, .methodref 10 101), (0, .nameAndType 102 103), (0, u "ensureCapacityInternal"), (0, u "(I)V"), (21, .methodref 88 126), (0, .nameAndType 127 128), (0, u "inflate"), (0, u "([BI[BII)V"), (66, .methodref 10 196), (0, .nameAndType 127 8), (11, .methodref 10 209), (0, .nameAndType 210 211), (0, u "putStringAt"), (0, u "(ILjava/lang/String;)V"), (5, u "inflateIfNeededFor"), (2, .nameAndType 221 222), (0, u "getBytes"), (0, u "([BIB)V"), (174, .methodref 10 398), (0, .nameAndType 217 69), (0, .methodref 1 220), (3, u "()[B"), (40, .class_ 445), (0, u "java/lang/Appendable"), (106, u "getValue")] 56

def k13m0 : Method := { name := "<init>", desc := "()V", sig := { parameters := [], returnType := none }, accessFlags := 0, code := none }
def k13c1 : Code := { maxStack := 2, maxLocals := 2, code := jdk_68_method_2_code, exceptionTable := #[], attributes := #[] }
def k13m1 : Method := { name := "<init>", desc := "(I)V", sig := { parameters := [.int], returnType := none }, accessFlags := 0, code := some k13c1 }
def k13c2 : Code := { maxStack := 1, maxLocals := 1, code := jdk_68_method_6_code, exceptionTable := #[], attributes := #[] }
def k13m2 : Method := { name := "length", desc := "()I", sig := { parameters := [], returnType := some .int }, accessFlags := 1, code := some k13c2 }
def k13c3 : Code := { maxStack := 4, maxLocals := 3, code := jdk_68_method_9_code, exceptionTable := #[], attributes := #[] }
def k13m3 : Method := { name := "ensureCapacityInternal", desc := "(I)V", sig := { parameters := [.int], returnType := none }, accessFlags := 2, code := some k13c3 }
def k13c4 : Code := { maxStack := 5, maxLocals := 2, code := jdk_68_method_11_code, exceptionTable := #[], attributes := #[] }
def k13m4 : Method := { name := "inflate", desc := "()V", sig := { parameters := [], returnType := none }, accessFlags := 2, code := some k13c4 }
def k13c5 : Code := { maxStack := 3, maxLocals := 3, code := jdk_68_method_22_code, exceptionTable := #[], attributes := #[] }
def k13m5 : Method := { name := "append", desc := "(Ljava/lang/String;)Ljava/lang/AbstractStringBuilder;", sig := { parameters := [(.object "java/lang/String")], returnType := some (.object "java/lang/AbstractStringBuilder") }, accessFlags := 1, code := some k13c5 }
def k13c6 : Code := { maxStack := 1, maxLocals := 1, code := jdk_68_method_64_code, exceptionTable := #[], attributes := #[] }
def k13m6 : Method := { name := "getValue", desc := "()[B", sig := { parameters := [], returnType := some (.array .byte) }, accessFlags := 16, code := some k13c6 }
def k13c7 : Code := { maxStack := 1, maxLocals := 1, code := jdk_68_method_68_code, exceptionTable := #[], attributes := #[] }
def k13m7 : Method := { name := "isLatin1", desc := "()Z", sig := { parameters := [], returnType := some .boolean }, accessFlags := 16, code := some k13c7 }
def k13c8 : Code := { maxStack := 2, maxLocals := 2, code := jdk_68_method_71_code, exceptionTable := #[], attributes := #[] }
def k13m8 : Method := { name := "inflateIfNeededFor", desc := "(Ljava/lang/String;)V", sig := { parameters := [(.object "java/lang/String")], returnType := none }, accessFlags := 2, code := some k13c8 }
def k13c9 : Code := { maxStack := 4, maxLocals := 3, code := jdk_68_method_73_code, exceptionTable := #[], attributes := #[] }
def k13m9 : Method := { name := "putStringAt", desc := "(ILjava/lang/String;)V", sig := { parameters := [.int, (.object "java/lang/String")], returnType := none }, accessFlags := 2, code := some k13c9 }
/-- java/lang/AbstractStringBuilder -/
def k13 : Class := { plain "java/lang/AbstractStringBuilder" (some 0) with
  accessFlags := 1056
  interfaces := #[12, 4]
  cf := some (fileOf pool13 10 #[] #[{ accessFlags := 0, nameIndex := 7, descriptorIndex := 8, attributes := #[] }, { accessFlags := 0, nameIndex := 7, descriptorIndex := 103, attributes := #[] }, { accessFlags := 1, nameIndex := 34, descriptorIndex := 35, attributes := #[] }, { accessFlags := 2, nameIndex := 102, descriptorIndex := 103, attributes := #[] }, { accessFlags := 2, nameIndex := 127, descriptorIndex := 8, attributes := #[] }, { accessFlags := 1, nameIndex := 45, descriptorIndex := 46, attributes := #[] }, { accessFlags := 16, nameIndex := 552, descriptorIndex := 403, attributes := #[] }, { accessFlags := 16, nameIndex := 85, descriptorIndex := 86, attributes := #[] }, { accessFlags := 2, nameIndex := 217, descriptorIndex := 69, attributes := #[] }, { accessFlags := 2, nameIndex := 210, descriptorIndex := 211, attributes := #[] }] 1056 4 #[444, 48] #[{ accessFlags := 0, nameIndex := 17, descriptorIndex := 14, attributes := #[] }, { accessFlags := 0, nameIndex := 24, descriptorIndex := 25, attributes := #[] }, { accessFlags := 0, nameIndex := 75, descriptorIndex := 21, attributes := #[] }, { accessFlags := 0, nameIndex := 81, descriptorIndex := 82, attributes := #[] }, { accessFlags := 26, nameIndex := 13, descriptorIndex := 14, attributes := #[] }])
  fields := #[{ name := "value", type := (.array .byte), accessFlags := 0, slot := 0, constantValue := 0 }, { name := "coder", type := .byte, accessFlags := 0, slot := 1, constantValue := 0 }, { name := "maybeLatin1", type := .boolean, accessFlags := 0, slot := 2, constantValue := 0 }, { name := "count", type := .int, accessFlags := 0, slot := 3, constantValue := 0 }, { name := "EMPTYVALUE", type := (.array .byte), accessFlags := 26, slot := 0, constantValue := 0 }]
  methods := #[k13m0, k13m1, k13m2, k13m3, k13m4, k13m5, k13m6, k13m7, k13m8, k13m9]
  instanceTypes := #[(.array .byte), .byte, .boolean, .int]
  staticTypes := #[(.array .byte)]
  resolved := Array.replicate 609 none
  statics := none }

def pool14 : Array CpInfo := pool [(1, .methodref 2 3), (0, .class_ 4), (0, .nameAndType 5 6), (0, u "java/lang/AbstractStringBuilder"), (0, u "<init>"), (0, u "(I)V"), (11, .class_ 20), (1, u "java/lang/String"), (3, .class_ 26), (1, u "java/lang/StringBuilder"), (0, u "append"), (0, u "(Ljava/lang/String;)Ljava/lang/StringBuilder;"), (0, .methodref 2 30), (0, .nameAndType 27 31), (0, u "(Ljava/lang/String;)Ljava/lang/AbstractStringBuilder;"), (105, .methodref 18 138), (0, .nameAndType 5 139), (0, u "(Ljava/lang/StringBuilder;)V"), (5, u "()V"), (10, u "()I"), (186, .methodref 2 344), (0, .nameAndType 345 156), (0, u "length"), (3, .class_ 350), (0, u "java/lang/Appendable"), (0, .class_ 352), (0, u "java/io/Serializable"), (0, .class_ 354), (0, u "java/lang/Comparable"), (0, .class_ 356), (0, u "java/lang/CharSequence"), (0, u "serialVersionUID"), (0, u "J"), (40, u "toString"), (0, u "()Ljava/lang/String;")] 21

def k14c0 : Code := { maxStack := 2, maxLocals := 1, code := jdk_67_method_1_code, exceptionTable := #[], attributes := #[] }
def k14m0 : Method := { name := "<init>", desc := "()V", sig := { parameters := [], returnType := none }, accessFlags := 1, code := some k14c0 }
def k14c1 : Code := { maxStack := 2, maxLocals := 2, code := jdk_67_method_7_code, exceptionTable := #[], attributes := #[] }
def k14m1 : Method := { name := "append", desc := "(Ljava/lang/String;)Ljava/lang/StringBuilder;", sig := { parameters := [(.object "java/lang/String")], returnType := some (.object "java/lang/StringBuilder") }, accessFlags := 1, code := some k14c1 }
def k14c2 : Code := { maxStack := 3, maxLocals := 1, code := jdk_67_method_42_code, exceptionTable := #[], attributes := #[] }
def k14m2 : Method := { name := "toString", desc := "()Ljava/lang/String;", sig := { parameters := [], returnType := some (.object "java/lang/String") }, accessFlags := 1, code := some k14c2 }
def k14c3 : Code := { maxStack := 1, maxLocals := 1, code := jdk_67_method_93_code, exceptionTable := #[], attributes := #[] }
def k14m3 : Method := { name := "length", desc := "()I", sig := { parameters := [], returnType := some .int }, accessFlags := 4161, code := some k14c3 }
/-- java/lang/StringBuilder -/
def k14 : Class := { plain "java/lang/StringBuilder" (some 13) with
  accessFlags := 49
  interfaces := #[12, 2, 3, 4]
  cf := some (fileOf pool14 24 #[] #[{ accessFlags := 1, nameIndex := 5, descriptorIndex := 145, attributes := #[] }, { accessFlags := 1, nameIndex := 27, descriptorIndex := 28, attributes := #[] }, { accessFlags := 1, nameIndex := 399, descriptorIndex := 400, attributes := #[] }, { accessFlags := 4161, nameIndex := 345, descriptorIndex := 156, attributes := #[] }] 49 2 #[349, 351, 353, 355] #[{ accessFlags := 24, nameIndex := 357, descriptorIndex := 358, attributes := #[] }])
  fields := #[{ name := "serialVersionUID", type := .long, accessFlags := 24, slot := 0, constantValue := 0 }]
  methods := #[k14m0, k14m1, k14m2, k14m3]
  instanceTypes := #[(.array .byte), .byte, .boolean, .int]
  staticTypes := #[.long]
  resolved := Array.replicate 422 none
  statics := none }

def pool15 : Array CpInfo := pool [(2, .class_ 4), (1, u "java/lang/Object"), (0, u "<init>"), (0, u "()V"), (1, .class_ 10), (1, u "java/lang/System"), (0, u "allowSecurityManager"), (0, u "I"), (16, u "cons"), (0, u "Ljava/io/Console;"), (77, .class_ 110), (1, u "java/lang/System$CallersHolder"), (43, u "initialErrStream"), (0, u "Ljava/io/PrintStream;"), (19, u "security"), (0, u "Ljava/lang/SecurityManager;"), (31, .class_ 209), (0, u "java/lang/System$1"), (7, u "props"), (0, u "Ljava/util/Properties;"), (2, u "lineSeparator"), (0, u "Ljava/lang/String;"), (96, .class_ 321), (1, u "java/lang/System$LoggerFinder"), (5, .class_ 328), (0, u "java/lang/System$Logger"), (67, u "err"), (2, u "out"), (91, u "notSupportedJnuEncoding"), (15, u "in"), (17, u "initialIn"), (0, u "Ljava/io/InputStream;"), (35, u "bootLayer"), (0, u "Ljava/lang/ModuleLayer;"), (99, .class_ 664), (0, u "java/lang/System$2"), (9, u "NEVER"), (2, u "MAYBE"), (49, u "arraycopy"), (0, u "(Ljava/lang/Object;ILjava/lang/Object;II)V"), (72, .class_ 802), (0, u "java/lang/System$Logger$Level")] 31

def k15m0 : Method := { name := "<init>", desc := "()V", sig := { parameters := [], returnType := none }, accessFlags := 2, code := none }
def k15m1 : Method := { name := "arraycopy", desc := "(Ljava/lang/Object;ILjava/lang/Object;II)V", sig := { parameters := [(.object "java/lang/Object"), .int, (.object "java/lang/Object"), .int, .int], returnType := none }, accessFlags := 265, code := none }
/-- java/lang/System -/
def k15 : Class := { plain "java/lang/System" (some 0) with
  accessFlags := 49
  interfaces := #[]
  cf := some (fileOf pool15 8 #[.nestMembers #[319, 327, 801, 108, 663, 208]] #[{ accessFlags := 2, nameIndex := 5, descriptorIndex := 6, attributes := #[] }, { accessFlags := 265, nameIndex := 727, descriptorIndex := 728, attributes := #[] }] 49 2 #[] #[{ accessFlags := 25, nameIndex := 507, descriptorIndex := 526, attributes := #[] }, { accessFlags := 25, nameIndex := 399, descriptorIndex := 155, attributes := #[] }, { accessFlags := 25, nameIndex := 396, descriptorIndex := 155, attributes := #[] }, { accessFlags := 10, nameIndex := 525, descriptorIndex := 526, attributes := #[] }, { accessFlags := 26, nameIndex := 674, descriptorIndex := 12, attributes := #[] }, { accessFlags := 26, nameIndex := 677, descriptorIndex := 12, attributes := #[] }, { accessFlags := 10, nameIndex := 11, descriptorIndex := 12, attributes := #[] }, { accessFlags := 74, nameIndex := 175, descriptorIndex := 176, attributes := #[] }, { accessFlags := 10, nameIndex := 491, descriptorIndex := 222, attributes := #[] }, { accessFlags := 74, nameIndex := 29, descriptorIndex := 30, attributes := #[] }, { accessFlags := 74, nameIndex := 154, descriptorIndex := 155, attributes := #[] }, { accessFlags := 10, nameIndex := 217, descriptorIndex := 218, attributes := #[] }, { accessFlags := 10, nameIndex := 221, descriptorIndex := 222, attributes := #[] }, { accessFlags := 8, nameIndex := 562, descriptorIndex := 563, attributes := #[] }])
  fields := #[{ name := "in", type := (.object "java/io/InputStream"), accessFlags := 25, slot := 0, constantValue := 0 }, { name := "out", type := (.object "java/io/PrintStream"), accessFlags := 25, slot := 1, constantValue := 0 }, { name := "err", type := (.object "java/io/PrintStream"), accessFlags := 25, slot := 2, constantValue := 0 }, { name := "initialIn", type := (.object "java/io/InputStream"), accessFlags := 10, slot := 3, constantValue := 0 }, { name := "NEVER", type := .int, accessFlags := 26, slot := 4, constantValue := 0 }, { name := "MAYBE", type := .int, accessFlags := 26, slot := 5, constantValue := 0 }, { name := "allowSecurityManager", type := .int, accessFlags := 10, slot := 6, constantValue := 0 }, { name := "security", type := (.object "java/lang/SecurityManager"), accessFlags := 74, slot := 7, constantValue := 0 }, { name := "notSupportedJnuEncoding", type := (.object "java/lang/String"), accessFlags := 10, slot := 8, constantValue := 0 }, { name := "cons", type := (.object "java/io/Console"), accessFlags := 74, slot := 9, constantValue := 0 }, { name := "initialErrStream", type := (.object "java/io/PrintStream"), accessFlags := 74, slot := 10, constantValue := 0 }, { name := "props", type := (.object "java/util/Properties"), accessFlags := 10, slot := 11, constantValue := 0 }, { name := "lineSeparator", type := (.object "java/lang/String"), accessFlags := 10, slot := 12, constantValue := 0 }, { name := "bootLayer", type := (.object "java/lang/ModuleLayer"), accessFlags := 8, slot := 13, constantValue := 0 }]
  methods := #[k15m0, k15m1]
  instanceTypes := #[]
  staticTypes := #[(.object "java/io/InputStream"), (.object "java/io/PrintStream"), (.object "java/io/PrintStream"), (.object "java/io/InputStream"), .int, .int, .int, (.object "java/lang/SecurityManager"), (.object "java/lang/String"), (.object "java/io/Console"), (.object "java/io/PrintStream"), (.object "java/util/Properties"), (.object "java/lang/String"), (.object "java/lang/ModuleLayer")]
  resolved := Array.replicate 834 none
  statics := none }

def pool16 : Array CpInfo := pool [(2, .class_ 4), (1, u "java/lang/Object"), (0, u "<init>"), (0, u "()V"), (7, .class_ 16), (1, u "java/util/Arrays"), (57, .class_ 76), (1, u "java/util/Arrays$NaturalOrder"), (36, .class_ 115), (1, u "java/util/Arrays$LegacyMergeSort"), (1, u "Z"), (21, u "copyOfRange"), (10, .methodref 151 152), (0, .class_ 153), (0, .nameAndType 154 155), (0, u "java/lang/System"), (0, u "arraycopy"), (0, u "(Ljava/lang/Object;ILjava/lang/Object;II)V"), (148, .methodref 305 306), (0, .class_ 307), (0, .nameAndType 308 309), (0, u "java/lang/Math"), (0, u "min"), (0, u "(II)I"), (29, .methodref 14 340), (0, .nameAndType 341 342), (0, u "copyOfRangeByte"), (0, u "([BII)[B"), (0, .methodref 14 344), (0, .nameAndType 345 346), (0, u "checkLength"), (0, u "(II)V"), (28, .class_ 376), (0, u "java/util/Arrays$ArrayList"), (68, u "$assertionsDisabled"), (269, u "MIN_ARRAY_SORT_GRAN"), (0, u "I"), (2, u "INSERTIONSORT_THRESHOLD"), (255, .class_ 976), (0, u "java/util/Arrays$ArrayItr")] 52

def k16m0 : Method := { name := "<init>", desc := "()V", sig := { parameters := [], returnType := none }, accessFlags := 2, code := none }
def k16c1 : Code := { maxStack := 4, maxLocals := 2, code := jdk_65_method_131_code, exceptionTable := #[], attributes := #[] }
def k16m1 : Method := { name := "checkLength", desc := "(II)V", sig := { parameters := [.int, .int], returnType := none }, accessFlags := 10, code := some k16c1 }
def k16c2 : Code := { maxStack := 3, maxLocals := 3, code := jdk_65_method_132_code, exceptionTable := #[], attributes := #[] }
def k16m2 : Method := { name := "copyOfRange", desc := "([BII)[B", sig := { parameters := [(.array .byte), .int, .int], returnType := some (.array .byte) }, accessFlags := 9, code := some k16c2 }
def k16c3 : Code := { maxStack := 6, maxLocals := 5, code := jdk_65_method_133_code, exceptionTable := #[], attributes := #[] }
def k16m3 : Method := { name := "copyOfRangeByte", desc := "([BII)[B", sig := { parameters := [(.array .byte), .int, .int], returnType := some (.array .byte) }, accessFlags := 10, code := some k16c3 }
/-- java/util/Arrays -/
def k16 : Class := { plain "java/util/Arrays" (some 0) with
  accessFlags := 49
  interfaces := #[]
  cf := some (fileOf pool16 14 #[.nestMembers #[975, 375, 113, 74]] #[{ accessFlags := 2, nameIndex := 5, descriptorIndex := 6, attributes := #[] }, { accessFlags := 10, nameIndex := 345, descriptorIndex := 346, attributes := #[] }, { accessFlags := 9, nameIndex := 139, descriptorIndex := 342, attributes := #[] }, { accessFlags := 10, nameIndex := 341, descriptorIndex := 342, attributes := #[] }] 49 2 #[] #[{ accessFlags := 26, nameIndex := 715, descriptorIndex := 716, attributes := #[] }, { accessFlags := 26, nameIndex := 719, descriptorIndex := 716, attributes := #[] }, { accessFlags := 4120, nameIndex := 445, descriptorIndex := 117, attributes := #[] }])
  fields := #[{ name := "MIN_ARRAY_SORT_GRAN", type := .int, accessFlags := 26, slot := 0, constantValue := 0 }, { name := "INSERTIONSORT_THRESHOLD", type := .int, accessFlags := 26, slot := 1, constantValue := 0 }, { name := "$assertionsDisabled", type := .boolean, accessFlags := 4120, slot := 2, constantValue := 0 }]
  methods := #[k16m0, k16m1, k16m2, k16m3]
  instanceTypes := #[]
  staticTypes := #[.int, .int, .boolean]
  resolved := Array.replicate 1029 none
  statics := none }

def pool17 : Array CpInfo := pool [(1, .class_ 2), (0, u "java/lang/Math"), (1, .class_ 6), (1, u "java/lang/Object"), (0, u "<init>"), (0, u "()V"), (89, .class_ 100), (1, u "java/lang/Math$RandomNumberGeneratorHolder"), (71, u "negativeZeroFloatBits"), (0, u "J"), (2, u "negativeZeroDoubleBits"), (24, u "min"), (43, u "$assertionsDisabled"), (0, u "Z"), (88, u "(II)I"), (2, u "twoToTheDoubleScaleDown"), (0, u "D"), (4, u "twoToTheDoubleScaleUp"), (9, u "E"), (3, u "PI"), (2, u "TAU"), (2, u "DEGREES_TO_RADIANS"), (0, u "RADIANS_TO_DEGREES")] 94

def k17m0 : Method := { name := "<init>", desc := "()V", sig := { parameters := [], returnType := none }, accessFlags := 2, code := none }
def k17c1 : Code := { maxStack := 2, maxLocals := 2, code := jdk_29_method_69_code, exceptionTable := #[], attributes := #[] }
def k17m1 : Method := { name := "min", desc := "(II)I", sig := { parameters := [.int, .int], returnType := some .int }, accessFlags := 9, code := some k17c1 }
/-- java/lang/Math -/
def k17 : Class := { plain "java/lang/Math" (some 0) with
  accessFlags := 49
  interfaces := #[]
  cf := some (fileOf pool17 1 #[.nestMembers #[98]] #[{ accessFlags := 2, nameIndex := 7, descriptorIndex := 8, attributes := #[] }, { accessFlags := 9, nameIndex := 201, descriptorIndex := 335, attributes := #[] }] 49 4 #[] #[{ accessFlags := 25, nameIndex := 354, descriptorIndex := 339, attributes := #[] }, { accessFlags := 25, nameIndex := 358, descriptorIndex := 339, attributes := #[] }, { accessFlags := 25, nameIndex := 361, descriptorIndex := 339, attributes := #[] }, { accessFlags := 26, nameIndex := 364, descriptorIndex := 339, attributes := #[] }, { accessFlags := 26, nameIndex := 365, descriptorIndex := 339, attributes := #[] }, { accessFlags := 26, nameIndex := 172, descriptorIndex := 173, attributes := #[] }, { accessFlags := 26, nameIndex := 176, descriptorIndex := 173, attributes := #[] }, { accessFlags := 8, nameIndex := 344, descriptorIndex := 339, attributes := #[] }, { accessFlags := 8, nameIndex := 338, descriptorIndex := 339, attributes := #[] }, { accessFlags := 4120, nameIndex := 245, descriptorIndex := 246, attributes := #[] }])
  fields := #[{ name := "E", type := .double, accessFlags := 25, slot := 0, constantValue := 0 }, { name := "PI", type := .double, accessFlags := 25, slot := 1, constantValue := 0 }, { name := "TAU", type := .double, accessFlags := 25, slot := 2, constantValue := 0 }, { name := "DEGREES_TO_RADIANS", type := .double, accessFlags := 26, slot := 3, constantValue := 0 }, { name := "RADIANS_TO_DEGREES", type := .double, accessFlags := 26, slot := 4, constantValue := 0 }, { name := "negativeZeroFloatBits", type := .long, accessFlags := 26, slot := 5, constantValue := 0 }, { name := "negativeZeroDoubleBits", type := .long, accessFlags := 26, slot := 6, constantValue := 0 }, { name := "twoToTheDoubleScaleUp", type := .double, accessFlags := 8, slot := 7, constantValue := 0 }, { name := "twoToTheDoubleScaleDown", type := .double, accessFlags := 8, slot := 8, constantValue := 0 }, { name := "$assertionsDisabled", type := .boolean, accessFlags := 4120, slot := 9, constantValue := 0 }]
  methods := #[k17m0, k17m1]
  instanceTypes := #[]
  staticTypes := #[.double, .double, .double, .double, .double, .long, .long, .double, .double, .boolean]
  resolved := Array.replicate 460 none
  statics := none }

def pool18 : Array CpInfo := pool [(3, .class_ 4), (0, u "java/lang/String"), (1, .class_ 8), (1, u "java/lang/Object"), (0, u "<init>"), (0, u "()V"), (0, .methodref 12 13), (0, .class_ 14), (0, .nameAndType 15 16), (0, u "java/lang/StringUTF16"), (0, u "newBytesLength"), (0, u "(I)I"), (3, .integer 1073741823), (23, .fieldref 12 45), (0, .nameAndType 46 47), (0, u "$assertionsDisabled"), (0, u "Z"), (0, .methodref 12 49), (0, .nameAndType 50 51), (0, u "length"), (0, u "([B)I"), (7, .fieldref 12 60), (0, .nameAndType 61 62), (0, u "HI_BYTE_SHIFT"), (0, u "I"), (0, .fieldref 12 64), (0, .nameAndType 65 62), (0, u "LO_BYTE_SHIFT"), (5, .methodref 12 72), (0, .nameAndType 73 74), (0, u "getChar"), (0, u "([BI)C"), (24, u "(II[B)V"), (7, .methodref 12 108), (0, .nameAndType 109 110), (0, u "newBytesFor"), (0, u "(I)[B"), (0, .methodref 12 112), (0, .nameAndType 113 114), (0, u "putChar"), (0, u "([BII)V"), (0, .methodref 12 116), (0, .nameAndType 117 118), (0, u "compress"), (0, u "([CI[BII)I"), (0, .methodref 12 120), (0, .nameAndType 121 122), (0, u "toBytes"), (0, u "([CII)[B"), (0, .methodref 12 124), (0, .nameAndType 117 125), (0, u "([BI[BII)I"), (0, .methodref 127 128), (0, .class_ 129), (0, .nameAndType 130 131), (0, u "java/util/Arrays"), (0, u "copyOfRange"), (0, u "([BII)[B"), (8, u "inflate"), (0, u "([BI[BII)V"), (31, .methodref 12 174), (0, .nameAndType 175 99), (0, u "checkBoundsOffCount"), (16, u "([B[B)I"), (45, .methodref 12 239), (0, .nameAndType 240 125), (0, u "indexOfLatin1Unsafe"), (10, .fieldref 3 252), (0, .nameAndType 253 47), (0, u "COMPACT_STRINGS"), (3, .methodref 12 258), (0, .nameAndType 117 131), (0, .methodref 12 260), (0, .nameAndType 261 262), (0, u "coderFromArrayLen"), (0, u "([BI)B"), (0, .methodref 3 264), (0, .nameAndType 9 265), (0, u "([BB)V"), (5, u "indexOfLatin1"), (9, u "(III)I"), (45, u "newString"), (0, u "([BII)Ljava/lang/String;"), (40, .class_ 371), (1, u "java/lang/StringUTF16$LinesSpliterator"), (47, .methodref 3 420), (0, .nameAndType 175 281), (9, u "MAX_LENGTH"), (196, .class_ 628), (0, u "java/lang/StringUTF16$CodePointsSpliterator"), (0, .class_ 630), (0, u "java/lang/StringUTF16$CharsSpliterator")] 4

def k18m0 : Method := { name := "<init>", desc := "()V", sig := { parameters := [], returnType := none }, accessFlags := 0, code := none }
def k18c1 : Code := { maxStack := 1, maxLocals := 1, code := jdk_52_method_2_code, exceptionTable := #[], attributes := #[] }
def k18m1 : Method := { name := "newBytesFor", desc := "(I)[B", sig := { parameters := [.int], returnType := some (.array .byte) }, accessFlags := 9, code := some k18c1 }
def k18c2 : Code := { maxStack := 4, maxLocals := 1, code := jdk_52_method_3_code, exceptionTable := #[], attributes := #[] }
def k18m2 : Method := { name := "newBytesLength", desc := "(I)I", sig := { parameters := [.int], returnType := some .int }, accessFlags := 9, code := some k18c2 }
def k18c3 : Code := { maxStack := 4, maxLocals := 3, code := jdk_52_method_4_code, exceptionTable := #[], attributes := #[] }
def k18m3 : Method := { name := "putChar", desc := "([BII)V", sig := { parameters := [(.array .byte), .int, .int], returnType := none }, accessFlags := 8, code := some k18c3 }
def k18c4 : Code := { maxStack := 3, maxLocals := 2, code := jdk_52_method_5_code, exceptionTable := #[], attributes := #[] }
def k18m4 : Method := { name := "getChar", desc := "([BI)C", sig := { parameters := [(.array .byte), .int], returnType := some .char }, accessFlags := 8, code := some k18c4 }
def k18c5 : Code := { maxStack := 2, maxLocals := 1, code := jdk_52_method_6_code, exceptionTable := #[], attributes := #[] }
def k18m5 : Method := { name := "length", desc := "([B)I", sig := { parameters := [(.array .byte)], returnType := some .int }, accessFlags := 9, code := some k18c5 }
def k18c6 : Code := { maxStack := 4, maxLocals := 5, code := jdk_52_method_14_code, exceptionTable := #[], attributes := #[] }
def k18m6 : Method := { name := "toBytes", desc := "([CII)[B", sig := { parameters := [(.array .char), .int, .int], returnType := some (.array .byte) }, accessFlags := 9, code := some k18c6 }
def k18c7 : Code := { maxStack := 2, maxLocals := 2, code := jdk_52_method_15_code, exceptionTable := #[], attributes := #[] }
def k18m7 : Method := { name := "coderFromArrayLen", desc := "([BI)B", sig := { parameters := [(.array .byte), .int], returnType := some .byte }, accessFlags := 8, code := some k18c7 }
def k18c8 : Code := { maxStack := 5, maxLocals := 6, code := jdk_52_method_16_code, exceptionTable := #[], attributes := #[] }
def k18m8 : Method := { name := "compress", desc := "([CII)[B", sig := { parameters := [(.array .char), .int, .int], returnType := some (.array .byte) }, accessFlags := 9, code := some k18c8 }
def k18c9 : Code := { maxStack := 5, maxLocals := 6, code := jdk_52_method_17_code, exceptionTable := #[], attributes := #[] }
def k18m9 : Method := { name := "compress", desc := "([BII)[B", sig := { parameters := [(.array .byte), .int, .int], returnType := some (.array .byte) }, accessFlags := 9, code := some k18c9 }
def k18c10 : Code := { maxStack := 3, maxLocals := 7, code := jdk_52_method_21_code, exceptionTable := #[], attributes := #[] }
def k18m10 : Method := { name := "compress", desc := "([CI[BII)I", sig := { parameters := [(.array .char), .int, (.array .byte), .int, .int], returnType := some .int }, accessFlags := 9, code := some k18c10 }
def k18c11 : Code := { maxStack := 3, maxLocals := 7, code := jdk_52_method_22_code, exceptionTable := #[], attributes := #[] }
def k18m11 : Method := { name := "compress", desc := "([BI[BII)I", sig := { parameters := [(.array .byte), .int, (.array .byte), .int, .int], returnType := some .int }, accessFlags := 9, code := some k18c11 }
def k18c12 : Code := { maxStack := 5, maxLocals := 2, code := jdk_52_method_44_code, exceptionTable := #[], attributes := #[] }
def k18m12 : Method := { name := "indexOfLatin1", desc := "([B[B)I", sig := { parameters := [(.array .byte), (.array .byte)], returnType := some .int }, accessFlags := 9, code := some k18c12 }
def k18c13 : Code := { maxStack := 3, maxLocals := 11, code := jdk_52_method_46_code, exceptionTable := #[], attributes := #[] }
def k18m13 : Method := { name := "indexOfLatin1Unsafe", desc := "([BI[BII)I", sig := { parameters := [(.array .byte), .int, (.array .byte), .int, .int], returnType := some .int }, accessFlags := 9, code := some k18c13 }
def k18c14 : Code := { maxStack := 6, maxLocals := 5, code := jdk_52_method_69_code, exceptionTable := #[], attributes := #[] }
def k18m14 : Method := { name := "newString", desc := "([BII)Ljava/lang/String;", sig := { parameters := [(.array .byte), .int, .int], returnType := some (.object "java/lang/String") }, accessFlags := 9, code := some k18c14 }
def k18c15 : Code := { maxStack := 4, maxLocals := 6, code := jdk_52_method_86_code, exceptionTable := #[], attributes := #[] }
def k18m15 : Method := { name := "inflate", desc := "([BI[BII)V", sig := { parameters := [(.array .byte), .int, (.array .byte), .int, .int], returnType := none }, accessFlags := 9, code := some k18c15 }
def k18c16 : Code := { maxStack := 3, maxLocals := 3, code := jdk_52_method_94_code, exceptionTable := #[], attributes := #[] }
def k18m16 : Method := { name := "checkBoundsOffCount", desc := "(II[B)V", sig := { parameters := [.int, .int, (.array .byte)], returnType := none }, accessFlags := 9, code := some k18c16 }
/-- java/lang/StringUTF16 -/
def k18 : Class := { plain "java/lang/StringUTF16" (some 0) with
  accessFlags := 48
  interfaces := #[]
  cf := some (fileOf pool18 12 #[.nestMembers #[627, 629, 369]] #[{ accessFlags := 0, nameIndex := 9, descriptorIndex := 10, attributes := #[] }, { accessFlags := 9, nameIndex := 109, descriptorIndex := 110, attributes := #[] }, { accessFlags := 9, nameIndex := 15, descriptorIndex := 16, attributes := #[] }, { accessFlags := 8, nameIndex := 113, descriptorIndex := 114, attributes := #[] }, { accessFlags := 8, nameIndex := 73, descriptorIndex := 74, attributes := #[] }, { accessFlags := 9, nameIndex := 50, descriptorIndex := 51, attributes := #[] }, { accessFlags := 9, nameIndex := 121, descriptorIndex := 122, attributes := #[] }, { accessFlags := 8, nameIndex := 261, descriptorIndex := 262, attributes := #[] }, { accessFlags := 9, nameIndex := 117, descriptorIndex := 122, attributes := #[] }, { accessFlags := 9, nameIndex := 117, descriptorIndex := 131, attributes := #[] }, { accessFlags := 9, nameIndex := 117, descriptorIndex := 118, attributes := #[] }, { accessFlags := 9, nameIndex := 117, descriptorIndex := 125, attributes := #[] }, { accessFlags := 9, nameIndex := 271, descriptorIndex := 192, attributes := #[] }, { accessFlags := 9, nameIndex := 240, descriptorIndex := 125, attributes := #[] }, { accessFlags := 9, nameIndex := 327, descriptorIndex := 328, attributes := #[] }, { accessFlags := 9, nameIndex := 140, descriptorIndex := 141, attributes := #[] }, { accessFlags := 9, nameIndex := 175, descriptorIndex := 99, attributes := #[] }] 48 6 #[] #[{ accessFlags := 26, nameIndex := 61, descriptorIndex := 62, attributes := #[] }, { accessFlags := 26, nameIndex := 65, descriptorIndex := 62, attributes := #[] }, { accessFlags := 24, nameIndex := 430, descriptorIndex := 62, attributes := #[] }, { accessFlags := 4120, nameIndex := 46, descriptorIndex := 47, attributes := #[] }])
  fields := #[{ name := "HI_BYTE_SHIFT", type := .int, accessFlags := 26, slot := 0, constantValue := 0 }, { name := "LO_BYTE_SHIFT", type := .int, accessFlags := 26, slot := 1, constantValue := 0 }, { name := "MAX_LENGTH", type := .int, accessFlags := 24, slot := 2, constantValue := 0 }, { name := "$assertionsDisabled", type := .boolean, accessFlags := 4120, slot := 3, constantValue := 0 }]
  methods := #[k18m0, k18m1, k18m2, k18m3, k18m4, k18m5, k18m6, k18m7, k18m8, k18m9, k18m10, k18m11, k18m12, k18m13, k18m14, k18m15, k18m16]
  instanceTypes := #[]
  staticTypes := #[.int, .int, .int, .boolean]
  resolved := Array.replicate 635 none
  statics := some 1 }

def pool19 : Array CpInfo := pool [(9, u "<init>"), (6, .class_ 18), (1, u "java/lang/Object"), (0, u "()V"), (1, .class_ 23), (1, u "jdk/internal/util/ArraysSupport"), (0, u "LOG2_ARRAY_LONG_INDEX_SCALE"), (0, u "I"), (2, u "U"), (0, u "Ljdk/internal/misc/Unsafe;"), (8, u "BIG_ENDIAN"), (0, u "Z"), (8, u "LOG2_BYTE_BIT_SIZE"), (4, u "LOG2_ARRAY_INT_INDEX_SCALE"), (54, u "JLA"), (0, u "Ljdk/internal/access/JavaLangAccess;"), (11, u "LOG2_ARRAY_BOOLEAN_INDEX_SCALE"), (9, u "LOG2_ARRAY_BYTE_INDEX_SCALE"), (5, u "LOG2_ARRAY_CHAR_INDEX_SCALE"), (5, u "LOG2_ARRAY_SHORT_INDEX_SCALE"), (5, u "mismatch"), (12, u "LOG2_ARRAY_FLOAT_INDEX_SCALE"), (24, u "LOG2_ARRAY_DOUBLE_INDEX_SCALE"), (89, u "T_BOOLEAN"), (2, u "T_CHAR"), (1, u "T_FLOAT"), (1, u "T_DOUBLE"), (1, u "T_BYTE"), (1, u "T_SHORT"), (1, u "T_INT"), (1, u "T_LONG"), (1, u "SOFT_MAX_ARRAY_LENGTH"), (42, u "([BI[BII)I")] 40

def k19m0 : Method := { name := "<init>", desc := "()V", sig := { parameters := [], returnType := none }, accessFlags := 2, code := none }
def k19c1 : Code := { maxStack := 8, maxLocals := 8, code := jdk_48_method_14_code, exceptionTable := #[], attributes := #[] }
def k19m1 : Method := { name := "mismatch", desc := "([BI[BII)I", sig := { parameters := [(.array .byte), .int, (.array .byte), .int, .int], returnType := some .int }, accessFlags := 9, code := some k19c1 }
/-- jdk/internal/util/ArraysSupport -/
def k19 : Class := { plain "jdk/internal/util/ArraysSupport" (some 0) with
  accessFlags := 33
  interfaces := #[]
  cf := some (fileOf pool19 21 #[] #[{ accessFlags := 2, nameIndex := 9, descriptorIndex := 19, attributes := #[] }, { accessFlags := 9, nameIndex := 149, descriptorIndex := 337, attributes := #[] }] 33 16 #[] #[{ accessFlags := 24, nameIndex := 28, descriptorIndex := 29, attributes := #[] }, { accessFlags := 26, nameIndex := 38, descriptorIndex := 39, attributes := #[] }, { accessFlags := 25, nameIndex := 121, descriptorIndex := 25, attributes := #[] }, { accessFlags := 25, nameIndex := 131, descriptorIndex := 25, attributes := #[] }, { accessFlags := 25, nameIndex := 137, descriptorIndex := 25, attributes := #[] }, { accessFlags := 25, nameIndex := 143, descriptorIndex := 25, attributes := #[] }, { accessFlags := 25, nameIndex := 53, descriptorIndex := 25, attributes := #[] }, { accessFlags := 25, nameIndex := 24, descriptorIndex := 25, attributes := #[] }, { accessFlags := 25, nameIndex := 162, descriptorIndex := 25, attributes := #[] }, { accessFlags := 25, nameIndex := 187, descriptorIndex := 25, attributes := #[] }, { accessFlags := 26, nameIndex := 48, descriptorIndex := 25, attributes := #[] }, { accessFlags := 25, nameIndex := 277, descriptorIndex := 25, attributes := #[] }, { accessFlags := 25, nameIndex := 280, descriptorIndex := 25, attributes := #[] }, { accessFlags := 25, nameIndex := 282, descriptorIndex := 25, attributes := #[] }, { accessFlags := 25, nameIndex := 284, descriptorIndex := 25, attributes := #[] }, { accessFlags := 25, nameIndex := 286, descriptorIndex := 25, attributes := #[] }, { accessFlags := 25, nameIndex := 288, descriptorIndex := 25, attributes := #[] }, { accessFlags := 25, nameIndex := 290, descriptorIndex := 25, attributes := #[] }, { accessFlags := 25, nameIndex := 292, descriptorIndex := 25, attributes := #[] }, { accessFlags := 26, nameIndex := 108, descriptorIndex := 109, attributes := #[] }, { accessFlags := 25, nameIndex := 294, descriptorIndex := 25, attributes := #[] }])
  fields := #[{ name := "U", type := (.object "jdk/internal/misc/Unsafe"), accessFlags := 24, slot := 0, constantValue := 0 }, { name := "BIG_ENDIAN", type := .boolean, accessFlags := 26, slot := 1, constantValue := 0 }, { name := "LOG2_ARRAY_BOOLEAN_INDEX_SCALE", type := .int, accessFlags := 25, slot := 2, constantValue := 0 }, { name := "LOG2_ARRAY_BYTE_INDEX_SCALE", type := .int, accessFlags := 25, slot := 3, constantValue := 0 }, { name := "LOG2_ARRAY_CHAR_INDEX_SCALE", type := .int, accessFlags := 25, slot := 4, constantValue := 0 }, { name := "LOG2_ARRAY_SHORT_INDEX_SCALE", type := .int, accessFlags := 25, slot := 5, constantValue := 0 }, { name := "LOG2_ARRAY_INT_INDEX_SCALE", type := .int, accessFlags := 25, slot := 6, constantValue := 0 }, { name := "LOG2_ARRAY_LONG_INDEX_SCALE", type := .int, accessFlags := 25, slot := 7, constantValue := 0 }, { name := "LOG2_ARRAY_FLOAT_INDEX_SCALE", type := .int, accessFlags := 25, slot := 8, constantValue := 0 }, { name := "LOG2_ARRAY_DOUBLE_INDEX_SCALE", type := .int, accessFlags := 25, slot := 9, constantValue := 0 }, { name := "LOG2_BYTE_BIT_SIZE", type := .int, accessFlags := 26, slot := 10, constantValue := 0 }, { name := "T_BOOLEAN", type := .int, accessFlags := 25, slot := 11, constantValue := 0 }, { name := "T_CHAR", type := .int, accessFlags := 25, slot := 12, constantValue := 0 }, { name := "T_FLOAT", type := .int, accessFlags := 25, slot := 13, constantValue := 0 }, { name := "T_DOUBLE", type := .int, accessFlags := 25, slot := 14, constantValue := 0 }, { name := "T_BYTE", type := .int, accessFlags := 25, slot := 15, constantValue := 0 }, { name := "T_SHORT", type := .int, accessFlags := 25, slot := 16, constantValue := 0 }, { name := "T_INT", type := .int, accessFlags := 25, slot := 17, constantValue := 0 }, { name := "T_LONG", type := .int, accessFlags := 25, slot := 18, constantValue := 0 }, { name := "JLA", type := (.object "jdk/internal/access/JavaLangAccess"), accessFlags := 26, slot := 19, constantValue := 0 }, { name := "SOFT_MAX_ARRAY_LENGTH", type := .int, accessFlags := 25, slot := 20, constantValue := 0 }]
  methods := #[k19m0, k19m1]
  instanceTypes := #[]
  staticTypes := #[(.object "jdk/internal/misc/Unsafe"), .boolean, .int, .int, .int, .int, .int, .int, .int, .int, .int, .int, .int, .int, .int, .int, .int, .int, .int, (.object "jdk/internal/access/JavaLangAccess"), .int]
  resolved := Array.replicate 378 none
  statics := none }

def pool20 : Array CpInfo := pool [(2, .class_ 4), (1, u "java/lang/Object"), (0, u "<init>"), (0, u "()V"), (17, .class_ 26), (1, u "jdk/internal/util/Preconditions"), (20, u "checkFromToIndex"), (1, u "checkFromIndexSize"), (5, .class_ 56), (0, u "jdk/internal/util/Preconditions$4"), (57, .class_ 115), (0, u "jdk/internal/util/Preconditions$1"), (7, u "SIOOBE_FORMATTER"), (0, u "Ljava/util/function/BiFunction;"), (0, .class_ 126), (0, u "jdk/internal/util/Preconditions$2"), (3, u "AIOOBE_FORMATTER"), (0, .class_ 132), (0, u "jdk/internal/util/Preconditions$3"), (3, u "IOOBE_FORMATTER"), (46, u "(IIILjava/util/function/BiFunction;)I")] 10

def k20m0 : Method := { name := "<init>", desc := "()V", sig := { parameters := [], returnType := none }, accessFlags := 1, code := none }
def k20c1 : Code := { maxStack := 4, maxLocals := 4, code := jdk_41_method_12_code, exceptionTable := #[], attributes := #[] }
def k20m1 : Method := { name := "checkFromToIndex", desc := "(IIILjava/util/function/BiFunction;)I", sig := { parameters := [.int, .int, .int, (.object "java/util/function/BiFunction")], returnType := some .int }, accessFlags := 9, code := some k20c1 }
def k20c2 : Code := { maxStack := 4, maxLocals := 4, code := jdk_41_method_13_code, exceptionTable := #[], attributes := #[] }
def k20m2 : Method := { name := "checkFromIndexSize", desc := "(IIILjava/util/function/BiFunction;)I", sig := { parameters := [.int, .int, .int, (.object "java/util/function/BiFunction")], returnType := some .int }, accessFlags := 9, code := some k20c2 }
/-- jdk/internal/util/Preconditions -/
def k20 : Class := { plain "jdk/internal/util/Preconditions" (some 0) with
  accessFlags := 33
  interfaces := #[]
  cf := some (fileOf pool20 24 #[.nestMembers #[55, 131, 125, 114]] #[{ accessFlags := 1, nameIndex := 5, descriptorIndex := 6, attributes := #[] }, { accessFlags := 9, nameIndex := 47, descriptorIndex := 183, attributes := #[] }, { accessFlags := 9, nameIndex := 49, descriptorIndex := 183, attributes := #[] }] 33 2 #[] #[{ accessFlags := 25, nameIndex := 123, descriptorIndex := 124, attributes := #[] }, { accessFlags := 25, nameIndex := 130, descriptorIndex := 124, attributes := #[] }, { accessFlags := 25, nameIndex := 136, descriptorIndex := 124, attributes := #[] }])
  fields := #[{ name := "SIOOBE_FORMATTER", type := (.object "java/util/function/BiFunction"), accessFlags := 25, slot := 0, constantValue := 0 }, { name := "AIOOBE_FORMATTER", type := (.object "java/util/function/BiFunction"), accessFlags := 25, slot := 1, constantValue := 0 }, { name := "IOOBE_FORMATTER", type := (.object "java/util/function/BiFunction"), accessFlags := 25, slot := 2, constantValue := 0 }]
  methods := #[k20m0, k20m1, k20m2]
  instanceTypes := #[]
  staticTypes := #[(.object "java/util/function/BiFunction"), (.object "java/util/function/BiFunction"), (.object "java/util/function/BiFunction")]
  resolved := Array.replicate 194 none
  statics := some 2 }

def pool21 : Array CpInfo := pool [(1, u "java/lang/Cloneable"), (0, .class_ 1), (0, u "java/lang/Object"), (0, .class_ 3)] 3

/-- java/lang/Cloneable -/
def k21 : Class := { plain "java/lang/Cloneable" (some 0) with
  accessFlags := 1537
  interfaces := #[]
  cf := some (fileOf pool21 2 #[] #[] 1537 4 #[] #[])
  fields := #[]
  methods := #[]
  instanceTypes := #[]
  staticTypes := #[]
  resolved := Array.replicate 8 none
  statics := none }

/-- the primitive byte -/
def k22 : Class := { plain "byte" none with kind := .primitive 'B', accessFlags := 0x411 }
/-- [B -/
def k23 : Class := { plain "[B" (some 0) with kind := .array 22 .byte, interfaces := #[21, 2], accessFlags := 1041 }

/-- the primitive char -/
def k24 : Class := { plain "char" none with kind := .primitive 'C', accessFlags := 0x411 }
/-- [C -/
def k25 : Class := { plain "[C" (some 0) with kind := .array 24 .char, interfaces := #[21, 2], accessFlags := 1041 }

def heap : Heap := #[{ cls := 7, slots := #[.long 0, .int 1, .null, .int 0, .null, .int 0, .int 0], vm := .statics 7 },
  { cls := 18, slots := #[.int 0, .int 8, .int 0, .int 1], vm := .statics 18 },
  { cls := 20, slots := #[.null, .null, .null], vm := .statics 20 }]
def classes : Array Class := #[k0, k1, k2, k3, k4, k5, k6, k7, k8, k9, k10, k11, k12, k13, k14, k15, k16, k17, k18, k19, k20, k21, k22, k23, k24, k25]
def interned : List (Array UInt16 × Addr) := []
def slotsUsed : Nat := 14
def theMethod : MethodId := ⟨1, 1⟩
def args0 : Array Value := #[.int 5, .int 6, .int 7, .int 8]
def aboutOver (below : List Frame) : State where
  vm := { classes := classes, interned := interned.toArray }
  heap := heap
  slotsUsed := slotsUsed
  threads := #[{ frames := .invoking theMethod args0 :: below }]
def below0 : List Frame := [.native { method := ⟨0, 0⟩, args := #[] }]
def about1 : State := aboutOver below0
def p0 : Program := .bare "" "" ""
def e0 : Env := launch0.env 0 0 0
theorem w_frames : about1.frames = Frame.invoking theMethod args0 :: below0 := rfl
set_option maxRecDepth 65536 in
theorem w_args : argsFit about1.vm theMethod args0 = true := by decide +kernel
set_option maxRecDepth 65536 in
theorem w_heap : heapFits about1 = true := by decide +kernel
set_option maxRecDepth 65536 in
theorem w_runnable : about1.curStatus? = some .runnable := by decide +kernel
set_option maxRecDepth 65536 in
theorem w_alone : about1.alone = true := by decide +kernel
set_option maxRecDepth 65536 in
theorem w_named : about1.methodNamed? x = some theMethod := by decide +kernel
set_option maxRecDepth 65536 in
theorem w_hears : about1.hears theMethod below0 = true := by decide +kernel
set_option maxRecDepth 65536 in
theorem w_ripe : about1.ripe theMethod args0 below0 = true := by decide +kernel
theorem w_running : about1.status = .running := rfl
set_option maxRecDepth 65536 in
theorem w_room : about1.hasRoom e0.platform room_1 = true :=
  launch0.hasRoom_least _ room_1 (by decide +kernel) (by decide +kernel) (by decide +kernel) (by decide +kernel) (by decide +kernel) (by decide +kernel)
theorem allAtoms_all (ts : List Jvm.Cond) (a : Array Jvm.Value) (st : Jvm.State) : (allAtoms ts).before a st = ts.all (fun c => c.before a st) := by
  induction ts with
  | nil => rfl
  | cons c t ih =>
    show (Jvm.Cond.and c (allAtoms t)).before a st = _
    rw [Jvm.Cond.before_and, ih, List.all_cons]
def words1 : List Jvm.Cond := Jvm.Cond.code x code maxLocals ret :: tables_1
/-- a 'code' word, met by the world's own term for the bytes: nothing is compared byte by byte -/
theorem code_word {y : MethodName} {bytes : ByteArray} {mx : Nat} {rt : Option FieldType} {a : Array Value} {s : State} {m : MethodId} {meth : Method} {c : Code} (h1 : s.methodNamed? y = some m) (h2 : s.vm.method? m = some meth) (h3 : meth.code = some c) (h4 : c.code = bytes)
    (h5 : (c.maxLocals == mx && c.exceptionTable.isEmpty && decide (c.maxStack ≤ mostOperands) && decide (meth.sig.returnType = rt) && !meth.locks && decide (parseMethodDescriptor y.desc = some meth.sig)) = true) : (Jvm.Cond.code y bytes mx rt).before a s = true := by
  simp only [Bool.and_eq_true, beq_iff_eq, Bool.not_eq_true', decide_eq_true_eq] at h5
  obtain ⟨⟨⟨⟨⟨g1, g2⟩, g3⟩, g4⟩, g5⟩, g6⟩ := h5
  simp [Cond.before, Cond.holds, Cond.value, h1, h2, h3, h4, g1, g2, g3, g4, g5, g6]
def isCode : Jvm.Cond → Bool
  | .code _ _ _ _ => true
  | _ => false
theorem all_split {L : List Jvm.Cond} {P : Jvm.Cond → Bool} (h1 : L.all (fun c => isCode c || P c) = true) (h2 : ∀ c ∈ L.filter isCode, P c = true) : L.all P = true := by
  refine List.all_eq_true.mpr fun c hc => ?_
  have h := List.all_eq_true.mp h1 c hc
  rcases Bool.eq_false_or_eq_true (isCode c) with hi | hi
  · exact h2 c (List.mem_filter.mpr ⟨hc, hi⟩)
  · simpa [hi] using h
set_option maxRecDepth 65536 in
theorem w_c0 : (Jvm.Cond.code x code maxLocals ret).before args0 about1 = true := code_word (m := ⟨1, 1⟩) (meth := k1m1) (c := k1c1) (by decide +kernel) rfl rfl rfl (by decide +kernel)
set_option maxRecDepth 65536 in
theorem w_c1 : (Jvm.Cond.code ({ cls := "org/adviceweft/pointcut/NamePatternParsePinLaw", name := "drawn", desc := "(I)C" } : Jvm.MethodName) method_3_code (2 : Nat) (Option.some Jvm.ClassFile.FieldType.char)).before args0 about1 = true := code_word (m := ⟨1, 2⟩) (meth := k1m2) (c := k1c2) (by decide +kernel) rfl rfl rfl (by decide +kernel)
set_option maxRecDepth 65536 in
theorem w_c2 : (Jvm.Cond.code ({ cls := "java/lang/String", name := "valueOf", desc := "(C)Ljava/lang/String;" } : Jvm.MethodName) jdk_42_method_139_code (1 : Nat) (Option.some (Jvm.ClassFile.FieldType.object "java/lang/String"))).before args0 about1 = true := code_word (m := ⟨7, 13⟩) (meth := k7m13) (c := k7c13) (by decide +kernel) rfl rfl rfl (by decide +kernel)
set_option maxRecDepth 65536 in
theorem w_c3 : (Jvm.Cond.code ({ cls := "java/lang/StringLatin1", name := "canEncode", desc := "(C)Z" } : Jvm.MethodName) jdk_43_method_3_code (1 : Nat) (Option.some Jvm.ClassFile.FieldType.boolean)).before args0 about1 = true := code_word (m := ⟨8, 1⟩) (meth := k8m1) (c := k8c1) (by decide +kernel) rfl rfl rfl (by decide +kernel)
set_option maxRecDepth 65536 in
theorem w_c4 : (Jvm.Cond.code ({ cls := "java/lang/StringLatin1", name := "toBytes", desc := "(C)[B" } : Jvm.MethodName) jdk_43_method_46_code (1 : Nat) (Option.some (Jvm.ClassFile.FieldType.array Jvm.ClassFile.FieldType.byte))).before args0 about1 = true := code_word (m := ⟨8, 5⟩) (meth := k8m5) (c := k8c5) (by decide +kernel) rfl rfl rfl (by decide +kernel)
set_option maxRecDepth 65536 in
theorem w_c5 : (Jvm.Cond.code ({ cls := "java/lang/String", name := "<init>", desc := "([BB)V" } : Jvm.MethodName) jdk_42_method_151_code (3 : Nat) (Option.none : Option Jvm.ClassFile.FieldType)).before args0 about1 = true := code_word (m := ⟨7, 17⟩) (meth := k7m17) (c := k7c17) (by decide +kernel) rfl rfl rfl (by decide +kernel)
set_option maxRecDepth 65536 in
theorem w_c6 : (Jvm.Cond.code ({ cls := "java/lang/Object", name := "<init>", desc := "()V" } : Jvm.MethodName) object_method_1_code (1 : Nat) (Option.none : Option Jvm.ClassFile.FieldType)).before args0 about1 = true := code_word (m := ⟨0, 0⟩) (meth := k0m0) (c := k0c0) (by decide +kernel) rfl rfl rfl (by decide +kernel)
set_option maxRecDepth 65536 in
theorem w_c7 : (Jvm.Cond.code ({ cls := "org/adviceweft/pointcut/NamePattern", name := "parse", desc := "(Ljava/lang/String;)Lorg/adviceweft/pointcut/NamePattern;" } : Jvm.MethodName) prog_8_method_2_code (4 : Nat) (Option.some (Jvm.ClassFile.FieldType.object "org/adviceweft/pointcut/NamePattern"))).before args0 about1 = true := code_word (m := ⟨10, 1⟩) (meth := k10m1) (c := k10c1) (by decide +kernel) rfl rfl rfl (by decide +kernel)
set_option maxRecDepth 65536 in
theorem w_c8 : (Jvm.Cond.code ({ cls := "java/util/Objects", name := "requireNonNull", desc := "(Ljava/lang/Object;Ljava/lang/String;)Ljava/lang/Object;" } : Jvm.MethodName) jdk_31_method_11_code (2 : Nat) (Option.some (Jvm.ClassFile.FieldType.object "java/lang/Object"))).before args0 about1 = true := code_word (m := ⟨11, 1⟩) (meth := k11m1) (c := k11c1) (by decide +kernel) rfl rfl rfl (by decide +kernel)
set_option maxRecDepth 65536 in
theorem w_c9 : (Jvm.Cond.code ({ cls := "java/lang/String", name := "equals", desc := "(Ljava/lang/Object;)Z" } : Jvm.MethodName) jdk_42_method_66_code (3 : Nat) (Option.some Jvm.ClassFile.FieldType.boolean)).before args0 about1 = true := code_word (m := ⟨7, 5⟩) (meth := k7m5) (c := k7c5) (by decide +kernel) rfl rfl rfl (by decide +kernel)
set_option maxRecDepth 65536 in
theorem w_c10 : (Jvm.Cond.code ({ cls := "java/lang/StringLatin1", name := "equals", desc := "([B[B)Z" } : Jvm.MethodName) jdk_43_method_13_code (3 : Nat) (Option.some Jvm.ClassFile.FieldType.boolean)).before args0 about1 = true := code_word (m := ⟨8, 2⟩) (meth := k8m2) (c := k8c2) (by decide +kernel) rfl rfl rfl (by decide +kernel)
set_option maxRecDepth 65536 in
theorem w_c11 : (Jvm.Cond.code ({ cls := "org/adviceweft/pointcut/NamePattern", name := "<init>", desc := "(Ljava/lang/String;ZZ)V" } : Jvm.MethodName) prog_8_method_1_code (4 : Nat) (Option.none : Option Jvm.ClassFile.FieldType)).before args0 about1 = true := code_word (m := ⟨10, 0⟩) (meth := k10m0) (c := k10c0) (by decide +kernel) rfl rfl rfl (by decide +kernel)
set_option maxRecDepth 65536 in
theorem w_c12 : (Jvm.Cond.code ({ cls := "java/lang/Record", name := "<init>", desc := "()V" } : Jvm.MethodName) jdk_30_method_1_code (1 : Nat) (Option.none : Option Jvm.ClassFile.FieldType)).before args0 about1 = true := code_word (m := ⟨9, 0⟩) (meth := k9m0) (c := k9c0) (by decide +kernel) rfl rfl rfl (by decide +kernel)
set_option maxRecDepth 65536 in
theorem w_c13 : (Jvm.Cond.code ({ cls := "java/lang/String", name := "contains", desc := "(Ljava/lang/CharSequence;)Z" } : Jvm.MethodName) jdk_42_method_97_code (2 : Nat) (Option.some Jvm.ClassFile.FieldType.boolean)).before args0 about1 = true := code_word (m := ⟨7, 11⟩) (meth := k7m11) (c := k7c11) (by decide +kernel) rfl rfl rfl (by decide +kernel)
set_option maxRecDepth 65536 in
theorem w_c14 : (Jvm.Cond.code ({ cls := "java/lang/String", name := "toString", desc := "()Ljava/lang/String;" } : Jvm.MethodName) jdk_42_method_126_code (1 : Nat) (Option.some (Jvm.ClassFile.FieldType.object "java/lang/String"))).before args0 about1 = true := code_word (m := ⟨7, 12⟩) (meth := k7m12) (c := k7c12) (by decide +kernel) rfl rfl rfl (by decide +kernel)
set_option maxRecDepth 65536 in
theorem w_c15 : (Jvm.Cond.code ({ cls := "java/lang/String", name := "indexOf", desc := "(Ljava/lang/String;)I" } : Jvm.MethodName) jdk_42_method_84_code (3 : Nat) (Option.some Jvm.ClassFile.FieldType.int)).before args0 about1 = true := code_word (m := ⟨7, 9⟩) (meth := k7m9) (c := k7c9) (by decide +kernel) rfl rfl rfl (by decide +kernel)
set_option maxRecDepth 65536 in
theorem w_c16 : (Jvm.Cond.code ({ cls := "java/lang/String", name := "coder", desc := "()B" } : Jvm.MethodName) jdk_42_method_152_code (1 : Nat) (Option.some Jvm.ClassFile.FieldType.byte)).before args0 about1 = true := code_word (m := ⟨7, 18⟩) (meth := k7m18) (c := k7c18) (by decide +kernel) rfl rfl rfl (by decide +kernel)
set_option maxRecDepth 65536 in
theorem w_c17 : (Jvm.Cond.code ({ cls := "java/lang/String", name := "isLatin1", desc := "()Z" } : Jvm.MethodName) jdk_42_method_154_code (1 : Nat) (Option.some Jvm.ClassFile.FieldType.boolean)).before args0 about1 = true := code_word (m := ⟨7, 19⟩) (meth := k7m19) (c := k7c19) (by decide +kernel) rfl rfl rfl (by decide +kernel)
set_option maxRecDepth 65536 in
theorem w_c18 : (Jvm.Cond.code ({ cls := "java/lang/StringLatin1", name := "indexOf", desc := "([B[B)I" } : Jvm.MethodName) jdk_43_method_24_code (2 : Nat) (Option.some Jvm.ClassFile.FieldType.int)).before args0 about1 = true := code_word (m := ⟨8, 3⟩) (meth := k8m3) (c := k8c3) (by decide +kernel) rfl rfl rfl (by decide +kernel)
set_option maxRecDepth 65536 in
theorem w_c19 : (Jvm.Cond.code ({ cls := "java/lang/String", name := "isEmpty", desc := "()Z" } : Jvm.MethodName) jdk_42_method_55_code (1 : Nat) (Option.some Jvm.ClassFile.FieldType.boolean)).before args0 about1 = true := code_word (m := ⟨7, 4⟩) (meth := k7m4) (c := k7c4) (by decide +kernel) rfl rfl rfl (by decide +kernel)
set_option maxRecDepth 65536 in
theorem w_c20 : (Jvm.Cond.code ({ cls := "org/adviceweft/pointcut/NamePattern", name := "core", desc := "()Ljava/lang/String;" } : Jvm.MethodName) prog_8_method_8_code (1 : Nat) (Option.some (Jvm.ClassFile.FieldType.object "java/lang/String"))).before args0 about1 = true := code_word (m := ⟨10, 4⟩) (meth := k10m4) (c := k10c4) (by decide +kernel) rfl rfl rfl (by decide +kernel)
set_option maxRecDepth 65536 in
theorem w_c21 : (Jvm.Cond.code ({ cls := "org/adviceweft/pointcut/NamePattern", name := "anyBefore", desc := "()Z" } : Jvm.MethodName) prog_8_method_9_code (1 : Nat) (Option.some Jvm.ClassFile.FieldType.boolean)).before args0 about1 = true := code_word (m := ⟨10, 5⟩) (meth := k10m5) (c := k10c5) (by decide +kernel) rfl rfl rfl (by decide +kernel)
set_option maxRecDepth 65536 in
theorem w_c22 : (Jvm.Cond.code ({ cls := "org/adviceweft/pointcut/NamePattern", name := "anyAfter", desc := "()Z" } : Jvm.MethodName) prog_8_method_10_code (1 : Nat) (Option.some Jvm.ClassFile.FieldType.boolean)).before args0 about1 = true := code_word (m := ⟨10, 6⟩) (meth := k10m6) (c := k10c6) (by decide +kernel) rfl rfl rfl (by decide +kernel)
set_option maxRecDepth 65536 in
theorem w_c23 : (Jvm.Cond.code ({ cls := "org/adviceweft/pointcut/NamePattern", name := "toString", desc := "()Ljava/lang/String;" } : Jvm.MethodName) prog_8_method_4_code (1 : Nat) (Option.some (Jvm.ClassFile.FieldType.object "java/lang/String"))).before args0 about1 = true := code_word (m := ⟨10, 2⟩) (meth := k10m2) (c := k10c2) (by decide +kernel) rfl rfl rfl (by decide +kernel)
set_option maxRecDepth 65536 in
theorem w_c24 : (Jvm.Cond.code ({ cls := "org/adviceweft/pointcut/NamePattern", name := "written", desc := "(Ljava/lang/String;ZZ)Ljava/lang/String;" } : Jvm.MethodName) prog_8_method_5_code (3 : Nat) (Option.some (Jvm.ClassFile.FieldType.object "java/lang/String"))).before args0 about1 = true := code_word (m := ⟨10, 3⟩) (meth := k10m3) (c := k10c3) (by decide +kernel) rfl rfl rfl (by decide +kernel)
set_option maxRecDepth 65536 in
theorem w_c25 : (Jvm.Cond.code ({ cls := "java/lang/StringBuilder", name := "<init>", desc := "()V" } : Jvm.MethodName) jdk_67_method_1_code (1 : Nat) (Option.none : Option Jvm.ClassFile.FieldType)).before args0 about1 = true := code_word (m := ⟨14, 0⟩) (meth := k14m0) (c := k14c0) (by decide +kernel) rfl rfl rfl (by decide +kernel)
set_option maxRecDepth 65536 in
theorem w_c26 : (Jvm.Cond.code ({ cls := "java/lang/AbstractStringBuilder", name := "<init>", desc := "(I)V" } : Jvm.MethodName) jdk_68_method_2_code (2 : Nat) (Option.none : Option Jvm.ClassFile.FieldType)).before args0 about1 = true := code_word (m := ⟨13, 1⟩) (meth := k13m1) (c := k13c1) (by decide +kernel) rfl rfl rfl (by decide +kernel)
set_option maxRecDepth 65536 in
theorem w_c27 : (Jvm.Cond.code ({ cls := "java/lang/StringBuilder", name := "append", desc := "(Ljava/lang/String;)Ljava/lang/StringBuilder;" } : Jvm.MethodName) jdk_67_method_7_code (2 : Nat) (Option.some (Jvm.ClassFile.FieldType.object "java/lang/StringBuilder"))).before args0 about1 = true := code_word (m := ⟨14, 1⟩) (meth := k14m1) (c := k14c1) (by decide +kernel) rfl rfl rfl (by decide +kernel)
set_option maxRecDepth 65536 in
theorem w_c28 : (Jvm.Cond.code ({ cls := "java/lang/AbstractStringBuilder", name := "append", desc := "(Ljava/lang/String;)Ljava/lang/AbstractStringBuilder;" } : Jvm.MethodName) jdk_68_method_22_code (3 : Nat) (Option.some (Jvm.ClassFile.FieldType.object "java/lang/AbstractStringBuilder"))).before args0 about1 = true := code_word (m := ⟨13, 5⟩) (meth := k13m5) (c := k13c5) (by decide +kernel) rfl rfl rfl (by decide +kernel)
set_option maxRecDepth 65536 in
theorem w_c29 : (Jvm.Cond.code ({ cls := "java/lang/String", name := "length", desc := "()I" } : Jvm.MethodName) jdk_42_method_54_code (1 : Nat) (Option.some Jvm.ClassFile.FieldType.int)).before args0 about1 = true := code_word (m := ⟨7, 3⟩) (meth := k7m3) (c := k7c3) (by decide +kernel) rfl rfl rfl (by decide +kernel)
set_option maxRecDepth 65536 in
theorem w_c30 : (Jvm.Cond.code ({ cls := "java/lang/AbstractStringBuilder", name := "ensureCapacityInternal", desc := "(I)V" } : Jvm.MethodName) jdk_68_method_9_code (3 : Nat) (Option.none : Option Jvm.ClassFile.FieldType)).before args0 about1 = true := code_word (m := ⟨13, 3⟩) (meth := k13m3) (c := k13c3) (by decide +kernel) rfl rfl rfl (by decide +kernel)
set_option maxRecDepth 65536 in
theorem w_c31 : (Jvm.Cond.code ({ cls := "java/lang/AbstractStringBuilder", name := "putStringAt", desc := "(ILjava/lang/String;)V" } : Jvm.MethodName) jdk_68_method_73_code (3 : Nat) (Option.none : Option Jvm.ClassFile.FieldType)).before args0 about1 = true := code_word (m := ⟨13, 9⟩) (meth := k13m9) (c := k13c9) (by decide +kernel) rfl rfl rfl (by decide +kernel)
set_option maxRecDepth 65536 in
theorem w_c32 : (Jvm.Cond.code ({ cls := "java/lang/AbstractStringBuilder", name := "inflateIfNeededFor", desc := "(Ljava/lang/String;)V" } : Jvm.MethodName) jdk_68_method_71_code (2 : Nat) (Option.none : Option Jvm.ClassFile.FieldType)).before args0 about1 = true := code_word (m := ⟨13, 8⟩) (meth := k13m8) (c := k13c8) (by decide +kernel) rfl rfl rfl (by decide +kernel)
set_option maxRecDepth 65536 in
theorem w_c33 : (Jvm.Cond.code ({ cls := "java/lang/String", name := "getBytes", desc := "([BIB)V" } : Jvm.MethodName) jdk_42_method_147_code (4 : Nat) (Option.none : Option Jvm.ClassFile.FieldType)).before args0 about1 = true := code_word (m := ⟨7, 14⟩) (meth := k7m14) (c := k7c14) (by decide +kernel) rfl rfl rfl (by decide +kernel)
set_option maxRecDepth 65536 in
theorem w_c34 : (Jvm.Cond.code ({ cls := "java/lang/StringBuilder", name := "toString", desc := "()Ljava/lang/String;" } : Jvm.MethodName) jdk_67_method_42_code (1 : Nat) (Option.some (Jvm.ClassFile.FieldType.object "java/lang/String"))).before args0 about1 = true := code_word (m := ⟨14, 2⟩) (meth := k14m2) (c := k14c2) (by decide +kernel) rfl rfl rfl (by decide +kernel)
set_option maxRecDepth 65536 in
theorem w_c35 : (Jvm.Cond.code ({ cls := "java/lang/String", name := "<init>", desc := "(Ljava/lang/StringBuilder;)V" } : Jvm.MethodName) jdk_42_method_53_code (2 : Nat) (Option.none : Option Jvm.ClassFile.FieldType)).before args0 about1 = true := code_word (m := ⟨7, 2⟩) (meth := k7m2) (c := k7c2) (by decide +kernel) rfl rfl rfl (by decide +kernel)
set_option maxRecDepth 65536 in
theorem w_c36 : (Jvm.Cond.code ({ cls := "java/lang/String", name := "<init>", desc := "(Ljava/lang/AbstractStringBuilder;Ljava/lang/Void;)V" } : Jvm.MethodName) jdk_42_method_150_code (5 : Nat) (Option.none : Option Jvm.ClassFile.FieldType)).before args0 about1 = true := code_word (m := ⟨7, 16⟩) (meth := k7m16) (c := k7c16) (by decide +kernel) rfl rfl rfl (by decide +kernel)
set_option maxRecDepth 65536 in
theorem w_c37 : (Jvm.Cond.code ({ cls := "java/lang/AbstractStringBuilder", name := "getValue", desc := "()[B" } : Jvm.MethodName) jdk_68_method_64_code (1 : Nat) (Option.some (Jvm.ClassFile.FieldType.array Jvm.ClassFile.FieldType.byte))).before args0 about1 = true := code_word (m := ⟨13, 6⟩) (meth := k13m6) (c := k13c6) (by decide +kernel) rfl rfl rfl (by decide +kernel)
set_option maxRecDepth 65536 in
theorem w_c38 : (Jvm.Cond.code ({ cls := "java/lang/StringBuilder", name := "length", desc := "()I" } : Jvm.MethodName) jdk_67_method_93_code (1 : Nat) (Option.some Jvm.ClassFile.FieldType.int)).before args0 about1 = true := code_word (m := ⟨14, 3⟩) (meth := k14m3) (c := k14c3) (by decide +kernel) rfl rfl rfl (by decide +kernel)
set_option maxRecDepth 65536 in
theorem w_c39 : (Jvm.Cond.code ({ cls := "java/lang/AbstractStringBuilder", name := "length", desc := "()I" } : Jvm.MethodName) jdk_68_method_6_code (1 : Nat) (Option.some Jvm.ClassFile.FieldType.int)).before args0 about1 = true := code_word (m := ⟨13, 2⟩) (meth := k13m2) (c := k13c2) (by decide +kernel) rfl rfl rfl (by decide +kernel)
set_option maxRecDepth 65536 in
theorem w_c40 : (Jvm.Cond.code ({ cls := "java/lang/AbstractStringBuilder", name := "isLatin1", desc := "()Z" } : Jvm.MethodName) jdk_68_method_68_code (1 : Nat) (Option.some Jvm.ClassFile.FieldType.boolean)).before args0 about1 = true := code_word (m := ⟨13, 7⟩) (meth := k13m7) (c := k13c7) (by decide +kernel) rfl rfl rfl (by decide +kernel)
set_option maxRecDepth 65536 in
theorem w_c41 : (Jvm.Cond.code ({ cls := "java/util/Arrays", name := "copyOfRange", desc := "([BII)[B" } : Jvm.MethodName) jdk_65_method_132_code (3 : Nat) (Option.some (Jvm.ClassFile.FieldType.array Jvm.ClassFile.FieldType.byte))).before args0 about1 = true := code_word (m := ⟨16, 2⟩) (meth := k16m2) (c := k16c2) (by decide +kernel) rfl rfl rfl (by decide +kernel)
set_option maxRecDepth 65536 in
theorem w_c42 : (Jvm.Cond.code ({ cls := "java/util/Arrays", name := "copyOfRangeByte", desc := "([BII)[B" } : Jvm.MethodName) jdk_65_method_133_code (5 : Nat) (Option.some (Jvm.ClassFile.FieldType.array Jvm.ClassFile.FieldType.byte))).before args0 about1 = true := code_word (m := ⟨16, 3⟩) (meth := k16m3) (c := k16c3) (by decide +kernel) rfl rfl rfl (by decide +kernel)
set_option maxRecDepth 65536 in
theorem w_c43 : (Jvm.Cond.code ({ cls := "java/util/Arrays", name := "checkLength", desc := "(II)V" } : Jvm.MethodName) jdk_65_method_131_code (2 : Nat) (Option.none : Option Jvm.ClassFile.FieldType)).before args0 about1 = true := code_word (m := ⟨16, 1⟩) (meth := k16m1) (c := k16c1) (by decide +kernel) rfl rfl rfl (by decide +kernel)
set_option maxRecDepth 65536 in
theorem w_c44 : (Jvm.Cond.code ({ cls := "java/lang/Math", name := "min", desc := "(II)I" } : Jvm.MethodName) jdk_29_method_69_code (2 : Nat) (Option.some Jvm.ClassFile.FieldType.int)).before args0 about1 = true := code_word (m := ⟨17, 1⟩) (meth := k17m1) (c := k17c1) (by decide +kernel) rfl rfl rfl (by decide +kernel)
set_option maxRecDepth 65536 in
theorem w_c45 : (Jvm.Cond.code ({ cls := "java/lang/String", name := "<init>", desc := "([C)V" } : Jvm.MethodName) jdk_42_method_3_code (2 : Nat) (Option.none : Option Jvm.ClassFile.FieldType)).before args0 about1 = true := code_word (m := ⟨7, 1⟩) (meth := k7m1) (c := k7c1) (by decide +kernel) rfl rfl rfl (by decide +kernel)
set_option maxRecDepth 65536 in
theorem w_c46 : (Jvm.Cond.code ({ cls := "java/lang/String", name := "<init>", desc := "([CIILjava/lang/Void;)V" } : Jvm.MethodName) jdk_42_method_149_code (6 : Nat) (Option.none : Option Jvm.ClassFile.FieldType)).before args0 about1 = true := code_word (m := ⟨7, 15⟩) (meth := k7m15) (c := k7c15) (by decide +kernel) rfl rfl rfl (by decide +kernel)
set_option maxRecDepth 65536 in
theorem w_c47 : (Jvm.Cond.code ({ cls := "java/lang/StringUTF16", name := "compress", desc := "([CII)[B" } : Jvm.MethodName) jdk_52_method_16_code (6 : Nat) (Option.some (Jvm.ClassFile.FieldType.array Jvm.ClassFile.FieldType.byte))).before args0 about1 = true := code_word (m := ⟨18, 8⟩) (meth := k18m8) (c := k18c8) (by decide +kernel) rfl rfl rfl (by decide +kernel)
set_option maxRecDepth 65536 in
theorem w_c48 : (Jvm.Cond.code ({ cls := "java/lang/StringUTF16", name := "compress", desc := "([CI[BII)I" } : Jvm.MethodName) jdk_52_method_21_code (7 : Nat) (Option.some Jvm.ClassFile.FieldType.int)).before args0 about1 = true := code_word (m := ⟨18, 10⟩) (meth := k18m10) (c := k18c10) (by decide +kernel) rfl rfl rfl (by decide +kernel)
set_option maxRecDepth 65536 in
theorem w_c49 : (Jvm.Cond.code ({ cls := "java/lang/StringUTF16", name := "coderFromArrayLen", desc := "([BI)B" } : Jvm.MethodName) jdk_52_method_15_code (2 : Nat) (Option.some Jvm.ClassFile.FieldType.byte)).before args0 about1 = true := code_word (m := ⟨18, 7⟩) (meth := k18m7) (c := k18c7) (by decide +kernel) rfl rfl rfl (by decide +kernel)
set_option maxRecDepth 65536 in
theorem w_c50 : (Jvm.Cond.code ({ cls := "java/lang/String", name := "startsWith", desc := "(Ljava/lang/String;)Z" } : Jvm.MethodName) jdk_42_method_76_code (2 : Nat) (Option.some Jvm.ClassFile.FieldType.boolean)).before args0 about1 = true := code_word (m := ⟨7, 7⟩) (meth := k7m7) (c := k7c7) (by decide +kernel) rfl rfl rfl (by decide +kernel)
set_option maxRecDepth 65536 in
theorem w_c51 : (Jvm.Cond.code ({ cls := "java/lang/String", name := "startsWith", desc := "(Ljava/lang/String;I)Z" } : Jvm.MethodName) jdk_42_method_75_code (8 : Nat) (Option.some Jvm.ClassFile.FieldType.boolean)).before args0 about1 = true := code_word (m := ⟨7, 6⟩) (meth := k7m6) (c := k7c6) (by decide +kernel) rfl rfl rfl (by decide +kernel)
set_option maxRecDepth 65536 in
theorem w_c52 : (Jvm.Cond.code ({ cls := "jdk/internal/util/ArraysSupport", name := "mismatch", desc := "([BI[BII)I" } : Jvm.MethodName) jdk_48_method_14_code (8 : Nat) (Option.some Jvm.ClassFile.FieldType.int)).before args0 about1 = true := code_word (m := ⟨19, 1⟩) (meth := k19m1) (c := k19c1) (by decide +kernel) rfl rfl rfl (by decide +kernel)
set_option maxRecDepth 65536 in
theorem w_c53 : (Jvm.Cond.code ({ cls := "java/lang/String", name := "endsWith", desc := "(Ljava/lang/String;)Z" } : Jvm.MethodName) jdk_42_method_77_code (2 : Nat) (Option.some Jvm.ClassFile.FieldType.boolean)).before args0 about1 = true := code_word (m := ⟨7, 8⟩) (meth := k7m8) (c := k7c8) (by decide +kernel) rfl rfl rfl (by decide +kernel)
set_option maxRecDepth 65536 in
theorem w_c54 : (Jvm.Cond.code ({ cls := "java/lang/String", name := "substring", desc := "(II)Ljava/lang/String;" } : Jvm.MethodName) jdk_42_method_92_code (5 : Nat) (Option.some (Jvm.ClassFile.FieldType.object "java/lang/String"))).before args0 about1 = true := code_word (m := ⟨7, 10⟩) (meth := k7m10) (c := k7c10) (by decide +kernel) rfl rfl rfl (by decide +kernel)
set_option maxRecDepth 65536 in
theorem w_c55 : (Jvm.Cond.code ({ cls := "java/lang/String", name := "checkBoundsBeginEnd", desc := "(III)V" } : Jvm.MethodName) jdk_42_method_158_code (3 : Nat) (Option.none : Option Jvm.ClassFile.FieldType)).before args0 about1 = true := code_word (m := ⟨7, 21⟩) (meth := k7m21) (c := k7c21) (by decide +kernel) rfl rfl rfl (by decide +kernel)
set_option maxRecDepth 65536 in
theorem w_c56 : (Jvm.Cond.code ({ cls := "jdk/internal/util/Preconditions", name := "checkFromToIndex", desc := "(IIILjava/util/function/BiFunction;)I" } : Jvm.MethodName) jdk_41_method_12_code (4 : Nat) (Option.some Jvm.ClassFile.FieldType.int)).before args0 about1 = true := code_word (m := ⟨20, 1⟩) (meth := k20m1) (c := k20c1) (by decide +kernel) rfl rfl rfl (by decide +kernel)
set_option maxRecDepth 65536 in
theorem w_c57 : (Jvm.Cond.code ({ cls := "java/lang/StringLatin1", name := "newString", desc := "([BII)Ljava/lang/String;" } : Jvm.MethodName) jdk_43_method_47_code (3 : Nat) (Option.some (Jvm.ClassFile.FieldType.object "java/lang/String"))).before args0 about1 = true := code_word (m := ⟨8, 6⟩) (meth := k8m6) (c := k8c6) (by decide +kernel) rfl rfl rfl (by decide +kernel)
set_option maxRecDepth 65536 in
theorem w_c58 : (Jvm.Cond.code ({ cls := "java/lang/StringLatin1", name := "indexOf", desc := "([BI[BII)I" } : Jvm.MethodName) jdk_43_method_25_code (11 : Nat) (Option.some Jvm.ClassFile.FieldType.int)).before args0 about1 = true := code_word (m := ⟨8, 4⟩) (meth := k8m4) (c := k8c4) (by decide +kernel) rfl rfl rfl (by decide +kernel)
set_option maxRecDepth 65536 in
theorem w_c59 : (Jvm.Cond.code ({ cls := "java/lang/StringUTF16", name := "toBytes", desc := "([CII)[B" } : Jvm.MethodName) jdk_52_method_14_code (5 : Nat) (Option.some (Jvm.ClassFile.FieldType.array Jvm.ClassFile.FieldType.byte))).before args0 about1 = true := code_word (m := ⟨18, 6⟩) (meth := k18m6) (c := k18c6) (by decide +kernel) rfl rfl rfl (by decide +kernel)
set_option maxRecDepth 65536 in
theorem w_c60 : (Jvm.Cond.code ({ cls := "java/lang/StringUTF16", name := "newBytesFor", desc := "(I)[B" } : Jvm.MethodName) jdk_52_method_2_code (1 : Nat) (Option.some (Jvm.ClassFile.FieldType.array Jvm.ClassFile.FieldType.byte))).before args0 about1 = true := code_word (m := ⟨18, 1⟩) (meth := k18m1) (c := k18c1) (by decide +kernel) rfl rfl rfl (by decide +kernel)
set_option maxRecDepth 65536 in
theorem w_c61 : (Jvm.Cond.code ({ cls := "java/lang/StringUTF16", name := "newBytesLength", desc := "(I)I" } : Jvm.MethodName) jdk_52_method_3_code (1 : Nat) (Option.some Jvm.ClassFile.FieldType.int)).before args0 about1 = true := code_word (m := ⟨18, 2⟩) (meth := k18m2) (c := k18c2) (by decide +kernel) rfl rfl rfl (by decide +kernel)
set_option maxRecDepth 65536 in
theorem w_c62 : (Jvm.Cond.code ({ cls := "java/lang/StringUTF16", name := "putChar", desc := "([BII)V" } : Jvm.MethodName) jdk_52_method_4_code (3 : Nat) (Option.none : Option Jvm.ClassFile.FieldType)).before args0 about1 = true := code_word (m := ⟨18, 3⟩) (meth := k18m3) (c := k18c3) (by decide +kernel) rfl rfl rfl (by decide +kernel)
set_option maxRecDepth 65536 in
theorem w_c63 : (Jvm.Cond.code ({ cls := "java/lang/StringUTF16", name := "getChar", desc := "([BI)C" } : Jvm.MethodName) jdk_52_method_5_code (2 : Nat) (Option.some Jvm.ClassFile.FieldType.char)).before args0 about1 = true := code_word (m := ⟨18, 4⟩) (meth := k18m4) (c := k18c4) (by decide +kernel) rfl rfl rfl (by decide +kernel)
set_option maxRecDepth 65536 in
theorem w_c64 : (Jvm.Cond.code ({ cls := "java/lang/StringUTF16", name := "newString", desc := "([BII)Ljava/lang/String;" } : Jvm.MethodName) jdk_52_method_69_code (5 : Nat) (Option.some (Jvm.ClassFile.FieldType.object "java/lang/String"))).before args0 about1 = true := code_word (m := ⟨18, 14⟩) (meth := k18m14) (c := k18c14) (by decide +kernel) rfl rfl rfl (by decide +kernel)
set_option maxRecDepth 65536 in
theorem w_c65 : (Jvm.Cond.code ({ cls := "java/lang/StringUTF16", name := "compress", desc := "([BII)[B" } : Jvm.MethodName) jdk_52_method_17_code (6 : Nat) (Option.some (Jvm.ClassFile.FieldType.array Jvm.ClassFile.FieldType.byte))).before args0 about1 = true := code_word (m := ⟨18, 9⟩) (meth := k18m9) (c := k18c9) (by decide +kernel) rfl rfl rfl (by decide +kernel)
set_option maxRecDepth 65536 in
theorem w_c66 : (Jvm.Cond.code ({ cls := "java/lang/StringUTF16", name := "compress", desc := "([BI[BII)I" } : Jvm.MethodName) jdk_52_method_22_code (7 : Nat) (Option.some Jvm.ClassFile.FieldType.int)).before args0 about1 = true := code_word (m := ⟨18, 11⟩) (meth := k18m11) (c := k18c11) (by decide +kernel) rfl rfl rfl (by decide +kernel)
set_option maxRecDepth 65536 in
theorem w_c67 : (Jvm.Cond.code ({ cls := "java/lang/StringUTF16", name := "checkBoundsOffCount", desc := "(II[B)V" } : Jvm.MethodName) jdk_52_method_94_code (3 : Nat) (Option.none : Option Jvm.ClassFile.FieldType)).before args0 about1 = true := code_word (m := ⟨18, 16⟩) (meth := k18m16) (c := k18c16) (by decide +kernel) rfl rfl rfl (by decide +kernel)
set_option maxRecDepth 65536 in
theorem w_c68 : (Jvm.Cond.code ({ cls := "java/lang/StringUTF16", name := "length", desc := "([B)I" } : Jvm.MethodName) jdk_52_method_6_code (1 : Nat) (Option.some Jvm.ClassFile.FieldType.int)).before args0 about1 = true := code_word (m := ⟨18, 5⟩) (meth := k18m5) (c := k18c5) (by decide +kernel) rfl rfl rfl (by decide +kernel)
set_option maxRecDepth 65536 in
theorem w_c69 : (Jvm.Cond.code ({ cls := "java/lang/String", name := "checkBoundsOffCount", desc := "(III)I" } : Jvm.MethodName) jdk_42_method_157_code (3 : Nat) (Option.some Jvm.ClassFile.FieldType.int)).before args0 about1 = true := code_word (m := ⟨7, 20⟩) (meth := k7m20) (c := k7c20) (by decide +kernel) rfl rfl rfl (by decide +kernel)
set_option maxRecDepth 65536 in
theorem w_c70 : (Jvm.Cond.code ({ cls := "jdk/internal/util/Preconditions", name := "checkFromIndexSize", desc := "(IIILjava/util/function/BiFunction;)I" } : Jvm.MethodName) jdk_41_method_13_code (4 : Nat) (Option.some Jvm.ClassFile.FieldType.int)).before args0 about1 = true := code_word (m := ⟨20, 2⟩) (meth := k20m2) (c := k20c2) (by decide +kernel) rfl rfl rfl (by decide +kernel)
set_option maxRecDepth 65536 in
theorem w_c71 : (Jvm.Cond.code ({ cls := "java/lang/StringUTF16", name := "indexOfLatin1", desc := "([B[B)I" } : Jvm.MethodName) jdk_52_method_44_code (2 : Nat) (Option.some Jvm.ClassFile.FieldType.int)).before args0 about1 = true := code_word (m := ⟨18, 12⟩) (meth := k18m12) (c := k18c12) (by decide +kernel) rfl rfl rfl (by decide +kernel)
set_option maxRecDepth 65536 in
theorem w_c72 : (Jvm.Cond.code ({ cls := "java/lang/StringUTF16", name := "indexOfLatin1Unsafe", desc := "([BI[BII)I" } : Jvm.MethodName) jdk_52_method_46_code (11 : Nat) (Option.some Jvm.ClassFile.FieldType.int)).before args0 about1 = true := code_word (m := ⟨18, 13⟩) (meth := k18m13) (c := k18c13) (by decide +kernel) rfl rfl rfl (by decide +kernel)
set_option maxRecDepth 65536 in
theorem w_c73 : (Jvm.Cond.code ({ cls := "java/lang/AbstractStringBuilder", name := "inflate", desc := "()V" } : Jvm.MethodName) jdk_68_method_11_code (2 : Nat) (Option.none : Option Jvm.ClassFile.FieldType)).before args0 about1 = true := code_word (m := ⟨13, 4⟩) (meth := k13m4) (c := k13c4) (by decide +kernel) rfl rfl rfl (by decide +kernel)
set_option maxRecDepth 65536 in
theorem w_c74 : (Jvm.Cond.code ({ cls := "java/lang/StringLatin1", name := "inflate", desc := "([BI[BII)V" } : Jvm.MethodName) jdk_43_method_50_code (5 : Nat) (Option.none : Option Jvm.ClassFile.FieldType)).before args0 about1 = true := code_word (m := ⟨8, 7⟩) (meth := k8m7) (c := k8c7) (by decide +kernel) rfl rfl rfl (by decide +kernel)
set_option maxRecDepth 65536 in
theorem w_c75 : (Jvm.Cond.code ({ cls := "java/lang/StringUTF16", name := "inflate", desc := "([BI[BII)V" } : Jvm.MethodName) jdk_52_method_86_code (6 : Nat) (Option.none : Option Jvm.ClassFile.FieldType)).before args0 about1 = true := code_word (m := ⟨18, 15⟩) (meth := k18m15) (c := k18c15) (by decide +kernel) rfl rfl rfl (by decide +kernel)
def codes1 : List Jvm.Cond := [Jvm.Cond.code x code maxLocals ret, Jvm.Cond.code ({ cls := "org/adviceweft/pointcut/NamePatternParsePinLaw", name := "drawn", desc := "(I)C" } : Jvm.MethodName) method_3_code (2 : Nat) (Option.some Jvm.ClassFile.FieldType.char), Jvm.Cond.code ({ cls := "java/lang/String", name := "valueOf", desc := "(C)Ljava/lang/String;" } : Jvm.MethodName) jdk_42_method_139_code (1 : Nat) (Option.some (Jvm.ClassFile.FieldType.object "java/lang/String")), Jvm.Cond.code ({ cls := "java/lang/StringLatin1", name := "canEncode", desc := "(C)Z" } : Jvm.MethodName) jdk_43_method_3_code (1 : Nat) (Option.some Jvm.ClassFile.FieldType.boolean), Jvm.Cond.code ({ cls := "java/lang/StringLatin1", name := "toBytes", desc := "(C)[B" } : Jvm.MethodName) jdk_43_method_46_code (1 : Nat) (Option.some (Jvm.ClassFile.FieldType.array Jvm.ClassFile.FieldType.byte)), Jvm.Cond.code ({ cls := "java/lang/String", name := "<init>", desc := "([BB)V" } : Jvm.MethodName) jdk_42_method_151_code (3 : Nat) (Option.none : Option Jvm.ClassFile.FieldType), Jvm.Cond.code ({ cls := "java/lang/Object", name := "<init>", desc := "()V" } : Jvm.MethodName) object_method_1_code (1 : Nat) (Option.none : Option Jvm.ClassFile.FieldType), Jvm.Cond.code ({ cls := "org/adviceweft/pointcut/NamePattern", name := "parse", desc := "(Ljava/lang/String;)Lorg/adviceweft/pointcut/NamePattern;" } : Jvm.MethodName) prog_8_method_2_code (4 : Nat) (Option.some (Jvm.ClassFile.FieldType.object "org/adviceweft/pointcut/NamePattern")), Jvm.Cond.code ({ cls := "java/util/Objects", name := "requireNonNull", desc := "(Ljava/lang/Object;Ljava/lang/String;)Ljava/lang/Object;" } : Jvm.MethodName) jdk_31_method_11_code (2 : Nat) (Option.some (Jvm.ClassFile.FieldType.object "java/lang/Object")), Jvm.Cond.code ({ cls := "java/lang/String", name := "equals", desc := "(Ljava/lang/Object;)Z" } : Jvm.MethodName) jdk_42_method_66_code (3 : Nat) (Option.some Jvm.ClassFile.FieldType.boolean), Jvm.Cond.code ({ cls := "java/lang/StringLatin1", name := "equals", desc := "([B[B)Z" } : Jvm.MethodName) jdk_43_method_13_code (3 : Nat) (Option.some Jvm.ClassFile.FieldType.boolean), Jvm.Cond.code ({ cls := "org/adviceweft/pointcut/NamePattern", name := "<init>", desc := "(Ljava/lang/String;ZZ)V" } : Jvm.MethodName) prog_8_method_1_code (4 : Nat) (Option.none : Option Jvm.ClassFile.FieldType), Jvm.Cond.code ({ cls := "java/lang/Record", name := "<init>", desc := "()V" } : Jvm.MethodName) jdk_30_method_1_code (1 : Nat) (Option.none : Option Jvm.ClassFile.FieldType), Jvm.Cond.code ({ cls := "java/lang/String", name := "contains", desc := "(Ljava/lang/CharSequence;)Z" } : Jvm.MethodName) jdk_42_method_97_code (2 : Nat) (Option.some Jvm.ClassFile.FieldType.boolean), Jvm.Cond.code ({ cls := "java/lang/String", name := "toString", desc := "()Ljava/lang/String;" } : Jvm.MethodName) jdk_42_method_126_code (1 : Nat) (Option.some (Jvm.ClassFile.FieldType.object "java/lang/String")), Jvm.Cond.code ({ cls := "java/lang/String", name := "indexOf", desc := "(Ljava/lang/String;)I" } : Jvm.MethodName) jdk_42_method_84_code (3 : Nat) (Option.some Jvm.ClassFile.FieldType.int), Jvm.Cond.code ({ cls := "java/lang/String", name := "coder", desc := "()B" } : Jvm.MethodName) jdk_42_method_152_code (1 : Nat) (Option.some Jvm.ClassFile.FieldType.byte), Jvm.Cond.code ({ cls := "java/lang/String", name := "isLatin1", desc := "()Z" } : Jvm.MethodName) jdk_42_method_154_code (1 : Nat) (Option.some Jvm.ClassFile.FieldType.boolean), Jvm.Cond.code ({ cls := "java/lang/StringLatin1", name := "indexOf", desc := "([B[B)I" } : Jvm.MethodName) jdk_43_method_24_code (2 : Nat) (Option.some Jvm.ClassFile.FieldType.int), Jvm.Cond.code ({ cls := "java/lang/String", name := "isEmpty", desc := "()Z" } : Jvm.MethodName) jdk_42_method_55_code (1 : Nat) (Option.some Jvm.ClassFile.FieldType.boolean), Jvm.Cond.code ({ cls := "org/adviceweft/pointcut/NamePattern", name := "core", desc := "()Ljava/lang/String;" } : Jvm.MethodName) prog_8_method_8_code (1 : Nat) (Option.some (Jvm.ClassFile.FieldType.object "java/lang/String")), Jvm.Cond.code ({ cls := "org/adviceweft/pointcut/NamePattern", name := "anyBefore", desc := "()Z" } : Jvm.MethodName) prog_8_method_9_code (1 : Nat) (Option.some Jvm.ClassFile.FieldType.boolean), Jvm.Cond.code ({ cls := "org/adviceweft/pointcut/NamePattern", name := "anyAfter", desc := "()Z" } : Jvm.MethodName) prog_8_method_10_code (1 : Nat) (Option.some Jvm.ClassFile.FieldType.boolean), Jvm.Cond.code ({ cls := "org/adviceweft/pointcut/NamePattern", name := "toString", desc := "()Ljava/lang/String;" } : Jvm.MethodName) prog_8_method_4_code (1 : Nat) (Option.some (Jvm.ClassFile.FieldType.object "java/lang/String")), Jvm.Cond.code ({ cls := "org/adviceweft/pointcut/NamePattern", name := "written", desc := "(Ljava/lang/String;ZZ)Ljava/lang/String;" } : Jvm.MethodName) prog_8_method_5_code (3 : Nat) (Option.some (Jvm.ClassFile.FieldType.object "java/lang/String")), Jvm.Cond.code ({ cls := "java/lang/StringBuilder", name := "<init>", desc := "()V" } : Jvm.MethodName) jdk_67_method_1_code (1 : Nat) (Option.none : Option Jvm.ClassFile.FieldType), Jvm.Cond.code ({ cls := "java/lang/AbstractStringBuilder", name := "<init>", desc := "(I)V" } : Jvm.MethodName) jdk_68_method_2_code (2 : Nat) (Option.none : Option Jvm.ClassFile.FieldType), Jvm.Cond.code ({ cls := "java/lang/StringBuilder", name := "append", desc := "(Ljava/lang/String;)Ljava/lang/StringBuilder;" } : Jvm.MethodName) jdk_67_method_7_code (2 : Nat) (Option.some (Jvm.ClassFile.FieldType.object "java/lang/StringBuilder")), Jvm.Cond.code ({ cls := "java/lang/AbstractStringBuilder", name := "append", desc := "(Ljava/lang/String;)Ljava/lang/AbstractStringBuilder;" } : Jvm.MethodName) jdk_68_method_22_code (3 : Nat) (Option.some (Jvm.ClassFile.FieldType.object "java/lang/AbstractStringBuilder")), Jvm.Cond.code ({ cls := "java/lang/String", name := "length", desc := "()I" } : Jvm.MethodName) jdk_42_method_54_code (1 : Nat) (Option.some Jvm.ClassFile.FieldType.int), Jvm.Cond.code ({ cls := "java/lang/AbstractStringBuilder", name := "ensureCapacityInternal", desc := "(I)V" } : Jvm.MethodName) jdk_68_method_9_code (3 : Nat) (Option.none : Option Jvm.ClassFile.FieldType), Jvm.Cond.code ({ cls := "java/lang/AbstractStringBuilder", name := "putStringAt", desc := "(ILjava/lang/String;)V" } : Jvm.MethodName) jdk_68_method_73_code (3 : Nat) (Option.none : Option Jvm.ClassFile.FieldType), Jvm.Cond.code ({ cls := "java/lang/AbstractStringBuilder", name := "inflateIfNeededFor", desc := "(Ljava/lang/String;)V" } : Jvm.MethodName) jdk_68_method_71_code (2 : Nat) (Option.none : Option Jvm.ClassFile.FieldType), Jvm.Cond.code ({ cls := "java/lang/String", name := "getBytes", desc := "([BIB)V" } : Jvm.MethodName) jdk_42_method_147_code (4 : Nat) (Option.none : Option Jvm.ClassFile.FieldType), Jvm.Cond.code ({ cls := "java/lang/StringBuilder", name := "toString", desc := "()Ljava/lang/String;" } : Jvm.MethodName) jdk_67_method_42_code (1 : Nat) (Option.some (Jvm.ClassFile.FieldType.object "java/lang/String")), Jvm.Cond.code ({ cls := "java/lang/String", name := "<init>", desc := "(Ljava/lang/StringBuilder;)V" } : Jvm.MethodName) jdk_42_method_53_code (2 : Nat) (Option.none : Option Jvm.ClassFile.FieldType), Jvm.Cond.code ({ cls := "java/lang/String", name := "<init>", desc := "(Ljava/lang/AbstractStringBuilder;Ljava/lang/Void;)V" } : Jvm.MethodName) jdk_42_method_150_code (5 : Nat) (Option.none : Option Jvm.ClassFile.FieldType), Jvm.Cond.code ({ cls := "java/lang/AbstractStringBuilder", name := "getValue", desc := "()[B" } : Jvm.MethodName) jdk_68_method_64_code (1 : Nat) (Option.some (Jvm.ClassFile.FieldType.array Jvm.ClassFile.FieldType.byte)), Jvm.Cond.code ({ cls := "java/lang/StringBuilder", name := "length", desc := "()I" } : Jvm.MethodName) jdk_67_method_93_code (1 : Nat) (Option.some Jvm.ClassFile.FieldType.int), Jvm.Cond.code ({ cls := "java/lang/AbstractStringBuilder", name := "length", desc := "()I" } : Jvm.MethodName) jdk_68_method_6_code (1 : Nat) (Option.some Jvm.ClassFile.FieldType.int), Jvm.Cond.code ({ cls := "java/lang/AbstractStringBuilder", name := "isLatin1", desc := "()Z" } : Jvm.MethodName) jdk_68_method_68_code (1 : Nat) (Option.some Jvm.ClassFile.FieldType.boolean), Jvm.Cond.code ({ cls := "java/util/Arrays", name := "copyOfRange", desc := "([BII)[B" } : Jvm.MethodName) jdk_65_method_132_code (3 : Nat) (Option.some (Jvm.ClassFile.FieldType.array Jvm.ClassFile.FieldType.byte)), Jvm.Cond.code ({ cls := "java/util/Arrays", name := "copyOfRangeByte", desc := "([BII)[B" } : Jvm.MethodName) jdk_65_method_133_code (5 : Nat) (Option.some (Jvm.ClassFile.FieldType.array Jvm.ClassFile.FieldType.byte)), Jvm.Cond.code ({ cls := "java/util/Arrays", name := "checkLength", desc := "(II)V" } : Jvm.MethodName) jdk_65_method_131_code (2 : Nat) (Option.none : Option Jvm.ClassFile.FieldType), Jvm.Cond.code ({ cls := "java/lang/Math", name := "min", desc := "(II)I" } : Jvm.MethodName) jdk_29_method_69_code (2 : Nat) (Option.some Jvm.ClassFile.FieldType.int), Jvm.Cond.code ({ cls := "java/lang/String", name := "<init>", desc := "([C)V" } : Jvm.MethodName) jdk_42_method_3_code (2 : Nat) (Option.none : Option Jvm.ClassFile.FieldType), Jvm.Cond.code ({ cls := "java/lang/String", name := "<init>", desc := "([CIILjava/lang/Void;)V" } : Jvm.MethodName) jdk_42_method_149_code (6 : Nat) (Option.none : Option Jvm.ClassFile.FieldType), Jvm.Cond.code ({ cls := "java/lang/StringUTF16", name := "compress", desc := "([CII)[B" } : Jvm.MethodName) jdk_52_method_16_code (6 : Nat) (Option.some (Jvm.ClassFile.FieldType.array Jvm.ClassFile.FieldType.byte)), Jvm.Cond.code ({ cls := "java/lang/StringUTF16", name := "compress", desc := "([CI[BII)I" } : Jvm.MethodName) jdk_52_method_21_code (7 : Nat) (Option.some Jvm.ClassFile.FieldType.int), Jvm.Cond.code ({ cls := "java/lang/StringUTF16", name := "coderFromArrayLen", desc := "([BI)B" } : Jvm.MethodName) jdk_52_method_15_code (2 : Nat) (Option.some Jvm.ClassFile.FieldType.byte), Jvm.Cond.code ({ cls := "java/lang/String", name := "startsWith", desc := "(Ljava/lang/String;)Z" } : Jvm.MethodName) jdk_42_method_76_code (2 : Nat) (Option.some Jvm.ClassFile.FieldType.boolean), Jvm.Cond.code ({ cls := "java/lang/String", name := "startsWith", desc := "(Ljava/lang/String;I)Z" } : Jvm.MethodName) jdk_42_method_75_code (8 : Nat) (Option.some Jvm.ClassFile.FieldType.boolean), Jvm.Cond.code ({ cls := "jdk/internal/util/ArraysSupport", name := "mismatch", desc := "([BI[BII)I" } : Jvm.MethodName) jdk_48_method_14_code (8 : Nat) (Option.some Jvm.ClassFile.FieldType.int), Jvm.Cond.code ({ cls := "java/lang/String", name := "endsWith", desc := "(Ljava/lang/String;)Z" } : Jvm.MethodName) jdk_42_method_77_code (2 : Nat) (Option.some Jvm.ClassFile.FieldType.boolean), Jvm.Cond.code ({ cls := "java/lang/String", name := "substring", desc := "(II)Ljava/lang/String;" } : Jvm.MethodName) jdk_42_method_92_code (5 : Nat) (Option.some (Jvm.ClassFile.FieldType.object "java/lang/String")), Jvm.Cond.code ({ cls := "java/lang/String", name := "checkBoundsBeginEnd", desc := "(III)V" } : Jvm.MethodName) jdk_42_method_158_code (3 : Nat) (Option.none : Option Jvm.ClassFile.FieldType), Jvm.Cond.code ({ cls := "jdk/internal/util/Preconditions", name := "checkFromToIndex", desc := "(IIILjava/util/function/BiFunction;)I" } : Jvm.MethodName) jdk_41_method_12_code (4 : Nat) (Option.some Jvm.ClassFile.FieldType.int), Jvm.Cond.code ({ cls := "java/lang/StringLatin1", name := "newString", desc := "([BII)Ljava/lang/String;" } : Jvm.MethodName) jdk_43_method_47_code (3 : Nat) (Option.some (Jvm.ClassFile.FieldType.object "java/lang/String")), Jvm.Cond.code ({ cls := "java/lang/StringLatin1", name := "indexOf", desc := "([BI[BII)I" } : Jvm.MethodName) jdk_43_method_25_code (11 : Nat) (Option.some Jvm.ClassFile.FieldType.int), Jvm.Cond.code ({ cls := "java/lang/StringUTF16", name := "toBytes", desc := "([CII)[B" } : Jvm.MethodName) jdk_52_method_14_code (5 : Nat) (Option.some (Jvm.ClassFile.FieldType.array Jvm.ClassFile.FieldType.byte)), Jvm.Cond.code ({ cls := "java/lang/StringUTF16", name := "newBytesFor", desc := "(I)[B" } : Jvm.MethodName) jdk_52_method_2_code (1 : Nat) (Option.some (Jvm.ClassFile.FieldType.array Jvm.ClassFile.FieldType.byte)), Jvm.Cond.code ({ cls := "java/lang/StringUTF16", name := "newBytesLength", desc := "(I)I" } : Jvm.MethodName) jdk_52_method_3_code (1 : Nat) (Option.some Jvm.ClassFile.FieldType.int), Jvm.Cond.code ({ cls := "java/lang/StringUTF16", name := "putChar", desc := "([BII)V" } : Jvm.MethodName) jdk_52_method_4_code (3 : Nat) (Option.none : Option Jvm.ClassFile.FieldType), Jvm.Cond.code ({ cls := "java/lang/StringUTF16", name := "getChar", desc := "([BI)C" } : Jvm.MethodName) jdk_52_method_5_code (2 : Nat) (Option.some Jvm.ClassFile.FieldType.char), Jvm.Cond.code ({ cls := "java/lang/StringUTF16", name := "newString", desc := "([BII)Ljava/lang/String;" } : Jvm.MethodName) jdk_52_method_69_code (5 : Nat) (Option.some (Jvm.ClassFile.FieldType.object "java/lang/String")), Jvm.Cond.code ({ cls := "java/lang/StringUTF16", name := "compress", desc := "([BII)[B" } : Jvm.MethodName) jdk_52_method_17_code (6 : Nat) (Option.some (Jvm.ClassFile.FieldType.array Jvm.ClassFile.FieldType.byte)), Jvm.Cond.code ({ cls := "java/lang/StringUTF16", name := "compress", desc := "([BI[BII)I" } : Jvm.MethodName) jdk_52_method_22_code (7 : Nat) (Option.some Jvm.ClassFile.FieldType.int), Jvm.Cond.code ({ cls := "java/lang/StringUTF16", name := "checkBoundsOffCount", desc := "(II[B)V" } : Jvm.MethodName) jdk_52_method_94_code (3 : Nat) (Option.none : Option Jvm.ClassFile.FieldType), Jvm.Cond.code ({ cls := "java/lang/StringUTF16", name := "length", desc := "([B)I" } : Jvm.MethodName) jdk_52_method_6_code (1 : Nat) (Option.some Jvm.ClassFile.FieldType.int), Jvm.Cond.code ({ cls := "java/lang/String", name := "checkBoundsOffCount", desc := "(III)I" } : Jvm.MethodName) jdk_42_method_157_code (3 : Nat) (Option.some Jvm.ClassFile.FieldType.int), Jvm.Cond.code ({ cls := "jdk/internal/util/Preconditions", name := "checkFromIndexSize", desc := "(IIILjava/util/function/BiFunction;)I" } : Jvm.MethodName) jdk_41_method_13_code (4 : Nat) (Option.some Jvm.ClassFile.FieldType.int), Jvm.Cond.code ({ cls := "java/lang/StringUTF16", name := "indexOfLatin1", desc := "([B[B)I" } : Jvm.MethodName) jdk_52_method_44_code (2 : Nat) (Option.some Jvm.ClassFile.FieldType.int), Jvm.Cond.code ({ cls := "java/lang/StringUTF16", name := "indexOfLatin1Unsafe", desc := "([BI[BII)I" } : Jvm.MethodName) jdk_52_method_46_code (11 : Nat) (Option.some Jvm.ClassFile.FieldType.int), Jvm.Cond.code ({ cls := "java/lang/AbstractStringBuilder", name := "inflate", desc := "()V" } : Jvm.MethodName) jdk_68_method_11_code (2 : Nat) (Option.none : Option Jvm.ClassFile.FieldType), Jvm.Cond.code ({ cls := "java/lang/StringLatin1", name := "inflate", desc := "([BI[BII)V" } : Jvm.MethodName) jdk_43_method_50_code (5 : Nat) (Option.none : Option Jvm.ClassFile.FieldType), Jvm.Cond.code ({ cls := "java/lang/StringUTF16", name := "inflate", desc := "([BI[BII)V" } : Jvm.MethodName) jdk_52_method_86_code (6 : Nat) (Option.none : Option Jvm.ClassFile.FieldType)]
set_option maxRecDepth 65536 in
theorem codes_eq : words1.filter isCode = codes1 := rfl
theorem w_codes : ∀ c ∈ words1.filter isCode, c.before args0 about1 = true := by
  rw [codes_eq]
  intro c hc
  simp only [codes1, List.mem_cons, List.not_mem_nil, or_false] at hc
  rcases hc with rfl | rfl | rfl | rfl | rfl | rfl | rfl | rfl | rfl | rfl | rfl | rfl | rfl | rfl | rfl | rfl | rfl | rfl | rfl | rfl | rfl | rfl | rfl | rfl | rfl | rfl | rfl | rfl | rfl | rfl | rfl | rfl | rfl | rfl | rfl | rfl | rfl | rfl | rfl | rfl | rfl | rfl | rfl | rfl | rfl | rfl | rfl | rfl | rfl | rfl | rfl | rfl | rfl | rfl | rfl | rfl | rfl | rfl | rfl | rfl | rfl | rfl | rfl | rfl | rfl | rfl | rfl | rfl | rfl | rfl | rfl | rfl | rfl | rfl | rfl | rfl
  · exact w_c0
  · exact w_c1
  · exact w_c2
  · exact w_c3
  · exact w_c4
  · exact w_c5
  · exact w_c6
  · exact w_c7
  · exact w_c8
  · exact w_c9
  · exact w_c10
  · exact w_c11
  · exact w_c12
  · exact w_c13
  · exact w_c14
  · exact w_c15
  · exact w_c16
  · exact w_c17
  · exact w_c18
  · exact w_c19
  · exact w_c20
  · exact w_c21
  · exact w_c22
  · exact w_c23
  · exact w_c24
  · exact w_c25
  · exact w_c26
  · exact w_c27
  · exact w_c28
  · exact w_c29
  · exact w_c30
  · exact w_c31
  · exact w_c32
  · exact w_c33
  · exact w_c34
  · exact w_c35
  · exact w_c36
  · exact w_c37
  · exact w_c38
  · exact w_c39
  · exact w_c40
  · exact w_c41
  · exact w_c42
  · exact w_c43
  · exact w_c44
  · exact w_c45
  · exact w_c46
  · exact w_c47
  · exact w_c48
  · exact w_c49
  · exact w_c50
  · exact w_c51
  · exact w_c52
  · exact w_c53
  · exact w_c54
  · exact w_c55
  · exact w_c56
  · exact w_c57
  · exact w_c58
  · exact w_c59
  · exact w_c60
  · exact w_c61
  · exact w_c62
  · exact w_c63
  · exact w_c64
  · exact w_c65
  · exact w_c66
  · exact w_c67
  · exact w_c68
  · exact w_c69
  · exact w_c70
  · exact w_c71
  · exact w_c72
  · exact w_c73
  · exact w_c74
  · exact w_c75
set_option maxRecDepth 65536 in
theorem w_t1 : (words1.take 24).all (fun c => isCode c || c.before args0 about1) = true := by decide +kernel
set_option maxRecDepth 65536 in
theorem w_t2 : ((words1.drop 24).take 24).all (fun c => isCode c || c.before args0 about1) = true := by decide +kernel
set_option maxRecDepth 65536 in
theorem w_t3 : (((words1.drop 24).drop 24).take 24).all (fun c => isCode c || c.before args0 about1) = true := by decide +kernel
set_option maxRecDepth 65536 in
theorem w_t4 : ((((words1.drop 24).drop 24).drop 24).take 24).all (fun c => isCode c || c.before args0 about1) = true := by decide +kernel
set_option maxRecDepth 65536 in
theorem w_t5 : (((((words1.drop 24).drop 24).drop 24).drop 24).take 24).all (fun c => isCode c || c.before args0 about1) = true := by decide +kernel
set_option maxRecDepth 65536 in
theorem w_t6 : ((((((words1.drop 24).drop 24).drop 24).drop 24).drop 24).take 24).all (fun c => isCode c || c.before args0 about1) = true := by decide +kernel
set_option maxRecDepth 65536 in
theorem w_t7 : (((((((words1.drop 24).drop 24).drop 24).drop 24).drop 24).drop 24).take 24).all (fun c => isCode c || c.before args0 about1) = true := by decide +kernel
set_option maxRecDepth 65536 in
theorem w_t8 : ((((((((words1.drop 24).drop 24).drop 24).drop 24).drop 24).drop 24).drop 24).take 24).all (fun c => isCode c || c.before args0 about1) = true := by decide +kernel
set_option maxRecDepth 65536 in
theorem w_t9 : (((((((((words1.drop 24).drop 24).drop 24).drop 24).drop 24).drop 24).drop 24).drop 24).take 24).all (fun c => isCode c || c.before args0 about1) = true := by decide +kernel
set_option maxRecDepth 65536 in
theorem w_t10 : ((((((((((words1.drop 24).drop 24).drop 24).drop 24).drop 24).drop 24).drop 24).drop 24).drop 24).take 24).all (fun c => isCode c || c.before args0 about1) = true := by decide +kernel
set_option maxRecDepth 65536 in
theorem w_t11 : (((((((((((words1.drop 24).drop 24).drop 24).drop 24).drop 24).drop 24).drop 24).drop 24).drop 24).drop 24).take 24).all (fun c => isCode c || c.before args0 about1) = true := by decide +kernel
set_option maxRecDepth 65536 in
theorem w_t12 : ((((((((((((words1.drop 24).drop 24).drop 24).drop 24).drop 24).drop 24).drop 24).drop 24).drop 24).drop 24).drop 24).take 24).all (fun c => isCode c || c.before args0 about1) = true := by decide +kernel
set_option maxRecDepth 65536 in
theorem w_t13 : (((((((((((((words1.drop 24).drop 24).drop 24).drop 24).drop 24).drop 24).drop 24).drop 24).drop 24).drop 24).drop 24).drop 24).take 24).all (fun c => isCode c || c.before args0 about1) = true := by decide +kernel
set_option maxRecDepth 65536 in
theorem w_t14 : ((((((((((((((words1.drop 24).drop 24).drop 24).drop 24).drop 24).drop 24).drop 24).drop 24).drop 24).drop 24).drop 24).drop 24).drop 24).take 24).all (fun c => isCode c || c.before args0 about1) = true := by decide +kernel
set_option maxRecDepth 65536 in
theorem w_t15 : (((((((((((((((words1.drop 24).drop 24).drop 24).drop 24).drop 24).drop 24).drop 24).drop 24).drop 24).drop 24).drop 24).drop 24).drop 24).drop 24).take 24).all (fun c => isCode c || c.before args0 about1) = true := by decide +kernel
set_option maxRecDepth 65536 in
theorem w_t16 : (((((((((((((((words1.drop 24).drop 24).drop 24).drop 24).drop 24).drop 24).drop 24).drop 24).drop 24).drop 24).drop 24).drop 24).drop 24).drop 24).drop 24).all (fun c => isCode c || c.before args0 about1) = true := by decide +kernel
theorem w_tables : (allAtoms (Jvm.Cond.code x code maxLocals ret :: tables_1)).before args0 about1 = true := by
  rw [allAtoms_all]
  show words1.all (fun c => c.before args0 about1) = true
  refine all_split ?_ w_codes
  rw [← List.take_append_drop 24 words1, List.all_append, w_t1, ← List.take_append_drop 24 (words1.drop 24), List.all_append, w_t2, ← List.take_append_drop 24 ((words1.drop 24).drop 24), List.all_append, w_t3, ← List.take_append_drop 24 (((words1.drop 24).drop 24).drop 24), List.all_append, w_t4, ← List.take_append_drop 24 ((((words1.drop 24).drop 24).drop 24).drop 24), List.all_append, w_t5, ← List.take_append_drop 24 (((((words1.drop 24).drop 24).drop 24).drop 24).drop 24), List.all_append, w_t6, ← List.take_append_drop 24 ((((((words1.drop 24).drop 24).drop 24).drop 24).drop 24).drop 24), List.all_append, w_t7, ← List.take_append_drop 24 (((((((words1.drop 24).drop 24).drop 24).drop 24).drop 24).drop 24).drop 24), List.all_append, w_t8, ← List.take_append_drop 24 ((((((((words1.drop 24).drop 24).drop 24).drop 24).drop 24).drop 24).drop 24).drop 24), List.all_append, w_t9, ← List.take_append_drop 24 (((((((((words1.drop 24).drop 24).drop 24).drop 24).drop 24).drop 24).drop 24).drop 24).drop 24), List.all_append, w_t10, ← List.take_append_drop 24 ((((((((((words1.drop 24).drop 24).drop 24).drop 24).drop 24).drop 24).drop 24).drop 24).drop 24).drop 24), List.all_append, w_t11, ← List.take_append_drop 24 (((((((((((words1.drop 24).drop 24).drop 24).drop 24).drop 24).drop 24).drop 24).drop 24).drop 24).drop 24).drop 24), List.all_append, w_t12, ← List.take_append_drop 24 ((((((((((((words1.drop 24).drop 24).drop 24).drop 24).drop 24).drop 24).drop 24).drop 24).drop 24).drop 24).drop 24).drop 24), List.all_append, w_t13, ← List.take_append_drop 24 (((((((((((((words1.drop 24).drop 24).drop 24).drop 24).drop 24).drop 24).drop 24).drop 24).drop 24).drop 24).drop 24).drop 24).drop 24), List.all_append, w_t14, ← List.take_append_drop 24 ((((((((((((((words1.drop 24).drop 24).drop 24).drop 24).drop 24).drop 24).drop 24).drop 24).drop 24).drop 24).drop 24).drop 24).drop 24).drop 24), List.all_append, w_t15, w_t16]
  rfl
set_option maxRecDepth 65536 in
theorem w_rest : rest_1_c.before args0 about1 = true := by decide +kernel
set_option maxRecDepth 65536 in
theorem w_case : (Jvm.Cond.and given_1 narrow_1).before args0 about1 = true := by decide +kernel
set_option maxRecDepth 65536 in
theorem w_consts : constsHeld consts_1 about1 := Jvm.Lit.constsHeldB_iff.mp (by decide +kernel)
theorem w_applies : (headSpec (Jvm.Cond.code x code maxLocals ret :: tables_1) room_1).applies x e0.platform about1 = true :=
  (Spec.applies_iff w_frames).mpr ⟨w_running, w_runnable, w_alone, w_named, w_hears, w_ripe, w_room, w_tables⟩
theorem atStart : AtStart classFile x code maxLocals ret World_1 tables_1 room_1 Calls_1 rest_1 Pre_1 launch0 p0 e0 about1 theMethod args0 below0 :=
  ⟨lists_1, trivial, launch0.admits_env _ _ _, launch0.least_env, fairChoices_fair.cas, fairChoices_fair.clock, w_frames, w_args, w_heap, w_applies, ⟨w_consts, trivial⟩, w_rest, w_case⟩
end start1
theorem witness_1 : WitnessClaimed_1 := ⟨start1.p0, start1.e0, start1.about1, start1.theMethod, start1.args0, start1.below0, start1.atStart⟩
end Jvm.Pilot.@@N@@
