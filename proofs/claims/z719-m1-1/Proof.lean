import JvmDerived
import JvmDerived.Pilot.@@N@@Statement
import JvmDerived.Pilot.@@N@@Code
set_option linter.unusedVariables false
set_option linter.unusedSimpArgs false
namespace Jvm.Pilot.@@N@@
open Jvm Jvm.ClassFile Sem Op Lib Jvm.Free Jvm.Stand Jvm.LawKit Jvm.RoadKit Bundle Jvm.Pilot.@@N@@.Jvm.D
section OwnGo
variable {p : Program} {l : Launch} {e : Env} {R : Room} {s : State} {m : MethodId} {args : Array Value} {below : List Frame} {meth : Method} {c : Code} {T T' : State} {locs : List Loc} {cells slots : Nat} {f f' : JFrame} {P : Outcome → State → Prop}
/-- what is left of a body's run: from the state T with the frame f on top it ends, and P holds of the end -/
def own_Go (p : Program) (e : Env) (below : List Frame) (T : State) (f : JFrame) (P : Outcome → State → Prop) : Prop :=
  ∃ s₂ o, Steps p.tables e below (T.setTop f) s₂ ∧ s₂.status = .running ∧ Ended s₂ below o ∧ P o s₂
theorem own_step (h : ∀ t, Steps p.tables e below (T'.setTop f') t → Steps p.tables e below (T.setTop f) t) (k : own_Go p e below T' f' P) : own_Go p e below T f P := by
  obtain ⟨s₂, o, a, b, c, d⟩ := k
  exact ⟨s₂, o, h _ a, b, c, d⟩
theorem own_Go.cast (q : f = f') (k : own_Go p e below T f' P) : own_Go p e below T f P := q ▸ k
theorem own_done (X : Stand p l e R s m args below meth c T locs cells slots) {v : Option Value} {Q : Option Value → Heap → List Loc → Prop} {C S : Nat} (hlk : meth.locks = false) (hv : meth.sig.returnType = none → v = none)
    (hs : ∀ fs, (∀ (f : JFrame) (acts : List Action), f.method = m → f.locked = none → f.entered = [] → (doReturn e (T.setTop f) acts v).1 = T.setFrames fs) → Steps p.tables e below (T.setTop f) (T.setFrames fs))
    (hC : cells ≤ C) (hS : slots ≤ S) (hQ : Q v T.heap locs) : own_Go p e below T f (fun o U' => ∃ v L, o = .returned v ∧ Q v U'.heap L ∧ FrameEnd s o U' L C S) := by
  obtain ⟨fs, hr, hrun, hended, hW, hsame⟩ := X.leave (v := v) hv hlk
  exact ⟨_, _, hs fs hr, hrun, hended, _, _, rfl, hQ, ⟨_, rfl⟩, hW, hsame.mono hC hS⟩
theorem own_retZ (X : Stand p l e R s m args below meth c T locs cells slots) (hx : p.tables.exec = Jvm.exec) {pc : Nat} {Ls : Array Slot} {z : Int32} {rest : List Value} {Q : Option Value → Heap → List Loc → Prop} {C S : Nat}
    (hret : meth.sig.returnType = some .boolean) (hlk : meth.locks = false) (hd : decode c.code pc = .ok (.ireturn, 1)) (hC : cells ≤ C) (hS : slots ≤ S) (hQ : Q (some (.int (nar .boolean z))) T.heap locs) :
    own_Go p e below T (mkF m pc Ls (.int z :: rest)) (fun o U' => ∃ v L, o = .returned v ∧ Q v U'.heap L ∧ FrameEnd s o U' L C S) :=
  own_done X hlk (fun h => by rw [hret] at h; cases h) (fun fs hr => retN X hx (t := .boolean) hret (by simp) hd hr) hC hS hQ
theorem own_retI (X : Stand p l e R s m args below meth c T locs cells slots) (hx : p.tables.exec = Jvm.exec) {pc : Nat} {Ls : Array Slot} {z : Int32} {rest : List Value} {Q : Option Value → Heap → List Loc → Prop} {C S : Nat}
    (hret : meth.sig.returnType = some .int) (hlk : meth.locks = false) (hd : decode c.code pc = .ok (.ireturn, 1)) (hC : cells ≤ C) (hS : slots ≤ S) (hQ : Q (some (.int z)) T.heap locs) :
    own_Go p e below T (mkF m pc Ls (.int z :: rest)) (fun o U' => ∃ v L, o = .returned v ∧ Q v U'.heap L ∧ FrameEnd s o U' L C S) :=
  own_done X hlk (fun h => by rw [hret] at h; cases h) (fun fs hr => retOut X hx hret rfl (Or.inl ⟨rfl, Or.inl rfl, _, rfl⟩) hd hr) hC hS hQ
theorem own_retJ (X : Stand p l e R s m args below meth c T locs cells slots) (hx : p.tables.exec = Jvm.exec) {pc : Nat} {Ls : Array Slot} {z : Int64} {rest : List Value} {Q : Option Value → Heap → List Loc → Prop} {C S : Nat}
    (hret : meth.sig.returnType = some .long) (hlk : meth.locks = false) (hd : decode c.code pc = .ok (.lreturn, 1)) (hC : cells ≤ C) (hS : slots ≤ S) (hQ : Q (some (.long z)) T.heap locs) :
    own_Go p e below T (mkF m pc Ls (.long z :: rest)) (fun o U' => ∃ v L, o = .returned v ∧ Q v U'.heap L ∧ FrameEnd s o U' L C S) :=
  own_done X hlk (fun h => by rw [hret] at h; cases h) (fun fs hr => retOut X hx hret rfl (Or.inr (Or.inl ⟨rfl, rfl, _, rfl⟩)) hd hr) hC hS hQ
theorem own_retA (X : Stand p l e R s m args below meth c T locs cells slots) (hx : p.tables.exec = Jvm.exec) {pc : Nat} {Ls : Array Slot} {a : Addr} {ty : FieldType} {rest : List Value} {Q : Option Value → Heap → List Loc → Prop} {C S : Nat}
    (hret : meth.sig.returnType = some (.array ty)) (hlk : meth.locks = false) (hd : decode c.code pc = .ok (.areturn, 1)) (hC : cells ≤ C) (hS : slots ≤ S) (hQ : Q (some (.ref a)) T.heap locs) :
    own_Go p e below T (mkF m pc Ls (.ref a :: rest)) (fun o U' => ∃ v L, o = .returned v ∧ Q v U'.heap L ∧ FrameEnd s o U' L C S) :=
  own_done X hlk (fun h => by rw [hret] at h; cases h) (fun fs hr => retOut X hx hret rfl (Or.inr (Or.inr (Or.inr (Or.inr ⟨rfl, rfl, rfl⟩)))) hd hr) hC hS hQ
theorem own_retV (X : Stand p l e R s m args below meth c T locs cells slots) (hx : p.tables.exec = Jvm.exec) {pc : Nat} {Ls : Array Slot} {Q : Option Value → Heap → List Loc → Prop} {C S : Nat}
    (hret : meth.sig.returnType = none) (hlk : meth.locks = false) (hd : decode c.code pc = .ok (.return_, 1)) (hC : cells ≤ C) (hS : slots ≤ S) (hQ : Q none T.heap locs) :
    own_Go p e below T (mkF m pc Ls []) (fun o U' => ∃ v L, o = .returned v ∧ Q v U'.heap L ∧ FrameEnd s o U' L C S) :=
  own_done X hlk (fun _ => rfl) (fun fs hr => X.returnOut hx hret hd hr) hC hS hQ
end OwnGo
/-- what the law leaves -/
def own_QL (n0 : Nat) (v : Option Value) (h : Heap) (L : List Loc) : Prop := v = some (.int 1) ∧ Fr n0 L
section OwnArr
variable {p : Program} {l : Launch} {e : Env} {R : Room} {s : State} {m : MethodId} {args : Array Value} {below : List Frame} {meth : Method} {c : Code} {T : State} {locs : List Loc} {cells slots : Nat} {Z : State} {h h' : Heap} {a b : Addr} {ty : FieldType} {n i sl : Nat} {f : Nat → Value} {v w : Value} {ws : List Addr} {j x z : Int32}
def own_upd (f : Nat → Value) (i : Nat) (v : Value) : Nat → Value := fun k => if k = i then v else f k
theorem own_upd_hit (f : Nat → Value) (i : Nat) (v : Value) : own_upd f i v i = v := if_pos rfl
theorem own_upd_miss (f : Nat → Value) {i k : Nat} (v : Value) (q : k ≠ i) : own_upd f i v k = f k := if_neg q
/-- an array of n places, place i holding f i -/
def own_A (Z : State) (h : Heap) (a : Addr) (ty : FieldType) (n : Nat) (f : Nat → Value) : Prop := ∃ c : Cell, Arr Z h a c ty ∧ c.slots.size = n ∧ ∀ i, i < n → c.slots[i]? = some (f i)
theorem own_A.lt (F : own_A Z h a ty n f) : a < h.size := by obtain ⟨c, A, -⟩ := F; exact A.lt
theorem own_A.ext (F : own_A Z h a ty n f) (E : Ext h h') : own_A Z h' a ty n f := by obtain ⟨c, A, r⟩ := F; exact ⟨c, A.ext E, r⟩
theorem own_A.other (F : own_A Z h b ty n f) (W : Wr h h' a sl v) (q : b ≠ a) : own_A Z h' b ty n f := by obtain ⟨c, A, r⟩ := F; exact ⟨c, A.other W q, r⟩
theorem own_A.keep (F : own_A Z h a ty n f) (K : Keep h h' ws) (q : a ∉ ws) : own_A Z h' a ty n f := by obtain ⟨c, A, r⟩ := F; exact ⟨c, ⟨K.2.1 a c A.1 q, A.2⟩, r⟩
theorem own_A.new {k : ClassId} {z : Int32} (A : Arr Z h a (newA k ty z) ty) (q : z.toNatClampNeg = n) : own_A Z h a ty n (fun _ => defaultValue ty) := ⟨_, A, by rw [sz_new]; exact q, fun i hi => by
  have hi' : i < z.toNatClampNeg := by rw [q]; exact hi
  simp [newA, hi']⟩
theorem own_A.put (F : own_A Z h a ty n f) (W : Wr h h' a i v) (hi : i < n) : own_A Z h' a ty n (own_upd f i v) := by
  obtain ⟨c, A, S, H⟩ := F
  refine ⟨_, A.same W, by rw [sz_set]; exact S, fun k hk => ?_⟩
  by_cases u : k = i
  · subst u; rw [own_upd_hit]; simp [Cell.setSlot, S, hi]
  · rw [own_upd_miss _ _ u, ← H k hk]; simp only [Cell.setSlot]; exact Array.getElem?_setIfInBounds_ne (Ne.symm u)
theorem own_A.cong {g : Nat → Value} (F : own_A Z h a ty n f) (q : ∀ i, i < n → f i = g i) : own_A Z h a ty n g := by
  obtain ⟨c, A, S, H⟩ := F; exact ⟨c, A, S, fun i hi => by rw [H i hi, q i hi]⟩
def own_at (j : Int32) (i : Nat) : Prop := ¬ j < 0 ∧ j.toNatClampNeg = i
theorem own_at_lit (q : j.toNatClampNeg = i) (r : ¬ j < 0) : own_at j i := ⟨r, q⟩
theorem own_at_int (q : j.toInt = (i : Int)) : own_at j i := by
  refine ⟨?_, ?_⟩
  · rw [Int32.lt_iff_toInt_lt, q, show (0 : Int32).toInt = 0 from rfl]; omega
  · simp only [Int32.toNatClampNeg, q]; rfl
theorem own_in {c : Cell} (hj : own_at j i) (S : c.slots.size = n) (hi : i < n) : ¬ (j < 0 ∨ c.slots.size ≤ j.toNatClampNeg) := by
  rintro (q | q)
  · exact hj.1 q
  · rw [hj.2, S] at q; omega
theorem own_ldI (X : Stand p l e R s m args below meth c T locs cells slots) (hx : p.tables.exec = Jvm.exec) (hZ : Z.Warmed39 s.vm) (eT : T.heap = h) (A : own_A Z h a .int n f) (hj : own_at j i) (hi : i < n) {v : Int32} (hv : f i = .int v) {g : JFrame} (hg : g.method = m) {rest : List Value} (hs : g.stack = .int j :: .ref a :: rest) (hd : decode c.code g.pc = .ok (.iaload, 1)) :
    ∀ target, Steps p.tables e below (T.setTop { g with pc := g.pc + 1, stack := .int v :: rest }) target → Steps p.tables e below (T.setTop g) target := by
  obtain ⟨cl, Ar, S, H⟩ := A
  exact X.iaload hx (j := j) (v := .int v) (by rw [eT]; exact Ar.1) (State.isArrayOf_alike hZ.alike Ar.2.1) Ar.2.2 (own_in hj S hi) (by rw [hj.2, H i hi, hv]) (g := g) hg hs hd
theorem own_ldJ (X : Stand p l e R s m args below meth c T locs cells slots) (hx : p.tables.exec = Jvm.exec) (hZ : Z.Warmed39 s.vm) (eT : T.heap = h) (A : own_A Z h a .long n f) (hj : own_at j i) (hi : i < n) {v : Int64} (hv : f i = .long v) {g : JFrame} (hg : g.method = m) {rest : List Value} (hs : g.stack = .int j :: .ref a :: rest) (hd : decode c.code g.pc = .ok (.laload, 1)) :
    ∀ target, Steps p.tables e below (T.setTop { g with pc := g.pc + 1, stack := .long v :: rest }) target → Steps p.tables e below (T.setTop g) target := by
  obtain ⟨cl, Ar, S, H⟩ := A
  exact X.laload hx (j := j) (v := .long v) (by rw [eT]; exact Ar.1) (State.isArrayOf_alike hZ.alike Ar.2.1) Ar.2.2 (own_in hj S hi) (by rw [hj.2, H i hi, hv]) (g := g) hg hs hd
theorem own_ldB (X : Stand p l e R s m args below meth c T locs cells slots) (hx : p.tables.exec = Jvm.exec) (hZ : Z.Warmed39 s.vm) (eT : T.heap = h) (A : own_A Z h a .byte n f) (hj : own_at j i) (hi : i < n) {v : Int32} (hv : f i = .int v) {g : JFrame} (hg : g.method = m) {rest : List Value} (hs : g.stack = .int j :: .ref a :: rest) (hd : decode c.code g.pc = .ok (.baload, 1)) :
    ∀ target, Steps p.tables e below (T.setTop { g with pc := g.pc + 1, stack := .int v :: rest }) target → Steps p.tables e below (T.setTop g) target := by
  obtain ⟨cl, Ar, S, H⟩ := A
  exact X.baloadBytes hx (j := j) (v := .int v) (by rw [eT]; exact Ar.1) (State.isArrayOf_alike hZ.alike Ar.2.1) Ar.2.2 (own_in hj S hi) (by rw [hj.2, H i hi, hv]) (g := g) hg hs hd
theorem own_alen (X : Stand p l e R s m args below meth c T locs cells slots) (hx : p.tables.exec = Jvm.exec) (hZ : Z.Warmed39 s.vm) (eT : T.heap = h) (A : own_A Z h a ty n f) (hz : n.toInt32 = z) {g : JFrame} (hg : g.method = m) {rest : List Value} (hs : g.stack = .ref a :: rest) (hd : decode c.code g.pc = .ok (.arraylength, 1)) :
    ∀ target, Steps p.tables e below (T.setTop { g with pc := g.pc + 1, stack := .int z :: rest }) target → Steps p.tables e below (T.setTop g) target := by
  obtain ⟨cl, Ar, S, H⟩ := A
  subst hz
  rw [← S]
  exact X.arraylength hx (by rw [eT]; exact Ar.1) (State.isArrayOf_alike hZ.alike Ar.2.1) (g := g) hg hs hd
theorem own_stI (X : Stand p l e R s m args below meth c T locs cells slots) (hx : p.tables.exec = Jvm.exec) (hZ : Z.Warmed39 s.vm) (eT : T.heap = h) (A : own_A Z h a .int n f) (hj : own_at j i) (hi : i < n) {g : JFrame} (hg : g.method = m) {rest : List Value} (hs : g.stack = .int x :: .int j :: .ref a :: rest) (hd : decode c.code g.pc = .ok (.iastore, 1)) :
    ∃ T' h', Stand p l e R s m args below meth c T' (locs ++ [⟨a, i⟩]) cells slots ∧ T'.heap = h' ∧ Wr h h' a i (.int x) ∧ own_A Z h' a .int n (own_upd f i (.int x)) ∧ ∀ target, Steps p.tables e below (T'.setTop { g with pc := g.pc + 1, stack := rest }) target → Steps p.tables e below (T.setTop g) target := by
  obtain ⟨cl, Ar, S, H⟩ := A
  obtain ⟨T', h', X', e', W, st⟩ := stI X hx hZ eT Ar (j := j) (own_in hj S hi) hg hs hd
  rw [hj.2] at X' W
  exact ⟨T', h', X', e', W, own_A.put ⟨cl, Ar, S, H⟩ W hi, st⟩
theorem own_stJ {x : Int64} (X : Stand p l e R s m args below meth c T locs cells slots) (hx : p.tables.exec = Jvm.exec) (hZ : Z.Warmed39 s.vm) (eT : T.heap = h) (A : own_A Z h a .long n f) (hj : own_at j i) (hi : i < n) {g : JFrame} (hg : g.method = m) {rest : List Value} (hs : g.stack = .long x :: .int j :: .ref a :: rest) (hd : decode c.code g.pc = .ok (.lastore, 1)) :
    ∃ T' h', Stand p l e R s m args below meth c T' (locs ++ [⟨a, i⟩]) cells slots ∧ T'.heap = h' ∧ Wr h h' a i (.long x) ∧ own_A Z h' a .long n (own_upd f i (.long x)) ∧ ∀ target, Steps p.tables e below (T'.setTop { g with pc := g.pc + 1, stack := rest }) target → Steps p.tables e below (T.setTop g) target := by
  obtain ⟨cl, Ar, S, H⟩ := A
  obtain ⟨T', h', X', e', W, st⟩ := stJ X hx hZ eT Ar (j := j) (own_in hj S hi) hg hs hd
  rw [hj.2] at X' W
  exact ⟨T', h', X', e', W, own_A.put ⟨cl, Ar, S, H⟩ W hi, st⟩
theorem own_stB (X : Stand p l e R s m args below meth c T locs cells slots) (hx : p.tables.exec = Jvm.exec) (hZ : Z.Warmed39 s.vm) (eT : T.heap = h) (A : own_A Z h a .byte n f) (hj : own_at j i) (hi : i < n) {g : JFrame} (hg : g.method = m) {rest : List Value} (hs : g.stack = .int x :: .int j :: .ref a :: rest) (hd : decode c.code g.pc = .ok (.bastore, 1)) :
    ∃ T' h', Stand p l e R s m args below meth c T' (locs ++ [⟨a, i⟩]) cells slots ∧ T'.heap = h' ∧ Wr h h' a i (.int (nar .byte x)) ∧ own_A Z h' a .byte n (own_upd f i (.int (nar .byte x))) ∧ ∀ target, Steps p.tables e below (T'.setTop { g with pc := g.pc + 1, stack := rest }) target → Steps p.tables e below (T.setTop g) target := by
  obtain ⟨cl, Ar, S, H⟩ := A
  obtain ⟨T', h', X', e', W, st⟩ := stB X hx hZ eT Ar (j := j) (own_in hj S hi) hg hs hd
  rw [hj.2] at X' W
  exact ⟨T', h', X', e', W, own_A.put ⟨cl, Ar, S, H⟩ W hi, st⟩
/-- a private method is selected by itself -/
theorem own_selp {a0 args' : Array Value} {y : MethodName} {kk : Nat} (hZ : Z.Warmed39 s.vm) (wp : (Cond.privateMethod y).before a0 Z = true) (wi : (Cond.instanceMethod y).before a0 Z = true) (wk : (Cond.instantiable y.cls kk).before a0 Z = true) (hy : y.cls ≠ "java/lang/invoke/MethodHandle" ∧ y.cls ≠ "java/lang/invoke/VarHandle") : (Cond.selects y.cls y y).before args' s = true := by
  obtain ⟨c2, k2, i1, i2, i3, i4, -⟩ := Cond.instantiable_spec (mvT hZ wk (args := args'))
  have hni : k2.isInterface = false := by simp only [Bool.or_eq_false_iff] at i4; exact i4.1
  exact Stand.selects_self_of_private i1 i2 hni (Cond.privateMethod_at (mvP hZ wp (args := args'))) (mvT hZ wi) hy
end OwnArr
theorem d1_0 : decode prog_56_method_9_code 0 = .ok (.lconst 0, 1) := by decide +kernel
theorem d1_1 : decode prog_56_method_9_code 1 = .ok (.lstore_n 3, 1) := by decide +kernel
theorem d1_2 : decode prog_56_method_9_code 2 = .ok (.iload_n 1, 1) := by decide +kernel
theorem d1_3 : decode prog_56_method_9_code 3 = .ok (.istore 5, 2) := by decide +kernel
theorem d1_5 : decode prog_56_method_9_code 5 = .ok (.iload 5, 2) := by decide +kernel
theorem d1_7 : decode prog_56_method_9_code 7 = .ok (.iload_n 2, 1) := by decide +kernel
theorem d1_8 : decode prog_56_method_9_code 8 = .ok (.if_icmp .ge 20, 3) := by decide +kernel
theorem d1_11 : decode prog_56_method_9_code 11 = .ok (.lload_n 3, 1) := by decide +kernel
theorem d1_12 : decode prog_56_method_9_code 12 = .ok (.aload_n 0, 1) := by decide +kernel
theorem d1_13 : decode prog_56_method_9_code 13 = .ok (.iload 5, 2) := by decide +kernel
theorem d1_15 : decode prog_56_method_9_code 15 = .ok (.laload, 1) := by decide +kernel
theorem d1_16 : decode prog_56_method_9_code 16 = .ok (.lxor, 1) := by decide +kernel
theorem d1_17 : decode prog_56_method_9_code 17 = .ok (.ldc2_w 102, 3) := by decide +kernel
theorem d1_20 : decode prog_56_method_9_code 20 = .ok (.lmul, 1) := by decide +kernel
theorem d1_21 : decode prog_56_method_9_code 21 = .ok (.lstore_n 3, 1) := by decide +kernel
theorem d1_22 : decode prog_56_method_9_code 22 = .ok (.iinc 5 1, 3) := by decide +kernel
theorem d1_25 : decode prog_56_method_9_code 25 = .ok (.goto (-20), 3) := by decide +kernel
theorem d1_28 : decode prog_56_method_9_code 28 = .ok (.lload_n 3, 1) := by decide +kernel
theorem d1_29 : decode prog_56_method_9_code 29 = .ok (.lload_n 3, 1) := by decide +kernel
theorem d1_30 : decode prog_56_method_9_code 30 = .ok (.bipush 33, 2) := by decide +kernel
theorem d1_32 : decode prog_56_method_9_code 32 = .ok (.lushr, 1) := by decide +kernel
theorem d1_33 : decode prog_56_method_9_code 33 = .ok (.lxor, 1) := by decide +kernel
theorem d1_34 : decode prog_56_method_9_code 34 = .ok (.lstore_n 3, 1) := by decide +kernel
theorem d1_35 : decode prog_56_method_9_code 35 = .ok (.lload_n 3, 1) := by decide +kernel
theorem d1_36 : decode prog_56_method_9_code 36 = .ok (.ldc2_w 104, 3) := by decide +kernel
theorem d1_39 : decode prog_56_method_9_code 39 = .ok (.lmul, 1) := by decide +kernel
theorem d1_40 : decode prog_56_method_9_code 40 = .ok (.lstore_n 3, 1) := by decide +kernel
theorem d1_41 : decode prog_56_method_9_code 41 = .ok (.lload_n 3, 1) := by decide +kernel
theorem d1_42 : decode prog_56_method_9_code 42 = .ok (.lload_n 3, 1) := by decide +kernel
theorem d1_43 : decode prog_56_method_9_code 43 = .ok (.bipush 33, 2) := by decide +kernel
theorem d1_45 : decode prog_56_method_9_code 45 = .ok (.lushr, 1) := by decide +kernel
theorem d1_46 : decode prog_56_method_9_code 46 = .ok (.lxor, 1) := by decide +kernel
theorem d1_47 : decode prog_56_method_9_code 47 = .ok (.lstore_n 3, 1) := by decide +kernel
theorem d1_48 : decode prog_56_method_9_code 48 = .ok (.lload_n 3, 1) := by decide +kernel
theorem d1_49 : decode prog_56_method_9_code 49 = .ok (.ldc2_w 106, 3) := by decide +kernel
theorem d1_52 : decode prog_56_method_9_code 52 = .ok (.lmul, 1) := by decide +kernel
theorem d1_53 : decode prog_56_method_9_code 53 = .ok (.lstore_n 3, 1) := by decide +kernel
theorem d1_54 : decode prog_56_method_9_code 54 = .ok (.lload_n 3, 1) := by decide +kernel
theorem d1_55 : decode prog_56_method_9_code 55 = .ok (.lload_n 3, 1) := by decide +kernel
theorem d1_56 : decode prog_56_method_9_code 56 = .ok (.bipush 33, 2) := by decide +kernel
theorem d1_58 : decode prog_56_method_9_code 58 = .ok (.lushr, 1) := by decide +kernel
theorem d1_59 : decode prog_56_method_9_code 59 = .ok (.lxor, 1) := by decide +kernel
theorem d1_60 : decode prog_56_method_9_code 60 = .ok (.lstore_n 3, 1) := by decide +kernel
theorem d1_61 : decode prog_56_method_9_code 61 = .ok (.lload_n 3, 1) := by decide +kernel
theorem d1_62 : decode prog_56_method_9_code 62 = .ok (.l2i, 1) := by decide +kernel
theorem d1_63 : decode prog_56_method_9_code 63 = .ok (.ireturn, 1) := by decide +kernel
def own_fold (g : Nat → Int64) : Nat → Int64
  | 0 => (0 : Int64)
  | k + 1 => ((own_fold g k ^^^ g k) * (-7046029254386353131 : Int64))
def own_mx (x : Int64) : Int64 := (x ^^^ ((x.toUInt64 >>> ((33 : Int32) &&& 0x3f).toInt64.toUInt64).toInt64))
def own_fin (x : Int64) : Int32 := (own_mx (own_mx (own_mx x * (-49064778989728563 : Int64)) * (-4265268113053294909 : Int64))).toInt32
def own_g (a b c : Int64) (k : Nat) : Int64 := if k = 0 then a else if k = 1 then b else c
theorem own_lt3 {P : Nat → Prop} (h0 : P 0) (h1 : P 1) (h2 : P 2) : ∀ k, k < 3 → P k := fun k hk => by
  match k, hk with
  | 0, _ => exact h0
  | 1, _ => exact h1
  | 2, _ => exact h2
theorem own_lt2 {P : Nat → Prop} (h0 : P 0) (h1 : P 1) : ∀ k, k < 2 → P k := fun k hk => by
  match k, hk with
  | 0, _ => exact h0
  | 1, _ => exact h1
theorem own_lt1 {P : Nat → Prop} (h0 : P 0) : ∀ k, k < 1 → P k := fun k hk => by
  match k, hk with
  | 0, _ => exact h0
theorem own_lt0 {P : Nat → Prop} : ∀ k, k < 0 → P k := fun k hk => absurd hk (Nat.not_lt_zero k)
theorem own_n0 {x y : Int32} (h : y = (x &&& (3 : Int32))) (h3 : ¬ y = (3 : Int32)) (h2 : ¬ y = (2 : Int32)) (h1 : ¬ y = (1 : Int32)) : y = (0 : Int32) := by
  have e := c_mask x 3 2 (by decide) (by decide)
  rw [← h] at e
  rw [← Int32.toInt_inj] at *
  rw [show (3 : Int32).toInt = 3 from rfl] at h3; rw [show (2 : Int32).toInt = 2 from rfl] at h2; rw [show (1 : Int32).toInt = 1 from rfl] at h1
  rw [show (0 : Int32).toInt = 0 from rfl]; omega

set_option maxRecDepth 65536 in
set_option maxHeartbeats 40000000 in
theorem own_loop {p : Program} {l : Launch} {e : Env} {R : Room} {s : State} {m : MethodId} {args : Array Value} {below : List Frame} {meth : Method} {c : Code} {T0 : State} {locs : List Loc} {cells slots : Nat} {Z : State} {a0 : Array Value} {h0 : Heap} {P : Outcome → State → Prop} {a1 : Addr} {p2 p3 : Int32} {N lo cnt : Nat} {f : Nat → Value} {g : Nat → Int64} (X0 : Stand p l e R s m args below meth c T0 locs cells slots) (hx : p.tables.exec = Jvm.exec) (hZ : Z.Warmed39 s.vm) (hw : ∀ d ∈ tables_1, d.before a0 Z = true) (hby : c.code = prog_56_method_9_code) (hown : s.vm.findClass "com/example/guarantor/guarantor/automata/StateTable" = some m.cls) (e0 : T0.heap = h0) (VA : own_A Z h0 a1 .long N f) (hhi : p3.toInt = ((lo + cnt : Nat) : Int)) (hN : lo + cnt ≤ N) (hg : ∀ k, k < cnt → f (lo + k) = .long (g k)) :
    ∀ (d k : Nat) (i : Int32), k + d = cnt → i.toInt = ((lo + k : Nat) : Int) → own_Go p e below T0 (mkF m 28 #[.val (.ref a1), .val (.int p2), .val (.int p3), .val (.long (own_fold g cnt)), .second, .val (.int p3)] []) P →
      own_Go p e below T0 (mkF m 5 #[.val (.ref a1), .val (.int p2), .val (.int p3), .val (.long (own_fold g k)), .second, .val (.int i)] []) P := by
  intro d
  induction d with
  | zero =>
    intro k i hk hi kt
    obtain rfl : k = cnt := by omega
    obtain rfl : i = p3 := Int32.toInt_inj.mp (by rw [hi, hhi])
    have hlt : ¬ (i < i) := by rw [Int32.lt_iff_toInt_lt]; omega
    refine own_step (T' := T0) (f' := (mkF m 28 #[.val (.ref a1), .val (.int p2), .val (.int i), .val (.long (own_fold g k)), .second, .val (.int i)] [])) (fun tt kont => ?_) ?_
    · show Steps p.tables e below (T0.setTop (mkF m 5 #[.val (.ref a1), .val (.int p2), .val (.int i), .val (.long (own_fold g k)), .second, .val (.int i)] [])) _
      refine XS.iload X0.here hx rfl (hb hby d1_5) rfl ?_
      show Steps p.tables e below (T0.setTop (mkF m 7 #[.val (.ref a1), .val (.int p2), .val (.int i), .val (.long (own_fold g k)), .second, .val (.int i)] [(.int i)])) _
      refine XS.iloadN X0.here hx rfl (hb hby d1_7) rfl ?_
      show Steps p.tables e below (T0.setTop (mkF m 8 #[.val (.ref a1), .val (.int p2), .val (.int i), .val (.long (own_fold g k)), .second, .val (.int i)] [(.int i), (.int i)])) _
      refine XS.icmpYes X0.here hx rfl (pc0 := 8) (pc' := 28) rfl (hb hby d1_8) rfl (flt hlt).2.1 (by decide) (by decide) ?_
      exact kont
    exact kt
  | succ d ih =>
    intro k i hk hi kt
    have hlt : i < p3 := by rw [Int32.lt_iff_toInt_lt, hi, hhi]; omega
    have hi' : (i + (1 : Int32)).toInt = ((lo + (k + 1) : Nat) : Int) := by
      have a := c_iadd i 1; have b := rng32 (i + 1); have b' := rng32 p3; rw [show (1 : Int32).toInt = 1 from rfl] at a; omega
    refine own_step (T' := T0) (f' := (mkF m 15 #[.val (.ref a1), .val (.int p2), .val (.int p3), .val (.long (own_fold g k)), .second, .val (.int i)] [(.int i), (.ref a1), (.long (own_fold g k))])) (fun tt kont => ?_) ?_
    · show Steps p.tables e below (T0.setTop (mkF m 5 #[.val (.ref a1), .val (.int p2), .val (.int p3), .val (.long (own_fold g k)), .second, .val (.int i)] [])) _
      refine XS.iload X0.here hx rfl (hb hby d1_5) rfl ?_
      show Steps p.tables e below (T0.setTop (mkF m 7 #[.val (.ref a1), .val (.int p2), .val (.int p3), .val (.long (own_fold g k)), .second, .val (.int i)] [(.int i)])) _
      refine XS.iloadN X0.here hx rfl (hb hby d1_7) rfl ?_
      show Steps p.tables e below (T0.setTop (mkF m 8 #[.val (.ref a1), .val (.int p2), .val (.int p3), .val (.long (own_fold g k)), .second, .val (.int i)] [(.int p3), (.int i)])) _
      refine XS.icmpNo X0.here hx rfl (hb hby d1_8) rfl (tlt hlt).2.1 ?_
      show Steps p.tables e below (T0.setTop (mkF m 11 #[.val (.ref a1), .val (.int p2), .val (.int p3), .val (.long (own_fold g k)), .second, .val (.int i)] [])) _
      refine XS.lloadN X0.here hx rfl (hb hby d1_11) rfl ?_
      show Steps p.tables e below (T0.setTop (mkF m 12 #[.val (.ref a1), .val (.int p2), .val (.int p3), .val (.long (own_fold g k)), .second, .val (.int i)] [(.long (own_fold g k))])) _
      refine XS.aloadN X0.here hx rfl (hb hby d1_12) rfl rfl ?_
      show Steps p.tables e below (T0.setTop (mkF m 13 #[.val (.ref a1), .val (.int p2), .val (.int p3), .val (.long (own_fold g k)), .second, .val (.int i)] [(.ref a1), (.long (own_fold g k))])) _
      refine XS.iload X0.here hx rfl (hb hby d1_13) rfl ?_
      exact kont
    refine own_step (T' := T0) (f' := (mkF m 5 #[.val (.ref a1), .val (.int p2), .val (.int p3), .val (.long (((own_fold g k) ^^^ (g k)) * (-7046029254386353131 : Int64))), .second, .val (.int (i + (1 : Int32)))] [])) (fun tt kont => ?_) ?_
    · show Steps p.tables e below (T0.setTop (mkF m 15 #[.val (.ref a1), .val (.int p2), .val (.int p3), .val (.long (own_fold g k)), .second, .val (.int i)] [(.int i), (.ref a1), (.long (own_fold g k))])) _
      refine own_ldJ X0 hx hZ e0 VA (j := i) (i := (lo + k)) (own_at_int hi) (by omega) (v := (g k)) (hg k (by omega)) (g := (mkF m 15 #[.val (.ref a1), .val (.int p2), .val (.int p3), .val (.long (own_fold g k)), .second, .val (.int i)] [(.int i), (.ref a1), (.long (own_fold g k))])) rfl rfl (hb hby d1_15) _ ?_
      show Steps p.tables e below (T0.setTop (mkF m 16 #[.val (.ref a1), .val (.int p2), .val (.int p3), .val (.long (own_fold g k)), .second, .val (.int i)] [(.long (g k)), (.long (own_fold g k))])) _
      refine XS.lxor X0.here hx rfl (hb hby d1_16) rfl ?_
      show Steps p.tables e below (T0.setTop (mkF m 17 #[.val (.ref a1), .val (.int p2), .val (.int p3), .val (.long (own_fold g k)), .second, .val (.int i)] [(.long ((own_fold g k) ^^^ (g k)))])) _
      refine X0.ldc2Long hx hown (mvT hZ (hw _ (List.mem_of_getElem? (i := 5) rfl))) (g := (mkF m 17 #[.val (.ref a1), .val (.int p2), .val (.int p3), .val (.long (own_fold g k)), .second, .val (.int i)] [(.long ((own_fold g k) ^^^ (g k)))])) rfl (hb hby d1_17) _ ?_
      show Steps p.tables e below (T0.setTop (mkF m 20 #[.val (.ref a1), .val (.int p2), .val (.int p3), .val (.long (own_fold g k)), .second, .val (.int i)] [(.long (-7046029254386353131 : Int64)), (.long ((own_fold g k) ^^^ (g k)))])) _
      refine XS.lmul X0.here hx rfl (hb hby d1_20) rfl ?_
      show Steps p.tables e below (T0.setTop (mkF m 21 #[.val (.ref a1), .val (.int p2), .val (.int p3), .val (.long (own_fold g k)), .second, .val (.int i)] [(.long (((own_fold g k) ^^^ (g k)) * (-7046029254386353131 : Int64)))])) _
      refine XS.lstoreN X0.here hx rfl (hb hby d1_21) rfl (l' := #[.val (.ref a1), .val (.int p2), .val (.int p3), .val (.long (((own_fold g k) ^^^ (g k)) * (-7046029254386353131 : Int64))), .second, .val (.int i)]) rfl ?_
      show Steps p.tables e below (T0.setTop (mkF m 22 #[.val (.ref a1), .val (.int p2), .val (.int p3), .val (.long (((own_fold g k) ^^^ (g k)) * (-7046029254386353131 : Int64))), .second, .val (.int i)] [])) _
      refine XS.iinc X0.here hx rfl (hb hby d1_22) rfl (l' := #[.val (.ref a1), .val (.int p2), .val (.int p3), .val (.long (((own_fold g k) ^^^ (g k)) * (-7046029254386353131 : Int64))), .second, .val (.int (i + (1 : Int32)))]) rfl ?_
      show Steps p.tables e below (T0.setTop (mkF m 25 #[.val (.ref a1), .val (.int p2), .val (.int p3), .val (.long (((own_fold g k) ^^^ (g k)) * (-7046029254386353131 : Int64))), .second, .val (.int (i + (1 : Int32)))] [])) _
      refine XS.goto X0.here hx rfl (pc0 := 25) (pc' := 5) rfl (hb hby d1_25) (by decide) (by decide) ?_
      exact kont
    exact ih (k + 1) (i + (1 : Int32)) (by omega) hi' kt
theorem own_pn0 : plainName "com/example/guarantor/guarantor/automata/StateTable" = true := by first | (simp [plainName, overriddenIn]; done) | decide +kernel
theorem own_ef_own_rm1 (m : MethodId) (x0 : Addr) (x1 : Int32) (x2 : Int32) : entryFrame m #[(.ref x0), (.int x1), (.int x2)] 6 = mkF m 0 #[.val (.ref x0), .val (.int x1), .val (.int x2), .unset, .unset, .unset] [] := by first | (simp [entryFrame, mkF, argsToLocals, Value.category]; done) | rfl
def own_Q_rm1 (Z : State) (a1 : Addr) (p2 : Int32) (p3 : Int32) (N lo cnt : Nat) (f : Nat → Value) (g : Nat → Int64) (h0 : Heap) (n0 : Nat) (v : Option Value) (h : Heap) (L : List Loc) : Prop := v = some (.int (own_fin (own_fold g cnt))) ∧ Fr n0 L ∧ h = h0
set_option maxRecDepth 65536 in
set_option maxHeartbeats 40000000 in
theorem own_rm1 (l : Launch) (Z : State) (a0 : Array Value) (hw : ∀ d ∈ tables_1, d.before a0 Z = true) (a1 : Addr) (p2 : Int32) (p3 : Int32) (N lo cnt : Nat) (f : Nat → Value) (g : Nat → Int64) (h0 : Heap) (n0 : Nat) (VA : own_A Z h0 a1 .long N f) (hlo : p2.toInt = (lo : Int)) (hhi : p3.toInt = ((lo + cnt : Nat) : Int)) (hN : lo + cnt ≤ N) (hg : ∀ k, k < cnt → f (lo + k) = .long (g k)) :
    MetFree l (⟨"com/example/guarantor/guarantor/automata/StateTable", "hash", "([JII)I"⟩ : MethodName) (head1 [Jvm.Cond.code (⟨"com/example/guarantor/guarantor/automata/StateTable", "hash", "([JII)I"⟩ : MethodName) prog_56_method_9_code 6 (some .int)] ({ frames := 0, cells := 0, slots := 0, locals := 0 } : Room)) (fun a U => a = #[(.ref a1), (.int p2), (.int p3)] ∧ Z.Warmed39 U.vm ∧ U.heap = h0) (fun _ _ _ _ _ => True) (fun _ U o U' => ∃ v L, o = .returned v ∧ own_Q_rm1 Z a1 p2 p3 N lo cnt f g h0 n0 v U'.heap L ∧ FrameEnd U o U' L ({ frames := 0, cells := 0, slots := 0, locals := 0 } : Room).cells ({ frames := 0, cells := 0, slots := 0, locals := 0 } : Room).slots) := by
  refine MetFree.of_bodySF (plainFor_of_name own_pn0) hisR ?_
  intro p e s m args below meth c s₁ Bd hml0 hP hK
  obtain ⟨rfl, hZ, hh⟩ := hP
  have hx := Bd.exec
  have hby := Bd.bytes
  have hret := Bd.returns
  have hlk := Bd.notSynchronized
  have hml : c.maxLocals = 6 := hml0
  have hown : s.vm.findClass "com/example/guarantor/guarantor/automata/StateTable" = some m.cls := findClass_of_methodNamed Bd.named
  have hnm := (name_of_methodNamed Bd.named Bd.method).1
  have X0 : Stand p l e ({ frames := 0, cells := 0, slots := 0, locals := 0 } : Room) s m #[(.ref a1), (.int p2), (.int p3)] below meth c s₁ [] 0 0 := Stand.of_body Bd
  have e0 : s₁.heap = h0 := by rw [← hh, Bd.state]; rfl
  have N0 := Fr.nil n0
  refine own_Go.cast (own_ef_own_rm1 m a1 p2 p3) ?_
  refine own_step (T' := s₁) (f' := (mkF m 5 #[.val (.ref a1), .val (.int p2), .val (.int p3), .val (.long (0 : Int64)), .second, .val (.int p2)] [])) (fun tt kont => ?_) ?_
  · show Steps p.tables e below (s₁.setTop (mkF m 0 #[.val (.ref a1), .val (.int p2), .val (.int p3), .unset, .unset, .unset] [])) _
    refine XS.lconst X0.here hx rfl (hb hby d1_0) ?_
    show Steps p.tables e below (s₁.setTop (mkF m 1 #[.val (.ref a1), .val (.int p2), .val (.int p3), .unset, .unset, .unset] [(.long (0 : Int64))])) _
    refine XS.lstoreN X0.here hx rfl (hb hby d1_1) rfl (l' := #[.val (.ref a1), .val (.int p2), .val (.int p3), .val (.long (0 : Int64)), .second, .unset]) rfl ?_
    show Steps p.tables e below (s₁.setTop (mkF m 2 #[.val (.ref a1), .val (.int p2), .val (.int p3), .val (.long (0 : Int64)), .second, .unset] [])) _
    refine XS.iloadN X0.here hx rfl (hb hby d1_2) rfl ?_
    show Steps p.tables e below (s₁.setTop (mkF m 3 #[.val (.ref a1), .val (.int p2), .val (.int p3), .val (.long (0 : Int64)), .second, .unset] [(.int p2)])) _
    refine XS.istore X0.here hx rfl (hb hby d1_3) rfl (l' := #[.val (.ref a1), .val (.int p2), .val (.int p3), .val (.long (0 : Int64)), .second, .val (.int p2)]) rfl ?_
    exact kont
  refine own_loop X0 hx hZ hw hby hown e0 VA hhi hN hg cnt 0 p2 (by omega) (by rw [hlo]; rfl) ?_
  refine own_step (T' := s₁) (f' := (mkF m 34 #[.val (.ref a1), .val (.int p2), .val (.int p3), .val (.long (own_fold g cnt)), .second, .val (.int p3)] [(.long ((own_fold g cnt) ^^^ (((own_fold g cnt).toUInt64 >>> ((33 : Int32) &&& 0x3f).toInt64.toUInt64).toInt64)))])) (fun tt kont => ?_) ?_
  · show Steps p.tables e below (s₁.setTop (mkF m 28 #[.val (.ref a1), .val (.int p2), .val (.int p3), .val (.long (own_fold g cnt)), .second, .val (.int p3)] [])) _
    refine XS.lloadN X0.here hx rfl (hb hby d1_28) rfl ?_
    show Steps p.tables e below (s₁.setTop (mkF m 29 #[.val (.ref a1), .val (.int p2), .val (.int p3), .val (.long (own_fold g cnt)), .second, .val (.int p3)] [(.long (own_fold g cnt))])) _
    refine XS.lloadN X0.here hx rfl (hb hby d1_29) rfl ?_
    show Steps p.tables e below (s₁.setTop (mkF m 30 #[.val (.ref a1), .val (.int p2), .val (.int p3), .val (.long (own_fold g cnt)), .second, .val (.int p3)] [(.long (own_fold g cnt)), (.long (own_fold g cnt))])) _
    refine XS.bipush X0.here hx rfl (hb hby d1_30) ?_
    show Steps p.tables e below (s₁.setTop (mkF m 32 #[.val (.ref a1), .val (.int p2), .val (.int p3), .val (.long (own_fold g cnt)), .second, .val (.int p3)] [(.int (33 : Int32)), (.long (own_fold g cnt)), (.long (own_fold g cnt))])) _
    refine XS.lushr X0.here hx rfl (hb hby d1_32) rfl ?_
    show Steps p.tables e below (s₁.setTop (mkF m 33 #[.val (.ref a1), .val (.int p2), .val (.int p3), .val (.long (own_fold g cnt)), .second, .val (.int p3)] [(.long (((own_fold g cnt).toUInt64 >>> ((33 : Int32) &&& 0x3f).toInt64.toUInt64).toInt64)), (.long (own_fold g cnt))])) _
    refine XS.lxor X0.here hx rfl (hb hby d1_33) rfl ?_
    exact kont
  show own_Go p e below s₁ (mkF m 34 #[.val (.ref a1), .val (.int p2), .val (.int p3), .val (.long (own_fold g cnt)), .second, .val (.int p3)] [(.long ((own_fold g cnt) ^^^ (((own_fold g cnt).toUInt64 >>> ((33 : Int32) &&& 0x3f).toInt64.toUInt64).toInt64)))]) _
  obtain ⟨yA, hyA⟩ : ∃ z : Int64, z = ((own_fold g cnt) ^^^ (((own_fold g cnt).toUInt64 >>> ((33 : Int32) &&& 0x3f).toInt64.toUInt64).toInt64)) := ⟨_, rfl⟩
  rw [← hyA]
  refine own_step (T' := s₁) (f' := (mkF m 40 #[.val (.ref a1), .val (.int p2), .val (.int p3), .val (.long yA), .second, .val (.int p3)] [(.long (yA * (-49064778989728563 : Int64)))])) (fun tt kont => ?_) ?_
  · show Steps p.tables e below (s₁.setTop (mkF m 34 #[.val (.ref a1), .val (.int p2), .val (.int p3), .val (.long (own_fold g cnt)), .second, .val (.int p3)] [(.long yA)])) _
    refine XS.lstoreN X0.here hx rfl (hb hby d1_34) rfl (l' := #[.val (.ref a1), .val (.int p2), .val (.int p3), .val (.long yA), .second, .val (.int p3)]) rfl ?_
    show Steps p.tables e below (s₁.setTop (mkF m 35 #[.val (.ref a1), .val (.int p2), .val (.int p3), .val (.long yA), .second, .val (.int p3)] [])) _
    refine XS.lloadN X0.here hx rfl (hb hby d1_35) rfl ?_
    show Steps p.tables e below (s₁.setTop (mkF m 36 #[.val (.ref a1), .val (.int p2), .val (.int p3), .val (.long yA), .second, .val (.int p3)] [(.long yA)])) _
    refine X0.ldc2Long hx hown (mvT hZ (hw _ (List.mem_of_getElem? (i := 6) rfl))) (g := (mkF m 36 #[.val (.ref a1), .val (.int p2), .val (.int p3), .val (.long yA), .second, .val (.int p3)] [(.long yA)])) rfl (hb hby d1_36) _ ?_
    show Steps p.tables e below (s₁.setTop (mkF m 39 #[.val (.ref a1), .val (.int p2), .val (.int p3), .val (.long yA), .second, .val (.int p3)] [(.long (-49064778989728563 : Int64)), (.long yA)])) _
    refine XS.lmul X0.here hx rfl (hb hby d1_39) rfl ?_
    exact kont
  show own_Go p e below s₁ (mkF m 40 #[.val (.ref a1), .val (.int p2), .val (.int p3), .val (.long yA), .second, .val (.int p3)] [(.long (yA * (-49064778989728563 : Int64)))]) _
  obtain ⟨yB, hyB⟩ : ∃ z : Int64, z = (yA * (-49064778989728563 : Int64)) := ⟨_, rfl⟩
  rw [← hyB]
  refine own_step (T' := s₁) (f' := (mkF m 47 #[.val (.ref a1), .val (.int p2), .val (.int p3), .val (.long yB), .second, .val (.int p3)] [(.long (yB ^^^ ((yB.toUInt64 >>> ((33 : Int32) &&& 0x3f).toInt64.toUInt64).toInt64)))])) (fun tt kont => ?_) ?_
  · show Steps p.tables e below (s₁.setTop (mkF m 40 #[.val (.ref a1), .val (.int p2), .val (.int p3), .val (.long yA), .second, .val (.int p3)] [(.long yB)])) _
    refine XS.lstoreN X0.here hx rfl (hb hby d1_40) rfl (l' := #[.val (.ref a1), .val (.int p2), .val (.int p3), .val (.long yB), .second, .val (.int p3)]) rfl ?_
    show Steps p.tables e below (s₁.setTop (mkF m 41 #[.val (.ref a1), .val (.int p2), .val (.int p3), .val (.long yB), .second, .val (.int p3)] [])) _
    refine XS.lloadN X0.here hx rfl (hb hby d1_41) rfl ?_
    show Steps p.tables e below (s₁.setTop (mkF m 42 #[.val (.ref a1), .val (.int p2), .val (.int p3), .val (.long yB), .second, .val (.int p3)] [(.long yB)])) _
    refine XS.lloadN X0.here hx rfl (hb hby d1_42) rfl ?_
    show Steps p.tables e below (s₁.setTop (mkF m 43 #[.val (.ref a1), .val (.int p2), .val (.int p3), .val (.long yB), .second, .val (.int p3)] [(.long yB), (.long yB)])) _
    refine XS.bipush X0.here hx rfl (hb hby d1_43) ?_
    show Steps p.tables e below (s₁.setTop (mkF m 45 #[.val (.ref a1), .val (.int p2), .val (.int p3), .val (.long yB), .second, .val (.int p3)] [(.int (33 : Int32)), (.long yB), (.long yB)])) _
    refine XS.lushr X0.here hx rfl (hb hby d1_45) rfl ?_
    show Steps p.tables e below (s₁.setTop (mkF m 46 #[.val (.ref a1), .val (.int p2), .val (.int p3), .val (.long yB), .second, .val (.int p3)] [(.long ((yB.toUInt64 >>> ((33 : Int32) &&& 0x3f).toInt64.toUInt64).toInt64)), (.long yB)])) _
    refine XS.lxor X0.here hx rfl (hb hby d1_46) rfl ?_
    exact kont
  show own_Go p e below s₁ (mkF m 47 #[.val (.ref a1), .val (.int p2), .val (.int p3), .val (.long yB), .second, .val (.int p3)] [(.long (yB ^^^ ((yB.toUInt64 >>> ((33 : Int32) &&& 0x3f).toInt64.toUInt64).toInt64)))]) _
  obtain ⟨yC, hyC⟩ : ∃ z : Int64, z = (yB ^^^ ((yB.toUInt64 >>> ((33 : Int32) &&& 0x3f).toInt64.toUInt64).toInt64)) := ⟨_, rfl⟩
  rw [← hyC]
  refine own_step (T' := s₁) (f' := (mkF m 53 #[.val (.ref a1), .val (.int p2), .val (.int p3), .val (.long yC), .second, .val (.int p3)] [(.long (yC * (-4265268113053294909 : Int64)))])) (fun tt kont => ?_) ?_
  · show Steps p.tables e below (s₁.setTop (mkF m 47 #[.val (.ref a1), .val (.int p2), .val (.int p3), .val (.long yB), .second, .val (.int p3)] [(.long yC)])) _
    refine XS.lstoreN X0.here hx rfl (hb hby d1_47) rfl (l' := #[.val (.ref a1), .val (.int p2), .val (.int p3), .val (.long yC), .second, .val (.int p3)]) rfl ?_
    show Steps p.tables e below (s₁.setTop (mkF m 48 #[.val (.ref a1), .val (.int p2), .val (.int p3), .val (.long yC), .second, .val (.int p3)] [])) _
    refine XS.lloadN X0.here hx rfl (hb hby d1_48) rfl ?_
    show Steps p.tables e below (s₁.setTop (mkF m 49 #[.val (.ref a1), .val (.int p2), .val (.int p3), .val (.long yC), .second, .val (.int p3)] [(.long yC)])) _
    refine X0.ldc2Long hx hown (mvT hZ (hw _ (List.mem_of_getElem? (i := 7) rfl))) (g := (mkF m 49 #[.val (.ref a1), .val (.int p2), .val (.int p3), .val (.long yC), .second, .val (.int p3)] [(.long yC)])) rfl (hb hby d1_49) _ ?_
    show Steps p.tables e below (s₁.setTop (mkF m 52 #[.val (.ref a1), .val (.int p2), .val (.int p3), .val (.long yC), .second, .val (.int p3)] [(.long (-4265268113053294909 : Int64)), (.long yC)])) _
    refine XS.lmul X0.here hx rfl (hb hby d1_52) rfl ?_
    exact kont
  show own_Go p e below s₁ (mkF m 53 #[.val (.ref a1), .val (.int p2), .val (.int p3), .val (.long yC), .second, .val (.int p3)] [(.long (yC * (-4265268113053294909 : Int64)))]) _
  obtain ⟨yD, hyD⟩ : ∃ z : Int64, z = (yC * (-4265268113053294909 : Int64)) := ⟨_, rfl⟩
  rw [← hyD]
  refine own_step (T' := s₁) (f' := (mkF m 60 #[.val (.ref a1), .val (.int p2), .val (.int p3), .val (.long yD), .second, .val (.int p3)] [(.long (yD ^^^ ((yD.toUInt64 >>> ((33 : Int32) &&& 0x3f).toInt64.toUInt64).toInt64)))])) (fun tt kont => ?_) ?_
  · show Steps p.tables e below (s₁.setTop (mkF m 53 #[.val (.ref a1), .val (.int p2), .val (.int p3), .val (.long yC), .second, .val (.int p3)] [(.long yD)])) _
    refine XS.lstoreN X0.here hx rfl (hb hby d1_53) rfl (l' := #[.val (.ref a1), .val (.int p2), .val (.int p3), .val (.long yD), .second, .val (.int p3)]) rfl ?_
    show Steps p.tables e below (s₁.setTop (mkF m 54 #[.val (.ref a1), .val (.int p2), .val (.int p3), .val (.long yD), .second, .val (.int p3)] [])) _
    refine XS.lloadN X0.here hx rfl (hb hby d1_54) rfl ?_
    show Steps p.tables e below (s₁.setTop (mkF m 55 #[.val (.ref a1), .val (.int p2), .val (.int p3), .val (.long yD), .second, .val (.int p3)] [(.long yD)])) _
    refine XS.lloadN X0.here hx rfl (hb hby d1_55) rfl ?_
    show Steps p.tables e below (s₁.setTop (mkF m 56 #[.val (.ref a1), .val (.int p2), .val (.int p3), .val (.long yD), .second, .val (.int p3)] [(.long yD), (.long yD)])) _
    refine XS.bipush X0.here hx rfl (hb hby d1_56) ?_
    show Steps p.tables e below (s₁.setTop (mkF m 58 #[.val (.ref a1), .val (.int p2), .val (.int p3), .val (.long yD), .second, .val (.int p3)] [(.int (33 : Int32)), (.long yD), (.long yD)])) _
    refine XS.lushr X0.here hx rfl (hb hby d1_58) rfl ?_
    show Steps p.tables e below (s₁.setTop (mkF m 59 #[.val (.ref a1), .val (.int p2), .val (.int p3), .val (.long yD), .second, .val (.int p3)] [(.long ((yD.toUInt64 >>> ((33 : Int32) &&& 0x3f).toInt64.toUInt64).toInt64)), (.long yD)])) _
    refine XS.lxor X0.here hx rfl (hb hby d1_59) rfl ?_
    exact kont
  show own_Go p e below s₁ (mkF m 60 #[.val (.ref a1), .val (.int p2), .val (.int p3), .val (.long yD), .second, .val (.int p3)] [(.long (yD ^^^ ((yD.toUInt64 >>> ((33 : Int32) &&& 0x3f).toInt64.toUInt64).toInt64)))]) _
  obtain ⟨yE, hyE⟩ : ∃ z : Int64, z = (yD ^^^ ((yD.toUInt64 >>> ((33 : Int32) &&& 0x3f).toInt64.toUInt64).toInt64)) := ⟨_, rfl⟩
  rw [← hyE]
  refine own_step (T' := s₁) (f' := (mkF m 63 #[.val (.ref a1), .val (.int p2), .val (.int p3), .val (.long yE), .second, .val (.int p3)] [(.int (yE.toInt32))])) (fun tt kont => ?_) ?_
  · show Steps p.tables e below (s₁.setTop (mkF m 60 #[.val (.ref a1), .val (.int p2), .val (.int p3), .val (.long yD), .second, .val (.int p3)] [(.long yE)])) _
    refine XS.lstoreN X0.here hx rfl (hb hby d1_60) rfl (l' := #[.val (.ref a1), .val (.int p2), .val (.int p3), .val (.long yE), .second, .val (.int p3)]) rfl ?_
    show Steps p.tables e below (s₁.setTop (mkF m 61 #[.val (.ref a1), .val (.int p2), .val (.int p3), .val (.long yE), .second, .val (.int p3)] [])) _
    refine XS.lloadN X0.here hx rfl (hb hby d1_61) rfl ?_
    show Steps p.tables e below (s₁.setTop (mkF m 62 #[.val (.ref a1), .val (.int p2), .val (.int p3), .val (.long yE), .second, .val (.int p3)] [(.long yE)])) _
    refine XS.l2i X0.here hx rfl (hb hby d1_62) rfl ?_
    exact kont
  exact own_retI X0 hx hret hlk (hb hby d1_63) (by decide) (by decide) ⟨congrArg (fun z => some (Value.int z)) (by rw [hyE, hyD, hyC, hyB, hyA]; rfl), N0, e0⟩
theorem own_pn1 : plainName "com/example/guarantor/guarantor/automata/StateTableHashPinLaw" = true := by first | (simp [plainName, overriddenIn]; done) | decide +kernel
theorem own_ef_own_rm0 (m : MethodId) (x0 : Int64) (x1 : Int64) (x2 : Int64) (x3 : Int64) (x4 : Int64) (x5 : Int32) : entryFrame m #[(.long x0), (.long x1), (.long x2), (.long x3), (.long x4), (.int x5)] maxLocals = mkF m 0 #[.val (.long x0), .second, .val (.long x1), .second, .val (.long x2), .second, .val (.long x3), .second, .val (.long x4), .second, .val (.int x5), .unset, .unset, .unset, .unset, .unset, .unset, .unset] [] := by first | (simp [entryFrame, mkF, argsToLocals, Value.category, maxLocals]; done) | rfl
theorem own_pd0 : parseMethodDescriptor "([JII)I" = some ⟨[(.array .long), .int, .int], some .int⟩ := by decide +kernel
def own_Q_rm0 (Z : State) (q1 : Int64) (q2 : Int64) (q3 : Int64) (q4 : Int64) (q5 : Int64) (p6 : Int32) (h0 : Heap) (n0 : Nat) (v : Option Value) (h : Heap) (L : List Loc) : Prop := v = some (.int 1) ∧ Fr n0 L
set_option maxRecDepth 65536 in
set_option maxHeartbeats 40000000 in
theorem own_rm0 (l : Launch) (Z : State) (a0 : Array Value) (hw : ∀ d ∈ tables_1, d.before a0 Z = true) (ws : List Jvm.Cond) (q1 : Int64) (q2 : Int64) (q3 : Int64) (q4 : Int64) (q5 : Int64) (p6 : Int32) (h0 : Heap) (n0 : Nat) (Z0 : n0 ≤ h0.size) :
    MetFree l x (head1 (Jvm.Cond.code x code maxLocals ret :: ws) room_1) (fun a U => a = #[(.long q1), (.long q2), (.long q3), (.long q4), (.long q5), (.int p6)] ∧ Z.Warmed39 U.vm ∧ U.heap = h0) (fun _ _ _ _ _ => True) (fun _ U o U' => ∃ v L, o = .returned v ∧ own_Q_rm0 Z q1 q2 q3 q4 q5 p6 h0 n0 v U'.heap L ∧ FrameEnd U o U' L 16 128) := by
  refine MetFree.of_bodySF (plainFor_of_name own_pn1) hisR ?_
  intro p e s m args below meth c s₁ Bd hml0 hP hK
  obtain ⟨rfl, hZ, hh⟩ := hP
  have hx := Bd.exec
  have hby := Bd.bytes
  have hret := Bd.returns
  have hlk := Bd.notSynchronized
  have hml : c.maxLocals = 18 := hml0
  have hown : s.vm.findClass "com/example/guarantor/guarantor/automata/StateTableHashPinLaw" = some m.cls := findClass_of_methodNamed Bd.named
  have hnm := (name_of_methodNamed Bd.named Bd.method).1
  have X0 : Stand p l e room_1 s m #[(.long q1), (.long q2), (.long q3), (.long q4), (.long q5), (.int p6)] below meth c s₁ [] 0 0 := Stand.of_body Bd
  have e0 : s₁.heap = h0 := by rw [← hh, Bd.state]; rfl
  have N0 := Fr.nil n0
  refine own_Go.cast (own_ef_own_rm0 m q1 q2 q3 q4 q5 p6) ?_
  refine own_step (T' := s₁) (f' := (mkF m 4 #[.val (.long q1), .second, .val (.long q2), .second, .val (.long q3), .second, .val (.long q4), .second, .val (.long q5), .second, .val (.int p6), .unset, .unset, .unset, .unset, .unset, .unset, .unset] [(.int (p6 &&& (3 : Int32)))])) (fun tt kont => ?_) ?_
  · show Steps p.tables e below (s₁.setTop (mkF m 0 #[.val (.long q1), .second, .val (.long q2), .second, .val (.long q3), .second, .val (.long q4), .second, .val (.long q5), .second, .val (.int p6), .unset, .unset, .unset, .unset, .unset, .unset, .unset] [])) _
    refine XS.iload X0.here hx rfl (hb hby at_0) rfl ?_
    show Steps p.tables e below (s₁.setTop (mkF m 2 #[.val (.long q1), .second, .val (.long q2), .second, .val (.long q3), .second, .val (.long q4), .second, .val (.long q5), .second, .val (.int p6), .unset, .unset, .unset, .unset, .unset, .unset, .unset] [(.int p6)])) _
    refine XS.iconst X0.here hx rfl (hb hby at_2) ?_
    show Steps p.tables e below (s₁.setTop (mkF m 3 #[.val (.long q1), .second, .val (.long q2), .second, .val (.long q3), .second, .val (.long q4), .second, .val (.long q5), .second, .val (.int p6), .unset, .unset, .unset, .unset, .unset, .unset, .unset] [(.int (3 : Int32)), (.int p6)])) _
    refine XS.iand X0.here hx rfl (hb hby at_3) rfl ?_
    exact kont
  show own_Go p e below s₁ (mkF m 4 #[.val (.long q1), .second, .val (.long q2), .second, .val (.long q3), .second, .val (.long q4), .second, .val (.long q5), .second, .val (.int p6), .unset, .unset, .unset, .unset, .unset, .unset, .unset] [(.int (p6 &&& (3 : Int32)))]) _
  obtain ⟨yN, hyN⟩ : ∃ z : Int32, z = (p6 &&& (3 : Int32)) := ⟨_, rfl⟩
  rw [← hyN]
  refine own_step (T' := s₁) (f' := (mkF m 7 #[.val (.long q1), .second, .val (.long q2), .second, .val (.long q3), .second, .val (.long q4), .second, .val (.long q5), .second, .val (.int p6), .val (.int yN), .unset, .unset, .unset, .unset, .unset, .unset] [(.int (5 : Int32))])) (fun tt kont => ?_) ?_
  · show Steps p.tables e below (s₁.setTop (mkF m 4 #[.val (.long q1), .second, .val (.long q2), .second, .val (.long q3), .second, .val (.long q4), .second, .val (.long q5), .second, .val (.int p6), .unset, .unset, .unset, .unset, .unset, .unset, .unset] [(.int yN)])) _
    refine XS.istore X0.here hx rfl (hb hby at_4) rfl (l' := #[.val (.long q1), .second, .val (.long q2), .second, .val (.long q3), .second, .val (.long q4), .second, .val (.long q5), .second, .val (.int p6), .val (.int yN), .unset, .unset, .unset, .unset, .unset, .unset]) rfl ?_
    show Steps p.tables e below (s₁.setTop (mkF m 6 #[.val (.long q1), .second, .val (.long q2), .second, .val (.long q3), .second, .val (.long q4), .second, .val (.long q5), .second, .val (.int p6), .val (.int yN), .unset, .unset, .unset, .unset, .unset, .unset] [])) _
    refine XS.iconst X0.here hx rfl (hb hby at_6) ?_
    exact kont
  obtain ⟨T101, h101, k101, X101, e101, E101, A101, st101⟩ := newP X0 hx hZ (hw _ (List.mem_of_getElem? (i := 0) rfl)) e0 (g := (mkF m 7 #[.val (.long q1), .second, .val (.long q2), .second, .val (.long q3), .second, .val (.long q4), .second, .val (.long q5), .second, .val (.int p6), .val (.int yN), .unset, .unset, .unset, .unset, .unset, .unset] [(.int (5 : Int32))])) rfl (hb hby at_7) rfl (by decide) (cap := 5) (by decide) (by decide) (by decide) (by decide)
  obtain ⟨xs, g101⟩ : ∃ z, z = h0.size := ⟨_, rfl⟩
  have g_xs : n0 ≤ xs := Nat.le_trans Z0 (Nat.le_of_eq g101.symm)
  have Z101 : n0 ≤ h101.size := Nat.le_trans Z0 E101.1
  rw [← g101] at A101 st101
  have V_xs_101 : own_A Z h101 xs .long 5 (fun _ => (.long (0 : Int64))) := own_A.new A101 rfl
  refine own_step st101 ?_
  refine own_step (T' := T101) (f' := (mkF m 13 #[.val (.long q1), .second, .val (.long q2), .second, .val (.long q3), .second, .val (.long q4), .second, .val (.long q5), .second, .val (.int p6), .val (.int yN), .unset, .unset, .unset, .unset, .unset, .unset] [(.long q4), (.int (0 : Int32)), (.ref xs), (.ref xs)])) (fun tt kont => ?_) ?_
  · show Steps p.tables e below (T101.setTop (mkF m 9 #[.val (.long q1), .second, .val (.long q2), .second, .val (.long q3), .second, .val (.long q4), .second, .val (.long q5), .second, .val (.int p6), .val (.int yN), .unset, .unset, .unset, .unset, .unset, .unset] [(.ref xs)])) _
    refine XS.dup X101.here hx rfl (hb hby at_9) rfl rfl ?_
    show Steps p.tables e below (T101.setTop (mkF m 10 #[.val (.long q1), .second, .val (.long q2), .second, .val (.long q3), .second, .val (.long q4), .second, .val (.long q5), .second, .val (.int p6), .val (.int yN), .unset, .unset, .unset, .unset, .unset, .unset] [(.ref xs), (.ref xs)])) _
    refine XS.iconst X101.here hx rfl (hb hby at_10) ?_
    show Steps p.tables e below (T101.setTop (mkF m 11 #[.val (.long q1), .second, .val (.long q2), .second, .val (.long q3), .second, .val (.long q4), .second, .val (.long q5), .second, .val (.int p6), .val (.int yN), .unset, .unset, .unset, .unset, .unset, .unset] [(.int (0 : Int32)), (.ref xs), (.ref xs)])) _
    refine XS.lload X101.here hx rfl (hb hby at_11) rfl ?_
    exact kont
  obtain ⟨T102, h102, X102, e102, W102, V_xs_102, st102⟩ := own_stJ X101 hx hZ e101 V_xs_101 (j := (0 : Int32)) (i := 0) (own_at_lit rfl (by decide)) (by decide) (g := (mkF m 13 #[.val (.long q1), .second, .val (.long q2), .second, .val (.long q3), .second, .val (.long q4), .second, .val (.long q5), .second, .val (.int p6), .val (.int yN), .unset, .unset, .unset, .unset, .unset, .unset] [(.long q4), (.int (0 : Int32)), (.ref xs), (.ref xs)])) rfl rfl (hb hby at_13)
  have N102 := Fr.snoc X102 N0 g_xs
  have Z102 : n0 ≤ h102.size := Nat.le_trans Z101 (Keep.of_wr W102).1
  refine own_step st102 ?_
  refine own_step (T' := T102) (f' := (mkF m 17 #[.val (.long q1), .second, .val (.long q2), .second, .val (.long q3), .second, .val (.long q4), .second, .val (.long q5), .second, .val (.int p6), .val (.int yN), .unset, .unset, .unset, .unset, .unset, .unset] [(.long q1), (.int (1 : Int32)), (.ref xs), (.ref xs)])) (fun tt kont => ?_) ?_
  · show Steps p.tables e below (T102.setTop (mkF m 14 #[.val (.long q1), .second, .val (.long q2), .second, .val (.long q3), .second, .val (.long q4), .second, .val (.long q5), .second, .val (.int p6), .val (.int yN), .unset, .unset, .unset, .unset, .unset, .unset] [(.ref xs)])) _
    refine XS.dup X102.here hx rfl (hb hby at_14) rfl rfl ?_
    show Steps p.tables e below (T102.setTop (mkF m 15 #[.val (.long q1), .second, .val (.long q2), .second, .val (.long q3), .second, .val (.long q4), .second, .val (.long q5), .second, .val (.int p6), .val (.int yN), .unset, .unset, .unset, .unset, .unset, .unset] [(.ref xs), (.ref xs)])) _
    refine XS.iconst X102.here hx rfl (hb hby at_15) ?_
    show Steps p.tables e below (T102.setTop (mkF m 16 #[.val (.long q1), .second, .val (.long q2), .second, .val (.long q3), .second, .val (.long q4), .second, .val (.long q5), .second, .val (.int p6), .val (.int yN), .unset, .unset, .unset, .unset, .unset, .unset] [(.int (1 : Int32)), (.ref xs), (.ref xs)])) _
    refine XS.lloadN X102.here hx rfl (hb hby at_16) rfl ?_
    exact kont
  obtain ⟨T103, h103, X103, e103, W103, V_xs_103, st103⟩ := own_stJ X102 hx hZ e102 V_xs_102 (j := (1 : Int32)) (i := 1) (own_at_lit rfl (by decide)) (by decide) (g := (mkF m 17 #[.val (.long q1), .second, .val (.long q2), .second, .val (.long q3), .second, .val (.long q4), .second, .val (.long q5), .second, .val (.int p6), .val (.int yN), .unset, .unset, .unset, .unset, .unset, .unset] [(.long q1), (.int (1 : Int32)), (.ref xs), (.ref xs)])) rfl rfl (hb hby at_17)
  have N103 := Fr.snoc X103 N102 g_xs
  have Z103 : n0 ≤ h103.size := Nat.le_trans Z102 (Keep.of_wr W103).1
  refine own_step st103 ?_
  refine own_step (T' := T103) (f' := (mkF m 21 #[.val (.long q1), .second, .val (.long q2), .second, .val (.long q3), .second, .val (.long q4), .second, .val (.long q5), .second, .val (.int p6), .val (.int yN), .unset, .unset, .unset, .unset, .unset, .unset] [(.long q2), (.int (2 : Int32)), (.ref xs), (.ref xs)])) (fun tt kont => ?_) ?_
  · show Steps p.tables e below (T103.setTop (mkF m 18 #[.val (.long q1), .second, .val (.long q2), .second, .val (.long q3), .second, .val (.long q4), .second, .val (.long q5), .second, .val (.int p6), .val (.int yN), .unset, .unset, .unset, .unset, .unset, .unset] [(.ref xs)])) _
    refine XS.dup X103.here hx rfl (hb hby at_18) rfl rfl ?_
    show Steps p.tables e below (T103.setTop (mkF m 19 #[.val (.long q1), .second, .val (.long q2), .second, .val (.long q3), .second, .val (.long q4), .second, .val (.long q5), .second, .val (.int p6), .val (.int yN), .unset, .unset, .unset, .unset, .unset, .unset] [(.ref xs), (.ref xs)])) _
    refine XS.iconst X103.here hx rfl (hb hby at_19) ?_
    show Steps p.tables e below (T103.setTop (mkF m 20 #[.val (.long q1), .second, .val (.long q2), .second, .val (.long q3), .second, .val (.long q4), .second, .val (.long q5), .second, .val (.int p6), .val (.int yN), .unset, .unset, .unset, .unset, .unset, .unset] [(.int (2 : Int32)), (.ref xs), (.ref xs)])) _
    refine XS.lloadN X103.here hx rfl (hb hby at_20) rfl ?_
    exact kont
  obtain ⟨T104, h104, X104, e104, W104, V_xs_104, st104⟩ := own_stJ X103 hx hZ e103 V_xs_103 (j := (2 : Int32)) (i := 2) (own_at_lit rfl (by decide)) (by decide) (g := (mkF m 21 #[.val (.long q1), .second, .val (.long q2), .second, .val (.long q3), .second, .val (.long q4), .second, .val (.long q5), .second, .val (.int p6), .val (.int yN), .unset, .unset, .unset, .unset, .unset, .unset] [(.long q2), (.int (2 : Int32)), (.ref xs), (.ref xs)])) rfl rfl (hb hby at_21)
  have N104 := Fr.snoc X104 N103 g_xs
  have Z104 : n0 ≤ h104.size := Nat.le_trans Z103 (Keep.of_wr W104).1
  refine own_step st104 ?_
  refine own_step (T' := T104) (f' := (mkF m 26 #[.val (.long q1), .second, .val (.long q2), .second, .val (.long q3), .second, .val (.long q4), .second, .val (.long q5), .second, .val (.int p6), .val (.int yN), .unset, .unset, .unset, .unset, .unset, .unset] [(.long q3), (.int (3 : Int32)), (.ref xs), (.ref xs)])) (fun tt kont => ?_) ?_
  · show Steps p.tables e below (T104.setTop (mkF m 22 #[.val (.long q1), .second, .val (.long q2), .second, .val (.long q3), .second, .val (.long q4), .second, .val (.long q5), .second, .val (.int p6), .val (.int yN), .unset, .unset, .unset, .unset, .unset, .unset] [(.ref xs)])) _
    refine XS.dup X104.here hx rfl (hb hby at_22) rfl rfl ?_
    show Steps p.tables e below (T104.setTop (mkF m 23 #[.val (.long q1), .second, .val (.long q2), .second, .val (.long q3), .second, .val (.long q4), .second, .val (.long q5), .second, .val (.int p6), .val (.int yN), .unset, .unset, .unset, .unset, .unset, .unset] [(.ref xs), (.ref xs)])) _
    refine XS.iconst X104.here hx rfl (hb hby at_23) ?_
    show Steps p.tables e below (T104.setTop (mkF m 24 #[.val (.long q1), .second, .val (.long q2), .second, .val (.long q3), .second, .val (.long q4), .second, .val (.long q5), .second, .val (.int p6), .val (.int yN), .unset, .unset, .unset, .unset, .unset, .unset] [(.int (3 : Int32)), (.ref xs), (.ref xs)])) _
    refine XS.lload X104.here hx rfl (hb hby at_24) rfl ?_
    exact kont
  obtain ⟨T105, h105, X105, e105, W105, V_xs_105, st105⟩ := own_stJ X104 hx hZ e104 V_xs_104 (j := (3 : Int32)) (i := 3) (own_at_lit rfl (by decide)) (by decide) (g := (mkF m 26 #[.val (.long q1), .second, .val (.long q2), .second, .val (.long q3), .second, .val (.long q4), .second, .val (.long q5), .second, .val (.int p6), .val (.int yN), .unset, .unset, .unset, .unset, .unset, .unset] [(.long q3), (.int (3 : Int32)), (.ref xs), (.ref xs)])) rfl rfl (hb hby at_26)
  have N105 := Fr.snoc X105 N104 g_xs
  have Z105 : n0 ≤ h105.size := Nat.le_trans Z104 (Keep.of_wr W105).1
  refine own_step st105 ?_
  refine own_step (T' := T105) (f' := (mkF m 31 #[.val (.long q1), .second, .val (.long q2), .second, .val (.long q3), .second, .val (.long q4), .second, .val (.long q5), .second, .val (.int p6), .val (.int yN), .unset, .unset, .unset, .unset, .unset, .unset] [(.long q5), (.int (4 : Int32)), (.ref xs), (.ref xs)])) (fun tt kont => ?_) ?_
  · show Steps p.tables e below (T105.setTop (mkF m 27 #[.val (.long q1), .second, .val (.long q2), .second, .val (.long q3), .second, .val (.long q4), .second, .val (.long q5), .second, .val (.int p6), .val (.int yN), .unset, .unset, .unset, .unset, .unset, .unset] [(.ref xs)])) _
    refine XS.dup X105.here hx rfl (hb hby at_27) rfl rfl ?_
    show Steps p.tables e below (T105.setTop (mkF m 28 #[.val (.long q1), .second, .val (.long q2), .second, .val (.long q3), .second, .val (.long q4), .second, .val (.long q5), .second, .val (.int p6), .val (.int yN), .unset, .unset, .unset, .unset, .unset, .unset] [(.ref xs), (.ref xs)])) _
    refine XS.iconst X105.here hx rfl (hb hby at_28) ?_
    show Steps p.tables e below (T105.setTop (mkF m 29 #[.val (.long q1), .second, .val (.long q2), .second, .val (.long q3), .second, .val (.long q4), .second, .val (.long q5), .second, .val (.int p6), .val (.int yN), .unset, .unset, .unset, .unset, .unset, .unset] [(.int (4 : Int32)), (.ref xs), (.ref xs)])) _
    refine XS.lload X105.here hx rfl (hb hby at_29) rfl ?_
    exact kont
  obtain ⟨T106, h106, X106, e106, W106, V_xs_106, st106⟩ := own_stJ X105 hx hZ e105 V_xs_105 (j := (4 : Int32)) (i := 4) (own_at_lit rfl (by decide)) (by decide) (g := (mkF m 31 #[.val (.long q1), .second, .val (.long q2), .second, .val (.long q3), .second, .val (.long q4), .second, .val (.long q5), .second, .val (.int p6), .val (.int yN), .unset, .unset, .unset, .unset, .unset, .unset] [(.long q5), (.int (4 : Int32)), (.ref xs), (.ref xs)])) rfl rfl (hb hby at_31)
  have N106 := Fr.snoc X106 N105 g_xs
  have Z106 : n0 ≤ h106.size := Nat.le_trans Z105 (Keep.of_wr W106).1
  refine own_step st106 ?_
  refine own_step (T' := T106) (f' := (mkF m 36 #[.val (.long q1), .second, .val (.long q2), .second, .val (.long q3), .second, .val (.long q4), .second, .val (.long q5), .second, .val (.int p6), .val (.int yN), .val (.ref xs), .unset, .unset, .unset, .unset, .unset] [(.int (6 : Int32))])) (fun tt kont => ?_) ?_
  · show Steps p.tables e below (T106.setTop (mkF m 32 #[.val (.long q1), .second, .val (.long q2), .second, .val (.long q3), .second, .val (.long q4), .second, .val (.long q5), .second, .val (.int p6), .val (.int yN), .unset, .unset, .unset, .unset, .unset, .unset] [(.ref xs)])) _
    refine XS.astore X106.here hx rfl (hb hby at_32) rfl rfl (l' := #[.val (.long q1), .second, .val (.long q2), .second, .val (.long q3), .second, .val (.long q4), .second, .val (.long q5), .second, .val (.int p6), .val (.int yN), .val (.ref xs), .unset, .unset, .unset, .unset, .unset]) rfl ?_
    show Steps p.tables e below (T106.setTop (mkF m 34 #[.val (.long q1), .second, .val (.long q2), .second, .val (.long q3), .second, .val (.long q4), .second, .val (.long q5), .second, .val (.int p6), .val (.int yN), .val (.ref xs), .unset, .unset, .unset, .unset, .unset] [])) _
    refine XS.bipush X106.here hx rfl (hb hby at_34) ?_
    exact kont
  obtain ⟨T107, h107, k107, X107, e107, E107, A107, st107⟩ := newP X106 hx hZ (hw _ (List.mem_of_getElem? (i := 0) rfl)) e106 (g := (mkF m 36 #[.val (.long q1), .second, .val (.long q2), .second, .val (.long q3), .second, .val (.long q4), .second, .val (.long q5), .second, .val (.int p6), .val (.int yN), .val (.ref xs), .unset, .unset, .unset, .unset, .unset] [(.int (6 : Int32))])) rfl (hb hby at_36) rfl (by decide) (cap := 6) (by decide) (by decide) (by decide) (by decide)
  obtain ⟨ys, g107⟩ : ∃ z, z = h106.size := ⟨_, rfl⟩
  have g_ys : n0 ≤ ys := Nat.le_trans Z106 (Nat.le_of_eq g107.symm)
  have Z107 : n0 ≤ h107.size := Nat.le_trans Z106 E107.1
  have ne_xs_ys : xs ≠ ys := Nat.ne_of_lt (Nat.lt_of_lt_of_le V_xs_106.lt (Nat.le_of_eq g107.symm))
  rw [← g107] at A107 st107
  have V_xs_107 : own_A Z h107 xs .long 5 (own_upd (own_upd (own_upd (own_upd (own_upd (fun _ => (.long (0 : Int64))) 0 (.long q4)) 1 (.long q1)) 2 (.long q2)) 3 (.long q3)) 4 (.long q5)) := V_xs_106.ext E107
  have V_ys_107 : own_A Z h107 ys .long 6 (fun _ => (.long (0 : Int64))) := own_A.new A107 rfl
  refine own_step st107 ?_
  refine own_step (T' := T107) (f' := (mkF m 42 #[.val (.long q1), .second, .val (.long q2), .second, .val (.long q3), .second, .val (.long q4), .second, .val (.long q5), .second, .val (.int p6), .val (.int yN), .val (.ref xs), .unset, .unset, .unset, .unset, .unset] [(.long q5), (.int (0 : Int32)), (.ref ys), (.ref ys)])) (fun tt kont => ?_) ?_
  · show Steps p.tables e below (T107.setTop (mkF m 38 #[.val (.long q1), .second, .val (.long q2), .second, .val (.long q3), .second, .val (.long q4), .second, .val (.long q5), .second, .val (.int p6), .val (.int yN), .val (.ref xs), .unset, .unset, .unset, .unset, .unset] [(.ref ys)])) _
    refine XS.dup X107.here hx rfl (hb hby at_38) rfl rfl ?_
    show Steps p.tables e below (T107.setTop (mkF m 39 #[.val (.long q1), .second, .val (.long q2), .second, .val (.long q3), .second, .val (.long q4), .second, .val (.long q5), .second, .val (.int p6), .val (.int yN), .val (.ref xs), .unset, .unset, .unset, .unset, .unset] [(.ref ys), (.ref ys)])) _
    refine XS.iconst X107.here hx rfl (hb hby at_39) ?_
    show Steps p.tables e below (T107.setTop (mkF m 40 #[.val (.long q1), .second, .val (.long q2), .second, .val (.long q3), .second, .val (.long q4), .second, .val (.long q5), .second, .val (.int p6), .val (.int yN), .val (.ref xs), .unset, .unset, .unset, .unset, .unset] [(.int (0 : Int32)), (.ref ys), (.ref ys)])) _
    refine XS.lload X107.here hx rfl (hb hby at_40) rfl ?_
    exact kont
  obtain ⟨T108, h108, X108, e108, W108, V_ys_108, st108⟩ := own_stJ X107 hx hZ e107 V_ys_107 (j := (0 : Int32)) (i := 0) (own_at_lit rfl (by decide)) (by decide) (g := (mkF m 42 #[.val (.long q1), .second, .val (.long q2), .second, .val (.long q3), .second, .val (.long q4), .second, .val (.long q5), .second, .val (.int p6), .val (.int yN), .val (.ref xs), .unset, .unset, .unset, .unset, .unset] [(.long q5), (.int (0 : Int32)), (.ref ys), (.ref ys)])) rfl rfl (hb hby at_42)
  have N108 := Fr.snoc X108 N106 g_ys
  have Z108 : n0 ≤ h108.size := Nat.le_trans Z107 (Keep.of_wr W108).1
  have V_xs_108 : own_A Z h108 xs .long 5 (own_upd (own_upd (own_upd (own_upd (own_upd (fun _ => (.long (0 : Int64))) 0 (.long q4)) 1 (.long q1)) 2 (.long q2)) 3 (.long q3)) 4 (.long q5)) := V_xs_107.other W108 ne_xs_ys
  refine own_step st108 ?_
  refine own_step (T' := T108) (f' := (mkF m 47 #[.val (.long q1), .second, .val (.long q2), .second, .val (.long q3), .second, .val (.long q4), .second, .val (.long q5), .second, .val (.int p6), .val (.int yN), .val (.ref xs), .unset, .unset, .unset, .unset, .unset] [(.long q4), (.int (1 : Int32)), (.ref ys), (.ref ys)])) (fun tt kont => ?_) ?_
  · show Steps p.tables e below (T108.setTop (mkF m 43 #[.val (.long q1), .second, .val (.long q2), .second, .val (.long q3), .second, .val (.long q4), .second, .val (.long q5), .second, .val (.int p6), .val (.int yN), .val (.ref xs), .unset, .unset, .unset, .unset, .unset] [(.ref ys)])) _
    refine XS.dup X108.here hx rfl (hb hby at_43) rfl rfl ?_
    show Steps p.tables e below (T108.setTop (mkF m 44 #[.val (.long q1), .second, .val (.long q2), .second, .val (.long q3), .second, .val (.long q4), .second, .val (.long q5), .second, .val (.int p6), .val (.int yN), .val (.ref xs), .unset, .unset, .unset, .unset, .unset] [(.ref ys), (.ref ys)])) _
    refine XS.iconst X108.here hx rfl (hb hby at_44) ?_
    show Steps p.tables e below (T108.setTop (mkF m 45 #[.val (.long q1), .second, .val (.long q2), .second, .val (.long q3), .second, .val (.long q4), .second, .val (.long q5), .second, .val (.int p6), .val (.int yN), .val (.ref xs), .unset, .unset, .unset, .unset, .unset] [(.int (1 : Int32)), (.ref ys), (.ref ys)])) _
    refine XS.lload X108.here hx rfl (hb hby at_45) rfl ?_
    exact kont
  obtain ⟨T109, h109, X109, e109, W109, V_ys_109, st109⟩ := own_stJ X108 hx hZ e108 V_ys_108 (j := (1 : Int32)) (i := 1) (own_at_lit rfl (by decide)) (by decide) (g := (mkF m 47 #[.val (.long q1), .second, .val (.long q2), .second, .val (.long q3), .second, .val (.long q4), .second, .val (.long q5), .second, .val (.int p6), .val (.int yN), .val (.ref xs), .unset, .unset, .unset, .unset, .unset] [(.long q4), (.int (1 : Int32)), (.ref ys), (.ref ys)])) rfl rfl (hb hby at_47)
  have N109 := Fr.snoc X109 N108 g_ys
  have Z109 : n0 ≤ h109.size := Nat.le_trans Z108 (Keep.of_wr W109).1
  have V_xs_109 : own_A Z h109 xs .long 5 (own_upd (own_upd (own_upd (own_upd (own_upd (fun _ => (.long (0 : Int64))) 0 (.long q4)) 1 (.long q1)) 2 (.long q2)) 3 (.long q3)) 4 (.long q5)) := V_xs_108.other W109 ne_xs_ys
  refine own_step st109 ?_
  refine own_step (T' := T109) (f' := (mkF m 52 #[.val (.long q1), .second, .val (.long q2), .second, .val (.long q3), .second, .val (.long q4), .second, .val (.long q5), .second, .val (.int p6), .val (.int yN), .val (.ref xs), .unset, .unset, .unset, .unset, .unset] [(.long q5), (.int (2 : Int32)), (.ref ys), (.ref ys)])) (fun tt kont => ?_) ?_
  · show Steps p.tables e below (T109.setTop (mkF m 48 #[.val (.long q1), .second, .val (.long q2), .second, .val (.long q3), .second, .val (.long q4), .second, .val (.long q5), .second, .val (.int p6), .val (.int yN), .val (.ref xs), .unset, .unset, .unset, .unset, .unset] [(.ref ys)])) _
    refine XS.dup X109.here hx rfl (hb hby at_48) rfl rfl ?_
    show Steps p.tables e below (T109.setTop (mkF m 49 #[.val (.long q1), .second, .val (.long q2), .second, .val (.long q3), .second, .val (.long q4), .second, .val (.long q5), .second, .val (.int p6), .val (.int yN), .val (.ref xs), .unset, .unset, .unset, .unset, .unset] [(.ref ys), (.ref ys)])) _
    refine XS.iconst X109.here hx rfl (hb hby at_49) ?_
    show Steps p.tables e below (T109.setTop (mkF m 50 #[.val (.long q1), .second, .val (.long q2), .second, .val (.long q3), .second, .val (.long q4), .second, .val (.long q5), .second, .val (.int p6), .val (.int yN), .val (.ref xs), .unset, .unset, .unset, .unset, .unset] [(.int (2 : Int32)), (.ref ys), (.ref ys)])) _
    refine XS.lload X109.here hx rfl (hb hby at_50) rfl ?_
    exact kont
  obtain ⟨T110, h110, X110, e110, W110, V_ys_110, st110⟩ := own_stJ X109 hx hZ e109 V_ys_109 (j := (2 : Int32)) (i := 2) (own_at_lit rfl (by decide)) (by decide) (g := (mkF m 52 #[.val (.long q1), .second, .val (.long q2), .second, .val (.long q3), .second, .val (.long q4), .second, .val (.long q5), .second, .val (.int p6), .val (.int yN), .val (.ref xs), .unset, .unset, .unset, .unset, .unset] [(.long q5), (.int (2 : Int32)), (.ref ys), (.ref ys)])) rfl rfl (hb hby at_52)
  have N110 := Fr.snoc X110 N109 g_ys
  have Z110 : n0 ≤ h110.size := Nat.le_trans Z109 (Keep.of_wr W110).1
  have V_xs_110 : own_A Z h110 xs .long 5 (own_upd (own_upd (own_upd (own_upd (own_upd (fun _ => (.long (0 : Int64))) 0 (.long q4)) 1 (.long q1)) 2 (.long q2)) 3 (.long q3)) 4 (.long q5)) := V_xs_109.other W110 ne_xs_ys
  refine own_step st110 ?_
  refine own_step (T' := T110) (f' := (mkF m 56 #[.val (.long q1), .second, .val (.long q2), .second, .val (.long q3), .second, .val (.long q4), .second, .val (.long q5), .second, .val (.int p6), .val (.int yN), .val (.ref xs), .unset, .unset, .unset, .unset, .unset] [(.long q1), (.int (3 : Int32)), (.ref ys), (.ref ys)])) (fun tt kont => ?_) ?_
  · show Steps p.tables e below (T110.setTop (mkF m 53 #[.val (.long q1), .second, .val (.long q2), .second, .val (.long q3), .second, .val (.long q4), .second, .val (.long q5), .second, .val (.int p6), .val (.int yN), .val (.ref xs), .unset, .unset, .unset, .unset, .unset] [(.ref ys)])) _
    refine XS.dup X110.here hx rfl (hb hby at_53) rfl rfl ?_
    show Steps p.tables e below (T110.setTop (mkF m 54 #[.val (.long q1), .second, .val (.long q2), .second, .val (.long q3), .second, .val (.long q4), .second, .val (.long q5), .second, .val (.int p6), .val (.int yN), .val (.ref xs), .unset, .unset, .unset, .unset, .unset] [(.ref ys), (.ref ys)])) _
    refine XS.iconst X110.here hx rfl (hb hby at_54) ?_
    show Steps p.tables e below (T110.setTop (mkF m 55 #[.val (.long q1), .second, .val (.long q2), .second, .val (.long q3), .second, .val (.long q4), .second, .val (.long q5), .second, .val (.int p6), .val (.int yN), .val (.ref xs), .unset, .unset, .unset, .unset, .unset] [(.int (3 : Int32)), (.ref ys), (.ref ys)])) _
    refine XS.lloadN X110.here hx rfl (hb hby at_55) rfl ?_
    exact kont
  obtain ⟨T111, h111, X111, e111, W111, V_ys_111, st111⟩ := own_stJ X110 hx hZ e110 V_ys_110 (j := (3 : Int32)) (i := 3) (own_at_lit rfl (by decide)) (by decide) (g := (mkF m 56 #[.val (.long q1), .second, .val (.long q2), .second, .val (.long q3), .second, .val (.long q4), .second, .val (.long q5), .second, .val (.int p6), .val (.int yN), .val (.ref xs), .unset, .unset, .unset, .unset, .unset] [(.long q1), (.int (3 : Int32)), (.ref ys), (.ref ys)])) rfl rfl (hb hby at_56)
  have N111 := Fr.snoc X111 N110 g_ys
  have Z111 : n0 ≤ h111.size := Nat.le_trans Z110 (Keep.of_wr W111).1
  have V_xs_111 : own_A Z h111 xs .long 5 (own_upd (own_upd (own_upd (own_upd (own_upd (fun _ => (.long (0 : Int64))) 0 (.long q4)) 1 (.long q1)) 2 (.long q2)) 3 (.long q3)) 4 (.long q5)) := V_xs_110.other W111 ne_xs_ys
  refine own_step st111 ?_
  refine own_step (T' := T111) (f' := (mkF m 60 #[.val (.long q1), .second, .val (.long q2), .second, .val (.long q3), .second, .val (.long q4), .second, .val (.long q5), .second, .val (.int p6), .val (.int yN), .val (.ref xs), .unset, .unset, .unset, .unset, .unset] [(.long q2), (.int (4 : Int32)), (.ref ys), (.ref ys)])) (fun tt kont => ?_) ?_
  · show Steps p.tables e below (T111.setTop (mkF m 57 #[.val (.long q1), .second, .val (.long q2), .second, .val (.long q3), .second, .val (.long q4), .second, .val (.long q5), .second, .val (.int p6), .val (.int yN), .val (.ref xs), .unset, .unset, .unset, .unset, .unset] [(.ref ys)])) _
    refine XS.dup X111.here hx rfl (hb hby at_57) rfl rfl ?_
    show Steps p.tables e below (T111.setTop (mkF m 58 #[.val (.long q1), .second, .val (.long q2), .second, .val (.long q3), .second, .val (.long q4), .second, .val (.long q5), .second, .val (.int p6), .val (.int yN), .val (.ref xs), .unset, .unset, .unset, .unset, .unset] [(.ref ys), (.ref ys)])) _
    refine XS.iconst X111.here hx rfl (hb hby at_58) ?_
    show Steps p.tables e below (T111.setTop (mkF m 59 #[.val (.long q1), .second, .val (.long q2), .second, .val (.long q3), .second, .val (.long q4), .second, .val (.long q5), .second, .val (.int p6), .val (.int yN), .val (.ref xs), .unset, .unset, .unset, .unset, .unset] [(.int (4 : Int32)), (.ref ys), (.ref ys)])) _
    refine XS.lloadN X111.here hx rfl (hb hby at_59) rfl ?_
    exact kont
  obtain ⟨T112, h112, X112, e112, W112, V_ys_112, st112⟩ := own_stJ X111 hx hZ e111 V_ys_111 (j := (4 : Int32)) (i := 4) (own_at_lit rfl (by decide)) (by decide) (g := (mkF m 60 #[.val (.long q1), .second, .val (.long q2), .second, .val (.long q3), .second, .val (.long q4), .second, .val (.long q5), .second, .val (.int p6), .val (.int yN), .val (.ref xs), .unset, .unset, .unset, .unset, .unset] [(.long q2), (.int (4 : Int32)), (.ref ys), (.ref ys)])) rfl rfl (hb hby at_60)
  have N112 := Fr.snoc X112 N111 g_ys
  have Z112 : n0 ≤ h112.size := Nat.le_trans Z111 (Keep.of_wr W112).1
  have V_xs_112 : own_A Z h112 xs .long 5 (own_upd (own_upd (own_upd (own_upd (own_upd (fun _ => (.long (0 : Int64))) 0 (.long q4)) 1 (.long q1)) 2 (.long q2)) 3 (.long q3)) 4 (.long q5)) := V_xs_111.other W112 ne_xs_ys
  refine own_step st112 ?_
  refine own_step (T' := T112) (f' := (mkF m 65 #[.val (.long q1), .second, .val (.long q2), .second, .val (.long q3), .second, .val (.long q4), .second, .val (.long q5), .second, .val (.int p6), .val (.int yN), .val (.ref xs), .unset, .unset, .unset, .unset, .unset] [(.long q3), (.int (5 : Int32)), (.ref ys), (.ref ys)])) (fun tt kont => ?_) ?_
  · show Steps p.tables e below (T112.setTop (mkF m 61 #[.val (.long q1), .second, .val (.long q2), .second, .val (.long q3), .second, .val (.long q4), .second, .val (.long q5), .second, .val (.int p6), .val (.int yN), .val (.ref xs), .unset, .unset, .unset, .unset, .unset] [(.ref ys)])) _
    refine XS.dup X112.here hx rfl (hb hby at_61) rfl rfl ?_
    show Steps p.tables e below (T112.setTop (mkF m 62 #[.val (.long q1), .second, .val (.long q2), .second, .val (.long q3), .second, .val (.long q4), .second, .val (.long q5), .second, .val (.int p6), .val (.int yN), .val (.ref xs), .unset, .unset, .unset, .unset, .unset] [(.ref ys), (.ref ys)])) _
    refine XS.iconst X112.here hx rfl (hb hby at_62) ?_
    show Steps p.tables e below (T112.setTop (mkF m 63 #[.val (.long q1), .second, .val (.long q2), .second, .val (.long q3), .second, .val (.long q4), .second, .val (.long q5), .second, .val (.int p6), .val (.int yN), .val (.ref xs), .unset, .unset, .unset, .unset, .unset] [(.int (5 : Int32)), (.ref ys), (.ref ys)])) _
    refine XS.lload X112.here hx rfl (hb hby at_63) rfl ?_
    exact kont
  obtain ⟨T113, h113, X113, e113, W113, V_ys_113, st113⟩ := own_stJ X112 hx hZ e112 V_ys_112 (j := (5 : Int32)) (i := 5) (own_at_lit rfl (by decide)) (by decide) (g := (mkF m 65 #[.val (.long q1), .second, .val (.long q2), .second, .val (.long q3), .second, .val (.long q4), .second, .val (.long q5), .second, .val (.int p6), .val (.int yN), .val (.ref xs), .unset, .unset, .unset, .unset, .unset] [(.long q3), (.int (5 : Int32)), (.ref ys), (.ref ys)])) rfl rfl (hb hby at_65)
  have N113 := Fr.snoc X113 N112 g_ys
  have Z113 : n0 ≤ h113.size := Nat.le_trans Z112 (Keep.of_wr W113).1
  have V_xs_113 : own_A Z h113 xs .long 5 (own_upd (own_upd (own_upd (own_upd (own_upd (fun _ => (.long (0 : Int64))) 0 (.long q4)) 1 (.long q1)) 2 (.long q2)) 3 (.long q3)) 4 (.long q5)) := V_xs_112.other W113 ne_xs_ys
  refine own_step st113 ?_
  refine own_step (T' := T113) (f' := (mkF m 69 #[.val (.long q1), .second, .val (.long q2), .second, .val (.long q3), .second, .val (.long q4), .second, .val (.long q5), .second, .val (.int p6), .val (.int yN), .val (.ref xs), .val (.ref ys), .unset, .unset, .unset, .unset] [(.int (3 : Int32))])) (fun tt kont => ?_) ?_
  · show Steps p.tables e below (T113.setTop (mkF m 66 #[.val (.long q1), .second, .val (.long q2), .second, .val (.long q3), .second, .val (.long q4), .second, .val (.long q5), .second, .val (.int p6), .val (.int yN), .val (.ref xs), .unset, .unset, .unset, .unset, .unset] [(.ref ys)])) _
    refine XS.astore X113.here hx rfl (hb hby at_66) rfl rfl (l' := #[.val (.long q1), .second, .val (.long q2), .second, .val (.long q3), .second, .val (.long q4), .second, .val (.long q5), .second, .val (.int p6), .val (.int yN), .val (.ref xs), .val (.ref ys), .unset, .unset, .unset, .unset]) rfl ?_
    show Steps p.tables e below (T113.setTop (mkF m 68 #[.val (.long q1), .second, .val (.long q2), .second, .val (.long q3), .second, .val (.long q4), .second, .val (.long q5), .second, .val (.int p6), .val (.int yN), .val (.ref xs), .val (.ref ys), .unset, .unset, .unset, .unset] [])) _
    refine XS.iconst X113.here hx rfl (hb hby at_68) ?_
    exact kont
  obtain ⟨T114, h114, k114, X114, e114, E114, A114, st114⟩ := newP X113 hx hZ (hw _ (List.mem_of_getElem? (i := 0) rfl)) e113 (g := (mkF m 69 #[.val (.long q1), .second, .val (.long q2), .second, .val (.long q3), .second, .val (.long q4), .second, .val (.long q5), .second, .val (.int p6), .val (.int yN), .val (.ref xs), .val (.ref ys), .unset, .unset, .unset, .unset] [(.int (3 : Int32))])) rfl (hb hby at_69) rfl (by decide) (cap := 3) (by decide) (by decide) (by decide) (by decide)
  obtain ⟨zs, g114⟩ : ∃ z, z = h113.size := ⟨_, rfl⟩
  have g_zs : n0 ≤ zs := Nat.le_trans Z113 (Nat.le_of_eq g114.symm)
  have Z114 : n0 ≤ h114.size := Nat.le_trans Z113 E114.1
  have ne_xs_zs : xs ≠ zs := Nat.ne_of_lt (Nat.lt_of_lt_of_le V_xs_113.lt (Nat.le_of_eq g114.symm))
  have ne_ys_zs : ys ≠ zs := Nat.ne_of_lt (Nat.lt_of_lt_of_le V_ys_113.lt (Nat.le_of_eq g114.symm))
  rw [← g114] at A114 st114
  have V_xs_114 : own_A Z h114 xs .long 5 (own_upd (own_upd (own_upd (own_upd (own_upd (fun _ => (.long (0 : Int64))) 0 (.long q4)) 1 (.long q1)) 2 (.long q2)) 3 (.long q3)) 4 (.long q5)) := V_xs_113.ext E114
  have V_ys_114 : own_A Z h114 ys .long 6 (own_upd (own_upd (own_upd (own_upd (own_upd (own_upd (fun _ => (.long (0 : Int64))) 0 (.long q5)) 1 (.long q4)) 2 (.long q5)) 3 (.long q1)) 4 (.long q2)) 5 (.long q3)) := V_ys_113.ext E114
  have V_zs_114 : own_A Z h114 zs .long 3 (fun _ => (.long (0 : Int64))) := own_A.new A114 rfl
  refine own_step st114 ?_
  refine own_step (T' := T114) (f' := (mkF m 76 #[.val (.long q1), .second, .val (.long q2), .second, .val (.long q3), .second, .val (.long q4), .second, .val (.long q5), .second, .val (.int p6), .val (.int yN), .val (.ref xs), .val (.ref ys), .val (.ref zs), .unset, .unset, .unset] [(.int (3 : Int32)), (.int yN)])) (fun tt kont => ?_) ?_
  · show Steps p.tables e below (T114.setTop (mkF m 71 #[.val (.long q1), .second, .val (.long q2), .second, .val (.long q3), .second, .val (.long q4), .second, .val (.long q5), .second, .val (.int p6), .val (.int yN), .val (.ref xs), .val (.ref ys), .unset, .unset, .unset, .unset] [(.ref zs)])) _
    refine XS.astore X114.here hx rfl (hb hby at_71) rfl rfl (l' := #[.val (.long q1), .second, .val (.long q2), .second, .val (.long q3), .second, .val (.long q4), .second, .val (.long q5), .second, .val (.int p6), .val (.int yN), .val (.ref xs), .val (.ref ys), .val (.ref zs), .unset, .unset, .unset]) rfl ?_
    show Steps p.tables e below (T114.setTop (mkF m 73 #[.val (.long q1), .second, .val (.long q2), .second, .val (.long q3), .second, .val (.long q4), .second, .val (.long q5), .second, .val (.int p6), .val (.int yN), .val (.ref xs), .val (.ref ys), .val (.ref zs), .unset, .unset, .unset] [])) _
    refine XS.iload X114.here hx rfl (hb hby at_73) rfl ?_
    show Steps p.tables e below (T114.setTop (mkF m 75 #[.val (.long q1), .second, .val (.long q2), .second, .val (.long q3), .second, .val (.long q4), .second, .val (.long q5), .second, .val (.int p6), .val (.int yN), .val (.ref xs), .val (.ref ys), .val (.ref zs), .unset, .unset, .unset] [(.int yN)])) _
    refine XS.iconst X114.here hx rfl (hb hby at_75) ?_
    exact kont
  by_cases hc76_1 : yN = (3 : Int32)
  · refine own_step (T' := T114) (f' := (mkF m 79 #[.val (.long q1), .second, .val (.long q2), .second, .val (.long q3), .second, .val (.long q4), .second, .val (.long q5), .second, .val (.int p6), .val (.int yN), .val (.ref xs), .val (.ref ys), .val (.ref zs), .unset, .unset, .unset] [])) (fun tt kont => ?_) ?_
    · show Steps p.tables e below (T114.setTop (mkF m 76 #[.val (.long q1), .second, .val (.long q2), .second, .val (.long q3), .second, .val (.long q4), .second, .val (.long q5), .second, .val (.int p6), .val (.int yN), .val (.ref xs), .val (.ref ys), .val (.ref zs), .unset, .unset, .unset] [(.int (3 : Int32)), (.int yN)])) _
      refine XS.icmpNo X114.here hx rfl (hb hby at_76) rfl (teq hc76_1).2 ?_
      exact kont
    obtain rfl := hc76_1
    refine own_step (T' := T114) (f' := (mkF m 83 #[.val (.long q1), .second, .val (.long q2), .second, .val (.long q3), .second, .val (.long q4), .second, .val (.long q5), .second, .val (.int p6), .val (.int (3 : Int32)), .val (.ref xs), .val (.ref ys), .val (.ref zs), .unset, .unset, .unset] [(.long q1), (.int (0 : Int32)), (.ref zs)])) (fun tt kont => ?_) ?_
    · show Steps p.tables e below (T114.setTop (mkF m 79 #[.val (.long q1), .second, .val (.long q2), .second, .val (.long q3), .second, .val (.long q4), .second, .val (.long q5), .second, .val (.int p6), .val (.int (3 : Int32)), .val (.ref xs), .val (.ref ys), .val (.ref zs), .unset, .unset, .unset] [])) _
      refine XS.aload X114.here hx rfl (hb hby at_79) rfl rfl ?_
      show Steps p.tables e below (T114.setTop (mkF m 81 #[.val (.long q1), .second, .val (.long q2), .second, .val (.long q3), .second, .val (.long q4), .second, .val (.long q5), .second, .val (.int p6), .val (.int (3 : Int32)), .val (.ref xs), .val (.ref ys), .val (.ref zs), .unset, .unset, .unset] [(.ref zs)])) _
      refine XS.iconst X114.here hx rfl (hb hby at_81) ?_
      show Steps p.tables e below (T114.setTop (mkF m 82 #[.val (.long q1), .second, .val (.long q2), .second, .val (.long q3), .second, .val (.long q4), .second, .val (.long q5), .second, .val (.int p6), .val (.int (3 : Int32)), .val (.ref xs), .val (.ref ys), .val (.ref zs), .unset, .unset, .unset] [(.int (0 : Int32)), (.ref zs)])) _
      refine XS.lloadN X114.here hx rfl (hb hby at_82) rfl ?_
      exact kont
    obtain ⟨T115, h115, X115, e115, W115, V_zs_115, st115⟩ := own_stJ X114 hx hZ e114 V_zs_114 (j := (0 : Int32)) (i := 0) (own_at_lit rfl (by decide)) (by decide) (g := (mkF m 83 #[.val (.long q1), .second, .val (.long q2), .second, .val (.long q3), .second, .val (.long q4), .second, .val (.long q5), .second, .val (.int p6), .val (.int (3 : Int32)), .val (.ref xs), .val (.ref ys), .val (.ref zs), .unset, .unset, .unset] [(.long q1), (.int (0 : Int32)), (.ref zs)])) rfl rfl (hb hby at_83)
    have N115 := Fr.snoc X115 N113 g_zs
    have Z115 : n0 ≤ h115.size := Nat.le_trans Z114 (Keep.of_wr W115).1
    have V_xs_115 : own_A Z h115 xs .long 5 (own_upd (own_upd (own_upd (own_upd (own_upd (fun _ => (.long (0 : Int64))) 0 (.long q4)) 1 (.long q1)) 2 (.long q2)) 3 (.long q3)) 4 (.long q5)) := V_xs_114.other W115 ne_xs_zs
    have V_ys_115 : own_A Z h115 ys .long 6 (own_upd (own_upd (own_upd (own_upd (own_upd (own_upd (fun _ => (.long (0 : Int64))) 0 (.long q5)) 1 (.long q4)) 2 (.long q5)) 3 (.long q1)) 4 (.long q2)) 5 (.long q3)) := V_ys_114.other W115 ne_ys_zs
    refine own_step st115 ?_
    refine own_step (T' := T115) (f' := (mkF m 88 #[.val (.long q1), .second, .val (.long q2), .second, .val (.long q3), .second, .val (.long q4), .second, .val (.long q5), .second, .val (.int p6), .val (.int (3 : Int32)), .val (.ref xs), .val (.ref ys), .val (.ref zs), .unset, .unset, .unset] [(.long q2), (.int (1 : Int32)), (.ref zs)])) (fun tt kont => ?_) ?_
    · show Steps p.tables e below (T115.setTop (mkF m 84 #[.val (.long q1), .second, .val (.long q2), .second, .val (.long q3), .second, .val (.long q4), .second, .val (.long q5), .second, .val (.int p6), .val (.int (3 : Int32)), .val (.ref xs), .val (.ref ys), .val (.ref zs), .unset, .unset, .unset] [])) _
      refine XS.aload X115.here hx rfl (hb hby at_84) rfl rfl ?_
      show Steps p.tables e below (T115.setTop (mkF m 86 #[.val (.long q1), .second, .val (.long q2), .second, .val (.long q3), .second, .val (.long q4), .second, .val (.long q5), .second, .val (.int p6), .val (.int (3 : Int32)), .val (.ref xs), .val (.ref ys), .val (.ref zs), .unset, .unset, .unset] [(.ref zs)])) _
      refine XS.iconst X115.here hx rfl (hb hby at_86) ?_
      show Steps p.tables e below (T115.setTop (mkF m 87 #[.val (.long q1), .second, .val (.long q2), .second, .val (.long q3), .second, .val (.long q4), .second, .val (.long q5), .second, .val (.int p6), .val (.int (3 : Int32)), .val (.ref xs), .val (.ref ys), .val (.ref zs), .unset, .unset, .unset] [(.int (1 : Int32)), (.ref zs)])) _
      refine XS.lloadN X115.here hx rfl (hb hby at_87) rfl ?_
      exact kont
    obtain ⟨T116, h116, X116, e116, W116, V_zs_116, st116⟩ := own_stJ X115 hx hZ e115 V_zs_115 (j := (1 : Int32)) (i := 1) (own_at_lit rfl (by decide)) (by decide) (g := (mkF m 88 #[.val (.long q1), .second, .val (.long q2), .second, .val (.long q3), .second, .val (.long q4), .second, .val (.long q5), .second, .val (.int p6), .val (.int (3 : Int32)), .val (.ref xs), .val (.ref ys), .val (.ref zs), .unset, .unset, .unset] [(.long q2), (.int (1 : Int32)), (.ref zs)])) rfl rfl (hb hby at_88)
    have N116 := Fr.snoc X116 N115 g_zs
    have Z116 : n0 ≤ h116.size := Nat.le_trans Z115 (Keep.of_wr W116).1
    have V_xs_116 : own_A Z h116 xs .long 5 (own_upd (own_upd (own_upd (own_upd (own_upd (fun _ => (.long (0 : Int64))) 0 (.long q4)) 1 (.long q1)) 2 (.long q2)) 3 (.long q3)) 4 (.long q5)) := V_xs_115.other W116 ne_xs_zs
    have V_ys_116 : own_A Z h116 ys .long 6 (own_upd (own_upd (own_upd (own_upd (own_upd (own_upd (fun _ => (.long (0 : Int64))) 0 (.long q5)) 1 (.long q4)) 2 (.long q5)) 3 (.long q1)) 4 (.long q2)) 5 (.long q3)) := V_ys_115.other W116 ne_ys_zs
    refine own_step st116 ?_
    refine own_step (T' := T116) (f' := (mkF m 94 #[.val (.long q1), .second, .val (.long q2), .second, .val (.long q3), .second, .val (.long q4), .second, .val (.long q5), .second, .val (.int p6), .val (.int (3 : Int32)), .val (.ref xs), .val (.ref ys), .val (.ref zs), .unset, .unset, .unset] [(.long q3), (.int (2 : Int32)), (.ref zs)])) (fun tt kont => ?_) ?_
    · show Steps p.tables e below (T116.setTop (mkF m 89 #[.val (.long q1), .second, .val (.long q2), .second, .val (.long q3), .second, .val (.long q4), .second, .val (.long q5), .second, .val (.int p6), .val (.int (3 : Int32)), .val (.ref xs), .val (.ref ys), .val (.ref zs), .unset, .unset, .unset] [])) _
      refine XS.aload X116.here hx rfl (hb hby at_89) rfl rfl ?_
      show Steps p.tables e below (T116.setTop (mkF m 91 #[.val (.long q1), .second, .val (.long q2), .second, .val (.long q3), .second, .val (.long q4), .second, .val (.long q5), .second, .val (.int p6), .val (.int (3 : Int32)), .val (.ref xs), .val (.ref ys), .val (.ref zs), .unset, .unset, .unset] [(.ref zs)])) _
      refine XS.iconst X116.here hx rfl (hb hby at_91) ?_
      show Steps p.tables e below (T116.setTop (mkF m 92 #[.val (.long q1), .second, .val (.long q2), .second, .val (.long q3), .second, .val (.long q4), .second, .val (.long q5), .second, .val (.int p6), .val (.int (3 : Int32)), .val (.ref xs), .val (.ref ys), .val (.ref zs), .unset, .unset, .unset] [(.int (2 : Int32)), (.ref zs)])) _
      refine XS.lload X116.here hx rfl (hb hby at_92) rfl ?_
      exact kont
    obtain ⟨T117, h117, X117, e117, W117, V_zs_117, st117⟩ := own_stJ X116 hx hZ e116 V_zs_116 (j := (2 : Int32)) (i := 2) (own_at_lit rfl (by decide)) (by decide) (g := (mkF m 94 #[.val (.long q1), .second, .val (.long q2), .second, .val (.long q3), .second, .val (.long q4), .second, .val (.long q5), .second, .val (.int p6), .val (.int (3 : Int32)), .val (.ref xs), .val (.ref ys), .val (.ref zs), .unset, .unset, .unset] [(.long q3), (.int (2 : Int32)), (.ref zs)])) rfl rfl (hb hby at_94)
    have N117 := Fr.snoc X117 N116 g_zs
    have Z117 : n0 ≤ h117.size := Nat.le_trans Z116 (Keep.of_wr W117).1
    have V_xs_117 : own_A Z h117 xs .long 5 (own_upd (own_upd (own_upd (own_upd (own_upd (fun _ => (.long (0 : Int64))) 0 (.long q4)) 1 (.long q1)) 2 (.long q2)) 3 (.long q3)) 4 (.long q5)) := V_xs_116.other W117 ne_xs_zs
    have V_ys_117 : own_A Z h117 ys .long 6 (own_upd (own_upd (own_upd (own_upd (own_upd (own_upd (fun _ => (.long (0 : Int64))) 0 (.long q5)) 1 (.long q4)) 2 (.long q5)) 3 (.long q1)) 4 (.long q2)) 5 (.long q3)) := V_ys_116.other W117 ne_ys_zs
    refine own_step st117 ?_
    refine own_step (T' := T117) (f' := (mkF m 174 #[.val (.long q1), .second, .val (.long q2), .second, .val (.long q3), .second, .val (.long q4), .second, .val (.long q5), .second, .val (.int p6), .val (.int (3 : Int32)), .val (.ref xs), .val (.ref ys), .val (.ref zs), .unset, .unset, .unset] [(.int ((1 : Int32) + (3 : Int32))), (.int (1 : Int32)), (.ref xs)])) (fun tt kont => ?_) ?_
    · show Steps p.tables e below (T117.setTop (mkF m 95 #[.val (.long q1), .second, .val (.long q2), .second, .val (.long q3), .second, .val (.long q4), .second, .val (.long q5), .second, .val (.int p6), .val (.int (3 : Int32)), .val (.ref xs), .val (.ref ys), .val (.ref zs), .unset, .unset, .unset] [])) _
      refine XS.goto X117.here hx rfl (pc0 := 95) (pc' := 167) rfl (hb hby at_95) (by decide) (by decide) ?_
      show Steps p.tables e below (T117.setTop (mkF m 167 #[.val (.long q1), .second, .val (.long q2), .second, .val (.long q3), .second, .val (.long q4), .second, .val (.long q5), .second, .val (.int p6), .val (.int (3 : Int32)), .val (.ref xs), .val (.ref ys), .val (.ref zs), .unset, .unset, .unset] [])) _
      refine XS.aload X117.here hx rfl (hb hby at_167) rfl rfl ?_
      show Steps p.tables e below (T117.setTop (mkF m 169 #[.val (.long q1), .second, .val (.long q2), .second, .val (.long q3), .second, .val (.long q4), .second, .val (.long q5), .second, .val (.int p6), .val (.int (3 : Int32)), .val (.ref xs), .val (.ref ys), .val (.ref zs), .unset, .unset, .unset] [(.ref xs)])) _
      refine XS.iconst X117.here hx rfl (hb hby at_169) ?_
      show Steps p.tables e below (T117.setTop (mkF m 170 #[.val (.long q1), .second, .val (.long q2), .second, .val (.long q3), .second, .val (.long q4), .second, .val (.long q5), .second, .val (.int p6), .val (.int (3 : Int32)), .val (.ref xs), .val (.ref ys), .val (.ref zs), .unset, .unset, .unset] [(.int (1 : Int32)), (.ref xs)])) _
      refine XS.iconst X117.here hx rfl (hb hby at_170) ?_
      show Steps p.tables e below (T117.setTop (mkF m 171 #[.val (.long q1), .second, .val (.long q2), .second, .val (.long q3), .second, .val (.long q4), .second, .val (.long q5), .second, .val (.int p6), .val (.int (3 : Int32)), .val (.ref xs), .val (.ref ys), .val (.ref zs), .unset, .unset, .unset] [(.int (1 : Int32)), (.int (1 : Int32)), (.ref xs)])) _
      refine XS.iload X117.here hx rfl (hb hby at_171) rfl ?_
      show Steps p.tables e below (T117.setTop (mkF m 173 #[.val (.long q1), .second, .val (.long q2), .second, .val (.long q3), .second, .val (.long q4), .second, .val (.long q5), .second, .val (.int p6), .val (.int (3 : Int32)), .val (.ref xs), .val (.ref ys), .val (.ref zs), .unset, .unset, .unset] [(.int (3 : Int32)), (.int (1 : Int32)), (.int (1 : Int32)), (.ref xs)])) _
      refine XS.iadd X117.here hx rfl (hb hby at_173) rfl ?_
      exact kont
    obtain ⟨_, _, ⟨T118, L118, k118, n118⟩, -, X118, ⟨Lc118, hQ118, l118, y118, z118⟩, st118⟩ := Jvm.LawKit.callS X117 hx (y := (⟨"com/example/guarantor/guarantor/automata/StateTable", "hash", "([JII)I"⟩ : MethodName)) hown (mvT hZ (hw _ (List.mem_of_getElem? (i := 1) rfl))) (mvT hZ (hw _ (List.mem_of_getElem? (i := 2) rfl))) (mvT hZ (hw _ (List.mem_of_getElem? (i := 3) rfl))) (mvT hZ (hw _ (List.mem_of_getElem? (i := 4) rfl))) (by decide) (backOf (W := 0) (own_rm1 l Z a0 hw xs (1 : Int32) ((1 : Int32) + (3 : Int32)) 5 1 3 (own_upd (own_upd (own_upd (own_upd (own_upd (fun _ => (.long (0 : Int64))) 0 (.long q4)) 1 (.long q1)) 2 (.long q2)) 3 (.long q3)) 4 (.long q5)) (own_g q1 q2 q3) h117 n0 V_xs_117 (by decide) (by decide) (by decide) (own_lt3 rfl rfl rfl)) hZ (hw _ (List.mem_of_getElem? (i := 4) rfl)) (hw _ (List.mem_of_getElem? (i := 3) rfl)) (by decide) (by decide)) (g := (mkF m 174 #[.val (.long q1), .second, .val (.long q2), .second, .val (.long q3), .second, .val (.long q4), .second, .val (.long q5), .second, .val (.int p6), .val (.int (3 : Int32)), .val (.ref xs), .val (.ref ys), .val (.ref zs), .unset, .unset, .unset] [(.int ((1 : Int32) + (3 : Int32))), (.int (1 : Int32)), (.ref xs)])) rfl (by rw [hml]; rfl) (argsL := [(.ref xs), (.int (1 : Int32)), (.int ((1 : Int32) + (3 : Int32)))]) (rest := []) (lenOf own_pd0 rfl) rfl (by show 2 * 0 + _ ≤ _; exact Nat.le_of_eq rfl) (hb hby at_174) (fun _ _ => ⟨rfl, e117, (by decide : 3 + 0 ≤ _), (by decide : 14 + 0 ≤ _)⟩)
    dsimp only [Pt.U, Pt.locs, Pt.cells, Pt.slots] at X118 l118 y118 z118 st118 hQ118
    subst l118 y118 z118
    obtain ⟨rfl, N118q, e118⟩ := hQ118
    have N118 := Fr.app N117 N118q
    refine own_step (fun tt kont => st118 _ kont) ?_
    refine own_step (T' := T118) (f' := (mkF m 186 #[.val (.long q1), .second, .val (.long q2), .second, .val (.long q3), .second, .val (.long q4), .second, .val (.long q5), .second, .val (.int p6), .val (.int (3 : Int32)), .val (.ref xs), .val (.ref ys), .val (.ref zs), .val (.int (own_fin (own_fold (own_g q1 q2 q3) 3))), .unset, .unset] [(.int ((3 : Int32) + (3 : Int32))), (.int (3 : Int32)), (.ref ys)])) (fun tt kont => ?_) ?_
    · show Steps p.tables e below (T118.setTop (mkF m 177 #[.val (.long q1), .second, .val (.long q2), .second, .val (.long q3), .second, .val (.long q4), .second, .val (.long q5), .second, .val (.int p6), .val (.int (3 : Int32)), .val (.ref xs), .val (.ref ys), .val (.ref zs), .unset, .unset, .unset] [(.int (own_fin (own_fold (own_g q1 q2 q3) 3)))])) _
      refine XS.istore X118.here hx rfl (hb hby at_177) rfl (l' := #[.val (.long q1), .second, .val (.long q2), .second, .val (.long q3), .second, .val (.long q4), .second, .val (.long q5), .second, .val (.int p6), .val (.int (3 : Int32)), .val (.ref xs), .val (.ref ys), .val (.ref zs), .val (.int (own_fin (own_fold (own_g q1 q2 q3) 3))), .unset, .unset]) rfl ?_
      show Steps p.tables e below (T118.setTop (mkF m 179 #[.val (.long q1), .second, .val (.long q2), .second, .val (.long q3), .second, .val (.long q4), .second, .val (.long q5), .second, .val (.int p6), .val (.int (3 : Int32)), .val (.ref xs), .val (.ref ys), .val (.ref zs), .val (.int (own_fin (own_fold (own_g q1 q2 q3) 3))), .unset, .unset] [])) _
      refine XS.aload X118.here hx rfl (hb hby at_179) rfl rfl ?_
      show Steps p.tables e below (T118.setTop (mkF m 181 #[.val (.long q1), .second, .val (.long q2), .second, .val (.long q3), .second, .val (.long q4), .second, .val (.long q5), .second, .val (.int p6), .val (.int (3 : Int32)), .val (.ref xs), .val (.ref ys), .val (.ref zs), .val (.int (own_fin (own_fold (own_g q1 q2 q3) 3))), .unset, .unset] [(.ref ys)])) _
      refine XS.iconst X118.here hx rfl (hb hby at_181) ?_
      show Steps p.tables e below (T118.setTop (mkF m 182 #[.val (.long q1), .second, .val (.long q2), .second, .val (.long q3), .second, .val (.long q4), .second, .val (.long q5), .second, .val (.int p6), .val (.int (3 : Int32)), .val (.ref xs), .val (.ref ys), .val (.ref zs), .val (.int (own_fin (own_fold (own_g q1 q2 q3) 3))), .unset, .unset] [(.int (3 : Int32)), (.ref ys)])) _
      refine XS.iconst X118.here hx rfl (hb hby at_182) ?_
      show Steps p.tables e below (T118.setTop (mkF m 183 #[.val (.long q1), .second, .val (.long q2), .second, .val (.long q3), .second, .val (.long q4), .second, .val (.long q5), .second, .val (.int p6), .val (.int (3 : Int32)), .val (.ref xs), .val (.ref ys), .val (.ref zs), .val (.int (own_fin (own_fold (own_g q1 q2 q3) 3))), .unset, .unset] [(.int (3 : Int32)), (.int (3 : Int32)), (.ref ys)])) _
      refine XS.iload X118.here hx rfl (hb hby at_183) rfl ?_
      show Steps p.tables e below (T118.setTop (mkF m 185 #[.val (.long q1), .second, .val (.long q2), .second, .val (.long q3), .second, .val (.long q4), .second, .val (.long q5), .second, .val (.int p6), .val (.int (3 : Int32)), .val (.ref xs), .val (.ref ys), .val (.ref zs), .val (.int (own_fin (own_fold (own_g q1 q2 q3) 3))), .unset, .unset] [(.int (3 : Int32)), (.int (3 : Int32)), (.int (3 : Int32)), (.ref ys)])) _
      refine XS.iadd X118.here hx rfl (hb hby at_185) rfl ?_
      exact kont
    obtain ⟨_, _, ⟨T119, L119, k119, n119⟩, -, X119, ⟨Lc119, hQ119, l119, y119, z119⟩, st119⟩ := Jvm.LawKit.callS X118 hx (y := (⟨"com/example/guarantor/guarantor/automata/StateTable", "hash", "([JII)I"⟩ : MethodName)) hown (mvT hZ (hw _ (List.mem_of_getElem? (i := 1) rfl))) (mvT hZ (hw _ (List.mem_of_getElem? (i := 2) rfl))) (mvT hZ (hw _ (List.mem_of_getElem? (i := 3) rfl))) (mvT hZ (hw _ (List.mem_of_getElem? (i := 4) rfl))) (by decide) (backOf (W := 0) (own_rm1 l Z a0 hw ys (3 : Int32) ((3 : Int32) + (3 : Int32)) 6 3 3 (own_upd (own_upd (own_upd (own_upd (own_upd (own_upd (fun _ => (.long (0 : Int64))) 0 (.long q5)) 1 (.long q4)) 2 (.long q5)) 3 (.long q1)) 4 (.long q2)) 5 (.long q3)) (own_g q1 q2 q3) h117 n0 V_ys_117 (by decide) (by decide) (by decide) (own_lt3 rfl rfl rfl)) hZ (hw _ (List.mem_of_getElem? (i := 4) rfl)) (hw _ (List.mem_of_getElem? (i := 3) rfl)) (by decide) (by decide)) (g := (mkF m 186 #[.val (.long q1), .second, .val (.long q2), .second, .val (.long q3), .second, .val (.long q4), .second, .val (.long q5), .second, .val (.int p6), .val (.int (3 : Int32)), .val (.ref xs), .val (.ref ys), .val (.ref zs), .val (.int (own_fin (own_fold (own_g q1 q2 q3) 3))), .unset, .unset] [(.int ((3 : Int32) + (3 : Int32))), (.int (3 : Int32)), (.ref ys)])) rfl (by rw [hml]; rfl) (argsL := [(.ref ys), (.int (3 : Int32)), (.int ((3 : Int32) + (3 : Int32)))]) (rest := []) (lenOf own_pd0 rfl) rfl (by show 2 * 0 + _ ≤ _; exact Nat.le_of_eq rfl) (hb hby at_186) (fun _ _ => ⟨rfl, e118, (by decide : 3 + 0 ≤ _), (by decide : 14 + 0 ≤ _)⟩)
    dsimp only [Pt.U, Pt.locs, Pt.cells, Pt.slots] at X119 l119 y119 z119 st119 hQ119
    subst l119 y119 z119
    obtain ⟨rfl, N119q, e119⟩ := hQ119
    have N119 := Fr.app N118 N119q
    refine own_step (fun tt kont => st119 _ kont) ?_
    refine own_step (T' := T119) (f' := (mkF m 198 #[.val (.long q1), .second, .val (.long q2), .second, .val (.long q3), .second, .val (.long q4), .second, .val (.long q5), .second, .val (.int p6), .val (.int (3 : Int32)), .val (.ref xs), .val (.ref ys), .val (.ref zs), .val (.int (own_fin (own_fold (own_g q1 q2 q3) 3))), .val (.int (own_fin (own_fold (own_g q1 q2 q3) 3))), .unset] [(.int (3 : Int32)), (.int ((3 : Int32) - (3 : Int32))), (.ref zs)])) (fun tt kont => ?_) ?_
    · show Steps p.tables e below (T119.setTop (mkF m 189 #[.val (.long q1), .second, .val (.long q2), .second, .val (.long q3), .second, .val (.long q4), .second, .val (.long q5), .second, .val (.int p6), .val (.int (3 : Int32)), .val (.ref xs), .val (.ref ys), .val (.ref zs), .val (.int (own_fin (own_fold (own_g q1 q2 q3) 3))), .unset, .unset] [(.int (own_fin (own_fold (own_g q1 q2 q3) 3)))])) _
      refine XS.istore X119.here hx rfl (hb hby at_189) rfl (l' := #[.val (.long q1), .second, .val (.long q2), .second, .val (.long q3), .second, .val (.long q4), .second, .val (.long q5), .second, .val (.int p6), .val (.int (3 : Int32)), .val (.ref xs), .val (.ref ys), .val (.ref zs), .val (.int (own_fin (own_fold (own_g q1 q2 q3) 3))), .val (.int (own_fin (own_fold (own_g q1 q2 q3) 3))), .unset]) rfl ?_
      show Steps p.tables e below (T119.setTop (mkF m 191 #[.val (.long q1), .second, .val (.long q2), .second, .val (.long q3), .second, .val (.long q4), .second, .val (.long q5), .second, .val (.int p6), .val (.int (3 : Int32)), .val (.ref xs), .val (.ref ys), .val (.ref zs), .val (.int (own_fin (own_fold (own_g q1 q2 q3) 3))), .val (.int (own_fin (own_fold (own_g q1 q2 q3) 3))), .unset] [])) _
      refine XS.aload X119.here hx rfl (hb hby at_191) rfl rfl ?_
      show Steps p.tables e below (T119.setTop (mkF m 193 #[.val (.long q1), .second, .val (.long q2), .second, .val (.long q3), .second, .val (.long q4), .second, .val (.long q5), .second, .val (.int p6), .val (.int (3 : Int32)), .val (.ref xs), .val (.ref ys), .val (.ref zs), .val (.int (own_fin (own_fold (own_g q1 q2 q3) 3))), .val (.int (own_fin (own_fold (own_g q1 q2 q3) 3))), .unset] [(.ref zs)])) _
      refine XS.iconst X119.here hx rfl (hb hby at_193) ?_
      show Steps p.tables e below (T119.setTop (mkF m 194 #[.val (.long q1), .second, .val (.long q2), .second, .val (.long q3), .second, .val (.long q4), .second, .val (.long q5), .second, .val (.int p6), .val (.int (3 : Int32)), .val (.ref xs), .val (.ref ys), .val (.ref zs), .val (.int (own_fin (own_fold (own_g q1 q2 q3) 3))), .val (.int (own_fin (own_fold (own_g q1 q2 q3) 3))), .unset] [(.int (3 : Int32)), (.ref zs)])) _
      refine XS.iload X119.here hx rfl (hb hby at_194) rfl ?_
      show Steps p.tables e below (T119.setTop (mkF m 196 #[.val (.long q1), .second, .val (.long q2), .second, .val (.long q3), .second, .val (.long q4), .second, .val (.long q5), .second, .val (.int p6), .val (.int (3 : Int32)), .val (.ref xs), .val (.ref ys), .val (.ref zs), .val (.int (own_fin (own_fold (own_g q1 q2 q3) 3))), .val (.int (own_fin (own_fold (own_g q1 q2 q3) 3))), .unset] [(.int (3 : Int32)), (.int (3 : Int32)), (.ref zs)])) _
      refine XS.isub X119.here hx rfl (hb hby at_196) rfl ?_
      show Steps p.tables e below (T119.setTop (mkF m 197 #[.val (.long q1), .second, .val (.long q2), .second, .val (.long q3), .second, .val (.long q4), .second, .val (.long q5), .second, .val (.int p6), .val (.int (3 : Int32)), .val (.ref xs), .val (.ref ys), .val (.ref zs), .val (.int (own_fin (own_fold (own_g q1 q2 q3) 3))), .val (.int (own_fin (own_fold (own_g q1 q2 q3) 3))), .unset] [(.int ((3 : Int32) - (3 : Int32))), (.ref zs)])) _
      refine XS.iconst X119.here hx rfl (hb hby at_197) ?_
      exact kont
    obtain ⟨_, _, ⟨T120, L120, k120, n120⟩, -, X120, ⟨Lc120, hQ120, l120, y120, z120⟩, st120⟩ := Jvm.LawKit.callS X119 hx (y := (⟨"com/example/guarantor/guarantor/automata/StateTable", "hash", "([JII)I"⟩ : MethodName)) hown (mvT hZ (hw _ (List.mem_of_getElem? (i := 1) rfl))) (mvT hZ (hw _ (List.mem_of_getElem? (i := 2) rfl))) (mvT hZ (hw _ (List.mem_of_getElem? (i := 3) rfl))) (mvT hZ (hw _ (List.mem_of_getElem? (i := 4) rfl))) (by decide) (backOf (W := 0) (own_rm1 l Z a0 hw zs ((3 : Int32) - (3 : Int32)) (3 : Int32) 3 0 3 (own_upd (own_upd (own_upd (fun _ => (.long (0 : Int64))) 0 (.long q1)) 1 (.long q2)) 2 (.long q3)) (own_g q1 q2 q3) h117 n0 V_zs_117 (by decide) (by decide) (by decide) (own_lt3 rfl rfl rfl)) hZ (hw _ (List.mem_of_getElem? (i := 4) rfl)) (hw _ (List.mem_of_getElem? (i := 3) rfl)) (by decide) (by decide)) (g := (mkF m 198 #[.val (.long q1), .second, .val (.long q2), .second, .val (.long q3), .second, .val (.long q4), .second, .val (.long q5), .second, .val (.int p6), .val (.int (3 : Int32)), .val (.ref xs), .val (.ref ys), .val (.ref zs), .val (.int (own_fin (own_fold (own_g q1 q2 q3) 3))), .val (.int (own_fin (own_fold (own_g q1 q2 q3) 3))), .unset] [(.int (3 : Int32)), (.int ((3 : Int32) - (3 : Int32))), (.ref zs)])) rfl (by rw [hml]; rfl) (argsL := [(.ref zs), (.int ((3 : Int32) - (3 : Int32))), (.int (3 : Int32))]) (rest := []) (lenOf own_pd0 rfl) rfl (by show 2 * 0 + _ ≤ _; exact Nat.le_of_eq rfl) (hb hby at_198) (fun _ _ => ⟨rfl, e119, (by decide : 3 + 0 ≤ _), (by decide : 14 + 0 ≤ _)⟩)
    dsimp only [Pt.U, Pt.locs, Pt.cells, Pt.slots] at X120 l120 y120 z120 st120 hQ120
    subst l120 y120 z120
    obtain ⟨rfl, N120q, e120⟩ := hQ120
    have N120 := Fr.app N119 N120q
    refine own_step (fun tt kont => st120 _ kont) ?_
    refine own_step (T' := T120) (f' := (mkF m 222 #[.val (.long q1), .second, .val (.long q2), .second, .val (.long q3), .second, .val (.long q4), .second, .val (.long q5), .second, .val (.int p6), .val (.int (3 : Int32)), .val (.ref xs), .val (.ref ys), .val (.ref zs), .val (.int (own_fin (own_fold (own_g q1 q2 q3) 3))), .val (.int (own_fin (own_fold (own_g q1 q2 q3) 3))), .val (.int (own_fin (own_fold (own_g q1 q2 q3) 3)))] [(.int (1 : Int32))])) (fun tt kont => ?_) ?_
    · show Steps p.tables e below (T120.setTop (mkF m 201 #[.val (.long q1), .second, .val (.long q2), .second, .val (.long q3), .second, .val (.long q4), .second, .val (.long q5), .second, .val (.int p6), .val (.int (3 : Int32)), .val (.ref xs), .val (.ref ys), .val (.ref zs), .val (.int (own_fin (own_fold (own_g q1 q2 q3) 3))), .val (.int (own_fin (own_fold (own_g q1 q2 q3) 3))), .unset] [(.int (own_fin (own_fold (own_g q1 q2 q3) 3)))])) _
      refine XS.istore X120.here hx rfl (hb hby at_201) rfl (l' := #[.val (.long q1), .second, .val (.long q2), .second, .val (.long q3), .second, .val (.long q4), .second, .val (.long q5), .second, .val (.int p6), .val (.int (3 : Int32)), .val (.ref xs), .val (.ref ys), .val (.ref zs), .val (.int (own_fin (own_fold (own_g q1 q2 q3) 3))), .val (.int (own_fin (own_fold (own_g q1 q2 q3) 3))), .val (.int (own_fin (own_fold (own_g q1 q2 q3) 3)))]) rfl ?_
      show Steps p.tables e below (T120.setTop (mkF m 203 #[.val (.long q1), .second, .val (.long q2), .second, .val (.long q3), .second, .val (.long q4), .second, .val (.long q5), .second, .val (.int p6), .val (.int (3 : Int32)), .val (.ref xs), .val (.ref ys), .val (.ref zs), .val (.int (own_fin (own_fold (own_g q1 q2 q3) 3))), .val (.int (own_fin (own_fold (own_g q1 q2 q3) 3))), .val (.int (own_fin (own_fold (own_g q1 q2 q3) 3)))] [])) _
      refine XS.iload X120.here hx rfl (hb hby at_203) rfl ?_
      show Steps p.tables e below (T120.setTop (mkF m 205 #[.val (.long q1), .second, .val (.long q2), .second, .val (.long q3), .second, .val (.long q4), .second, .val (.long q5), .second, .val (.int p6), .val (.int (3 : Int32)), .val (.ref xs), .val (.ref ys), .val (.ref zs), .val (.int (own_fin (own_fold (own_g q1 q2 q3) 3))), .val (.int (own_fin (own_fold (own_g q1 q2 q3) 3))), .val (.int (own_fin (own_fold (own_g q1 q2 q3) 3)))] [(.int (own_fin (own_fold (own_g q1 q2 q3) 3)))])) _
      refine XS.iload X120.here hx rfl (hb hby at_205) rfl ?_
      show Steps p.tables e below (T120.setTop (mkF m 207 #[.val (.long q1), .second, .val (.long q2), .second, .val (.long q3), .second, .val (.long q4), .second, .val (.long q5), .second, .val (.int p6), .val (.int (3 : Int32)), .val (.ref xs), .val (.ref ys), .val (.ref zs), .val (.int (own_fin (own_fold (own_g q1 q2 q3) 3))), .val (.int (own_fin (own_fold (own_g q1 q2 q3) 3))), .val (.int (own_fin (own_fold (own_g q1 q2 q3) 3)))] [(.int (own_fin (own_fold (own_g q1 q2 q3) 3))), (.int (own_fin (own_fold (own_g q1 q2 q3) 3)))])) _
      refine XS.icmpNo X120.here hx rfl (hb hby at_207) rfl (teq (rfl : (own_fin (own_fold (own_g q1 q2 q3) 3)) = (own_fin (own_fold (own_g q1 q2 q3) 3)))).2 ?_
      show Steps p.tables e below (T120.setTop (mkF m 210 #[.val (.long q1), .second, .val (.long q2), .second, .val (.long q3), .second, .val (.long q4), .second, .val (.long q5), .second, .val (.int p6), .val (.int (3 : Int32)), .val (.ref xs), .val (.ref ys), .val (.ref zs), .val (.int (own_fin (own_fold (own_g q1 q2 q3) 3))), .val (.int (own_fin (own_fold (own_g q1 q2 q3) 3))), .val (.int (own_fin (own_fold (own_g q1 q2 q3) 3)))] [])) _
      refine XS.iload X120.here hx rfl (hb hby at_210) rfl ?_
      show Steps p.tables e below (T120.setTop (mkF m 212 #[.val (.long q1), .second, .val (.long q2), .second, .val (.long q3), .second, .val (.long q4), .second, .val (.long q5), .second, .val (.int p6), .val (.int (3 : Int32)), .val (.ref xs), .val (.ref ys), .val (.ref zs), .val (.int (own_fin (own_fold (own_g q1 q2 q3) 3))), .val (.int (own_fin (own_fold (own_g q1 q2 q3) 3))), .val (.int (own_fin (own_fold (own_g q1 q2 q3) 3)))] [(.int (own_fin (own_fold (own_g q1 q2 q3) 3)))])) _
      refine XS.iload X120.here hx rfl (hb hby at_212) rfl ?_
      show Steps p.tables e below (T120.setTop (mkF m 214 #[.val (.long q1), .second, .val (.long q2), .second, .val (.long q3), .second, .val (.long q4), .second, .val (.long q5), .second, .val (.int p6), .val (.int (3 : Int32)), .val (.ref xs), .val (.ref ys), .val (.ref zs), .val (.int (own_fin (own_fold (own_g q1 q2 q3) 3))), .val (.int (own_fin (own_fold (own_g q1 q2 q3) 3))), .val (.int (own_fin (own_fold (own_g q1 q2 q3) 3)))] [(.int (own_fin (own_fold (own_g q1 q2 q3) 3))), (.int (own_fin (own_fold (own_g q1 q2 q3) 3)))])) _
      refine XS.icmpNo X120.here hx rfl (hb hby at_214) rfl (teq (rfl : (own_fin (own_fold (own_g q1 q2 q3) 3)) = (own_fin (own_fold (own_g q1 q2 q3) 3)))).2 ?_
      show Steps p.tables e below (T120.setTop (mkF m 217 #[.val (.long q1), .second, .val (.long q2), .second, .val (.long q3), .second, .val (.long q4), .second, .val (.long q5), .second, .val (.int p6), .val (.int (3 : Int32)), .val (.ref xs), .val (.ref ys), .val (.ref zs), .val (.int (own_fin (own_fold (own_g q1 q2 q3) 3))), .val (.int (own_fin (own_fold (own_g q1 q2 q3) 3))), .val (.int (own_fin (own_fold (own_g q1 q2 q3) 3)))] [])) _
      refine XS.iconst X120.here hx rfl (hb hby at_217) ?_
      show Steps p.tables e below (T120.setTop (mkF m 218 #[.val (.long q1), .second, .val (.long q2), .second, .val (.long q3), .second, .val (.long q4), .second, .val (.long q5), .second, .val (.int p6), .val (.int (3 : Int32)), .val (.ref xs), .val (.ref ys), .val (.ref zs), .val (.int (own_fin (own_fold (own_g q1 q2 q3) 3))), .val (.int (own_fin (own_fold (own_g q1 q2 q3) 3))), .val (.int (own_fin (own_fold (own_g q1 q2 q3) 3)))] [(.int (1 : Int32))])) _
      refine XS.goto X120.here hx rfl (pc0 := 218) (pc' := 222) rfl (hb hby at_218) (by decide) (by decide) ?_
      exact kont
    exact own_retZ X120 hx hret hlk (hb hby at_222) (by decide) (by decide) ⟨rfl, N120⟩
  · refine own_step (T' := T114) (f' := (mkF m 101 #[.val (.long q1), .second, .val (.long q2), .second, .val (.long q3), .second, .val (.long q4), .second, .val (.long q5), .second, .val (.int p6), .val (.int yN), .val (.ref xs), .val (.ref ys), .val (.ref zs), .unset, .unset, .unset] [(.int (2 : Int32)), (.int yN)])) (fun tt kont => ?_) ?_
    · show Steps p.tables e below (T114.setTop (mkF m 76 #[.val (.long q1), .second, .val (.long q2), .second, .val (.long q3), .second, .val (.long q4), .second, .val (.long q5), .second, .val (.int p6), .val (.int yN), .val (.ref xs), .val (.ref ys), .val (.ref zs), .unset, .unset, .unset] [(.int (3 : Int32)), (.int yN)])) _
      refine XS.icmpYes X114.here hx rfl (pc0 := 76) (pc' := 98) rfl (hb hby at_76) rfl (feq hc76_1).2 (by decide) (by decide) ?_
      show Steps p.tables e below (T114.setTop (mkF m 98 #[.val (.long q1), .second, .val (.long q2), .second, .val (.long q3), .second, .val (.long q4), .second, .val (.long q5), .second, .val (.int p6), .val (.int yN), .val (.ref xs), .val (.ref ys), .val (.ref zs), .unset, .unset, .unset] [])) _
      refine XS.iload X114.here hx rfl (hb hby at_98) rfl ?_
      show Steps p.tables e below (T114.setTop (mkF m 100 #[.val (.long q1), .second, .val (.long q2), .second, .val (.long q3), .second, .val (.long q4), .second, .val (.long q5), .second, .val (.int p6), .val (.int yN), .val (.ref xs), .val (.ref ys), .val (.ref zs), .unset, .unset, .unset] [(.int yN)])) _
      refine XS.iconst X114.here hx rfl (hb hby at_100) ?_
      exact kont
    by_cases hc101_2 : yN = (2 : Int32)
    · refine own_step (T' := T114) (f' := (mkF m 104 #[.val (.long q1), .second, .val (.long q2), .second, .val (.long q3), .second, .val (.long q4), .second, .val (.long q5), .second, .val (.int p6), .val (.int yN), .val (.ref xs), .val (.ref ys), .val (.ref zs), .unset, .unset, .unset] [])) (fun tt kont => ?_) ?_
      · show Steps p.tables e below (T114.setTop (mkF m 101 #[.val (.long q1), .second, .val (.long q2), .second, .val (.long q3), .second, .val (.long q4), .second, .val (.long q5), .second, .val (.int p6), .val (.int yN), .val (.ref xs), .val (.ref ys), .val (.ref zs), .unset, .unset, .unset] [(.int (2 : Int32)), (.int yN)])) _
        refine XS.icmpNo X114.here hx rfl (hb hby at_101) rfl (teq hc101_2).2 ?_
        exact kont
      obtain rfl := hc101_2
      refine own_step (T' := T114) (f' := (mkF m 109 #[.val (.long q1), .second, .val (.long q2), .second, .val (.long q3), .second, .val (.long q4), .second, .val (.long q5), .second, .val (.int p6), .val (.int (2 : Int32)), .val (.ref xs), .val (.ref ys), .val (.ref zs), .unset, .unset, .unset] [(.long q4), (.int (0 : Int32)), (.ref zs)])) (fun tt kont => ?_) ?_
      · show Steps p.tables e below (T114.setTop (mkF m 104 #[.val (.long q1), .second, .val (.long q2), .second, .val (.long q3), .second, .val (.long q4), .second, .val (.long q5), .second, .val (.int p6), .val (.int (2 : Int32)), .val (.ref xs), .val (.ref ys), .val (.ref zs), .unset, .unset, .unset] [])) _
        refine XS.aload X114.here hx rfl (hb hby at_104) rfl rfl ?_
        show Steps p.tables e below (T114.setTop (mkF m 106 #[.val (.long q1), .second, .val (.long q2), .second, .val (.long q3), .second, .val (.long q4), .second, .val (.long q5), .second, .val (.int p6), .val (.int (2 : Int32)), .val (.ref xs), .val (.ref ys), .val (.ref zs), .unset, .unset, .unset] [(.ref zs)])) _
        refine XS.iconst X114.here hx rfl (hb hby at_106) ?_
        show Steps p.tables e below (T114.setTop (mkF m 107 #[.val (.long q1), .second, .val (.long q2), .second, .val (.long q3), .second, .val (.long q4), .second, .val (.long q5), .second, .val (.int p6), .val (.int (2 : Int32)), .val (.ref xs), .val (.ref ys), .val (.ref zs), .unset, .unset, .unset] [(.int (0 : Int32)), (.ref zs)])) _
        refine XS.lload X114.here hx rfl (hb hby at_107) rfl ?_
        exact kont
      obtain ⟨T121, h121, X121, e121, W121, V_zs_121, st121⟩ := own_stJ X114 hx hZ e114 V_zs_114 (j := (0 : Int32)) (i := 0) (own_at_lit rfl (by decide)) (by decide) (g := (mkF m 109 #[.val (.long q1), .second, .val (.long q2), .second, .val (.long q3), .second, .val (.long q4), .second, .val (.long q5), .second, .val (.int p6), .val (.int (2 : Int32)), .val (.ref xs), .val (.ref ys), .val (.ref zs), .unset, .unset, .unset] [(.long q4), (.int (0 : Int32)), (.ref zs)])) rfl rfl (hb hby at_109)
      have N121 := Fr.snoc X121 N113 g_zs
      have Z121 : n0 ≤ h121.size := Nat.le_trans Z114 (Keep.of_wr W121).1
      have V_xs_121 : own_A Z h121 xs .long 5 (own_upd (own_upd (own_upd (own_upd (own_upd (fun _ => (.long (0 : Int64))) 0 (.long q4)) 1 (.long q1)) 2 (.long q2)) 3 (.long q3)) 4 (.long q5)) := V_xs_114.other W121 ne_xs_zs
      have V_ys_121 : own_A Z h121 ys .long 6 (own_upd (own_upd (own_upd (own_upd (own_upd (own_upd (fun _ => (.long (0 : Int64))) 0 (.long q5)) 1 (.long q4)) 2 (.long q5)) 3 (.long q1)) 4 (.long q2)) 5 (.long q3)) := V_ys_114.other W121 ne_ys_zs
      refine own_step st121 ?_
      refine own_step (T' := T121) (f' := (mkF m 114 #[.val (.long q1), .second, .val (.long q2), .second, .val (.long q3), .second, .val (.long q4), .second, .val (.long q5), .second, .val (.int p6), .val (.int (2 : Int32)), .val (.ref xs), .val (.ref ys), .val (.ref zs), .unset, .unset, .unset] [(.long q1), (.int (1 : Int32)), (.ref zs)])) (fun tt kont => ?_) ?_
      · show Steps p.tables e below (T121.setTop (mkF m 110 #[.val (.long q1), .second, .val (.long q2), .second, .val (.long q3), .second, .val (.long q4), .second, .val (.long q5), .second, .val (.int p6), .val (.int (2 : Int32)), .val (.ref xs), .val (.ref ys), .val (.ref zs), .unset, .unset, .unset] [])) _
        refine XS.aload X121.here hx rfl (hb hby at_110) rfl rfl ?_
        show Steps p.tables e below (T121.setTop (mkF m 112 #[.val (.long q1), .second, .val (.long q2), .second, .val (.long q3), .second, .val (.long q4), .second, .val (.long q5), .second, .val (.int p6), .val (.int (2 : Int32)), .val (.ref xs), .val (.ref ys), .val (.ref zs), .unset, .unset, .unset] [(.ref zs)])) _
        refine XS.iconst X121.here hx rfl (hb hby at_112) ?_
        show Steps p.tables e below (T121.setTop (mkF m 113 #[.val (.long q1), .second, .val (.long q2), .second, .val (.long q3), .second, .val (.long q4), .second, .val (.long q5), .second, .val (.int p6), .val (.int (2 : Int32)), .val (.ref xs), .val (.ref ys), .val (.ref zs), .unset, .unset, .unset] [(.int (1 : Int32)), (.ref zs)])) _
        refine XS.lloadN X121.here hx rfl (hb hby at_113) rfl ?_
        exact kont
      obtain ⟨T122, h122, X122, e122, W122, V_zs_122, st122⟩ := own_stJ X121 hx hZ e121 V_zs_121 (j := (1 : Int32)) (i := 1) (own_at_lit rfl (by decide)) (by decide) (g := (mkF m 114 #[.val (.long q1), .second, .val (.long q2), .second, .val (.long q3), .second, .val (.long q4), .second, .val (.long q5), .second, .val (.int p6), .val (.int (2 : Int32)), .val (.ref xs), .val (.ref ys), .val (.ref zs), .unset, .unset, .unset] [(.long q1), (.int (1 : Int32)), (.ref zs)])) rfl rfl (hb hby at_114)
      have N122 := Fr.snoc X122 N121 g_zs
      have Z122 : n0 ≤ h122.size := Nat.le_trans Z121 (Keep.of_wr W122).1
      have V_xs_122 : own_A Z h122 xs .long 5 (own_upd (own_upd (own_upd (own_upd (own_upd (fun _ => (.long (0 : Int64))) 0 (.long q4)) 1 (.long q1)) 2 (.long q2)) 3 (.long q3)) 4 (.long q5)) := V_xs_121.other W122 ne_xs_zs
      have V_ys_122 : own_A Z h122 ys .long 6 (own_upd (own_upd (own_upd (own_upd (own_upd (own_upd (fun _ => (.long (0 : Int64))) 0 (.long q5)) 1 (.long q4)) 2 (.long q5)) 3 (.long q1)) 4 (.long q2)) 5 (.long q3)) := V_ys_121.other W122 ne_ys_zs
      refine own_step st122 ?_
      refine own_step (T' := T122) (f' := (mkF m 119 #[.val (.long q1), .second, .val (.long q2), .second, .val (.long q3), .second, .val (.long q4), .second, .val (.long q5), .second, .val (.int p6), .val (.int (2 : Int32)), .val (.ref xs), .val (.ref ys), .val (.ref zs), .unset, .unset, .unset] [(.long q2), (.int (2 : Int32)), (.ref zs)])) (fun tt kont => ?_) ?_
      · show Steps p.tables e below (T122.setTop (mkF m 115 #[.val (.long q1), .second, .val (.long q2), .second, .val (.long q3), .second, .val (.long q4), .second, .val (.long q5), .second, .val (.int p6), .val (.int (2 : Int32)), .val (.ref xs), .val (.ref ys), .val (.ref zs), .unset, .unset, .unset] [])) _
        refine XS.aload X122.here hx rfl (hb hby at_115) rfl rfl ?_
        show Steps p.tables e below (T122.setTop (mkF m 117 #[.val (.long q1), .second, .val (.long q2), .second, .val (.long q3), .second, .val (.long q4), .second, .val (.long q5), .second, .val (.int p6), .val (.int (2 : Int32)), .val (.ref xs), .val (.ref ys), .val (.ref zs), .unset, .unset, .unset] [(.ref zs)])) _
        refine XS.iconst X122.here hx rfl (hb hby at_117) ?_
        show Steps p.tables e below (T122.setTop (mkF m 118 #[.val (.long q1), .second, .val (.long q2), .second, .val (.long q3), .second, .val (.long q4), .second, .val (.long q5), .second, .val (.int p6), .val (.int (2 : Int32)), .val (.ref xs), .val (.ref ys), .val (.ref zs), .unset, .unset, .unset] [(.int (2 : Int32)), (.ref zs)])) _
        refine XS.lloadN X122.here hx rfl (hb hby at_118) rfl ?_
        exact kont
      obtain ⟨T123, h123, X123, e123, W123, V_zs_123, st123⟩ := own_stJ X122 hx hZ e122 V_zs_122 (j := (2 : Int32)) (i := 2) (own_at_lit rfl (by decide)) (by decide) (g := (mkF m 119 #[.val (.long q1), .second, .val (.long q2), .second, .val (.long q3), .second, .val (.long q4), .second, .val (.long q5), .second, .val (.int p6), .val (.int (2 : Int32)), .val (.ref xs), .val (.ref ys), .val (.ref zs), .unset, .unset, .unset] [(.long q2), (.int (2 : Int32)), (.ref zs)])) rfl rfl (hb hby at_119)
      have N123 := Fr.snoc X123 N122 g_zs
      have Z123 : n0 ≤ h123.size := Nat.le_trans Z122 (Keep.of_wr W123).1
      have V_xs_123 : own_A Z h123 xs .long 5 (own_upd (own_upd (own_upd (own_upd (own_upd (fun _ => (.long (0 : Int64))) 0 (.long q4)) 1 (.long q1)) 2 (.long q2)) 3 (.long q3)) 4 (.long q5)) := V_xs_122.other W123 ne_xs_zs
      have V_ys_123 : own_A Z h123 ys .long 6 (own_upd (own_upd (own_upd (own_upd (own_upd (own_upd (fun _ => (.long (0 : Int64))) 0 (.long q5)) 1 (.long q4)) 2 (.long q5)) 3 (.long q1)) 4 (.long q2)) 5 (.long q3)) := V_ys_122.other W123 ne_ys_zs
      refine own_step st123 ?_
      refine own_step (T' := T123) (f' := (mkF m 174 #[.val (.long q1), .second, .val (.long q2), .second, .val (.long q3), .second, .val (.long q4), .second, .val (.long q5), .second, .val (.int p6), .val (.int (2 : Int32)), .val (.ref xs), .val (.ref ys), .val (.ref zs), .unset, .unset, .unset] [(.int ((1 : Int32) + (2 : Int32))), (.int (1 : Int32)), (.ref xs)])) (fun tt kont => ?_) ?_
      · show Steps p.tables e below (T123.setTop (mkF m 120 #[.val (.long q1), .second, .val (.long q2), .second, .val (.long q3), .second, .val (.long q4), .second, .val (.long q5), .second, .val (.int p6), .val (.int (2 : Int32)), .val (.ref xs), .val (.ref ys), .val (.ref zs), .unset, .unset, .unset] [])) _
        refine XS.goto X123.here hx rfl (pc0 := 120) (pc' := 167) rfl (hb hby at_120) (by decide) (by decide) ?_
        show Steps p.tables e below (T123.setTop (mkF m 167 #[.val (.long q1), .second, .val (.long q2), .second, .val (.long q3), .second, .val (.long q4), .second, .val (.long q5), .second, .val (.int p6), .val (.int (2 : Int32)), .val (.ref xs), .val (.ref ys), .val (.ref zs), .unset, .unset, .unset] [])) _
        refine XS.aload X123.here hx rfl (hb hby at_167) rfl rfl ?_
        show Steps p.tables e below (T123.setTop (mkF m 169 #[.val (.long q1), .second, .val (.long q2), .second, .val (.long q3), .second, .val (.long q4), .second, .val (.long q5), .second, .val (.int p6), .val (.int (2 : Int32)), .val (.ref xs), .val (.ref ys), .val (.ref zs), .unset, .unset, .unset] [(.ref xs)])) _
        refine XS.iconst X123.here hx rfl (hb hby at_169) ?_
        show Steps p.tables e below (T123.setTop (mkF m 170 #[.val (.long q1), .second, .val (.long q2), .second, .val (.long q3), .second, .val (.long q4), .second, .val (.long q5), .second, .val (.int p6), .val (.int (2 : Int32)), .val (.ref xs), .val (.ref ys), .val (.ref zs), .unset, .unset, .unset] [(.int (1 : Int32)), (.ref xs)])) _
        refine XS.iconst X123.here hx rfl (hb hby at_170) ?_
        show Steps p.tables e below (T123.setTop (mkF m 171 #[.val (.long q1), .second, .val (.long q2), .second, .val (.long q3), .second, .val (.long q4), .second, .val (.long q5), .second, .val (.int p6), .val (.int (2 : Int32)), .val (.ref xs), .val (.ref ys), .val (.ref zs), .unset, .unset, .unset] [(.int (1 : Int32)), (.int (1 : Int32)), (.ref xs)])) _
        refine XS.iload X123.here hx rfl (hb hby at_171) rfl ?_
        show Steps p.tables e below (T123.setTop (mkF m 173 #[.val (.long q1), .second, .val (.long q2), .second, .val (.long q3), .second, .val (.long q4), .second, .val (.long q5), .second, .val (.int p6), .val (.int (2 : Int32)), .val (.ref xs), .val (.ref ys), .val (.ref zs), .unset, .unset, .unset] [(.int (2 : Int32)), (.int (1 : Int32)), (.int (1 : Int32)), (.ref xs)])) _
        refine XS.iadd X123.here hx rfl (hb hby at_173) rfl ?_
        exact kont
      obtain ⟨_, _, ⟨T124, L124, k124, n124⟩, -, X124, ⟨Lc124, hQ124, l124, y124, z124⟩, st124⟩ := Jvm.LawKit.callS X123 hx (y := (⟨"com/example/guarantor/guarantor/automata/StateTable", "hash", "([JII)I"⟩ : MethodName)) hown (mvT hZ (hw _ (List.mem_of_getElem? (i := 1) rfl))) (mvT hZ (hw _ (List.mem_of_getElem? (i := 2) rfl))) (mvT hZ (hw _ (List.mem_of_getElem? (i := 3) rfl))) (mvT hZ (hw _ (List.mem_of_getElem? (i := 4) rfl))) (by decide) (backOf (W := 0) (own_rm1 l Z a0 hw xs (1 : Int32) ((1 : Int32) + (2 : Int32)) 5 1 2 (own_upd (own_upd (own_upd (own_upd (own_upd (fun _ => (.long (0 : Int64))) 0 (.long q4)) 1 (.long q1)) 2 (.long q2)) 3 (.long q3)) 4 (.long q5)) (own_g q1 q2 q3) h123 n0 V_xs_123 (by decide) (by decide) (by decide) (own_lt2 rfl rfl)) hZ (hw _ (List.mem_of_getElem? (i := 4) rfl)) (hw _ (List.mem_of_getElem? (i := 3) rfl)) (by decide) (by decide)) (g := (mkF m 174 #[.val (.long q1), .second, .val (.long q2), .second, .val (.long q3), .second, .val (.long q4), .second, .val (.long q5), .second, .val (.int p6), .val (.int (2 : Int32)), .val (.ref xs), .val (.ref ys), .val (.ref zs), .unset, .unset, .unset] [(.int ((1 : Int32) + (2 : Int32))), (.int (1 : Int32)), (.ref xs)])) rfl (by rw [hml]; rfl) (argsL := [(.ref xs), (.int (1 : Int32)), (.int ((1 : Int32) + (2 : Int32)))]) (rest := []) (lenOf own_pd0 rfl) rfl (by show 2 * 0 + _ ≤ _; exact Nat.le_of_eq rfl) (hb hby at_174) (fun _ _ => ⟨rfl, e123, (by decide : 3 + 0 ≤ _), (by decide : 14 + 0 ≤ _)⟩)
      dsimp only [Pt.U, Pt.locs, Pt.cells, Pt.slots] at X124 l124 y124 z124 st124 hQ124
      subst l124 y124 z124
      obtain ⟨rfl, N124q, e124⟩ := hQ124
      have N124 := Fr.app N123 N124q
      refine own_step (fun tt kont => st124 _ kont) ?_
      refine own_step (T' := T124) (f' := (mkF m 186 #[.val (.long q1), .second, .val (.long q2), .second, .val (.long q3), .second, .val (.long q4), .second, .val (.long q5), .second, .val (.int p6), .val (.int (2 : Int32)), .val (.ref xs), .val (.ref ys), .val (.ref zs), .val (.int (own_fin (own_fold (own_g q1 q2 q3) 2))), .unset, .unset] [(.int ((3 : Int32) + (2 : Int32))), (.int (3 : Int32)), (.ref ys)])) (fun tt kont => ?_) ?_
      · show Steps p.tables e below (T124.setTop (mkF m 177 #[.val (.long q1), .second, .val (.long q2), .second, .val (.long q3), .second, .val (.long q4), .second, .val (.long q5), .second, .val (.int p6), .val (.int (2 : Int32)), .val (.ref xs), .val (.ref ys), .val (.ref zs), .unset, .unset, .unset] [(.int (own_fin (own_fold (own_g q1 q2 q3) 2)))])) _
        refine XS.istore X124.here hx rfl (hb hby at_177) rfl (l' := #[.val (.long q1), .second, .val (.long q2), .second, .val (.long q3), .second, .val (.long q4), .second, .val (.long q5), .second, .val (.int p6), .val (.int (2 : Int32)), .val (.ref xs), .val (.ref ys), .val (.ref zs), .val (.int (own_fin (own_fold (own_g q1 q2 q3) 2))), .unset, .unset]) rfl ?_
        show Steps p.tables e below (T124.setTop (mkF m 179 #[.val (.long q1), .second, .val (.long q2), .second, .val (.long q3), .second, .val (.long q4), .second, .val (.long q5), .second, .val (.int p6), .val (.int (2 : Int32)), .val (.ref xs), .val (.ref ys), .val (.ref zs), .val (.int (own_fin (own_fold (own_g q1 q2 q3) 2))), .unset, .unset] [])) _
        refine XS.aload X124.here hx rfl (hb hby at_179) rfl rfl ?_
        show Steps p.tables e below (T124.setTop (mkF m 181 #[.val (.long q1), .second, .val (.long q2), .second, .val (.long q3), .second, .val (.long q4), .second, .val (.long q5), .second, .val (.int p6), .val (.int (2 : Int32)), .val (.ref xs), .val (.ref ys), .val (.ref zs), .val (.int (own_fin (own_fold (own_g q1 q2 q3) 2))), .unset, .unset] [(.ref ys)])) _
        refine XS.iconst X124.here hx rfl (hb hby at_181) ?_
        show Steps p.tables e below (T124.setTop (mkF m 182 #[.val (.long q1), .second, .val (.long q2), .second, .val (.long q3), .second, .val (.long q4), .second, .val (.long q5), .second, .val (.int p6), .val (.int (2 : Int32)), .val (.ref xs), .val (.ref ys), .val (.ref zs), .val (.int (own_fin (own_fold (own_g q1 q2 q3) 2))), .unset, .unset] [(.int (3 : Int32)), (.ref ys)])) _
        refine XS.iconst X124.here hx rfl (hb hby at_182) ?_
        show Steps p.tables e below (T124.setTop (mkF m 183 #[.val (.long q1), .second, .val (.long q2), .second, .val (.long q3), .second, .val (.long q4), .second, .val (.long q5), .second, .val (.int p6), .val (.int (2 : Int32)), .val (.ref xs), .val (.ref ys), .val (.ref zs), .val (.int (own_fin (own_fold (own_g q1 q2 q3) 2))), .unset, .unset] [(.int (3 : Int32)), (.int (3 : Int32)), (.ref ys)])) _
        refine XS.iload X124.here hx rfl (hb hby at_183) rfl ?_
        show Steps p.tables e below (T124.setTop (mkF m 185 #[.val (.long q1), .second, .val (.long q2), .second, .val (.long q3), .second, .val (.long q4), .second, .val (.long q5), .second, .val (.int p6), .val (.int (2 : Int32)), .val (.ref xs), .val (.ref ys), .val (.ref zs), .val (.int (own_fin (own_fold (own_g q1 q2 q3) 2))), .unset, .unset] [(.int (2 : Int32)), (.int (3 : Int32)), (.int (3 : Int32)), (.ref ys)])) _
        refine XS.iadd X124.here hx rfl (hb hby at_185) rfl ?_
        exact kont
      obtain ⟨_, _, ⟨T125, L125, k125, n125⟩, -, X125, ⟨Lc125, hQ125, l125, y125, z125⟩, st125⟩ := Jvm.LawKit.callS X124 hx (y := (⟨"com/example/guarantor/guarantor/automata/StateTable", "hash", "([JII)I"⟩ : MethodName)) hown (mvT hZ (hw _ (List.mem_of_getElem? (i := 1) rfl))) (mvT hZ (hw _ (List.mem_of_getElem? (i := 2) rfl))) (mvT hZ (hw _ (List.mem_of_getElem? (i := 3) rfl))) (mvT hZ (hw _ (List.mem_of_getElem? (i := 4) rfl))) (by decide) (backOf (W := 0) (own_rm1 l Z a0 hw ys (3 : Int32) ((3 : Int32) + (2 : Int32)) 6 3 2 (own_upd (own_upd (own_upd (own_upd (own_upd (own_upd (fun _ => (.long (0 : Int64))) 0 (.long q5)) 1 (.long q4)) 2 (.long q5)) 3 (.long q1)) 4 (.long q2)) 5 (.long q3)) (own_g q1 q2 q3) h123 n0 V_ys_123 (by decide) (by decide) (by decide) (own_lt2 rfl rfl)) hZ (hw _ (List.mem_of_getElem? (i := 4) rfl)) (hw _ (List.mem_of_getElem? (i := 3) rfl)) (by decide) (by decide)) (g := (mkF m 186 #[.val (.long q1), .second, .val (.long q2), .second, .val (.long q3), .second, .val (.long q4), .second, .val (.long q5), .second, .val (.int p6), .val (.int (2 : Int32)), .val (.ref xs), .val (.ref ys), .val (.ref zs), .val (.int (own_fin (own_fold (own_g q1 q2 q3) 2))), .unset, .unset] [(.int ((3 : Int32) + (2 : Int32))), (.int (3 : Int32)), (.ref ys)])) rfl (by rw [hml]; rfl) (argsL := [(.ref ys), (.int (3 : Int32)), (.int ((3 : Int32) + (2 : Int32)))]) (rest := []) (lenOf own_pd0 rfl) rfl (by show 2 * 0 + _ ≤ _; exact Nat.le_of_eq rfl) (hb hby at_186) (fun _ _ => ⟨rfl, e124, (by decide : 3 + 0 ≤ _), (by decide : 14 + 0 ≤ _)⟩)
      dsimp only [Pt.U, Pt.locs, Pt.cells, Pt.slots] at X125 l125 y125 z125 st125 hQ125
      subst l125 y125 z125
      obtain ⟨rfl, N125q, e125⟩ := hQ125
      have N125 := Fr.app N124 N125q
      refine own_step (fun tt kont => st125 _ kont) ?_
      refine own_step (T' := T125) (f' := (mkF m 198 #[.val (.long q1), .second, .val (.long q2), .second, .val (.long q3), .second, .val (.long q4), .second, .val (.long q5), .second, .val (.int p6), .val (.int (2 : Int32)), .val (.ref xs), .val (.ref ys), .val (.ref zs), .val (.int (own_fin (own_fold (own_g q1 q2 q3) 2))), .val (.int (own_fin (own_fold (own_g q1 q2 q3) 2))), .unset] [(.int (3 : Int32)), (.int ((3 : Int32) - (2 : Int32))), (.ref zs)])) (fun tt kont => ?_) ?_
      · show Steps p.tables e below (T125.setTop (mkF m 189 #[.val (.long q1), .second, .val (.long q2), .second, .val (.long q3), .second, .val (.long q4), .second, .val (.long q5), .second, .val (.int p6), .val (.int (2 : Int32)), .val (.ref xs), .val (.ref ys), .val (.ref zs), .val (.int (own_fin (own_fold (own_g q1 q2 q3) 2))), .unset, .unset] [(.int (own_fin (own_fold (own_g q1 q2 q3) 2)))])) _
        refine XS.istore X125.here hx rfl (hb hby at_189) rfl (l' := #[.val (.long q1), .second, .val (.long q2), .second, .val (.long q3), .second, .val (.long q4), .second, .val (.long q5), .second, .val (.int p6), .val (.int (2 : Int32)), .val (.ref xs), .val (.ref ys), .val (.ref zs), .val (.int (own_fin (own_fold (own_g q1 q2 q3) 2))), .val (.int (own_fin (own_fold (own_g q1 q2 q3) 2))), .unset]) rfl ?_
        show Steps p.tables e below (T125.setTop (mkF m 191 #[.val (.long q1), .second, .val (.long q2), .second, .val (.long q3), .second, .val (.long q4), .second, .val (.long q5), .second, .val (.int p6), .val (.int (2 : Int32)), .val (.ref xs), .val (.ref ys), .val (.ref zs), .val (.int (own_fin (own_fold (own_g q1 q2 q3) 2))), .val (.int (own_fin (own_fold (own_g q1 q2 q3) 2))), .unset] [])) _
        refine XS.aload X125.here hx rfl (hb hby at_191) rfl rfl ?_
        show Steps p.tables e below (T125.setTop (mkF m 193 #[.val (.long q1), .second, .val (.long q2), .second, .val (.long q3), .second, .val (.long q4), .second, .val (.long q5), .second, .val (.int p6), .val (.int (2 : Int32)), .val (.ref xs), .val (.ref ys), .val (.ref zs), .val (.int (own_fin (own_fold (own_g q1 q2 q3) 2))), .val (.int (own_fin (own_fold (own_g q1 q2 q3) 2))), .unset] [(.ref zs)])) _
        refine XS.iconst X125.here hx rfl (hb hby at_193) ?_
        show Steps p.tables e below (T125.setTop (mkF m 194 #[.val (.long q1), .second, .val (.long q2), .second, .val (.long q3), .second, .val (.long q4), .second, .val (.long q5), .second, .val (.int p6), .val (.int (2 : Int32)), .val (.ref xs), .val (.ref ys), .val (.ref zs), .val (.int (own_fin (own_fold (own_g q1 q2 q3) 2))), .val (.int (own_fin (own_fold (own_g q1 q2 q3) 2))), .unset] [(.int (3 : Int32)), (.ref zs)])) _
        refine XS.iload X125.here hx rfl (hb hby at_194) rfl ?_
        show Steps p.tables e below (T125.setTop (mkF m 196 #[.val (.long q1), .second, .val (.long q2), .second, .val (.long q3), .second, .val (.long q4), .second, .val (.long q5), .second, .val (.int p6), .val (.int (2 : Int32)), .val (.ref xs), .val (.ref ys), .val (.ref zs), .val (.int (own_fin (own_fold (own_g q1 q2 q3) 2))), .val (.int (own_fin (own_fold (own_g q1 q2 q3) 2))), .unset] [(.int (2 : Int32)), (.int (3 : Int32)), (.ref zs)])) _
        refine XS.isub X125.here hx rfl (hb hby at_196) rfl ?_
        show Steps p.tables e below (T125.setTop (mkF m 197 #[.val (.long q1), .second, .val (.long q2), .second, .val (.long q3), .second, .val (.long q4), .second, .val (.long q5), .second, .val (.int p6), .val (.int (2 : Int32)), .val (.ref xs), .val (.ref ys), .val (.ref zs), .val (.int (own_fin (own_fold (own_g q1 q2 q3) 2))), .val (.int (own_fin (own_fold (own_g q1 q2 q3) 2))), .unset] [(.int ((3 : Int32) - (2 : Int32))), (.ref zs)])) _
        refine XS.iconst X125.here hx rfl (hb hby at_197) ?_
        exact kont
      obtain ⟨_, _, ⟨T126, L126, k126, n126⟩, -, X126, ⟨Lc126, hQ126, l126, y126, z126⟩, st126⟩ := Jvm.LawKit.callS X125 hx (y := (⟨"com/example/guarantor/guarantor/automata/StateTable", "hash", "([JII)I"⟩ : MethodName)) hown (mvT hZ (hw _ (List.mem_of_getElem? (i := 1) rfl))) (mvT hZ (hw _ (List.mem_of_getElem? (i := 2) rfl))) (mvT hZ (hw _ (List.mem_of_getElem? (i := 3) rfl))) (mvT hZ (hw _ (List.mem_of_getElem? (i := 4) rfl))) (by decide) (backOf (W := 0) (own_rm1 l Z a0 hw zs ((3 : Int32) - (2 : Int32)) (3 : Int32) 3 1 2 (own_upd (own_upd (own_upd (fun _ => (.long (0 : Int64))) 0 (.long q4)) 1 (.long q1)) 2 (.long q2)) (own_g q1 q2 q3) h123 n0 V_zs_123 (by decide) (by decide) (by decide) (own_lt2 rfl rfl)) hZ (hw _ (List.mem_of_getElem? (i := 4) rfl)) (hw _ (List.mem_of_getElem? (i := 3) rfl)) (by decide) (by decide)) (g := (mkF m 198 #[.val (.long q1), .second, .val (.long q2), .second, .val (.long q3), .second, .val (.long q4), .second, .val (.long q5), .second, .val (.int p6), .val (.int (2 : Int32)), .val (.ref xs), .val (.ref ys), .val (.ref zs), .val (.int (own_fin (own_fold (own_g q1 q2 q3) 2))), .val (.int (own_fin (own_fold (own_g q1 q2 q3) 2))), .unset] [(.int (3 : Int32)), (.int ((3 : Int32) - (2 : Int32))), (.ref zs)])) rfl (by rw [hml]; rfl) (argsL := [(.ref zs), (.int ((3 : Int32) - (2 : Int32))), (.int (3 : Int32))]) (rest := []) (lenOf own_pd0 rfl) rfl (by show 2 * 0 + _ ≤ _; exact Nat.le_of_eq rfl) (hb hby at_198) (fun _ _ => ⟨rfl, e125, (by decide : 3 + 0 ≤ _), (by decide : 14 + 0 ≤ _)⟩)
      dsimp only [Pt.U, Pt.locs, Pt.cells, Pt.slots] at X126 l126 y126 z126 st126 hQ126
      subst l126 y126 z126
      obtain ⟨rfl, N126q, e126⟩ := hQ126
      have N126 := Fr.app N125 N126q
      refine own_step (fun tt kont => st126 _ kont) ?_
      refine own_step (T' := T126) (f' := (mkF m 222 #[.val (.long q1), .second, .val (.long q2), .second, .val (.long q3), .second, .val (.long q4), .second, .val (.long q5), .second, .val (.int p6), .val (.int (2 : Int32)), .val (.ref xs), .val (.ref ys), .val (.ref zs), .val (.int (own_fin (own_fold (own_g q1 q2 q3) 2))), .val (.int (own_fin (own_fold (own_g q1 q2 q3) 2))), .val (.int (own_fin (own_fold (own_g q1 q2 q3) 2)))] [(.int (1 : Int32))])) (fun tt kont => ?_) ?_
      · show Steps p.tables e below (T126.setTop (mkF m 201 #[.val (.long q1), .second, .val (.long q2), .second, .val (.long q3), .second, .val (.long q4), .second, .val (.long q5), .second, .val (.int p6), .val (.int (2 : Int32)), .val (.ref xs), .val (.ref ys), .val (.ref zs), .val (.int (own_fin (own_fold (own_g q1 q2 q3) 2))), .val (.int (own_fin (own_fold (own_g q1 q2 q3) 2))), .unset] [(.int (own_fin (own_fold (own_g q1 q2 q3) 2)))])) _
        refine XS.istore X126.here hx rfl (hb hby at_201) rfl (l' := #[.val (.long q1), .second, .val (.long q2), .second, .val (.long q3), .second, .val (.long q4), .second, .val (.long q5), .second, .val (.int p6), .val (.int (2 : Int32)), .val (.ref xs), .val (.ref ys), .val (.ref zs), .val (.int (own_fin (own_fold (own_g q1 q2 q3) 2))), .val (.int (own_fin (own_fold (own_g q1 q2 q3) 2))), .val (.int (own_fin (own_fold (own_g q1 q2 q3) 2)))]) rfl ?_
        show Steps p.tables e below (T126.setTop (mkF m 203 #[.val (.long q1), .second, .val (.long q2), .second, .val (.long q3), .second, .val (.long q4), .second, .val (.long q5), .second, .val (.int p6), .val (.int (2 : Int32)), .val (.ref xs), .val (.ref ys), .val (.ref zs), .val (.int (own_fin (own_fold (own_g q1 q2 q3) 2))), .val (.int (own_fin (own_fold (own_g q1 q2 q3) 2))), .val (.int (own_fin (own_fold (own_g q1 q2 q3) 2)))] [])) _
        refine XS.iload X126.here hx rfl (hb hby at_203) rfl ?_
        show Steps p.tables e below (T126.setTop (mkF m 205 #[.val (.long q1), .second, .val (.long q2), .second, .val (.long q3), .second, .val (.long q4), .second, .val (.long q5), .second, .val (.int p6), .val (.int (2 : Int32)), .val (.ref xs), .val (.ref ys), .val (.ref zs), .val (.int (own_fin (own_fold (own_g q1 q2 q3) 2))), .val (.int (own_fin (own_fold (own_g q1 q2 q3) 2))), .val (.int (own_fin (own_fold (own_g q1 q2 q3) 2)))] [(.int (own_fin (own_fold (own_g q1 q2 q3) 2)))])) _
        refine XS.iload X126.here hx rfl (hb hby at_205) rfl ?_
        show Steps p.tables e below (T126.setTop (mkF m 207 #[.val (.long q1), .second, .val (.long q2), .second, .val (.long q3), .second, .val (.long q4), .second, .val (.long q5), .second, .val (.int p6), .val (.int (2 : Int32)), .val (.ref xs), .val (.ref ys), .val (.ref zs), .val (.int (own_fin (own_fold (own_g q1 q2 q3) 2))), .val (.int (own_fin (own_fold (own_g q1 q2 q3) 2))), .val (.int (own_fin (own_fold (own_g q1 q2 q3) 2)))] [(.int (own_fin (own_fold (own_g q1 q2 q3) 2))), (.int (own_fin (own_fold (own_g q1 q2 q3) 2)))])) _
        refine XS.icmpNo X126.here hx rfl (hb hby at_207) rfl (teq (rfl : (own_fin (own_fold (own_g q1 q2 q3) 2)) = (own_fin (own_fold (own_g q1 q2 q3) 2)))).2 ?_
        show Steps p.tables e below (T126.setTop (mkF m 210 #[.val (.long q1), .second, .val (.long q2), .second, .val (.long q3), .second, .val (.long q4), .second, .val (.long q5), .second, .val (.int p6), .val (.int (2 : Int32)), .val (.ref xs), .val (.ref ys), .val (.ref zs), .val (.int (own_fin (own_fold (own_g q1 q2 q3) 2))), .val (.int (own_fin (own_fold (own_g q1 q2 q3) 2))), .val (.int (own_fin (own_fold (own_g q1 q2 q3) 2)))] [])) _
        refine XS.iload X126.here hx rfl (hb hby at_210) rfl ?_
        show Steps p.tables e below (T126.setTop (mkF m 212 #[.val (.long q1), .second, .val (.long q2), .second, .val (.long q3), .second, .val (.long q4), .second, .val (.long q5), .second, .val (.int p6), .val (.int (2 : Int32)), .val (.ref xs), .val (.ref ys), .val (.ref zs), .val (.int (own_fin (own_fold (own_g q1 q2 q3) 2))), .val (.int (own_fin (own_fold (own_g q1 q2 q3) 2))), .val (.int (own_fin (own_fold (own_g q1 q2 q3) 2)))] [(.int (own_fin (own_fold (own_g q1 q2 q3) 2)))])) _
        refine XS.iload X126.here hx rfl (hb hby at_212) rfl ?_
        show Steps p.tables e below (T126.setTop (mkF m 214 #[.val (.long q1), .second, .val (.long q2), .second, .val (.long q3), .second, .val (.long q4), .second, .val (.long q5), .second, .val (.int p6), .val (.int (2 : Int32)), .val (.ref xs), .val (.ref ys), .val (.ref zs), .val (.int (own_fin (own_fold (own_g q1 q2 q3) 2))), .val (.int (own_fin (own_fold (own_g q1 q2 q3) 2))), .val (.int (own_fin (own_fold (own_g q1 q2 q3) 2)))] [(.int (own_fin (own_fold (own_g q1 q2 q3) 2))), (.int (own_fin (own_fold (own_g q1 q2 q3) 2)))])) _
        refine XS.icmpNo X126.here hx rfl (hb hby at_214) rfl (teq (rfl : (own_fin (own_fold (own_g q1 q2 q3) 2)) = (own_fin (own_fold (own_g q1 q2 q3) 2)))).2 ?_
        show Steps p.tables e below (T126.setTop (mkF m 217 #[.val (.long q1), .second, .val (.long q2), .second, .val (.long q3), .second, .val (.long q4), .second, .val (.long q5), .second, .val (.int p6), .val (.int (2 : Int32)), .val (.ref xs), .val (.ref ys), .val (.ref zs), .val (.int (own_fin (own_fold (own_g q1 q2 q3) 2))), .val (.int (own_fin (own_fold (own_g q1 q2 q3) 2))), .val (.int (own_fin (own_fold (own_g q1 q2 q3) 2)))] [])) _
        refine XS.iconst X126.here hx rfl (hb hby at_217) ?_
        show Steps p.tables e below (T126.setTop (mkF m 218 #[.val (.long q1), .second, .val (.long q2), .second, .val (.long q3), .second, .val (.long q4), .second, .val (.long q5), .second, .val (.int p6), .val (.int (2 : Int32)), .val (.ref xs), .val (.ref ys), .val (.ref zs), .val (.int (own_fin (own_fold (own_g q1 q2 q3) 2))), .val (.int (own_fin (own_fold (own_g q1 q2 q3) 2))), .val (.int (own_fin (own_fold (own_g q1 q2 q3) 2)))] [(.int (1 : Int32))])) _
        refine XS.goto X126.here hx rfl (pc0 := 218) (pc' := 222) rfl (hb hby at_218) (by decide) (by decide) ?_
        exact kont
      exact own_retZ X126 hx hret hlk (hb hby at_222) (by decide) (by decide) ⟨rfl, N126⟩
    · refine own_step (T' := T114) (f' := (mkF m 126 #[.val (.long q1), .second, .val (.long q2), .second, .val (.long q3), .second, .val (.long q4), .second, .val (.long q5), .second, .val (.int p6), .val (.int yN), .val (.ref xs), .val (.ref ys), .val (.ref zs), .unset, .unset, .unset] [(.int (1 : Int32)), (.int yN)])) (fun tt kont => ?_) ?_
      · show Steps p.tables e below (T114.setTop (mkF m 101 #[.val (.long q1), .second, .val (.long q2), .second, .val (.long q3), .second, .val (.long q4), .second, .val (.long q5), .second, .val (.int p6), .val (.int yN), .val (.ref xs), .val (.ref ys), .val (.ref zs), .unset, .unset, .unset] [(.int (2 : Int32)), (.int yN)])) _
        refine XS.icmpYes X114.here hx rfl (pc0 := 101) (pc' := 123) rfl (hb hby at_101) rfl (feq hc101_2).2 (by decide) (by decide) ?_
        show Steps p.tables e below (T114.setTop (mkF m 123 #[.val (.long q1), .second, .val (.long q2), .second, .val (.long q3), .second, .val (.long q4), .second, .val (.long q5), .second, .val (.int p6), .val (.int yN), .val (.ref xs), .val (.ref ys), .val (.ref zs), .unset, .unset, .unset] [])) _
        refine XS.iload X114.here hx rfl (hb hby at_123) rfl ?_
        show Steps p.tables e below (T114.setTop (mkF m 125 #[.val (.long q1), .second, .val (.long q2), .second, .val (.long q3), .second, .val (.long q4), .second, .val (.long q5), .second, .val (.int p6), .val (.int yN), .val (.ref xs), .val (.ref ys), .val (.ref zs), .unset, .unset, .unset] [(.int yN)])) _
        refine XS.iconst X114.here hx rfl (hb hby at_125) ?_
        exact kont
      by_cases hc126_3 : yN = (1 : Int32)
      · refine own_step (T' := T114) (f' := (mkF m 129 #[.val (.long q1), .second, .val (.long q2), .second, .val (.long q3), .second, .val (.long q4), .second, .val (.long q5), .second, .val (.int p6), .val (.int yN), .val (.ref xs), .val (.ref ys), .val (.ref zs), .unset, .unset, .unset] [])) (fun tt kont => ?_) ?_
        · show Steps p.tables e below (T114.setTop (mkF m 126 #[.val (.long q1), .second, .val (.long q2), .second, .val (.long q3), .second, .val (.long q4), .second, .val (.long q5), .second, .val (.int p6), .val (.int yN), .val (.ref xs), .val (.ref ys), .val (.ref zs), .unset, .unset, .unset] [(.int (1 : Int32)), (.int yN)])) _
          refine XS.icmpNo X114.here hx rfl (hb hby at_126) rfl (teq hc126_3).2 ?_
          exact kont
        obtain rfl := hc126_3
        refine own_step (T' := T114) (f' := (mkF m 134 #[.val (.long q1), .second, .val (.long q2), .second, .val (.long q3), .second, .val (.long q4), .second, .val (.long q5), .second, .val (.int p6), .val (.int (1 : Int32)), .val (.ref xs), .val (.ref ys), .val (.ref zs), .unset, .unset, .unset] [(.long q4), (.int (0 : Int32)), (.ref zs)])) (fun tt kont => ?_) ?_
        · show Steps p.tables e below (T114.setTop (mkF m 129 #[.val (.long q1), .second, .val (.long q2), .second, .val (.long q3), .second, .val (.long q4), .second, .val (.long q5), .second, .val (.int p6), .val (.int (1 : Int32)), .val (.ref xs), .val (.ref ys), .val (.ref zs), .unset, .unset, .unset] [])) _
          refine XS.aload X114.here hx rfl (hb hby at_129) rfl rfl ?_
          show Steps p.tables e below (T114.setTop (mkF m 131 #[.val (.long q1), .second, .val (.long q2), .second, .val (.long q3), .second, .val (.long q4), .second, .val (.long q5), .second, .val (.int p6), .val (.int (1 : Int32)), .val (.ref xs), .val (.ref ys), .val (.ref zs), .unset, .unset, .unset] [(.ref zs)])) _
          refine XS.iconst X114.here hx rfl (hb hby at_131) ?_
          show Steps p.tables e below (T114.setTop (mkF m 132 #[.val (.long q1), .second, .val (.long q2), .second, .val (.long q3), .second, .val (.long q4), .second, .val (.long q5), .second, .val (.int p6), .val (.int (1 : Int32)), .val (.ref xs), .val (.ref ys), .val (.ref zs), .unset, .unset, .unset] [(.int (0 : Int32)), (.ref zs)])) _
          refine XS.lload X114.here hx rfl (hb hby at_132) rfl ?_
          exact kont
        obtain ⟨T127, h127, X127, e127, W127, V_zs_127, st127⟩ := own_stJ X114 hx hZ e114 V_zs_114 (j := (0 : Int32)) (i := 0) (own_at_lit rfl (by decide)) (by decide) (g := (mkF m 134 #[.val (.long q1), .second, .val (.long q2), .second, .val (.long q3), .second, .val (.long q4), .second, .val (.long q5), .second, .val (.int p6), .val (.int (1 : Int32)), .val (.ref xs), .val (.ref ys), .val (.ref zs), .unset, .unset, .unset] [(.long q4), (.int (0 : Int32)), (.ref zs)])) rfl rfl (hb hby at_134)
        have N127 := Fr.snoc X127 N113 g_zs
        have Z127 : n0 ≤ h127.size := Nat.le_trans Z114 (Keep.of_wr W127).1
        have V_xs_127 : own_A Z h127 xs .long 5 (own_upd (own_upd (own_upd (own_upd (own_upd (fun _ => (.long (0 : Int64))) 0 (.long q4)) 1 (.long q1)) 2 (.long q2)) 3 (.long q3)) 4 (.long q5)) := V_xs_114.other W127 ne_xs_zs
        have V_ys_127 : own_A Z h127 ys .long 6 (own_upd (own_upd (own_upd (own_upd (own_upd (own_upd (fun _ => (.long (0 : Int64))) 0 (.long q5)) 1 (.long q4)) 2 (.long q5)) 3 (.long q1)) 4 (.long q2)) 5 (.long q3)) := V_ys_114.other W127 ne_ys_zs
        refine own_step st127 ?_
        refine own_step (T' := T127) (f' := (mkF m 140 #[.val (.long q1), .second, .val (.long q2), .second, .val (.long q3), .second, .val (.long q4), .second, .val (.long q5), .second, .val (.int p6), .val (.int (1 : Int32)), .val (.ref xs), .val (.ref ys), .val (.ref zs), .unset, .unset, .unset] [(.long q5), (.int (1 : Int32)), (.ref zs)])) (fun tt kont => ?_) ?_
        · show Steps p.tables e below (T127.setTop (mkF m 135 #[.val (.long q1), .second, .val (.long q2), .second, .val (.long q3), .second, .val (.long q4), .second, .val (.long q5), .second, .val (.int p6), .val (.int (1 : Int32)), .val (.ref xs), .val (.ref ys), .val (.ref zs), .unset, .unset, .unset] [])) _
          refine XS.aload X127.here hx rfl (hb hby at_135) rfl rfl ?_
          show Steps p.tables e below (T127.setTop (mkF m 137 #[.val (.long q1), .second, .val (.long q2), .second, .val (.long q3), .second, .val (.long q4), .second, .val (.long q5), .second, .val (.int p6), .val (.int (1 : Int32)), .val (.ref xs), .val (.ref ys), .val (.ref zs), .unset, .unset, .unset] [(.ref zs)])) _
          refine XS.iconst X127.here hx rfl (hb hby at_137) ?_
          show Steps p.tables e below (T127.setTop (mkF m 138 #[.val (.long q1), .second, .val (.long q2), .second, .val (.long q3), .second, .val (.long q4), .second, .val (.long q5), .second, .val (.int p6), .val (.int (1 : Int32)), .val (.ref xs), .val (.ref ys), .val (.ref zs), .unset, .unset, .unset] [(.int (1 : Int32)), (.ref zs)])) _
          refine XS.lload X127.here hx rfl (hb hby at_138) rfl ?_
          exact kont
        obtain ⟨T128, h128, X128, e128, W128, V_zs_128, st128⟩ := own_stJ X127 hx hZ e127 V_zs_127 (j := (1 : Int32)) (i := 1) (own_at_lit rfl (by decide)) (by decide) (g := (mkF m 140 #[.val (.long q1), .second, .val (.long q2), .second, .val (.long q3), .second, .val (.long q4), .second, .val (.long q5), .second, .val (.int p6), .val (.int (1 : Int32)), .val (.ref xs), .val (.ref ys), .val (.ref zs), .unset, .unset, .unset] [(.long q5), (.int (1 : Int32)), (.ref zs)])) rfl rfl (hb hby at_140)
        have N128 := Fr.snoc X128 N127 g_zs
        have Z128 : n0 ≤ h128.size := Nat.le_trans Z127 (Keep.of_wr W128).1
        have V_xs_128 : own_A Z h128 xs .long 5 (own_upd (own_upd (own_upd (own_upd (own_upd (fun _ => (.long (0 : Int64))) 0 (.long q4)) 1 (.long q1)) 2 (.long q2)) 3 (.long q3)) 4 (.long q5)) := V_xs_127.other W128 ne_xs_zs
        have V_ys_128 : own_A Z h128 ys .long 6 (own_upd (own_upd (own_upd (own_upd (own_upd (own_upd (fun _ => (.long (0 : Int64))) 0 (.long q5)) 1 (.long q4)) 2 (.long q5)) 3 (.long q1)) 4 (.long q2)) 5 (.long q3)) := V_ys_127.other W128 ne_ys_zs
        refine own_step st128 ?_
        refine own_step (T' := T128) (f' := (mkF m 145 #[.val (.long q1), .second, .val (.long q2), .second, .val (.long q3), .second, .val (.long q4), .second, .val (.long q5), .second, .val (.int p6), .val (.int (1 : Int32)), .val (.ref xs), .val (.ref ys), .val (.ref zs), .unset, .unset, .unset] [(.long q1), (.int (2 : Int32)), (.ref zs)])) (fun tt kont => ?_) ?_
        · show Steps p.tables e below (T128.setTop (mkF m 141 #[.val (.long q1), .second, .val (.long q2), .second, .val (.long q3), .second, .val (.long q4), .second, .val (.long q5), .second, .val (.int p6), .val (.int (1 : Int32)), .val (.ref xs), .val (.ref ys), .val (.ref zs), .unset, .unset, .unset] [])) _
          refine XS.aload X128.here hx rfl (hb hby at_141) rfl rfl ?_
          show Steps p.tables e below (T128.setTop (mkF m 143 #[.val (.long q1), .second, .val (.long q2), .second, .val (.long q3), .second, .val (.long q4), .second, .val (.long q5), .second, .val (.int p6), .val (.int (1 : Int32)), .val (.ref xs), .val (.ref ys), .val (.ref zs), .unset, .unset, .unset] [(.ref zs)])) _
          refine XS.iconst X128.here hx rfl (hb hby at_143) ?_
          show Steps p.tables e below (T128.setTop (mkF m 144 #[.val (.long q1), .second, .val (.long q2), .second, .val (.long q3), .second, .val (.long q4), .second, .val (.long q5), .second, .val (.int p6), .val (.int (1 : Int32)), .val (.ref xs), .val (.ref ys), .val (.ref zs), .unset, .unset, .unset] [(.int (2 : Int32)), (.ref zs)])) _
          refine XS.lloadN X128.here hx rfl (hb hby at_144) rfl ?_
          exact kont
        obtain ⟨T129, h129, X129, e129, W129, V_zs_129, st129⟩ := own_stJ X128 hx hZ e128 V_zs_128 (j := (2 : Int32)) (i := 2) (own_at_lit rfl (by decide)) (by decide) (g := (mkF m 145 #[.val (.long q1), .second, .val (.long q2), .second, .val (.long q3), .second, .val (.long q4), .second, .val (.long q5), .second, .val (.int p6), .val (.int (1 : Int32)), .val (.ref xs), .val (.ref ys), .val (.ref zs), .unset, .unset, .unset] [(.long q1), (.int (2 : Int32)), (.ref zs)])) rfl rfl (hb hby at_145)
        have N129 := Fr.snoc X129 N128 g_zs
        have Z129 : n0 ≤ h129.size := Nat.le_trans Z128 (Keep.of_wr W129).1
        have V_xs_129 : own_A Z h129 xs .long 5 (own_upd (own_upd (own_upd (own_upd (own_upd (fun _ => (.long (0 : Int64))) 0 (.long q4)) 1 (.long q1)) 2 (.long q2)) 3 (.long q3)) 4 (.long q5)) := V_xs_128.other W129 ne_xs_zs
        have V_ys_129 : own_A Z h129 ys .long 6 (own_upd (own_upd (own_upd (own_upd (own_upd (own_upd (fun _ => (.long (0 : Int64))) 0 (.long q5)) 1 (.long q4)) 2 (.long q5)) 3 (.long q1)) 4 (.long q2)) 5 (.long q3)) := V_ys_128.other W129 ne_ys_zs
        refine own_step st129 ?_
        refine own_step (T' := T129) (f' := (mkF m 174 #[.val (.long q1), .second, .val (.long q2), .second, .val (.long q3), .second, .val (.long q4), .second, .val (.long q5), .second, .val (.int p6), .val (.int (1 : Int32)), .val (.ref xs), .val (.ref ys), .val (.ref zs), .unset, .unset, .unset] [(.int ((1 : Int32) + (1 : Int32))), (.int (1 : Int32)), (.ref xs)])) (fun tt kont => ?_) ?_
        · show Steps p.tables e below (T129.setTop (mkF m 146 #[.val (.long q1), .second, .val (.long q2), .second, .val (.long q3), .second, .val (.long q4), .second, .val (.long q5), .second, .val (.int p6), .val (.int (1 : Int32)), .val (.ref xs), .val (.ref ys), .val (.ref zs), .unset, .unset, .unset] [])) _
          refine XS.goto X129.here hx rfl (pc0 := 146) (pc' := 167) rfl (hb hby at_146) (by decide) (by decide) ?_
          show Steps p.tables e below (T129.setTop (mkF m 167 #[.val (.long q1), .second, .val (.long q2), .second, .val (.long q3), .second, .val (.long q4), .second, .val (.long q5), .second, .val (.int p6), .val (.int (1 : Int32)), .val (.ref xs), .val (.ref ys), .val (.ref zs), .unset, .unset, .unset] [])) _
          refine XS.aload X129.here hx rfl (hb hby at_167) rfl rfl ?_
          show Steps p.tables e below (T129.setTop (mkF m 169 #[.val (.long q1), .second, .val (.long q2), .second, .val (.long q3), .second, .val (.long q4), .second, .val (.long q5), .second, .val (.int p6), .val (.int (1 : Int32)), .val (.ref xs), .val (.ref ys), .val (.ref zs), .unset, .unset, .unset] [(.ref xs)])) _
          refine XS.iconst X129.here hx rfl (hb hby at_169) ?_
          show Steps p.tables e below (T129.setTop (mkF m 170 #[.val (.long q1), .second, .val (.long q2), .second, .val (.long q3), .second, .val (.long q4), .second, .val (.long q5), .second, .val (.int p6), .val (.int (1 : Int32)), .val (.ref xs), .val (.ref ys), .val (.ref zs), .unset, .unset, .unset] [(.int (1 : Int32)), (.ref xs)])) _
          refine XS.iconst X129.here hx rfl (hb hby at_170) ?_
          show Steps p.tables e below (T129.setTop (mkF m 171 #[.val (.long q1), .second, .val (.long q2), .second, .val (.long q3), .second, .val (.long q4), .second, .val (.long q5), .second, .val (.int p6), .val (.int (1 : Int32)), .val (.ref xs), .val (.ref ys), .val (.ref zs), .unset, .unset, .unset] [(.int (1 : Int32)), (.int (1 : Int32)), (.ref xs)])) _
          refine XS.iload X129.here hx rfl (hb hby at_171) rfl ?_
          show Steps p.tables e below (T129.setTop (mkF m 173 #[.val (.long q1), .second, .val (.long q2), .second, .val (.long q3), .second, .val (.long q4), .second, .val (.long q5), .second, .val (.int p6), .val (.int (1 : Int32)), .val (.ref xs), .val (.ref ys), .val (.ref zs), .unset, .unset, .unset] [(.int (1 : Int32)), (.int (1 : Int32)), (.int (1 : Int32)), (.ref xs)])) _
          refine XS.iadd X129.here hx rfl (hb hby at_173) rfl ?_
          exact kont
        obtain ⟨_, _, ⟨T130, L130, k130, n130⟩, -, X130, ⟨Lc130, hQ130, l130, y130, z130⟩, st130⟩ := Jvm.LawKit.callS X129 hx (y := (⟨"com/example/guarantor/guarantor/automata/StateTable", "hash", "([JII)I"⟩ : MethodName)) hown (mvT hZ (hw _ (List.mem_of_getElem? (i := 1) rfl))) (mvT hZ (hw _ (List.mem_of_getElem? (i := 2) rfl))) (mvT hZ (hw _ (List.mem_of_getElem? (i := 3) rfl))) (mvT hZ (hw _ (List.mem_of_getElem? (i := 4) rfl))) (by decide) (backOf (W := 0) (own_rm1 l Z a0 hw xs (1 : Int32) ((1 : Int32) + (1 : Int32)) 5 1 1 (own_upd (own_upd (own_upd (own_upd (own_upd (fun _ => (.long (0 : Int64))) 0 (.long q4)) 1 (.long q1)) 2 (.long q2)) 3 (.long q3)) 4 (.long q5)) (own_g q1 q2 q3) h129 n0 V_xs_129 (by decide) (by decide) (by decide) (own_lt1 rfl)) hZ (hw _ (List.mem_of_getElem? (i := 4) rfl)) (hw _ (List.mem_of_getElem? (i := 3) rfl)) (by decide) (by decide)) (g := (mkF m 174 #[.val (.long q1), .second, .val (.long q2), .second, .val (.long q3), .second, .val (.long q4), .second, .val (.long q5), .second, .val (.int p6), .val (.int (1 : Int32)), .val (.ref xs), .val (.ref ys), .val (.ref zs), .unset, .unset, .unset] [(.int ((1 : Int32) + (1 : Int32))), (.int (1 : Int32)), (.ref xs)])) rfl (by rw [hml]; rfl) (argsL := [(.ref xs), (.int (1 : Int32)), (.int ((1 : Int32) + (1 : Int32)))]) (rest := []) (lenOf own_pd0 rfl) rfl (by show 2 * 0 + _ ≤ _; exact Nat.le_of_eq rfl) (hb hby at_174) (fun _ _ => ⟨rfl, e129, (by decide : 3 + 0 ≤ _), (by decide : 14 + 0 ≤ _)⟩)
        dsimp only [Pt.U, Pt.locs, Pt.cells, Pt.slots] at X130 l130 y130 z130 st130 hQ130
        subst l130 y130 z130
        obtain ⟨rfl, N130q, e130⟩ := hQ130
        have N130 := Fr.app N129 N130q
        refine own_step (fun tt kont => st130 _ kont) ?_
        refine own_step (T' := T130) (f' := (mkF m 186 #[.val (.long q1), .second, .val (.long q2), .second, .val (.long q3), .second, .val (.long q4), .second, .val (.long q5), .second, .val (.int p6), .val (.int (1 : Int32)), .val (.ref xs), .val (.ref ys), .val (.ref zs), .val (.int (own_fin (own_fold (own_g q1 q2 q3) 1))), .unset, .unset] [(.int ((3 : Int32) + (1 : Int32))), (.int (3 : Int32)), (.ref ys)])) (fun tt kont => ?_) ?_
        · show Steps p.tables e below (T130.setTop (mkF m 177 #[.val (.long q1), .second, .val (.long q2), .second, .val (.long q3), .second, .val (.long q4), .second, .val (.long q5), .second, .val (.int p6), .val (.int (1 : Int32)), .val (.ref xs), .val (.ref ys), .val (.ref zs), .unset, .unset, .unset] [(.int (own_fin (own_fold (own_g q1 q2 q3) 1)))])) _
          refine XS.istore X130.here hx rfl (hb hby at_177) rfl (l' := #[.val (.long q1), .second, .val (.long q2), .second, .val (.long q3), .second, .val (.long q4), .second, .val (.long q5), .second, .val (.int p6), .val (.int (1 : Int32)), .val (.ref xs), .val (.ref ys), .val (.ref zs), .val (.int (own_fin (own_fold (own_g q1 q2 q3) 1))), .unset, .unset]) rfl ?_
          show Steps p.tables e below (T130.setTop (mkF m 179 #[.val (.long q1), .second, .val (.long q2), .second, .val (.long q3), .second, .val (.long q4), .second, .val (.long q5), .second, .val (.int p6), .val (.int (1 : Int32)), .val (.ref xs), .val (.ref ys), .val (.ref zs), .val (.int (own_fin (own_fold (own_g q1 q2 q3) 1))), .unset, .unset] [])) _
          refine XS.aload X130.here hx rfl (hb hby at_179) rfl rfl ?_
          show Steps p.tables e below (T130.setTop (mkF m 181 #[.val (.long q1), .second, .val (.long q2), .second, .val (.long q3), .second, .val (.long q4), .second, .val (.long q5), .second, .val (.int p6), .val (.int (1 : Int32)), .val (.ref xs), .val (.ref ys), .val (.ref zs), .val (.int (own_fin (own_fold (own_g q1 q2 q3) 1))), .unset, .unset] [(.ref ys)])) _
          refine XS.iconst X130.here hx rfl (hb hby at_181) ?_
          show Steps p.tables e below (T130.setTop (mkF m 182 #[.val (.long q1), .second, .val (.long q2), .second, .val (.long q3), .second, .val (.long q4), .second, .val (.long q5), .second, .val (.int p6), .val (.int (1 : Int32)), .val (.ref xs), .val (.ref ys), .val (.ref zs), .val (.int (own_fin (own_fold (own_g q1 q2 q3) 1))), .unset, .unset] [(.int (3 : Int32)), (.ref ys)])) _
          refine XS.iconst X130.here hx rfl (hb hby at_182) ?_
          show Steps p.tables e below (T130.setTop (mkF m 183 #[.val (.long q1), .second, .val (.long q2), .second, .val (.long q3), .second, .val (.long q4), .second, .val (.long q5), .second, .val (.int p6), .val (.int (1 : Int32)), .val (.ref xs), .val (.ref ys), .val (.ref zs), .val (.int (own_fin (own_fold (own_g q1 q2 q3) 1))), .unset, .unset] [(.int (3 : Int32)), (.int (3 : Int32)), (.ref ys)])) _
          refine XS.iload X130.here hx rfl (hb hby at_183) rfl ?_
          show Steps p.tables e below (T130.setTop (mkF m 185 #[.val (.long q1), .second, .val (.long q2), .second, .val (.long q3), .second, .val (.long q4), .second, .val (.long q5), .second, .val (.int p6), .val (.int (1 : Int32)), .val (.ref xs), .val (.ref ys), .val (.ref zs), .val (.int (own_fin (own_fold (own_g q1 q2 q3) 1))), .unset, .unset] [(.int (1 : Int32)), (.int (3 : Int32)), (.int (3 : Int32)), (.ref ys)])) _
          refine XS.iadd X130.here hx rfl (hb hby at_185) rfl ?_
          exact kont
        obtain ⟨_, _, ⟨T131, L131, k131, n131⟩, -, X131, ⟨Lc131, hQ131, l131, y131, z131⟩, st131⟩ := Jvm.LawKit.callS X130 hx (y := (⟨"com/example/guarantor/guarantor/automata/StateTable", "hash", "([JII)I"⟩ : MethodName)) hown (mvT hZ (hw _ (List.mem_of_getElem? (i := 1) rfl))) (mvT hZ (hw _ (List.mem_of_getElem? (i := 2) rfl))) (mvT hZ (hw _ (List.mem_of_getElem? (i := 3) rfl))) (mvT hZ (hw _ (List.mem_of_getElem? (i := 4) rfl))) (by decide) (backOf (W := 0) (own_rm1 l Z a0 hw ys (3 : Int32) ((3 : Int32) + (1 : Int32)) 6 3 1 (own_upd (own_upd (own_upd (own_upd (own_upd (own_upd (fun _ => (.long (0 : Int64))) 0 (.long q5)) 1 (.long q4)) 2 (.long q5)) 3 (.long q1)) 4 (.long q2)) 5 (.long q3)) (own_g q1 q2 q3) h129 n0 V_ys_129 (by decide) (by decide) (by decide) (own_lt1 rfl)) hZ (hw _ (List.mem_of_getElem? (i := 4) rfl)) (hw _ (List.mem_of_getElem? (i := 3) rfl)) (by decide) (by decide)) (g := (mkF m 186 #[.val (.long q1), .second, .val (.long q2), .second, .val (.long q3), .second, .val (.long q4), .second, .val (.long q5), .second, .val (.int p6), .val (.int (1 : Int32)), .val (.ref xs), .val (.ref ys), .val (.ref zs), .val (.int (own_fin (own_fold (own_g q1 q2 q3) 1))), .unset, .unset] [(.int ((3 : Int32) + (1 : Int32))), (.int (3 : Int32)), (.ref ys)])) rfl (by rw [hml]; rfl) (argsL := [(.ref ys), (.int (3 : Int32)), (.int ((3 : Int32) + (1 : Int32)))]) (rest := []) (lenOf own_pd0 rfl) rfl (by show 2 * 0 + _ ≤ _; exact Nat.le_of_eq rfl) (hb hby at_186) (fun _ _ => ⟨rfl, e130, (by decide : 3 + 0 ≤ _), (by decide : 14 + 0 ≤ _)⟩)
        dsimp only [Pt.U, Pt.locs, Pt.cells, Pt.slots] at X131 l131 y131 z131 st131 hQ131
        subst l131 y131 z131
        obtain ⟨rfl, N131q, e131⟩ := hQ131
        have N131 := Fr.app N130 N131q
        refine own_step (fun tt kont => st131 _ kont) ?_
        refine own_step (T' := T131) (f' := (mkF m 198 #[.val (.long q1), .second, .val (.long q2), .second, .val (.long q3), .second, .val (.long q4), .second, .val (.long q5), .second, .val (.int p6), .val (.int (1 : Int32)), .val (.ref xs), .val (.ref ys), .val (.ref zs), .val (.int (own_fin (own_fold (own_g q1 q2 q3) 1))), .val (.int (own_fin (own_fold (own_g q1 q2 q3) 1))), .unset] [(.int (3 : Int32)), (.int ((3 : Int32) - (1 : Int32))), (.ref zs)])) (fun tt kont => ?_) ?_
        · show Steps p.tables e below (T131.setTop (mkF m 189 #[.val (.long q1), .second, .val (.long q2), .second, .val (.long q3), .second, .val (.long q4), .second, .val (.long q5), .second, .val (.int p6), .val (.int (1 : Int32)), .val (.ref xs), .val (.ref ys), .val (.ref zs), .val (.int (own_fin (own_fold (own_g q1 q2 q3) 1))), .unset, .unset] [(.int (own_fin (own_fold (own_g q1 q2 q3) 1)))])) _
          refine XS.istore X131.here hx rfl (hb hby at_189) rfl (l' := #[.val (.long q1), .second, .val (.long q2), .second, .val (.long q3), .second, .val (.long q4), .second, .val (.long q5), .second, .val (.int p6), .val (.int (1 : Int32)), .val (.ref xs), .val (.ref ys), .val (.ref zs), .val (.int (own_fin (own_fold (own_g q1 q2 q3) 1))), .val (.int (own_fin (own_fold (own_g q1 q2 q3) 1))), .unset]) rfl ?_
          show Steps p.tables e below (T131.setTop (mkF m 191 #[.val (.long q1), .second, .val (.long q2), .second, .val (.long q3), .second, .val (.long q4), .second, .val (.long q5), .second, .val (.int p6), .val (.int (1 : Int32)), .val (.ref xs), .val (.ref ys), .val (.ref zs), .val (.int (own_fin (own_fold (own_g q1 q2 q3) 1))), .val (.int (own_fin (own_fold (own_g q1 q2 q3) 1))), .unset] [])) _
          refine XS.aload X131.here hx rfl (hb hby at_191) rfl rfl ?_
          show Steps p.tables e below (T131.setTop (mkF m 193 #[.val (.long q1), .second, .val (.long q2), .second, .val (.long q3), .second, .val (.long q4), .second, .val (.long q5), .second, .val (.int p6), .val (.int (1 : Int32)), .val (.ref xs), .val (.ref ys), .val (.ref zs), .val (.int (own_fin (own_fold (own_g q1 q2 q3) 1))), .val (.int (own_fin (own_fold (own_g q1 q2 q3) 1))), .unset] [(.ref zs)])) _
          refine XS.iconst X131.here hx rfl (hb hby at_193) ?_
          show Steps p.tables e below (T131.setTop (mkF m 194 #[.val (.long q1), .second, .val (.long q2), .second, .val (.long q3), .second, .val (.long q4), .second, .val (.long q5), .second, .val (.int p6), .val (.int (1 : Int32)), .val (.ref xs), .val (.ref ys), .val (.ref zs), .val (.int (own_fin (own_fold (own_g q1 q2 q3) 1))), .val (.int (own_fin (own_fold (own_g q1 q2 q3) 1))), .unset] [(.int (3 : Int32)), (.ref zs)])) _
          refine XS.iload X131.here hx rfl (hb hby at_194) rfl ?_
          show Steps p.tables e below (T131.setTop (mkF m 196 #[.val (.long q1), .second, .val (.long q2), .second, .val (.long q3), .second, .val (.long q4), .second, .val (.long q5), .second, .val (.int p6), .val (.int (1 : Int32)), .val (.ref xs), .val (.ref ys), .val (.ref zs), .val (.int (own_fin (own_fold (own_g q1 q2 q3) 1))), .val (.int (own_fin (own_fold (own_g q1 q2 q3) 1))), .unset] [(.int (1 : Int32)), (.int (3 : Int32)), (.ref zs)])) _
          refine XS.isub X131.here hx rfl (hb hby at_196) rfl ?_
          show Steps p.tables e below (T131.setTop (mkF m 197 #[.val (.long q1), .second, .val (.long q2), .second, .val (.long q3), .second, .val (.long q4), .second, .val (.long q5), .second, .val (.int p6), .val (.int (1 : Int32)), .val (.ref xs), .val (.ref ys), .val (.ref zs), .val (.int (own_fin (own_fold (own_g q1 q2 q3) 1))), .val (.int (own_fin (own_fold (own_g q1 q2 q3) 1))), .unset] [(.int ((3 : Int32) - (1 : Int32))), (.ref zs)])) _
          refine XS.iconst X131.here hx rfl (hb hby at_197) ?_
          exact kont
        obtain ⟨_, _, ⟨T132, L132, k132, n132⟩, -, X132, ⟨Lc132, hQ132, l132, y132, z132⟩, st132⟩ := Jvm.LawKit.callS X131 hx (y := (⟨"com/example/guarantor/guarantor/automata/StateTable", "hash", "([JII)I"⟩ : MethodName)) hown (mvT hZ (hw _ (List.mem_of_getElem? (i := 1) rfl))) (mvT hZ (hw _ (List.mem_of_getElem? (i := 2) rfl))) (mvT hZ (hw _ (List.mem_of_getElem? (i := 3) rfl))) (mvT hZ (hw _ (List.mem_of_getElem? (i := 4) rfl))) (by decide) (backOf (W := 0) (own_rm1 l Z a0 hw zs ((3 : Int32) - (1 : Int32)) (3 : Int32) 3 2 1 (own_upd (own_upd (own_upd (fun _ => (.long (0 : Int64))) 0 (.long q4)) 1 (.long q5)) 2 (.long q1)) (own_g q1 q2 q3) h129 n0 V_zs_129 (by decide) (by decide) (by decide) (own_lt1 rfl)) hZ (hw _ (List.mem_of_getElem? (i := 4) rfl)) (hw _ (List.mem_of_getElem? (i := 3) rfl)) (by decide) (by decide)) (g := (mkF m 198 #[.val (.long q1), .second, .val (.long q2), .second, .val (.long q3), .second, .val (.long q4), .second, .val (.long q5), .second, .val (.int p6), .val (.int (1 : Int32)), .val (.ref xs), .val (.ref ys), .val (.ref zs), .val (.int (own_fin (own_fold (own_g q1 q2 q3) 1))), .val (.int (own_fin (own_fold (own_g q1 q2 q3) 1))), .unset] [(.int (3 : Int32)), (.int ((3 : Int32) - (1 : Int32))), (.ref zs)])) rfl (by rw [hml]; rfl) (argsL := [(.ref zs), (.int ((3 : Int32) - (1 : Int32))), (.int (3 : Int32))]) (rest := []) (lenOf own_pd0 rfl) rfl (by show 2 * 0 + _ ≤ _; exact Nat.le_of_eq rfl) (hb hby at_198) (fun _ _ => ⟨rfl, e131, (by decide : 3 + 0 ≤ _), (by decide : 14 + 0 ≤ _)⟩)
        dsimp only [Pt.U, Pt.locs, Pt.cells, Pt.slots] at X132 l132 y132 z132 st132 hQ132
        subst l132 y132 z132
        obtain ⟨rfl, N132q, e132⟩ := hQ132
        have N132 := Fr.app N131 N132q
        refine own_step (fun tt kont => st132 _ kont) ?_
        refine own_step (T' := T132) (f' := (mkF m 222 #[.val (.long q1), .second, .val (.long q2), .second, .val (.long q3), .second, .val (.long q4), .second, .val (.long q5), .second, .val (.int p6), .val (.int (1 : Int32)), .val (.ref xs), .val (.ref ys), .val (.ref zs), .val (.int (own_fin (own_fold (own_g q1 q2 q3) 1))), .val (.int (own_fin (own_fold (own_g q1 q2 q3) 1))), .val (.int (own_fin (own_fold (own_g q1 q2 q3) 1)))] [(.int (1 : Int32))])) (fun tt kont => ?_) ?_
        · show Steps p.tables e below (T132.setTop (mkF m 201 #[.val (.long q1), .second, .val (.long q2), .second, .val (.long q3), .second, .val (.long q4), .second, .val (.long q5), .second, .val (.int p6), .val (.int (1 : Int32)), .val (.ref xs), .val (.ref ys), .val (.ref zs), .val (.int (own_fin (own_fold (own_g q1 q2 q3) 1))), .val (.int (own_fin (own_fold (own_g q1 q2 q3) 1))), .unset] [(.int (own_fin (own_fold (own_g q1 q2 q3) 1)))])) _
          refine XS.istore X132.here hx rfl (hb hby at_201) rfl (l' := #[.val (.long q1), .second, .val (.long q2), .second, .val (.long q3), .second, .val (.long q4), .second, .val (.long q5), .second, .val (.int p6), .val (.int (1 : Int32)), .val (.ref xs), .val (.ref ys), .val (.ref zs), .val (.int (own_fin (own_fold (own_g q1 q2 q3) 1))), .val (.int (own_fin (own_fold (own_g q1 q2 q3) 1))), .val (.int (own_fin (own_fold (own_g q1 q2 q3) 1)))]) rfl ?_
          show Steps p.tables e below (T132.setTop (mkF m 203 #[.val (.long q1), .second, .val (.long q2), .second, .val (.long q3), .second, .val (.long q4), .second, .val (.long q5), .second, .val (.int p6), .val (.int (1 : Int32)), .val (.ref xs), .val (.ref ys), .val (.ref zs), .val (.int (own_fin (own_fold (own_g q1 q2 q3) 1))), .val (.int (own_fin (own_fold (own_g q1 q2 q3) 1))), .val (.int (own_fin (own_fold (own_g q1 q2 q3) 1)))] [])) _
          refine XS.iload X132.here hx rfl (hb hby at_203) rfl ?_
          show Steps p.tables e below (T132.setTop (mkF m 205 #[.val (.long q1), .second, .val (.long q2), .second, .val (.long q3), .second, .val (.long q4), .second, .val (.long q5), .second, .val (.int p6), .val (.int (1 : Int32)), .val (.ref xs), .val (.ref ys), .val (.ref zs), .val (.int (own_fin (own_fold (own_g q1 q2 q3) 1))), .val (.int (own_fin (own_fold (own_g q1 q2 q3) 1))), .val (.int (own_fin (own_fold (own_g q1 q2 q3) 1)))] [(.int (own_fin (own_fold (own_g q1 q2 q3) 1)))])) _
          refine XS.iload X132.here hx rfl (hb hby at_205) rfl ?_
          show Steps p.tables e below (T132.setTop (mkF m 207 #[.val (.long q1), .second, .val (.long q2), .second, .val (.long q3), .second, .val (.long q4), .second, .val (.long q5), .second, .val (.int p6), .val (.int (1 : Int32)), .val (.ref xs), .val (.ref ys), .val (.ref zs), .val (.int (own_fin (own_fold (own_g q1 q2 q3) 1))), .val (.int (own_fin (own_fold (own_g q1 q2 q3) 1))), .val (.int (own_fin (own_fold (own_g q1 q2 q3) 1)))] [(.int (own_fin (own_fold (own_g q1 q2 q3) 1))), (.int (own_fin (own_fold (own_g q1 q2 q3) 1)))])) _
          refine XS.icmpNo X132.here hx rfl (hb hby at_207) rfl (teq (rfl : (own_fin (own_fold (own_g q1 q2 q3) 1)) = (own_fin (own_fold (own_g q1 q2 q3) 1)))).2 ?_
          show Steps p.tables e below (T132.setTop (mkF m 210 #[.val (.long q1), .second, .val (.long q2), .second, .val (.long q3), .second, .val (.long q4), .second, .val (.long q5), .second, .val (.int p6), .val (.int (1 : Int32)), .val (.ref xs), .val (.ref ys), .val (.ref zs), .val (.int (own_fin (own_fold (own_g q1 q2 q3) 1))), .val (.int (own_fin (own_fold (own_g q1 q2 q3) 1))), .val (.int (own_fin (own_fold (own_g q1 q2 q3) 1)))] [])) _
          refine XS.iload X132.here hx rfl (hb hby at_210) rfl ?_
          show Steps p.tables e below (T132.setTop (mkF m 212 #[.val (.long q1), .second, .val (.long q2), .second, .val (.long q3), .second, .val (.long q4), .second, .val (.long q5), .second, .val (.int p6), .val (.int (1 : Int32)), .val (.ref xs), .val (.ref ys), .val (.ref zs), .val (.int (own_fin (own_fold (own_g q1 q2 q3) 1))), .val (.int (own_fin (own_fold (own_g q1 q2 q3) 1))), .val (.int (own_fin (own_fold (own_g q1 q2 q3) 1)))] [(.int (own_fin (own_fold (own_g q1 q2 q3) 1)))])) _
          refine XS.iload X132.here hx rfl (hb hby at_212) rfl ?_
          show Steps p.tables e below (T132.setTop (mkF m 214 #[.val (.long q1), .second, .val (.long q2), .second, .val (.long q3), .second, .val (.long q4), .second, .val (.long q5), .second, .val (.int p6), .val (.int (1 : Int32)), .val (.ref xs), .val (.ref ys), .val (.ref zs), .val (.int (own_fin (own_fold (own_g q1 q2 q3) 1))), .val (.int (own_fin (own_fold (own_g q1 q2 q3) 1))), .val (.int (own_fin (own_fold (own_g q1 q2 q3) 1)))] [(.int (own_fin (own_fold (own_g q1 q2 q3) 1))), (.int (own_fin (own_fold (own_g q1 q2 q3) 1)))])) _
          refine XS.icmpNo X132.here hx rfl (hb hby at_214) rfl (teq (rfl : (own_fin (own_fold (own_g q1 q2 q3) 1)) = (own_fin (own_fold (own_g q1 q2 q3) 1)))).2 ?_
          show Steps p.tables e below (T132.setTop (mkF m 217 #[.val (.long q1), .second, .val (.long q2), .second, .val (.long q3), .second, .val (.long q4), .second, .val (.long q5), .second, .val (.int p6), .val (.int (1 : Int32)), .val (.ref xs), .val (.ref ys), .val (.ref zs), .val (.int (own_fin (own_fold (own_g q1 q2 q3) 1))), .val (.int (own_fin (own_fold (own_g q1 q2 q3) 1))), .val (.int (own_fin (own_fold (own_g q1 q2 q3) 1)))] [])) _
          refine XS.iconst X132.here hx rfl (hb hby at_217) ?_
          show Steps p.tables e below (T132.setTop (mkF m 218 #[.val (.long q1), .second, .val (.long q2), .second, .val (.long q3), .second, .val (.long q4), .second, .val (.long q5), .second, .val (.int p6), .val (.int (1 : Int32)), .val (.ref xs), .val (.ref ys), .val (.ref zs), .val (.int (own_fin (own_fold (own_g q1 q2 q3) 1))), .val (.int (own_fin (own_fold (own_g q1 q2 q3) 1))), .val (.int (own_fin (own_fold (own_g q1 q2 q3) 1)))] [(.int (1 : Int32))])) _
          refine XS.goto X132.here hx rfl (pc0 := 218) (pc' := 222) rfl (hb hby at_218) (by decide) (by decide) ?_
          exact kont
        exact own_retZ X132 hx hret hlk (hb hby at_222) (by decide) (by decide) ⟨rfl, N132⟩
      · refine own_step (T' := T114) (f' := (mkF m 149 #[.val (.long q1), .second, .val (.long q2), .second, .val (.long q3), .second, .val (.long q4), .second, .val (.long q5), .second, .val (.int p6), .val (.int yN), .val (.ref xs), .val (.ref ys), .val (.ref zs), .unset, .unset, .unset] [])) (fun tt kont => ?_) ?_
        · show Steps p.tables e below (T114.setTop (mkF m 126 #[.val (.long q1), .second, .val (.long q2), .second, .val (.long q3), .second, .val (.long q4), .second, .val (.long q5), .second, .val (.int p6), .val (.int yN), .val (.ref xs), .val (.ref ys), .val (.ref zs), .unset, .unset, .unset] [(.int (1 : Int32)), (.int yN)])) _
          refine XS.icmpYes X114.here hx rfl (pc0 := 126) (pc' := 149) rfl (hb hby at_126) rfl (feq hc126_3).2 (by decide) (by decide) ?_
          exact kont
        have hc := own_n0 hyN hc76_1 hc101_2 hc126_3
        obtain rfl := hc
        refine own_step (T' := T114) (f' := (mkF m 154 #[.val (.long q1), .second, .val (.long q2), .second, .val (.long q3), .second, .val (.long q4), .second, .val (.long q5), .second, .val (.int p6), .val (.int (0 : Int32)), .val (.ref xs), .val (.ref ys), .val (.ref zs), .unset, .unset, .unset] [(.long q4), (.int (0 : Int32)), (.ref zs)])) (fun tt kont => ?_) ?_
        · show Steps p.tables e below (T114.setTop (mkF m 149 #[.val (.long q1), .second, .val (.long q2), .second, .val (.long q3), .second, .val (.long q4), .second, .val (.long q5), .second, .val (.int p6), .val (.int (0 : Int32)), .val (.ref xs), .val (.ref ys), .val (.ref zs), .unset, .unset, .unset] [])) _
          refine XS.aload X114.here hx rfl (hb hby at_149) rfl rfl ?_
          show Steps p.tables e below (T114.setTop (mkF m 151 #[.val (.long q1), .second, .val (.long q2), .second, .val (.long q3), .second, .val (.long q4), .second, .val (.long q5), .second, .val (.int p6), .val (.int (0 : Int32)), .val (.ref xs), .val (.ref ys), .val (.ref zs), .unset, .unset, .unset] [(.ref zs)])) _
          refine XS.iconst X114.here hx rfl (hb hby at_151) ?_
          show Steps p.tables e below (T114.setTop (mkF m 152 #[.val (.long q1), .second, .val (.long q2), .second, .val (.long q3), .second, .val (.long q4), .second, .val (.long q5), .second, .val (.int p6), .val (.int (0 : Int32)), .val (.ref xs), .val (.ref ys), .val (.ref zs), .unset, .unset, .unset] [(.int (0 : Int32)), (.ref zs)])) _
          refine XS.lload X114.here hx rfl (hb hby at_152) rfl ?_
          exact kont
        obtain ⟨T133, h133, X133, e133, W133, V_zs_133, st133⟩ := own_stJ X114 hx hZ e114 V_zs_114 (j := (0 : Int32)) (i := 0) (own_at_lit rfl (by decide)) (by decide) (g := (mkF m 154 #[.val (.long q1), .second, .val (.long q2), .second, .val (.long q3), .second, .val (.long q4), .second, .val (.long q5), .second, .val (.int p6), .val (.int (0 : Int32)), .val (.ref xs), .val (.ref ys), .val (.ref zs), .unset, .unset, .unset] [(.long q4), (.int (0 : Int32)), (.ref zs)])) rfl rfl (hb hby at_154)
        have N133 := Fr.snoc X133 N113 g_zs
        have Z133 : n0 ≤ h133.size := Nat.le_trans Z114 (Keep.of_wr W133).1
        have V_xs_133 : own_A Z h133 xs .long 5 (own_upd (own_upd (own_upd (own_upd (own_upd (fun _ => (.long (0 : Int64))) 0 (.long q4)) 1 (.long q1)) 2 (.long q2)) 3 (.long q3)) 4 (.long q5)) := V_xs_114.other W133 ne_xs_zs
        have V_ys_133 : own_A Z h133 ys .long 6 (own_upd (own_upd (own_upd (own_upd (own_upd (own_upd (fun _ => (.long (0 : Int64))) 0 (.long q5)) 1 (.long q4)) 2 (.long q5)) 3 (.long q1)) 4 (.long q2)) 5 (.long q3)) := V_ys_114.other W133 ne_ys_zs
        refine own_step st133 ?_
        refine own_step (T' := T133) (f' := (mkF m 160 #[.val (.long q1), .second, .val (.long q2), .second, .val (.long q3), .second, .val (.long q4), .second, .val (.long q5), .second, .val (.int p6), .val (.int (0 : Int32)), .val (.ref xs), .val (.ref ys), .val (.ref zs), .unset, .unset, .unset] [(.long q5), (.int (1 : Int32)), (.ref zs)])) (fun tt kont => ?_) ?_
        · show Steps p.tables e below (T133.setTop (mkF m 155 #[.val (.long q1), .second, .val (.long q2), .second, .val (.long q3), .second, .val (.long q4), .second, .val (.long q5), .second, .val (.int p6), .val (.int (0 : Int32)), .val (.ref xs), .val (.ref ys), .val (.ref zs), .unset, .unset, .unset] [])) _
          refine XS.aload X133.here hx rfl (hb hby at_155) rfl rfl ?_
          show Steps p.tables e below (T133.setTop (mkF m 157 #[.val (.long q1), .second, .val (.long q2), .second, .val (.long q3), .second, .val (.long q4), .second, .val (.long q5), .second, .val (.int p6), .val (.int (0 : Int32)), .val (.ref xs), .val (.ref ys), .val (.ref zs), .unset, .unset, .unset] [(.ref zs)])) _
          refine XS.iconst X133.here hx rfl (hb hby at_157) ?_
          show Steps p.tables e below (T133.setTop (mkF m 158 #[.val (.long q1), .second, .val (.long q2), .second, .val (.long q3), .second, .val (.long q4), .second, .val (.long q5), .second, .val (.int p6), .val (.int (0 : Int32)), .val (.ref xs), .val (.ref ys), .val (.ref zs), .unset, .unset, .unset] [(.int (1 : Int32)), (.ref zs)])) _
          refine XS.lload X133.here hx rfl (hb hby at_158) rfl ?_
          exact kont
        obtain ⟨T134, h134, X134, e134, W134, V_zs_134, st134⟩ := own_stJ X133 hx hZ e133 V_zs_133 (j := (1 : Int32)) (i := 1) (own_at_lit rfl (by decide)) (by decide) (g := (mkF m 160 #[.val (.long q1), .second, .val (.long q2), .second, .val (.long q3), .second, .val (.long q4), .second, .val (.long q5), .second, .val (.int p6), .val (.int (0 : Int32)), .val (.ref xs), .val (.ref ys), .val (.ref zs), .unset, .unset, .unset] [(.long q5), (.int (1 : Int32)), (.ref zs)])) rfl rfl (hb hby at_160)
        have N134 := Fr.snoc X134 N133 g_zs
        have Z134 : n0 ≤ h134.size := Nat.le_trans Z133 (Keep.of_wr W134).1
        have V_xs_134 : own_A Z h134 xs .long 5 (own_upd (own_upd (own_upd (own_upd (own_upd (fun _ => (.long (0 : Int64))) 0 (.long q4)) 1 (.long q1)) 2 (.long q2)) 3 (.long q3)) 4 (.long q5)) := V_xs_133.other W134 ne_xs_zs
        have V_ys_134 : own_A Z h134 ys .long 6 (own_upd (own_upd (own_upd (own_upd (own_upd (own_upd (fun _ => (.long (0 : Int64))) 0 (.long q5)) 1 (.long q4)) 2 (.long q5)) 3 (.long q1)) 4 (.long q2)) 5 (.long q3)) := V_ys_133.other W134 ne_ys_zs
        refine own_step st134 ?_
        refine own_step (T' := T134) (f' := (mkF m 166 #[.val (.long q1), .second, .val (.long q2), .second, .val (.long q3), .second, .val (.long q4), .second, .val (.long q5), .second, .val (.int p6), .val (.int (0 : Int32)), .val (.ref xs), .val (.ref ys), .val (.ref zs), .unset, .unset, .unset] [(.long q4), (.int (2 : Int32)), (.ref zs)])) (fun tt kont => ?_) ?_
        · show Steps p.tables e below (T134.setTop (mkF m 161 #[.val (.long q1), .second, .val (.long q2), .second, .val (.long q3), .second, .val (.long q4), .second, .val (.long q5), .second, .val (.int p6), .val (.int (0 : Int32)), .val (.ref xs), .val (.ref ys), .val (.ref zs), .unset, .unset, .unset] [])) _
          refine XS.aload X134.here hx rfl (hb hby at_161) rfl rfl ?_
          show Steps p.tables e below (T134.setTop (mkF m 163 #[.val (.long q1), .second, .val (.long q2), .second, .val (.long q3), .second, .val (.long q4), .second, .val (.long q5), .second, .val (.int p6), .val (.int (0 : Int32)), .val (.ref xs), .val (.ref ys), .val (.ref zs), .unset, .unset, .unset] [(.ref zs)])) _
          refine XS.iconst X134.here hx rfl (hb hby at_163) ?_
          show Steps p.tables e below (T134.setTop (mkF m 164 #[.val (.long q1), .second, .val (.long q2), .second, .val (.long q3), .second, .val (.long q4), .second, .val (.long q5), .second, .val (.int p6), .val (.int (0 : Int32)), .val (.ref xs), .val (.ref ys), .val (.ref zs), .unset, .unset, .unset] [(.int (2 : Int32)), (.ref zs)])) _
          refine XS.lload X134.here hx rfl (hb hby at_164) rfl ?_
          exact kont
        obtain ⟨T135, h135, X135, e135, W135, V_zs_135, st135⟩ := own_stJ X134 hx hZ e134 V_zs_134 (j := (2 : Int32)) (i := 2) (own_at_lit rfl (by decide)) (by decide) (g := (mkF m 166 #[.val (.long q1), .second, .val (.long q2), .second, .val (.long q3), .second, .val (.long q4), .second, .val (.long q5), .second, .val (.int p6), .val (.int (0 : Int32)), .val (.ref xs), .val (.ref ys), .val (.ref zs), .unset, .unset, .unset] [(.long q4), (.int (2 : Int32)), (.ref zs)])) rfl rfl (hb hby at_166)
        have N135 := Fr.snoc X135 N134 g_zs
        have Z135 : n0 ≤ h135.size := Nat.le_trans Z134 (Keep.of_wr W135).1
        have V_xs_135 : own_A Z h135 xs .long 5 (own_upd (own_upd (own_upd (own_upd (own_upd (fun _ => (.long (0 : Int64))) 0 (.long q4)) 1 (.long q1)) 2 (.long q2)) 3 (.long q3)) 4 (.long q5)) := V_xs_134.other W135 ne_xs_zs
        have V_ys_135 : own_A Z h135 ys .long 6 (own_upd (own_upd (own_upd (own_upd (own_upd (own_upd (fun _ => (.long (0 : Int64))) 0 (.long q5)) 1 (.long q4)) 2 (.long q5)) 3 (.long q1)) 4 (.long q2)) 5 (.long q3)) := V_ys_134.other W135 ne_ys_zs
        refine own_step st135 ?_
        refine own_step (T' := T135) (f' := (mkF m 174 #[.val (.long q1), .second, .val (.long q2), .second, .val (.long q3), .second, .val (.long q4), .second, .val (.long q5), .second, .val (.int p6), .val (.int (0 : Int32)), .val (.ref xs), .val (.ref ys), .val (.ref zs), .unset, .unset, .unset] [(.int ((1 : Int32) + (0 : Int32))), (.int (1 : Int32)), (.ref xs)])) (fun tt kont => ?_) ?_
        · show Steps p.tables e below (T135.setTop (mkF m 167 #[.val (.long q1), .second, .val (.long q2), .second, .val (.long q3), .second, .val (.long q4), .second, .val (.long q5), .second, .val (.int p6), .val (.int (0 : Int32)), .val (.ref xs), .val (.ref ys), .val (.ref zs), .unset, .unset, .unset] [])) _
          refine XS.aload X135.here hx rfl (hb hby at_167) rfl rfl ?_
          show Steps p.tables e below (T135.setTop (mkF m 169 #[.val (.long q1), .second, .val (.long q2), .second, .val (.long q3), .second, .val (.long q4), .second, .val (.long q5), .second, .val (.int p6), .val (.int (0 : Int32)), .val (.ref xs), .val (.ref ys), .val (.ref zs), .unset, .unset, .unset] [(.ref xs)])) _
          refine XS.iconst X135.here hx rfl (hb hby at_169) ?_
          show Steps p.tables e below (T135.setTop (mkF m 170 #[.val (.long q1), .second, .val (.long q2), .second, .val (.long q3), .second, .val (.long q4), .second, .val (.long q5), .second, .val (.int p6), .val (.int (0 : Int32)), .val (.ref xs), .val (.ref ys), .val (.ref zs), .unset, .unset, .unset] [(.int (1 : Int32)), (.ref xs)])) _
          refine XS.iconst X135.here hx rfl (hb hby at_170) ?_
          show Steps p.tables e below (T135.setTop (mkF m 171 #[.val (.long q1), .second, .val (.long q2), .second, .val (.long q3), .second, .val (.long q4), .second, .val (.long q5), .second, .val (.int p6), .val (.int (0 : Int32)), .val (.ref xs), .val (.ref ys), .val (.ref zs), .unset, .unset, .unset] [(.int (1 : Int32)), (.int (1 : Int32)), (.ref xs)])) _
          refine XS.iload X135.here hx rfl (hb hby at_171) rfl ?_
          show Steps p.tables e below (T135.setTop (mkF m 173 #[.val (.long q1), .second, .val (.long q2), .second, .val (.long q3), .second, .val (.long q4), .second, .val (.long q5), .second, .val (.int p6), .val (.int (0 : Int32)), .val (.ref xs), .val (.ref ys), .val (.ref zs), .unset, .unset, .unset] [(.int (0 : Int32)), (.int (1 : Int32)), (.int (1 : Int32)), (.ref xs)])) _
          refine XS.iadd X135.here hx rfl (hb hby at_173) rfl ?_
          exact kont
        obtain ⟨_, _, ⟨T136, L136, k136, n136⟩, -, X136, ⟨Lc136, hQ136, l136, y136, z136⟩, st136⟩ := Jvm.LawKit.callS X135 hx (y := (⟨"com/example/guarantor/guarantor/automata/StateTable", "hash", "([JII)I"⟩ : MethodName)) hown (mvT hZ (hw _ (List.mem_of_getElem? (i := 1) rfl))) (mvT hZ (hw _ (List.mem_of_getElem? (i := 2) rfl))) (mvT hZ (hw _ (List.mem_of_getElem? (i := 3) rfl))) (mvT hZ (hw _ (List.mem_of_getElem? (i := 4) rfl))) (by decide) (backOf (W := 0) (own_rm1 l Z a0 hw xs (1 : Int32) ((1 : Int32) + (0 : Int32)) 5 1 0 (own_upd (own_upd (own_upd (own_upd (own_upd (fun _ => (.long (0 : Int64))) 0 (.long q4)) 1 (.long q1)) 2 (.long q2)) 3 (.long q3)) 4 (.long q5)) (own_g q1 q2 q3) h135 n0 V_xs_135 (by decide) (by decide) (by decide) (own_lt0 )) hZ (hw _ (List.mem_of_getElem? (i := 4) rfl)) (hw _ (List.mem_of_getElem? (i := 3) rfl)) (by decide) (by decide)) (g := (mkF m 174 #[.val (.long q1), .second, .val (.long q2), .second, .val (.long q3), .second, .val (.long q4), .second, .val (.long q5), .second, .val (.int p6), .val (.int (0 : Int32)), .val (.ref xs), .val (.ref ys), .val (.ref zs), .unset, .unset, .unset] [(.int ((1 : Int32) + (0 : Int32))), (.int (1 : Int32)), (.ref xs)])) rfl (by rw [hml]; rfl) (argsL := [(.ref xs), (.int (1 : Int32)), (.int ((1 : Int32) + (0 : Int32)))]) (rest := []) (lenOf own_pd0 rfl) rfl (by show 2 * 0 + _ ≤ _; exact Nat.le_of_eq rfl) (hb hby at_174) (fun _ _ => ⟨rfl, e135, (by decide : 3 + 0 ≤ _), (by decide : 14 + 0 ≤ _)⟩)
        dsimp only [Pt.U, Pt.locs, Pt.cells, Pt.slots] at X136 l136 y136 z136 st136 hQ136
        subst l136 y136 z136
        obtain ⟨rfl, N136q, e136⟩ := hQ136
        have N136 := Fr.app N135 N136q
        refine own_step (fun tt kont => st136 _ kont) ?_
        refine own_step (T' := T136) (f' := (mkF m 186 #[.val (.long q1), .second, .val (.long q2), .second, .val (.long q3), .second, .val (.long q4), .second, .val (.long q5), .second, .val (.int p6), .val (.int (0 : Int32)), .val (.ref xs), .val (.ref ys), .val (.ref zs), .val (.int (own_fin (own_fold (own_g q1 q2 q3) 0))), .unset, .unset] [(.int ((3 : Int32) + (0 : Int32))), (.int (3 : Int32)), (.ref ys)])) (fun tt kont => ?_) ?_
        · show Steps p.tables e below (T136.setTop (mkF m 177 #[.val (.long q1), .second, .val (.long q2), .second, .val (.long q3), .second, .val (.long q4), .second, .val (.long q5), .second, .val (.int p6), .val (.int (0 : Int32)), .val (.ref xs), .val (.ref ys), .val (.ref zs), .unset, .unset, .unset] [(.int (own_fin (own_fold (own_g q1 q2 q3) 0)))])) _
          refine XS.istore X136.here hx rfl (hb hby at_177) rfl (l' := #[.val (.long q1), .second, .val (.long q2), .second, .val (.long q3), .second, .val (.long q4), .second, .val (.long q5), .second, .val (.int p6), .val (.int (0 : Int32)), .val (.ref xs), .val (.ref ys), .val (.ref zs), .val (.int (own_fin (own_fold (own_g q1 q2 q3) 0))), .unset, .unset]) rfl ?_
          show Steps p.tables e below (T136.setTop (mkF m 179 #[.val (.long q1), .second, .val (.long q2), .second, .val (.long q3), .second, .val (.long q4), .second, .val (.long q5), .second, .val (.int p6), .val (.int (0 : Int32)), .val (.ref xs), .val (.ref ys), .val (.ref zs), .val (.int (own_fin (own_fold (own_g q1 q2 q3) 0))), .unset, .unset] [])) _
          refine XS.aload X136.here hx rfl (hb hby at_179) rfl rfl ?_
          show Steps p.tables e below (T136.setTop (mkF m 181 #[.val (.long q1), .second, .val (.long q2), .second, .val (.long q3), .second, .val (.long q4), .second, .val (.long q5), .second, .val (.int p6), .val (.int (0 : Int32)), .val (.ref xs), .val (.ref ys), .val (.ref zs), .val (.int (own_fin (own_fold (own_g q1 q2 q3) 0))), .unset, .unset] [(.ref ys)])) _
          refine XS.iconst X136.here hx rfl (hb hby at_181) ?_
          show Steps p.tables e below (T136.setTop (mkF m 182 #[.val (.long q1), .second, .val (.long q2), .second, .val (.long q3), .second, .val (.long q4), .second, .val (.long q5), .second, .val (.int p6), .val (.int (0 : Int32)), .val (.ref xs), .val (.ref ys), .val (.ref zs), .val (.int (own_fin (own_fold (own_g q1 q2 q3) 0))), .unset, .unset] [(.int (3 : Int32)), (.ref ys)])) _
          refine XS.iconst X136.here hx rfl (hb hby at_182) ?_
          show Steps p.tables e below (T136.setTop (mkF m 183 #[.val (.long q1), .second, .val (.long q2), .second, .val (.long q3), .second, .val (.long q4), .second, .val (.long q5), .second, .val (.int p6), .val (.int (0 : Int32)), .val (.ref xs), .val (.ref ys), .val (.ref zs), .val (.int (own_fin (own_fold (own_g q1 q2 q3) 0))), .unset, .unset] [(.int (3 : Int32)), (.int (3 : Int32)), (.ref ys)])) _
          refine XS.iload X136.here hx rfl (hb hby at_183) rfl ?_
          show Steps p.tables e below (T136.setTop (mkF m 185 #[.val (.long q1), .second, .val (.long q2), .second, .val (.long q3), .second, .val (.long q4), .second, .val (.long q5), .second, .val (.int p6), .val (.int (0 : Int32)), .val (.ref xs), .val (.ref ys), .val (.ref zs), .val (.int (own_fin (own_fold (own_g q1 q2 q3) 0))), .unset, .unset] [(.int (0 : Int32)), (.int (3 : Int32)), (.int (3 : Int32)), (.ref ys)])) _
          refine XS.iadd X136.here hx rfl (hb hby at_185) rfl ?_
          exact kont
        obtain ⟨_, _, ⟨T137, L137, k137, n137⟩, -, X137, ⟨Lc137, hQ137, l137, y137, z137⟩, st137⟩ := Jvm.LawKit.callS X136 hx (y := (⟨"com/example/guarantor/guarantor/automata/StateTable", "hash", "([JII)I"⟩ : MethodName)) hown (mvT hZ (hw _ (List.mem_of_getElem? (i := 1) rfl))) (mvT hZ (hw _ (List.mem_of_getElem? (i := 2) rfl))) (mvT hZ (hw _ (List.mem_of_getElem? (i := 3) rfl))) (mvT hZ (hw _ (List.mem_of_getElem? (i := 4) rfl))) (by decide) (backOf (W := 0) (own_rm1 l Z a0 hw ys (3 : Int32) ((3 : Int32) + (0 : Int32)) 6 3 0 (own_upd (own_upd (own_upd (own_upd (own_upd (own_upd (fun _ => (.long (0 : Int64))) 0 (.long q5)) 1 (.long q4)) 2 (.long q5)) 3 (.long q1)) 4 (.long q2)) 5 (.long q3)) (own_g q1 q2 q3) h135 n0 V_ys_135 (by decide) (by decide) (by decide) (own_lt0 )) hZ (hw _ (List.mem_of_getElem? (i := 4) rfl)) (hw _ (List.mem_of_getElem? (i := 3) rfl)) (by decide) (by decide)) (g := (mkF m 186 #[.val (.long q1), .second, .val (.long q2), .second, .val (.long q3), .second, .val (.long q4), .second, .val (.long q5), .second, .val (.int p6), .val (.int (0 : Int32)), .val (.ref xs), .val (.ref ys), .val (.ref zs), .val (.int (own_fin (own_fold (own_g q1 q2 q3) 0))), .unset, .unset] [(.int ((3 : Int32) + (0 : Int32))), (.int (3 : Int32)), (.ref ys)])) rfl (by rw [hml]; rfl) (argsL := [(.ref ys), (.int (3 : Int32)), (.int ((3 : Int32) + (0 : Int32)))]) (rest := []) (lenOf own_pd0 rfl) rfl (by show 2 * 0 + _ ≤ _; exact Nat.le_of_eq rfl) (hb hby at_186) (fun _ _ => ⟨rfl, e136, (by decide : 3 + 0 ≤ _), (by decide : 14 + 0 ≤ _)⟩)
        dsimp only [Pt.U, Pt.locs, Pt.cells, Pt.slots] at X137 l137 y137 z137 st137 hQ137
        subst l137 y137 z137
        obtain ⟨rfl, N137q, e137⟩ := hQ137
        have N137 := Fr.app N136 N137q
        refine own_step (fun tt kont => st137 _ kont) ?_
        refine own_step (T' := T137) (f' := (mkF m 198 #[.val (.long q1), .second, .val (.long q2), .second, .val (.long q3), .second, .val (.long q4), .second, .val (.long q5), .second, .val (.int p6), .val (.int (0 : Int32)), .val (.ref xs), .val (.ref ys), .val (.ref zs), .val (.int (own_fin (own_fold (own_g q1 q2 q3) 0))), .val (.int (own_fin (own_fold (own_g q1 q2 q3) 0))), .unset] [(.int (3 : Int32)), (.int ((3 : Int32) - (0 : Int32))), (.ref zs)])) (fun tt kont => ?_) ?_
        · show Steps p.tables e below (T137.setTop (mkF m 189 #[.val (.long q1), .second, .val (.long q2), .second, .val (.long q3), .second, .val (.long q4), .second, .val (.long q5), .second, .val (.int p6), .val (.int (0 : Int32)), .val (.ref xs), .val (.ref ys), .val (.ref zs), .val (.int (own_fin (own_fold (own_g q1 q2 q3) 0))), .unset, .unset] [(.int (own_fin (own_fold (own_g q1 q2 q3) 0)))])) _
          refine XS.istore X137.here hx rfl (hb hby at_189) rfl (l' := #[.val (.long q1), .second, .val (.long q2), .second, .val (.long q3), .second, .val (.long q4), .second, .val (.long q5), .second, .val (.int p6), .val (.int (0 : Int32)), .val (.ref xs), .val (.ref ys), .val (.ref zs), .val (.int (own_fin (own_fold (own_g q1 q2 q3) 0))), .val (.int (own_fin (own_fold (own_g q1 q2 q3) 0))), .unset]) rfl ?_
          show Steps p.tables e below (T137.setTop (mkF m 191 #[.val (.long q1), .second, .val (.long q2), .second, .val (.long q3), .second, .val (.long q4), .second, .val (.long q5), .second, .val (.int p6), .val (.int (0 : Int32)), .val (.ref xs), .val (.ref ys), .val (.ref zs), .val (.int (own_fin (own_fold (own_g q1 q2 q3) 0))), .val (.int (own_fin (own_fold (own_g q1 q2 q3) 0))), .unset] [])) _
          refine XS.aload X137.here hx rfl (hb hby at_191) rfl rfl ?_
          show Steps p.tables e below (T137.setTop (mkF m 193 #[.val (.long q1), .second, .val (.long q2), .second, .val (.long q3), .second, .val (.long q4), .second, .val (.long q5), .second, .val (.int p6), .val (.int (0 : Int32)), .val (.ref xs), .val (.ref ys), .val (.ref zs), .val (.int (own_fin (own_fold (own_g q1 q2 q3) 0))), .val (.int (own_fin (own_fold (own_g q1 q2 q3) 0))), .unset] [(.ref zs)])) _
          refine XS.iconst X137.here hx rfl (hb hby at_193) ?_
          show Steps p.tables e below (T137.setTop (mkF m 194 #[.val (.long q1), .second, .val (.long q2), .second, .val (.long q3), .second, .val (.long q4), .second, .val (.long q5), .second, .val (.int p6), .val (.int (0 : Int32)), .val (.ref xs), .val (.ref ys), .val (.ref zs), .val (.int (own_fin (own_fold (own_g q1 q2 q3) 0))), .val (.int (own_fin (own_fold (own_g q1 q2 q3) 0))), .unset] [(.int (3 : Int32)), (.ref zs)])) _
          refine XS.iload X137.here hx rfl (hb hby at_194) rfl ?_
          show Steps p.tables e below (T137.setTop (mkF m 196 #[.val (.long q1), .second, .val (.long q2), .second, .val (.long q3), .second, .val (.long q4), .second, .val (.long q5), .second, .val (.int p6), .val (.int (0 : Int32)), .val (.ref xs), .val (.ref ys), .val (.ref zs), .val (.int (own_fin (own_fold (own_g q1 q2 q3) 0))), .val (.int (own_fin (own_fold (own_g q1 q2 q3) 0))), .unset] [(.int (0 : Int32)), (.int (3 : Int32)), (.ref zs)])) _
          refine XS.isub X137.here hx rfl (hb hby at_196) rfl ?_
          show Steps p.tables e below (T137.setTop (mkF m 197 #[.val (.long q1), .second, .val (.long q2), .second, .val (.long q3), .second, .val (.long q4), .second, .val (.long q5), .second, .val (.int p6), .val (.int (0 : Int32)), .val (.ref xs), .val (.ref ys), .val (.ref zs), .val (.int (own_fin (own_fold (own_g q1 q2 q3) 0))), .val (.int (own_fin (own_fold (own_g q1 q2 q3) 0))), .unset] [(.int ((3 : Int32) - (0 : Int32))), (.ref zs)])) _
          refine XS.iconst X137.here hx rfl (hb hby at_197) ?_
          exact kont
        obtain ⟨_, _, ⟨T138, L138, k138, n138⟩, -, X138, ⟨Lc138, hQ138, l138, y138, z138⟩, st138⟩ := Jvm.LawKit.callS X137 hx (y := (⟨"com/example/guarantor/guarantor/automata/StateTable", "hash", "([JII)I"⟩ : MethodName)) hown (mvT hZ (hw _ (List.mem_of_getElem? (i := 1) rfl))) (mvT hZ (hw _ (List.mem_of_getElem? (i := 2) rfl))) (mvT hZ (hw _ (List.mem_of_getElem? (i := 3) rfl))) (mvT hZ (hw _ (List.mem_of_getElem? (i := 4) rfl))) (by decide) (backOf (W := 0) (own_rm1 l Z a0 hw zs ((3 : Int32) - (0 : Int32)) (3 : Int32) 3 3 0 (own_upd (own_upd (own_upd (fun _ => (.long (0 : Int64))) 0 (.long q4)) 1 (.long q5)) 2 (.long q4)) (own_g q1 q2 q3) h135 n0 V_zs_135 (by decide) (by decide) (by decide) (own_lt0 )) hZ (hw _ (List.mem_of_getElem? (i := 4) rfl)) (hw _ (List.mem_of_getElem? (i := 3) rfl)) (by decide) (by decide)) (g := (mkF m 198 #[.val (.long q1), .second, .val (.long q2), .second, .val (.long q3), .second, .val (.long q4), .second, .val (.long q5), .second, .val (.int p6), .val (.int (0 : Int32)), .val (.ref xs), .val (.ref ys), .val (.ref zs), .val (.int (own_fin (own_fold (own_g q1 q2 q3) 0))), .val (.int (own_fin (own_fold (own_g q1 q2 q3) 0))), .unset] [(.int (3 : Int32)), (.int ((3 : Int32) - (0 : Int32))), (.ref zs)])) rfl (by rw [hml]; rfl) (argsL := [(.ref zs), (.int ((3 : Int32) - (0 : Int32))), (.int (3 : Int32))]) (rest := []) (lenOf own_pd0 rfl) rfl (by show 2 * 0 + _ ≤ _; exact Nat.le_of_eq rfl) (hb hby at_198) (fun _ _ => ⟨rfl, e137, (by decide : 3 + 0 ≤ _), (by decide : 14 + 0 ≤ _)⟩)
        dsimp only [Pt.U, Pt.locs, Pt.cells, Pt.slots] at X138 l138 y138 z138 st138 hQ138
        subst l138 y138 z138
        obtain ⟨rfl, N138q, e138⟩ := hQ138
        have N138 := Fr.app N137 N138q
        refine own_step (fun tt kont => st138 _ kont) ?_
        refine own_step (T' := T138) (f' := (mkF m 222 #[.val (.long q1), .second, .val (.long q2), .second, .val (.long q3), .second, .val (.long q4), .second, .val (.long q5), .second, .val (.int p6), .val (.int (0 : Int32)), .val (.ref xs), .val (.ref ys), .val (.ref zs), .val (.int (own_fin (own_fold (own_g q1 q2 q3) 0))), .val (.int (own_fin (own_fold (own_g q1 q2 q3) 0))), .val (.int (own_fin (own_fold (own_g q1 q2 q3) 0)))] [(.int (1 : Int32))])) (fun tt kont => ?_) ?_
        · show Steps p.tables e below (T138.setTop (mkF m 201 #[.val (.long q1), .second, .val (.long q2), .second, .val (.long q3), .second, .val (.long q4), .second, .val (.long q5), .second, .val (.int p6), .val (.int (0 : Int32)), .val (.ref xs), .val (.ref ys), .val (.ref zs), .val (.int (own_fin (own_fold (own_g q1 q2 q3) 0))), .val (.int (own_fin (own_fold (own_g q1 q2 q3) 0))), .unset] [(.int (own_fin (own_fold (own_g q1 q2 q3) 0)))])) _
          refine XS.istore X138.here hx rfl (hb hby at_201) rfl (l' := #[.val (.long q1), .second, .val (.long q2), .second, .val (.long q3), .second, .val (.long q4), .second, .val (.long q5), .second, .val (.int p6), .val (.int (0 : Int32)), .val (.ref xs), .val (.ref ys), .val (.ref zs), .val (.int (own_fin (own_fold (own_g q1 q2 q3) 0))), .val (.int (own_fin (own_fold (own_g q1 q2 q3) 0))), .val (.int (own_fin (own_fold (own_g q1 q2 q3) 0)))]) rfl ?_
          show Steps p.tables e below (T138.setTop (mkF m 203 #[.val (.long q1), .second, .val (.long q2), .second, .val (.long q3), .second, .val (.long q4), .second, .val (.long q5), .second, .val (.int p6), .val (.int (0 : Int32)), .val (.ref xs), .val (.ref ys), .val (.ref zs), .val (.int (own_fin (own_fold (own_g q1 q2 q3) 0))), .val (.int (own_fin (own_fold (own_g q1 q2 q3) 0))), .val (.int (own_fin (own_fold (own_g q1 q2 q3) 0)))] [])) _
          refine XS.iload X138.here hx rfl (hb hby at_203) rfl ?_
          show Steps p.tables e below (T138.setTop (mkF m 205 #[.val (.long q1), .second, .val (.long q2), .second, .val (.long q3), .second, .val (.long q4), .second, .val (.long q5), .second, .val (.int p6), .val (.int (0 : Int32)), .val (.ref xs), .val (.ref ys), .val (.ref zs), .val (.int (own_fin (own_fold (own_g q1 q2 q3) 0))), .val (.int (own_fin (own_fold (own_g q1 q2 q3) 0))), .val (.int (own_fin (own_fold (own_g q1 q2 q3) 0)))] [(.int (own_fin (own_fold (own_g q1 q2 q3) 0)))])) _
          refine XS.iload X138.here hx rfl (hb hby at_205) rfl ?_
          show Steps p.tables e below (T138.setTop (mkF m 207 #[.val (.long q1), .second, .val (.long q2), .second, .val (.long q3), .second, .val (.long q4), .second, .val (.long q5), .second, .val (.int p6), .val (.int (0 : Int32)), .val (.ref xs), .val (.ref ys), .val (.ref zs), .val (.int (own_fin (own_fold (own_g q1 q2 q3) 0))), .val (.int (own_fin (own_fold (own_g q1 q2 q3) 0))), .val (.int (own_fin (own_fold (own_g q1 q2 q3) 0)))] [(.int (own_fin (own_fold (own_g q1 q2 q3) 0))), (.int (own_fin (own_fold (own_g q1 q2 q3) 0)))])) _
          refine XS.icmpNo X138.here hx rfl (hb hby at_207) rfl (teq (rfl : (own_fin (own_fold (own_g q1 q2 q3) 0)) = (own_fin (own_fold (own_g q1 q2 q3) 0)))).2 ?_
          show Steps p.tables e below (T138.setTop (mkF m 210 #[.val (.long q1), .second, .val (.long q2), .second, .val (.long q3), .second, .val (.long q4), .second, .val (.long q5), .second, .val (.int p6), .val (.int (0 : Int32)), .val (.ref xs), .val (.ref ys), .val (.ref zs), .val (.int (own_fin (own_fold (own_g q1 q2 q3) 0))), .val (.int (own_fin (own_fold (own_g q1 q2 q3) 0))), .val (.int (own_fin (own_fold (own_g q1 q2 q3) 0)))] [])) _
          refine XS.iload X138.here hx rfl (hb hby at_210) rfl ?_
          show Steps p.tables e below (T138.setTop (mkF m 212 #[.val (.long q1), .second, .val (.long q2), .second, .val (.long q3), .second, .val (.long q4), .second, .val (.long q5), .second, .val (.int p6), .val (.int (0 : Int32)), .val (.ref xs), .val (.ref ys), .val (.ref zs), .val (.int (own_fin (own_fold (own_g q1 q2 q3) 0))), .val (.int (own_fin (own_fold (own_g q1 q2 q3) 0))), .val (.int (own_fin (own_fold (own_g q1 q2 q3) 0)))] [(.int (own_fin (own_fold (own_g q1 q2 q3) 0)))])) _
          refine XS.iload X138.here hx rfl (hb hby at_212) rfl ?_
          show Steps p.tables e below (T138.setTop (mkF m 214 #[.val (.long q1), .second, .val (.long q2), .second, .val (.long q3), .second, .val (.long q4), .second, .val (.long q5), .second, .val (.int p6), .val (.int (0 : Int32)), .val (.ref xs), .val (.ref ys), .val (.ref zs), .val (.int (own_fin (own_fold (own_g q1 q2 q3) 0))), .val (.int (own_fin (own_fold (own_g q1 q2 q3) 0))), .val (.int (own_fin (own_fold (own_g q1 q2 q3) 0)))] [(.int (own_fin (own_fold (own_g q1 q2 q3) 0))), (.int (own_fin (own_fold (own_g q1 q2 q3) 0)))])) _
          refine XS.icmpNo X138.here hx rfl (hb hby at_214) rfl (teq (rfl : (own_fin (own_fold (own_g q1 q2 q3) 0)) = (own_fin (own_fold (own_g q1 q2 q3) 0)))).2 ?_
          show Steps p.tables e below (T138.setTop (mkF m 217 #[.val (.long q1), .second, .val (.long q2), .second, .val (.long q3), .second, .val (.long q4), .second, .val (.long q5), .second, .val (.int p6), .val (.int (0 : Int32)), .val (.ref xs), .val (.ref ys), .val (.ref zs), .val (.int (own_fin (own_fold (own_g q1 q2 q3) 0))), .val (.int (own_fin (own_fold (own_g q1 q2 q3) 0))), .val (.int (own_fin (own_fold (own_g q1 q2 q3) 0)))] [])) _
          refine XS.iconst X138.here hx rfl (hb hby at_217) ?_
          show Steps p.tables e below (T138.setTop (mkF m 218 #[.val (.long q1), .second, .val (.long q2), .second, .val (.long q3), .second, .val (.long q4), .second, .val (.long q5), .second, .val (.int p6), .val (.int (0 : Int32)), .val (.ref xs), .val (.ref ys), .val (.ref zs), .val (.int (own_fin (own_fold (own_g q1 q2 q3) 0))), .val (.int (own_fin (own_fold (own_g q1 q2 q3) 0))), .val (.int (own_fin (own_fold (own_g q1 q2 q3) 0)))] [(.int (1 : Int32))])) _
          refine XS.goto X138.here hx rfl (pc0 := 218) (pc' := 222) rfl (hb hby at_218) (by decide) (by decide) ?_
          exact kont
        exact own_retZ X138 hx hret hlk (hb hby at_222) (by decide) (by decide) ⟨rfl, N138⟩
set_option maxRecDepth 65536 in
set_option maxHeartbeats 40000000 in
theorem comes_1 {Post : Tables → Env → Array Value → State → Outcome → State → Prop} (hpost : ∀ tb e args s v u, (limb_1_1.after args s (.returned v) u = true ∧ limb_1_2.after args s (.returned v) u = true ∧ True) → FrameEnd s (.returned v) u (Jvm.fieldLocs frame_1_writes args s ++ Jvm.arrayLocs frame_1_arrays args s ++ Jvm.staticLocs frame_1_statics s) 16 128 → Post tb e args s (.returned v) u) :
    ArmFor flags0 classFile x code maxLocals ret World_1 tables_1 room_1 Calls_1 rest_1 Pre_1 Post := by
  intro l hfl _ _ p e ha hc hk s m args below hf hA hF happ hP
  obtain ⟨hcalls, hrest, hpre⟩ := hP
  obtain ⟨-, -, -, hnamed, -, -, -, hat⟩ := (Spec.applies_iff hf).mp happ
  obtain ⟨hg, hn⟩ := and_e (Cond.before_iff.mp (show (Jvm.Cond.and given_1 narrow_1).before args s = true from hpre))
  obtain ⟨g1, g2⟩ := and_e hg
  obtain ⟨ga0, gb0⟩ := and_e g2
  obtain ⟨ga1, gb1⟩ := and_e gb0
  obtain ⟨ga2, gb2⟩ := and_e gb1
  obtain ⟨ga3, gb3⟩ := and_e gb2
  obtain ⟨ga4, gb4⟩ := and_e gb3
  obtain ⟨w0, w1, w2, w3, w4, w5, rfl⟩ : ∃ w0 w1 w2 w3 w4 w5 : Value, args = #[w0, w1, w2, w3, w4, w5] := by
    have hs : args.size = 6 := by simpa [Cond.value, given_1] using g1
    obtain ⟨L⟩ := args
    match L, hs with
    | [w0, w1, w2, w3, w4, w5], _ => exact ⟨w0, w1, w2, w3, w4, w5, rfl⟩
  have hw := fun d (hd : d ∈ tables_1) => atoms_spec (ws := Jvm.Cond.code x code maxLocals ret :: tables_1) hat d (List.mem_cons_of_mem _ hd)
  obtain ⟨i0, ei0⟩ := isL_v ga0
  obtain rfl : w0 = (.long i0) := Option.some.inj ei0
  obtain ⟨i1, ei1⟩ := isL_v ga1
  obtain rfl : w1 = (.long i1) := Option.some.inj ei1
  obtain ⟨i2, ei2⟩ := isL_v ga2
  obtain rfl : w2 = (.long i2) := Option.some.inj ei2
  obtain ⟨i3, ei3⟩ := isL_v ga3
  obtain rfl : w3 = (.long i3) := Option.some.inj ei3
  obtain ⟨i4, ei4⟩ := isL_v ga4
  obtain rfl : w4 = (.long i4) := Option.some.inj ei4
  obtain ⟨i5, ei5⟩ := is_v gb4
  obtain rfl : w5 = (.int i5) := Option.some.inj ei5
  obtain ⟨n, o, h1, h2, h3, _, L, rfl, ⟨rfl, N⟩, hq⟩ := own_rm0 l s _ hw tables_1 i0 i1 i2 i3 i4 i5 s.heap s.heap.size (Nat.le_refl _) p e ha hc hk s m _ below hf ((Spec.applies_iff_loose hf).mp happ).1 ⟨rfl, State.Warmed39.refl s, rfl⟩ trivial
  refine ⟨n, _, h1, h2, h3, hpost _ _ _ _ _ _ ⟨Cond.after_iff.mpr rfl, Cond.after_iff.mpr (eq_i res_at (Term.int_eval (1)) rfl), trivial⟩ ⟨hq.1, hq.2.1, (hq.2.2.sift fun y hy => Or.inr (N y hy)).mono (by decide) (by decide)⟩⟩
theorem main_1_1 : Claimed_1_1 := comes_1 fun _ _ _ _ _ _ h hF => ⟨h.1, hF⟩
theorem main_1_2 : Claimed_1_2 := comes_1 fun _ _ _ _ _ _ h hF => ⟨h.2.1, hF⟩
end Jvm.Pilot.@@N@@
namespace Jvm.Pilot.@@N@@
open Jvm Jvm.ClassFile Sem Op Lib Jvm.Free Jvm.Stand Jvm.Pilot.@@N@@.Jvm.D
/-! MADE BY PROGRAM (witnessworld.py) out of the Statement's table words and the real class files: 11 classes; the members and pool entries that the words name. The judged class is class 1, her method 1. -/
namespace start1
open Jvm.ClassFile
def u (s : String) : CpInfo := .utf8 (stringToUtf16 s)
/-- a pool by its gaps: so many unusable entries, then the entry; so many at the end -/
def gap : Nat → List CpInfo → List CpInfo
  | 0, r => r
  | n + 1, r => .unusable :: gap n r
def poolList (es : List (Nat × CpInfo)) (last : Nat) : List CpInfo := es.foldr (fun e r => gap e.1 (e.2 :: r)) (gap last [])
def pool (es : List (Nat × CpInfo)) (last : Nat) : Array CpInfo := ⟨poolList es last⟩
def fileOf (pool : Array CpInfo) (this : Nat) (attrs : Array Attribute := #[]) (ms : Array MethodInfo := #[]) (fl : Nat := 33) (sup : Nat := 0) (ifs : Array Nat := #[]) (fds : Array FieldInfo := #[]) : ClassFile where
  minorVersion := 0
  majorVersion := 65
  constantPool := pool
  accessFlags := fl
  thisClass := this
  superClass := sup
  interfaces := ifs
  fields := fds
  methods := ms
  attributes := attrs
def plain (name : String) (sup : Option ClassId) : Class where
  name := name
  kind := .ordinary
  loader := none
  accessFlags := 33
  super := sup
  interfaces := #[]
  cf := none
  fields := #[]
  methods := #[]
  instanceTypes := #[]
  staticTypes := #[]
  resolved := #[]
  callSites := []
  init := .initialized
  statics := none
  mirror := none

def pool0 : Array CpInfo := pool [(5, u "<init>"), (0, u "()V"), (1, .class_ 10), (1, u "java/lang/Object")] 113

def k0m0 : Method := { name := "<init>", desc := "()V", sig := { parameters := [], returnType := none }, accessFlags := 1, code := none }
/-- java/lang/Object -/
def k0 : Class := { plain "java/lang/Object" none with
  accessFlags := 33
  interfaces := #[]
  cf := some (fileOf pool0 8 #[] #[{ accessFlags := 1, nameIndex := 5, descriptorIndex := 6, attributes := #[] }] 33 0 #[] #[])
  fields := #[]
  methods := #[k0m0]
  instanceTypes := #[]
  staticTypes := #[]
  resolved := Array.replicate 124 none
  statics := none }

def pool1 : Array CpInfo := pool [(2, .class_ 4), (1, u "java/lang/Object"), (0, u "<init>"), (0, u "()V"), (0, .methodref 8 9), (0, .class_ 10), (0, .nameAndType 11 12), (0, u "com/example/guarantor/guarantor/automata/StateTable"), (0, u "hash"), (0, u "([JII)I"), (0, .class_ 14), (0, u "com/example/guarantor/guarantor/automata/StateTableHashPinLaw"), (2, u "law"), (0, u "(JJJJJI)Z")] 5

def k1m0 : Method := { name := "<init>", desc := "()V", sig := { parameters := [], returnType := none }, accessFlags := 1, code := none }
def k1c1 : Code := { maxStack := 5, maxLocals := 18, code := code, exceptionTable := #[], attributes := #[] }
def k1m1 : Method := { name := "law", desc := "(JJJJJI)Z", sig := { parameters := [.long, .long, .long, .long, .long, .int], returnType := some .boolean }, accessFlags := 9, code := some k1c1 }
/-- com/example/guarantor/guarantor/automata/StateTableHashPinLaw -/
def k1 : Class := { plain "com/example/guarantor/guarantor/automata/StateTableHashPinLaw" (some 0) with
  accessFlags := 49
  interfaces := #[]
  cf := some (fileOf pool1 13 #[] #[{ accessFlags := 1, nameIndex := 5, descriptorIndex := 6, attributes := #[] }, { accessFlags := 9, nameIndex := 17, descriptorIndex := 18, attributes := #[] }] 49 2 #[] #[])
  fields := #[]
  methods := #[k1m0, k1m1]
  instanceTypes := #[]
  staticTypes := #[]
  resolved := Array.replicate 24 none
  statics := none }

def pool2 : Array CpInfo := pool [(1, .class_ 2), (0, u "com/example/guarantor/guarantor/automata/StateTable"), (1, .class_ 6), (1, u "java/lang/Object"), (4, u "index"), (0, u "[I"), (2, u "slotWord"), (2, u "slotShift"), (2, u "slotMask"), (0, u "[J"), (16, u "width"), (0, u "I"), (2, u "key"), (2, u "words"), (2, u "size"), (15, u "hash"), (0, u "([JII)I"), (35, .long 11400714819323198485), (1, .long 18397679294719823053), (1, .long 14181475960656256707), (1, u "MAX_INDEX_LENGTH"), (2, u "MAX_STATES")] 12

def k2c0 : Code := { maxStack := 5, maxLocals := 6, code := prog_56_method_9_code, exceptionTable := #[], attributes := #[] }
def k2m0 : Method := { name := "hash", desc := "([JII)I", sig := { parameters := [(.array .long), .int, .int], returnType := some .int }, accessFlags := 8, code := some k2c0 }
/-- com/example/guarantor/guarantor/automata/StateTable -/
def k2 : Class := { plain "com/example/guarantor/guarantor/automata/StateTable" (some 0) with
  accessFlags := 49
  interfaces := #[]
  cf := some (fileOf pool2 1 #[] #[{ accessFlags := 8, nameIndex := 65, descriptorIndex := 66, attributes := #[] }] 49 4 #[] #[{ accessFlags := 26, nameIndex := 108, descriptorIndex := 40, attributes := #[] }, { accessFlags := 25, nameIndex := 111, descriptorIndex := 40, attributes := #[] }, { accessFlags := 18, nameIndex := 15, descriptorIndex := 12, attributes := #[] }, { accessFlags := 18, nameIndex := 18, descriptorIndex := 12, attributes := #[] }, { accessFlags := 18, nameIndex := 21, descriptorIndex := 22, attributes := #[] }, { accessFlags := 18, nameIndex := 39, descriptorIndex := 40, attributes := #[] }, { accessFlags := 18, nameIndex := 43, descriptorIndex := 22, attributes := #[] }, { accessFlags := 2, nameIndex := 46, descriptorIndex := 22, attributes := #[] }, { accessFlags := 2, nameIndex := 49, descriptorIndex := 40, attributes := #[] }, { accessFlags := 2, nameIndex := 11, descriptorIndex := 12, attributes := #[] }])
  fields := #[{ name := "MAX_INDEX_LENGTH", type := .int, accessFlags := 26, slot := 0, constantValue := 0 }, { name := "MAX_STATES", type := .int, accessFlags := 25, slot := 1, constantValue := 0 }, { name := "slotWord", type := (.array .int), accessFlags := 18, slot := 0, constantValue := 0 }, { name := "slotShift", type := (.array .int), accessFlags := 18, slot := 1, constantValue := 0 }, { name := "slotMask", type := (.array .long), accessFlags := 18, slot := 2, constantValue := 0 }, { name := "width", type := .int, accessFlags := 18, slot := 3, constantValue := 0 }, { name := "key", type := (.array .long), accessFlags := 18, slot := 4, constantValue := 0 }, { name := "words", type := (.array .long), accessFlags := 2, slot := 5, constantValue := 0 }, { name := "size", type := .int, accessFlags := 2, slot := 6, constantValue := 0 }, { name := "index", type := (.array .int), accessFlags := 2, slot := 7, constantValue := 0 }]
  methods := #[k2m0]
  instanceTypes := #[(.array .int), (.array .int), (.array .long), .int, (.array .long), (.array .long), .int, (.array .int)]
  staticTypes := #[.int, .int]
  resolved := Array.replicate 124 none
  statics := none }

def pool3 : Array CpInfo := pool [(1, u "java/lang/Cloneable"), (0, .class_ 1), (0, u "java/lang/Object"), (0, .class_ 3)] 3

/-- java/lang/Cloneable -/
def k3 : Class := { plain "java/lang/Cloneable" (some 0) with
  accessFlags := 1537
  interfaces := #[]
  cf := some (fileOf pool3 2 #[] #[] 1537 4 #[] #[])
  fields := #[]
  methods := #[]
  instanceTypes := #[]
  staticTypes := #[]
  resolved := Array.replicate 8 none
  statics := none }

def pool4 : Array CpInfo := pool [(1, u "java/io/Serializable"), (0, .class_ 1), (0, u "java/lang/Object"), (0, .class_ 3)] 3

/-- java/io/Serializable -/
def k4 : Class := { plain "java/io/Serializable" (some 0) with
  accessFlags := 1537
  interfaces := #[]
  cf := some (fileOf pool4 2 #[] #[] 1537 4 #[] #[])
  fields := #[]
  methods := #[]
  instanceTypes := #[]
  staticTypes := #[]
  resolved := Array.replicate 8 none
  statics := none }

/-- the primitive byte -/
def k5 : Class := { plain "byte" none with kind := .primitive 'B', accessFlags := 0x411 }
/-- [B -/
def k6 : Class := { plain "[B" (some 0) with kind := .array 5 .byte, interfaces := #[3, 4], accessFlags := 1041 }

/-- the primitive int -/
def k7 : Class := { plain "int" none with kind := .primitive 'I', accessFlags := 0x411 }
/-- [I -/
def k8 : Class := { plain "[I" (some 0) with kind := .array 7 .int, interfaces := #[3, 4], accessFlags := 1041 }

/-- the primitive long -/
def k9 : Class := { plain "long" none with kind := .primitive 'J', accessFlags := 0x411 }
/-- [J -/
def k10 : Class := { plain "[J" (some 0) with kind := .array 9 .long, interfaces := #[3, 4], accessFlags := 1041 }

def heap : Heap := #[]
def classes : Array Class := #[k0, k1, k2, k3, k4, k5, k6, k7, k8, k9, k10]
def interned : List (Array UInt16 × Addr) := []
def slotsUsed : Nat := 0
def theMethod : MethodId := ⟨1, 1⟩
def args0 : Array Value := #[.long 5, .long 300, .long 77, .long 7, .long 8, .int 3]
def aboutOver (below : List Frame) : State where
  vm := { classes := classes, interned := interned.toArray }
  heap := heap
  slotsUsed := slotsUsed
  threads := #[{ frames := .invoking theMethod args0 :: below }]
def below0 : List Frame := [.native { method := ⟨0, 0⟩, args := #[] }]
def about1 : State := aboutOver below0
def p0 : Program := .bare "" "" ""
def e0 : Env := launch0.env 0 0 0
theorem w_frames : about1.frames = Frame.invoking theMethod args0 :: below0 := rfl
set_option maxRecDepth 65536 in
theorem w_args : argsFit about1.vm theMethod args0 = true := by decide +kernel
set_option maxRecDepth 65536 in
theorem w_heap : heapFits about1 = true := by decide +kernel
set_option maxRecDepth 65536 in
theorem w_runnable : about1.curStatus? = some .runnable := by decide +kernel
set_option maxRecDepth 65536 in
theorem w_alone : about1.alone = true := by decide +kernel
set_option maxRecDepth 65536 in
theorem w_named : about1.methodNamed? x = some theMethod := by decide +kernel
set_option maxRecDepth 65536 in
theorem w_hears : about1.hears theMethod below0 = true := by decide +kernel
set_option maxRecDepth 65536 in
theorem w_ripe : about1.ripe theMethod args0 below0 = true := by decide +kernel
theorem w_running : about1.status = .running := rfl
set_option maxRecDepth 65536 in
theorem w_room : about1.hasRoom e0.platform room_1 = true :=
  launch0.hasRoom_least _ room_1 (by decide +kernel) (by decide +kernel) (by decide +kernel) (by decide +kernel) (by decide +kernel) (by decide +kernel)
theorem allAtoms_all (ts : List Jvm.Cond) (a : Array Jvm.Value) (st : Jvm.State) : (allAtoms ts).before a st = ts.all (fun c => c.before a st) := by
  induction ts with
  | nil => rfl
  | cons c t ih =>
    show (Jvm.Cond.and c (allAtoms t)).before a st = _
    rw [Jvm.Cond.before_and, ih, List.all_cons]
def words1 : List Jvm.Cond := Jvm.Cond.code x code maxLocals ret :: tables_1
/-- a 'code' word, met by the world's own term for the bytes: nothing is compared byte by byte -/
theorem code_word {y : MethodName} {bytes : ByteArray} {mx : Nat} {rt : Option FieldType} {a : Array Value} {s : State} {m : MethodId} {meth : Method} {c : Code} (h1 : s.methodNamed? y = some m) (h2 : s.vm.method? m = some meth) (h3 : meth.code = some c) (h4 : c.code = bytes)
    (h5 : (c.maxLocals == mx && c.exceptionTable.isEmpty && decide (c.maxStack ≤ mostOperands) && decide (meth.sig.returnType = rt) && !meth.locks && decide (parseMethodDescriptor y.desc = some meth.sig)) = true) : (Jvm.Cond.code y bytes mx rt).before a s = true := by
  simp only [Bool.and_eq_true, beq_iff_eq, Bool.not_eq_true', decide_eq_true_eq] at h5
  obtain ⟨⟨⟨⟨⟨g1, g2⟩, g3⟩, g4⟩, g5⟩, g6⟩ := h5
  simp [Cond.before, Cond.holds, Cond.value, h1, h2, h3, h4, g1, g2, g3, g4, g5, g6]
def isCode : Jvm.Cond → Bool
  | .code _ _ _ _ => true
  | _ => false
theorem all_split {L : List Jvm.Cond} {P : Jvm.Cond → Bool} (h1 : L.all (fun c => isCode c || P c) = true) (h2 : ∀ c ∈ L.filter isCode, P c = true) : L.all P = true := by
  refine List.all_eq_true.mpr fun c hc => ?_
  have h := List.all_eq_true.mp h1 c hc
  rcases Bool.eq_false_or_eq_true (isCode c) with hi | hi
  · exact h2 c (List.mem_filter.mpr ⟨hc, hi⟩)
  · simpa [hi] using h
set_option maxRecDepth 65536 in
theorem w_c0 : (Jvm.Cond.code x code maxLocals ret).before args0 about1 = true := code_word (m := ⟨1, 1⟩) (meth := k1m1) (c := k1c1) (by decide +kernel) rfl rfl rfl (by decide +kernel)
set_option maxRecDepth 65536 in
theorem w_c1 : (Jvm.Cond.code ({ cls := "com/example/guarantor/guarantor/automata/StateTable", name := "hash", desc := "([JII)I" } : Jvm.MethodName) prog_56_method_9_code (6 : Nat) (Option.some Jvm.ClassFile.FieldType.int)).before args0 about1 = true := code_word (m := ⟨2, 0⟩) (meth := k2m0) (c := k2c0) (by decide +kernel) rfl rfl rfl (by decide +kernel)
def codes1 : List Jvm.Cond := [Jvm.Cond.code x code maxLocals ret, Jvm.Cond.code ({ cls := "com/example/guarantor/guarantor/automata/StateTable", name := "hash", desc := "([JII)I" } : Jvm.MethodName) prog_56_method_9_code (6 : Nat) (Option.some Jvm.ClassFile.FieldType.int)]
set_option maxRecDepth 65536 in
theorem codes_eq : words1.filter isCode = codes1 := rfl
theorem w_codes : ∀ c ∈ words1.filter isCode, c.before args0 about1 = true := by
  rw [codes_eq]
  intro c hc
  simp only [codes1, List.mem_cons, List.not_mem_nil, or_false] at hc
  rcases hc with rfl | rfl
  · exact w_c0
  · exact w_c1
set_option maxRecDepth 65536 in
theorem w_t1 : words1.all (fun c => isCode c || c.before args0 about1) = true := by decide +kernel
theorem w_tables : (allAtoms (Jvm.Cond.code x code maxLocals ret :: tables_1)).before args0 about1 = true := by
  rw [allAtoms_all]
  show words1.all (fun c => c.before args0 about1) = true
  refine all_split ?_ w_codes
  rw [w_t1]
set_option maxRecDepth 65536 in
theorem w_case : (Jvm.Cond.and given_1 narrow_1).before args0 about1 = true := by decide +kernel
theorem w_applies : (headSpec (Jvm.Cond.code x code maxLocals ret :: tables_1) room_1).applies x e0.platform about1 = true :=
  (Spec.applies_iff w_frames).mpr ⟨w_running, w_runnable, w_alone, w_named, w_hears, w_ripe, w_room, w_tables⟩
theorem atStart : AtStart classFile x code maxLocals ret World_1 tables_1 room_1 Calls_1 rest_1 Pre_1 launch0 p0 e0 about1 theMethod args0 below0 :=
  ⟨lists_1, trivial, launch0.admits_env _ _ _, launch0.least_env, fairChoices_fair.cas, fairChoices_fair.clock, w_frames, w_args, w_heap, w_applies, trivial, trivial, w_case⟩
end start1
theorem witness_1 : WitnessClaimed_1 := ⟨start1.p0, start1.e0, start1.about1, start1.theMethod, start1.args0, start1.below0, start1.atStart⟩
end Jvm.Pilot.@@N@@
