import JvmDerived
import JvmDerived.Pilot.@@N@@Statement
import JvmDerived.Pilot.@@N@@Code
set_option linter.unusedVariables false
set_option linter.unusedSimpArgs false
namespace Jvm.Pilot.@@N@@
open Jvm Jvm.ClassFile Sem Op Lib Jvm.Free Jvm.Stand Jvm.LawKit Jvm.RoadKit Bundle Jvm.Pilot.@@N@@.Jvm.D
section OwnGo
variable {p : Program} {l : Launch} {e : Env} {R : Room} {s : State} {m : MethodId} {args : Array Value} {below : List Frame} {meth : Method} {c : Code} {T T' : State} {locs : List Loc} {cells slots : Nat} {f f' : JFrame} {P : Outcome → State → Prop}
/-- what is left of a body's run: from the state T with the frame f on top it ends, and P holds of the end -/
def own_Go (p : Program) (e : Env) (below : List Frame) (T : State) (f : JFrame) (P : Outcome → State → Prop) : Prop :=
  ∃ s₂ o, Steps p.tables e below (T.setTop f) s₂ ∧ s₂.status = .running ∧ Ended s₂ below o ∧ P o s₂
theorem own_step (h : ∀ t, Steps p.tables e below (T'.setTop f') t → Steps p.tables e below (T.setTop f) t) (k : own_Go p e below T' f' P) : own_Go p e below T f P := by
  obtain ⟨s₂, o, a, b, c, d⟩ := k
  exact ⟨s₂, o, h _ a, b, c, d⟩
theorem own_Go.cast (q : f = f') (k : own_Go p e below T f' P) : own_Go p e below T f P := q ▸ k
theorem own_done (X : Stand p l e R s m args below meth c T locs cells slots) {v : Option Value} {Q : Option Value → Heap → List Loc → Prop} {C S : Nat} (hlk : meth.locks = false) (hv : meth.sig.returnType = none → v = none)
    (hs : ∀ fs, (∀ (f : JFrame) (acts : List Action), f.method = m → f.locked = none → f.entered = [] → (doReturn e (T.setTop f) acts v).1 = T.setFrames fs) → Steps p.tables e below (T.setTop f) (T.setFrames fs))
    (hC : cells ≤ C) (hS : slots ≤ S) (hQ : Q v T.heap locs) : own_Go p e below T f (fun o U' => ∃ v L, o = .returned v ∧ Q v U'.heap L ∧ FrameEnd s o U' L C S) := by
  obtain ⟨fs, hr, hrun, hended, hW, hsame⟩ := X.leave (v := v) hv hlk
  exact ⟨_, _, hs fs hr, hrun, hended, _, _, rfl, hQ, ⟨_, rfl⟩, hW, hsame.mono hC hS⟩
theorem own_retZ (X : Stand p l e R s m args below meth c T locs cells slots) (hx : p.tables.exec = Jvm.exec) {pc : Nat} {Ls : Array Slot} {z : Int32} {rest : List Value} {Q : Option Value → Heap → List Loc → Prop} {C S : Nat}
    (hret : meth.sig.returnType = some .boolean) (hlk : meth.locks = false) (hd : decode c.code pc = .ok (.ireturn, 1)) (hC : cells ≤ C) (hS : slots ≤ S) (hQ : Q (some (.int (nar .boolean z))) T.heap locs) :
    own_Go p e below T (mkF m pc Ls (.int z :: rest)) (fun o U' => ∃ v L, o = .returned v ∧ Q v U'.heap L ∧ FrameEnd s o U' L C S) :=
  own_done X hlk (fun h => by rw [hret] at h; cases h) (fun fs hr => retN X hx (t := .boolean) hret (by simp) hd hr) hC hS hQ
theorem own_retI (X : Stand p l e R s m args below meth c T locs cells slots) (hx : p.tables.exec = Jvm.exec) {pc : Nat} {Ls : Array Slot} {z : Int32} {rest : List Value} {Q : Option Value → Heap → List Loc → Prop} {C S : Nat}
    (hret : meth.sig.returnType = some .int) (hlk : meth.locks = false) (hd : decode c.code pc = .ok (.ireturn, 1)) (hC : cells ≤ C) (hS : slots ≤ S) (hQ : Q (some (.int z)) T.heap locs) :
    own_Go p e below T (mkF m pc Ls (.int z :: rest)) (fun o U' => ∃ v L, o = .returned v ∧ Q v U'.heap L ∧ FrameEnd s o U' L C S) :=
  own_done X hlk (fun h => by rw [hret] at h; cases h) (fun fs hr => retOut X hx hret rfl (Or.inl ⟨rfl, Or.inl rfl, _, rfl⟩) hd hr) hC hS hQ
theorem own_retJ (X : Stand p l e R s m args below meth c T locs cells slots) (hx : p.tables.exec = Jvm.exec) {pc : Nat} {Ls : Array Slot} {z : Int64} {rest : List Value} {Q : Option Value → Heap → List Loc → Prop} {C S : Nat}
    (hret : meth.sig.returnType = some .long) (hlk : meth.locks = false) (hd : decode c.code pc = .ok (.lreturn, 1)) (hC : cells ≤ C) (hS : slots ≤ S) (hQ : Q (some (.long z)) T.heap locs) :
    own_Go p e below T (mkF m pc Ls (.long z :: rest)) (fun o U' => ∃ v L, o = .returned v ∧ Q v U'.heap L ∧ FrameEnd s o U' L C S) :=
  own_done X hlk (fun h => by rw [hret] at h; cases h) (fun fs hr => retOut X hx hret rfl (Or.inr (Or.inl ⟨rfl, rfl, _, rfl⟩)) hd hr) hC hS hQ
theorem own_retA (X : Stand p l e R s m args below meth c T locs cells slots) (hx : p.tables.exec = Jvm.exec) {pc : Nat} {Ls : Array Slot} {a : Addr} {ty : FieldType} {rest : List Value} {Q : Option Value → Heap → List Loc → Prop} {C S : Nat}
    (hret : meth.sig.returnType = some (.array ty)) (hlk : meth.locks = false) (hd : decode c.code pc = .ok (.areturn, 1)) (hC : cells ≤ C) (hS : slots ≤ S) (hQ : Q (some (.ref a)) T.heap locs) :
    own_Go p e below T (mkF m pc Ls (.ref a :: rest)) (fun o U' => ∃ v L, o = .returned v ∧ Q v U'.heap L ∧ FrameEnd s o U' L C S) :=
  own_done X hlk (fun h => by rw [hret] at h; cases h) (fun fs hr => retOut X hx hret rfl (Or.inr (Or.inr (Or.inr (Or.inr ⟨rfl, rfl, rfl⟩)))) hd hr) hC hS hQ
theorem own_retV (X : Stand p l e R s m args below meth c T locs cells slots) (hx : p.tables.exec = Jvm.exec) {pc : Nat} {Ls : Array Slot} {Q : Option Value → Heap → List Loc → Prop} {C S : Nat}
    (hret : meth.sig.returnType = none) (hlk : meth.locks = false) (hd : decode c.code pc = .ok (.return_, 1)) (hC : cells ≤ C) (hS : slots ≤ S) (hQ : Q none T.heap locs) :
    own_Go p e below T (mkF m pc Ls []) (fun o U' => ∃ v L, o = .returned v ∧ Q v U'.heap L ∧ FrameEnd s o U' L C S) :=
  own_done X hlk (fun _ => rfl) (fun fs hr => X.returnOut hx hret hd hr) hC hS hQ
end OwnGo
/-- what the law leaves -/
def own_QL (n0 : Nat) (v : Option Value) (h : Heap) (L : List Loc) : Prop := v = some (.int 1) ∧ Fr n0 L
section OwnArr
variable {p : Program} {l : Launch} {e : Env} {R : Room} {s : State} {m : MethodId} {args : Array Value} {below : List Frame} {meth : Method} {c : Code} {T : State} {locs : List Loc} {cells slots : Nat} {Z : State} {h h' : Heap} {a b : Addr} {ty : FieldType} {n i sl : Nat} {f : Nat → Value} {v w : Value} {ws : List Addr} {j x z : Int32}
def own_upd (f : Nat → Value) (i : Nat) (v : Value) : Nat → Value := fun k => if k = i then v else f k
theorem own_upd_hit (f : Nat → Value) (i : Nat) (v : Value) : own_upd f i v i = v := if_pos rfl
theorem own_upd_miss (f : Nat → Value) {i k : Nat} (v : Value) (q : k ≠ i) : own_upd f i v k = f k := if_neg q
/-- an array of n places, place i holding f i -/
def own_A (Z : State) (h : Heap) (a : Addr) (ty : FieldType) (n : Nat) (f : Nat → Value) : Prop := ∃ c : Cell, Arr Z h a c ty ∧ c.slots.size = n ∧ ∀ i, i < n → c.slots[i]? = some (f i)
theorem own_A.lt (F : own_A Z h a ty n f) : a < h.size := by obtain ⟨c, A, -⟩ := F; exact A.lt
theorem own_A.ext (F : own_A Z h a ty n f) (E : Ext h h') : own_A Z h' a ty n f := by obtain ⟨c, A, r⟩ := F; exact ⟨c, A.ext E, r⟩
theorem own_A.other (F : own_A Z h b ty n f) (W : Wr h h' a sl v) (q : b ≠ a) : own_A Z h' b ty n f := by obtain ⟨c, A, r⟩ := F; exact ⟨c, A.other W q, r⟩
theorem own_A.keep (F : own_A Z h a ty n f) (K : Keep h h' ws) (q : a ∉ ws) : own_A Z h' a ty n f := by obtain ⟨c, A, r⟩ := F; exact ⟨c, ⟨K.2.1 a c A.1 q, A.2⟩, r⟩
theorem own_A.new {k : ClassId} {z : Int32} (A : Arr Z h a (newA k ty z) ty) (q : z.toNatClampNeg = n) : own_A Z h a ty n (fun _ => defaultValue ty) := ⟨_, A, by rw [sz_new]; exact q, fun i hi => by
  have hi' : i < z.toNatClampNeg := by rw [q]; exact hi
  simp [newA, hi']⟩
theorem own_A.put (F : own_A Z h a ty n f) (W : Wr h h' a i v) (hi : i < n) : own_A Z h' a ty n (own_upd f i v) := by
  obtain ⟨c, A, S, H⟩ := F
  refine ⟨_, A.same W, by rw [sz_set]; exact S, fun k hk => ?_⟩
  by_cases u : k = i
  · subst u; rw [own_upd_hit]; simp [Cell.setSlot, S, hi]
  · rw [own_upd_miss _ _ u, ← H k hk]; simp only [Cell.setSlot]; exact Array.getElem?_setIfInBounds_ne (Ne.symm u)
theorem own_A.cong {g : Nat → Value} (F : own_A Z h a ty n f) (q : ∀ i, i < n → f i = g i) : own_A Z h a ty n g := by
  obtain ⟨c, A, S, H⟩ := F; exact ⟨c, A, S, fun i hi => by rw [H i hi, q i hi]⟩
def own_at (j : Int32) (i : Nat) : Prop := ¬ j < 0 ∧ j.toNatClampNeg = i
theorem own_at_lit (q : j.toNatClampNeg = i) (r : ¬ j < 0) : own_at j i := ⟨r, q⟩
theorem own_at_int (q : j.toInt = (i : Int)) : own_at j i := by
  refine ⟨?_, ?_⟩
  · rw [Int32.lt_iff_toInt_lt, q, show (0 : Int32).toInt = 0 from rfl]; omega
  · simp only [Int32.toNatClampNeg, q]; rfl
theorem own_in {c : Cell} (hj : own_at j i) (S : c.slots.size = n) (hi : i < n) : ¬ (j < 0 ∨ c.slots.size ≤ j.toNatClampNeg) := by
  rintro (q | q)
  · exact hj.1 q
  · rw [hj.2, S] at q; omega
theorem own_ldI (X : Stand p l e R s m args below meth c T locs cells slots) (hx : p.tables.exec = Jvm.exec) (hZ : Z.Warmed39 s.vm) (eT : T.heap = h) (A : own_A Z h a .int n f) (hj : own_at j i) (hi : i < n) {v : Int32} (hv : f i = .int v) {g : JFrame} (hg : g.method = m) {rest : List Value} (hs : g.stack = .int j :: .ref a :: rest) (hd : decode c.code g.pc = .ok (.iaload, 1)) :
    ∀ target, Steps p.tables e below (T.setTop { g with pc := g.pc + 1, stack := .int v :: rest }) target → Steps p.tables e below (T.setTop g) target := by
  obtain ⟨cl, Ar, S, H⟩ := A
  exact X.iaload hx (j := j) (v := .int v) (by rw [eT]; exact Ar.1) (State.isArrayOf_alike hZ.alike Ar.2.1) Ar.2.2 (own_in hj S hi) (by rw [hj.2, H i hi, hv]) (g := g) hg hs hd
theorem own_ldJ (X : Stand p l e R s m args below meth c T locs cells slots) (hx : p.tables.exec = Jvm.exec) (hZ : Z.Warmed39 s.vm) (eT : T.heap = h) (A : own_A Z h a .long n f) (hj : own_at j i) (hi : i < n) {v : Int64} (hv : f i = .long v) {g : JFrame} (hg : g.method = m) {rest : List Value} (hs : g.stack = .int j :: .ref a :: rest) (hd : decode c.code g.pc = .ok (.laload, 1)) :
    ∀ target, Steps p.tables e below (T.setTop { g with pc := g.pc + 1, stack := .long v :: rest }) target → Steps p.tables e below (T.setTop g) target := by
  obtain ⟨cl, Ar, S, H⟩ := A
  exact X.laload hx (j := j) (v := .long v) (by rw [eT]; exact Ar.1) (State.isArrayOf_alike hZ.alike Ar.2.1) Ar.2.2 (own_in hj S hi) (by rw [hj.2, H i hi, hv]) (g := g) hg hs hd
theorem own_ldB (X : Stand p l e R s m args below meth c T locs cells slots) (hx : p.tables.exec = Jvm.exec) (hZ : Z.Warmed39 s.vm) (eT : T.heap = h) (A : own_A Z h a .byte n f) (hj : own_at j i) (hi : i < n) {v : Int32} (hv : f i = .int v) {g : JFrame} (hg : g.method = m) {rest : List Value} (hs : g.stack = .int j :: .ref a :: rest) (hd : decode c.code g.pc = .ok (.baload, 1)) :
    ∀ target, Steps p.tables e below (T.setTop { g with pc := g.pc + 1, stack := .int v :: rest }) target → Steps p.tables e below (T.setTop g) target := by
  obtain ⟨cl, Ar, S, H⟩ := A
  exact X.baloadBytes hx (j := j) (v := .int v) (by rw [eT]; exact Ar.1) (State.isArrayOf_alike hZ.alike Ar.2.1) Ar.2.2 (own_in hj S hi) (by rw [hj.2, H i hi, hv]) (g := g) hg hs hd
theorem own_alen (X : Stand p l e R s m args below meth c T locs cells slots) (hx : p.tables.exec = Jvm.exec) (hZ : Z.Warmed39 s.vm) (eT : T.heap = h) (A : own_A Z h a ty n f) (hz : n.toInt32 = z) {g : JFrame} (hg : g.method = m) {rest : List Value} (hs : g.stack = .ref a :: rest) (hd : decode c.code g.pc = .ok (.arraylength, 1)) :
    ∀ target, Steps p.tables e below (T.setTop { g with pc := g.pc + 1, stack := .int z :: rest }) target → Steps p.tables e below (T.setTop g) target := by
  obtain ⟨cl, Ar, S, H⟩ := A
  subst hz
  rw [← S]
  exact X.arraylength hx (by rw [eT]; exact Ar.1) (State.isArrayOf_alike hZ.alike Ar.2.1) (g := g) hg hs hd
theorem own_stI (X : Stand p l e R s m args below meth c T locs cells slots) (hx : p.tables.exec = Jvm.exec) (hZ : Z.Warmed39 s.vm) (eT : T.heap = h) (A : own_A Z h a .int n f) (hj : own_at j i) (hi : i < n) {g : JFrame} (hg : g.method = m) {rest : List Value} (hs : g.stack = .int x :: .int j :: .ref a :: rest) (hd : decode c.code g.pc = .ok (.iastore, 1)) :
    ∃ T' h', Stand p l e R s m args below meth c T' (locs ++ [⟨a, i⟩]) cells slots ∧ T'.heap = h' ∧ Wr h h' a i (.int x) ∧ own_A Z h' a .int n (own_upd f i (.int x)) ∧ ∀ target, Steps p.tables e below (T'.setTop { g with pc := g.pc + 1, stack := rest }) target → Steps p.tables e below (T.setTop g) target := by
  obtain ⟨cl, Ar, S, H⟩ := A
  obtain ⟨T', h', X', e', W, st⟩ := stI X hx hZ eT Ar (j := j) (own_in hj S hi) hg hs hd
  rw [hj.2] at X' W
  exact ⟨T', h', X', e', W, own_A.put ⟨cl, Ar, S, H⟩ W hi, st⟩
theorem own_stJ {x : Int64} (X : Stand p l e R s m args below meth c T locs cells slots) (hx : p.tables.exec = Jvm.exec) (hZ : Z.Warmed39 s.vm) (eT : T.heap = h) (A : own_A Z h a .long n f) (hj : own_at j i) (hi : i < n) {g : JFrame} (hg : g.method = m) {rest : List Value} (hs : g.stack = .long x :: .int j :: .ref a :: rest) (hd : decode c.code g.pc = .ok (.lastore, 1)) :
    ∃ T' h', Stand p l e R s m args below meth c T' (locs ++ [⟨a, i⟩]) cells slots ∧ T'.heap = h' ∧ Wr h h' a i (.long x) ∧ own_A Z h' a .long n (own_upd f i (.long x)) ∧ ∀ target, Steps p.tables e below (T'.setTop { g with pc := g.pc + 1, stack := rest }) target → Steps p.tables e below (T.setTop g) target := by
  obtain ⟨cl, Ar, S, H⟩ := A
  obtain ⟨T', h', X', e', W, st⟩ := stJ X hx hZ eT Ar (j := j) (own_in hj S hi) hg hs hd
  rw [hj.2] at X' W
  exact ⟨T', h', X', e', W, own_A.put ⟨cl, Ar, S, H⟩ W hi, st⟩
theorem own_stB (X : Stand p l e R s m args below meth c T locs cells slots) (hx : p.tables.exec = Jvm.exec) (hZ : Z.Warmed39 s.vm) (eT : T.heap = h) (A : own_A Z h a .byte n f) (hj : own_at j i) (hi : i < n) {g : JFrame} (hg : g.method = m) {rest : List Value} (hs : g.stack = .int x :: .int j :: .ref a :: rest) (hd : decode c.code g.pc = .ok (.bastore, 1)) :
    ∃ T' h', Stand p l e R s m args below meth c T' (locs ++ [⟨a, i⟩]) cells slots ∧ T'.heap = h' ∧ Wr h h' a i (.int (nar .byte x)) ∧ own_A Z h' a .byte n (own_upd f i (.int (nar .byte x))) ∧ ∀ target, Steps p.tables e below (T'.setTop { g with pc := g.pc + 1, stack := rest }) target → Steps p.tables e below (T.setTop g) target := by
  obtain ⟨cl, Ar, S, H⟩ := A
  obtain ⟨T', h', X', e', W, st⟩ := stB X hx hZ eT Ar (j := j) (own_in hj S hi) hg hs hd
  rw [hj.2] at X' W
  exact ⟨T', h', X', e', W, own_A.put ⟨cl, Ar, S, H⟩ W hi, st⟩
/-- a private method is selected by itself -/
theorem own_selp {a0 args' : Array Value} {y : MethodName} {kk : Nat} (hZ : Z.Warmed39 s.vm) (wp : (Cond.privateMethod y).before a0 Z = true) (wi : (Cond.instanceMethod y).before a0 Z = true) (wk : (Cond.instantiable y.cls kk).before a0 Z = true) (hy : y.cls ≠ "java/lang/invoke/MethodHandle" ∧ y.cls ≠ "java/lang/invoke/VarHandle") : (Cond.selects y.cls y y).before args' s = true := by
  obtain ⟨c2, k2, i1, i2, i3, i4, -⟩ := Cond.instantiable_spec (mvT hZ wk (args := args'))
  have hni : k2.isInterface = false := by simp only [Bool.or_eq_false_iff] at i4; exact i4.1
  exact Stand.selects_self_of_private i1 i2 hni (Cond.privateMethod_at (mvP hZ wp (args := args'))) (mvT hZ wi) hy
end OwnArr
def own_Obj (Z : State) (h : Heap) (a : Addr) (film films performers state left : Int64) (small : Int32) (performer : Int64) : Prop :=
  Exa Z h a "com/example/tablewalk/tablewalk/SyntheticCast" ∧ Fld Z h a "com/example/tablewalk/tablewalk/SyntheticCast" "film" "J" (.long film) ∧ Fld Z h a "com/example/tablewalk/tablewalk/SyntheticCast" "films" "J" (.long films) ∧ Fld Z h a "com/example/tablewalk/tablewalk/SyntheticCast" "performers" "J" (.long performers) ∧ Fld Z h a "com/example/tablewalk/tablewalk/SyntheticCast" "state" "J" (.long state) ∧ Fld Z h a "com/example/tablewalk/tablewalk/SyntheticCast" "left" "J" (.long left) ∧ Fld Z h a "com/example/tablewalk/tablewalk/SyntheticCast" "small" "Z" (.int small) ∧ Fld Z h a "com/example/tablewalk/tablewalk/SyntheticCast" "performer" "J" (.long performer)
theorem d1_0 : decode prog_24_method_1_code 0 = .ok (.aload_n 0, 1) := by decide +kernel
theorem d1_1 : decode prog_24_method_1_code 1 = .ok (.invokespecial 1, 3) := by decide +kernel
theorem d1_4 : decode prog_24_method_1_code 4 = .ok (.aload_n 0, 1) := by decide +kernel
theorem d1_5 : decode prog_24_method_1_code 5 = .ok (.ldc2_w 7, 3) := by decide +kernel
theorem d1_8 : decode prog_24_method_1_code 8 = .ok (.putfield 9, 3) := by decide +kernel
theorem d1_11 : decode prog_24_method_1_code 11 = .ok (.lload_n 1, 1) := by decide +kernel
theorem d1_12 : decode prog_24_method_1_code 12 = .ok (.lconst 1, 1) := by decide +kernel
theorem d1_13 : decode prog_24_method_1_code 13 = .ok (.lcmp, 1) := by decide +kernel
theorem d1_14 : decode prog_24_method_1_code 14 = .ok (.ifCond .ge 17, 3) := by decide +kernel
theorem d1_17 : decode prog_24_method_1_code 17 = .ok (.new 15, 3) := by decide +kernel
theorem d1_20 : decode prog_24_method_1_code 20 = .ok (.dup, 1) := by decide +kernel
theorem d1_21 : decode prog_24_method_1_code 21 = .ok (.lload_n 1, 1) := by decide +kernel
theorem d1_27 : decode prog_24_method_1_code 27 = .ok (.invokespecial 21, 3) := by decide +kernel
theorem d1_30 : decode prog_24_method_1_code 30 = .ok (.athrow, 1) := by decide +kernel
theorem d1_31 : decode prog_24_method_1_code 31 = .ok (.lload_n 3, 1) := by decide +kernel
theorem d1_32 : decode prog_24_method_1_code 32 = .ok (.lconst 1, 1) := by decide +kernel
theorem d1_33 : decode prog_24_method_1_code 33 = .ok (.lcmp, 1) := by decide +kernel
theorem d1_34 : decode prog_24_method_1_code 34 = .ok (.ifCond .lt 11, 3) := by decide +kernel
theorem d1_37 : decode prog_24_method_1_code 37 = .ok (.lload_n 3, 1) := by decide +kernel
theorem d1_38 : decode prog_24_method_1_code 38 = .ok (.ldc2_w 24, 3) := by decide +kernel
theorem d1_41 : decode prog_24_method_1_code 41 = .ok (.lcmp, 1) := by decide +kernel
theorem d1_42 : decode prog_24_method_1_code 42 = .ok (.ifCond .le 17, 3) := by decide +kernel
theorem d1_45 : decode prog_24_method_1_code 45 = .ok (.new 15, 3) := by decide +kernel
theorem d1_48 : decode prog_24_method_1_code 48 = .ok (.dup, 1) := by decide +kernel
theorem d1_49 : decode prog_24_method_1_code 49 = .ok (.lload_n 3, 1) := by decide +kernel
theorem d1_55 : decode prog_24_method_1_code 55 = .ok (.invokespecial 21, 3) := by decide +kernel
theorem d1_58 : decode prog_24_method_1_code 58 = .ok (.athrow, 1) := by decide +kernel
theorem d1_59 : decode prog_24_method_1_code 59 = .ok (.aload_n 0, 1) := by decide +kernel
theorem d1_60 : decode prog_24_method_1_code 60 = .ok (.lload_n 1, 1) := by decide +kernel
theorem d1_61 : decode prog_24_method_1_code 61 = .ok (.putfield 27, 3) := by decide +kernel
theorem d1_64 : decode prog_24_method_1_code 64 = .ok (.aload_n 0, 1) := by decide +kernel
theorem d1_65 : decode prog_24_method_1_code 65 = .ok (.lload_n 3, 1) := by decide +kernel
theorem d1_66 : decode prog_24_method_1_code 66 = .ok (.putfield 30, 3) := by decide +kernel
theorem d1_69 : decode prog_24_method_1_code 69 = .ok (.aload_n 0, 1) := by decide +kernel
theorem d1_70 : decode prog_24_method_1_code 70 = .ok (.lload 5, 2) := by decide +kernel
theorem d1_72 : decode prog_24_method_1_code 72 = .ok (.putfield 33, 3) := by decide +kernel
theorem d1_75 : decode prog_24_method_1_code 75 = .ok (.return_, 1) := by decide +kernel
theorem own_pn0 : plainName "com/example/tablewalk/tablewalk/SyntheticCast" = true := by first | (simp [plainName, overriddenIn]; done) | decide +kernel
theorem own_ef_own_rm1 (m : MethodId) (x0 : Addr) (x1 : Int64) (x2 : Int64) (x3 : Int64) : entryFrame m #[(.ref x0), (.long x1), (.long x2), (.long x3)] 7 = mkF m 0 #[.val (.ref x0), .val (.long x1), .second, .val (.long x2), .second, .val (.long x3), .second] [] := by first | (simp [entryFrame, mkF, argsToLocals, Value.category]; done) | rfl
def own_Q_rm1 (Z : State) (a1 : Addr) (q1 : Int64) (q2 : Int64) (q3 : Int64) (h0 : Heap) (n0 : Nat) (v : Option Value) (h : Heap) (L : List Loc) : Prop := v = none ∧ Fr n0 L ∧ Keep h0 h [a1] ∧ own_Obj Z h a1 (-1 : Int64) q1 q2 q3 (0 : Int64) (0 : Int32) (0 : Int64)
set_option maxRecDepth 65536 in
set_option maxHeartbeats 40000000 in
theorem own_rm1 (l : Launch) (Z : State) (a0 : Array Value) (hw : ∀ d ∈ tables_1, d.before a0 Z = true) (a1 : Addr) (q1 : Int64) (q2 : Int64) (q3 : Int64) (h0 : Heap) (n0 : Nat) (Z0 : n0 ≤ h0.size) (ga1 : n0 ≤ a1) (OB : own_Obj Z h0 a1 (0 : Int64) (0 : Int64) (0 : Int64) (0 : Int64) (0 : Int64) (0 : Int32) (0 : Int64)) (hf1 : ¬ (q1 < (1 : Int64))) (hp1 : ¬ (q2 < (1 : Int64))) (hp2 : ¬ ((3037000499 : Int64) < q2)) :
    MetFree l (⟨"com/example/tablewalk/tablewalk/SyntheticCast", "<init>", "(JJJ)V"⟩ : MethodName) (head1 [Jvm.Cond.code (⟨"com/example/tablewalk/tablewalk/SyntheticCast", "<init>", "(JJJ)V"⟩ : MethodName) prog_24_method_1_code 7 none] ({ frames := 1, cells := 0, slots := 0, locals := 12 } : Room)) (fun a U => a = #[(.ref a1), (.long q1), (.long q2), (.long q3)] ∧ Z.Warmed39 U.vm ∧ U.heap = h0) (fun _ _ _ _ _ => True) (fun _ U o U' => ∃ v L, o = .returned v ∧ own_Q_rm1 Z a1 q1 q2 q3 h0 n0 v U'.heap L ∧ FrameEnd U o U' L ({ frames := 1, cells := 0, slots := 0, locals := 12 } : Room).cells ({ frames := 1, cells := 0, slots := 0, locals := 12 } : Room).slots) := by
  refine MetFree.of_bodySF (plainFor_of_name own_pn0) hisR ?_
  intro p e s m args below meth c s₁ Bd hml0 hP hK
  obtain ⟨rfl, hZ, hh⟩ := hP
  have hx := Bd.exec
  have hby := Bd.bytes
  have hret := Bd.returns
  have hlk := Bd.notSynchronized
  have hml : c.maxLocals = 7 := hml0
  have hown : s.vm.findClass "com/example/tablewalk/tablewalk/SyntheticCast" = some m.cls := findClass_of_methodNamed Bd.named
  have hnm := (name_of_methodNamed Bd.named Bd.method).1
  have X0 : Stand p l e ({ frames := 1, cells := 0, slots := 0, locals := 12 } : Room) s m #[(.ref a1), (.long q1), (.long q2), (.long q3)] below meth c s₁ [] 0 0 := Stand.of_body Bd
  have e0 : s₁.heap = h0 := by rw [← hh, Bd.state]; rfl
  have N0 := Fr.nil n0
  refine own_Go.cast (own_ef_own_rm1 m a1 q1 q2 q3) ?_
  refine own_step (T' := s₁) (f' := (mkF m 1 #[.val (.ref a1), .val (.long q1), .second, .val (.long q2), .second, .val (.long q3), .second] [(.ref a1)])) (fun t k => ?_) ?_
  · show Steps p.tables e below (s₁.setTop (mkF m 0 #[.val (.ref a1), .val (.long q1), .second, .val (.long q2), .second, .val (.long q3), .second] [])) _
    refine XS.aloadN X0.here hx rfl (hb hby d1_0) rfl rfl ?_
    exact k
  obtain ⟨T101, X101, e101, st101⟩ := initO X0 hx hZ hown (hw _ (List.mem_of_getElem? (i := 9) rfl)) (hw _ (List.mem_of_getElem? (i := 10) rfl)) (hw _ (List.mem_of_getElem? (i := 11) rfl)) e0 (g := (mkF m 1 #[.val (.ref a1), .val (.long q1), .second, .val (.long q2), .second, .val (.long q3), .second] [(.ref a1)])) rfl (by rw [hml]; rfl) rfl (hb hby d1_1) (by decide) (W := 0) (by show 2 * 0 + _ ≤ _; exact Nat.le_of_eq rfl) (by decide)
  refine own_step st101 ?_
  refine own_step (T' := T101) (f' := (mkF m 8 #[.val (.ref a1), .val (.long q1), .second, .val (.long q2), .second, .val (.long q3), .second] [(.long (-1 : Int64)), (.ref a1)])) (fun t k => ?_) ?_
  · show Steps p.tables e below (T101.setTop (mkF m 4 #[.val (.ref a1), .val (.long q1), .second, .val (.long q2), .second, .val (.long q3), .second] [])) _
    refine XS.aloadN X101.here hx rfl (hb hby d1_4) rfl rfl ?_
    show Steps p.tables e below (T101.setTop (mkF m 5 #[.val (.ref a1), .val (.long q1), .second, .val (.long q2), .second, .val (.long q3), .second] [(.ref a1)])) _
    refine X101.ldc2Long hx hown (mvT hZ (hw _ (List.mem_of_getElem? (i := 12) rfl))) (g := (mkF m 5 #[.val (.ref a1), .val (.long q1), .second, .val (.long q2), .second, .val (.long q3), .second] [(.ref a1)])) rfl (hb hby d1_5) _ ?_
    exact k
  obtain ⟨T102, h102, X102, e102, W102, st102⟩ := putF X101 hx hZ hown (host := "") (Or.inl (hw _ (List.mem_of_getElem? (i := 13) rfl))) Via.refl e101 OB.2.1 OB.1 (Or.inl (hw _ (List.mem_of_getElem? (i := 14) rfl))) (hw _ (List.mem_of_getElem? (i := 4) rfl)) (ty := .long) (by decide) rfl rfl (g := (mkF m 8 #[.val (.ref a1), .val (.long q1), .second, .val (.long q2), .second, .val (.long q3), .second] [(.long (-1 : Int64)), (.ref a1)])) rfl rfl (hb hby d1_8)
  have N102 := Fr.snoc X102 N0 ga1
  have K102 := (Keep.refl h0 [a1]).wr W102 (Or.inl (List.mem_of_getElem? (i := 0) rfl))
  have Z102 : n0 ≤ h102.size := Nat.le_trans Z0 (Keep.of_wr W102).1
  have E_a1_102 : Exa Z h102 a1 "com/example/tablewalk/tablewalk/SyntheticCast" := OB.1.wr W102
  have F_a1_films_102 : Fld Z h102 a1 "com/example/tablewalk/tablewalk/SyntheticCast" "films" "J" (.long (0 : Int64)) := OB.2.2.1.other W102 (Or.inr (slot_ne (Or.inr (hw _ (List.mem_of_getElem? (i := 17) rfl))) (Or.inl (hw _ (List.mem_of_getElem? (i := 14) rfl))) (by decide) (t := .long) (t' := .long) (by decide) (by decide)))
  have F_a1_performers_102 : Fld Z h102 a1 "com/example/tablewalk/tablewalk/SyntheticCast" "performers" "J" (.long (0 : Int64)) := OB.2.2.2.1.other W102 (Or.inr (slot_ne (Or.inr (hw _ (List.mem_of_getElem? (i := 19) rfl))) (Or.inl (hw _ (List.mem_of_getElem? (i := 14) rfl))) (by decide) (t := .long) (t' := .long) (by decide) (by decide)))
  have F_a1_state_102 : Fld Z h102 a1 "com/example/tablewalk/tablewalk/SyntheticCast" "state" "J" (.long (0 : Int64)) := OB.2.2.2.2.1.other W102 (Or.inr (slot_ne (Or.inl (hw _ (List.mem_of_getElem? (i := 21) rfl))) (Or.inl (hw _ (List.mem_of_getElem? (i := 14) rfl))) (by decide) (t := .long) (t' := .long) (by decide) (by decide)))
  have F_a1_left_102 : Fld Z h102 a1 "com/example/tablewalk/tablewalk/SyntheticCast" "left" "J" (.long (0 : Int64)) := OB.2.2.2.2.2.1.other W102 (Or.inr (slot_ne (Or.inl (hw _ (List.mem_of_getElem? (i := 28) rfl))) (Or.inl (hw _ (List.mem_of_getElem? (i := 14) rfl))) (by decide) (t := .long) (t' := .long) (by decide) (by decide)))
  have F_a1_small_102 : Fld Z h102 a1 "com/example/tablewalk/tablewalk/SyntheticCast" "small" "Z" (.int (0 : Int32)) := OB.2.2.2.2.2.2.1.other W102 (Or.inr (slot_ne (Or.inl (hw _ (List.mem_of_getElem? (i := 38) rfl))) (Or.inl (hw _ (List.mem_of_getElem? (i := 14) rfl))) (by decide) (t := .boolean) (t' := .long) (by decide) (by decide)))
  have F_a1_performer_102 : Fld Z h102 a1 "com/example/tablewalk/tablewalk/SyntheticCast" "performer" "J" (.long (0 : Int64)) := OB.2.2.2.2.2.2.2.other W102 (Or.inr (slot_ne (Or.inl (hw _ (List.mem_of_getElem? (i := 41) rfl))) (Or.inl (hw _ (List.mem_of_getElem? (i := 14) rfl))) (by decide) (t := .long) (t' := .long) (by decide) (by decide)))
  have F_a1_film_102 : Fld Z h102 a1 "com/example/tablewalk/tablewalk/SyntheticCast" "film" "J" (.long (-1 : Int64)) := OB.2.1.same W102
  refine own_step st102 ?_
  refine own_step (T' := T102) (f' := (mkF m 61 #[.val (.ref a1), .val (.long q1), .second, .val (.long q2), .second, .val (.long q3), .second] [(.long q1), (.ref a1)])) (fun t k => ?_) ?_
  · show Steps p.tables e below (T102.setTop (mkF m 11 #[.val (.ref a1), .val (.long q1), .second, .val (.long q2), .second, .val (.long q3), .second] [])) _
    refine XS.lloadN X102.here hx rfl (hb hby d1_11) rfl ?_
    show Steps p.tables e below (T102.setTop (mkF m 12 #[.val (.ref a1), .val (.long q1), .second, .val (.long q2), .second, .val (.long q3), .second] [(.long q1)])) _
    refine XS.lconst X102.here hx rfl (hb hby d1_12) ?_
    show Steps p.tables e below (T102.setTop (mkF m 13 #[.val (.ref a1), .val (.long q1), .second, .val (.long q2), .second, .val (.long q3), .second] [(.long (1 : Int64)), (.long q1)])) _
    refine XS.lcmp X102.here hx rfl (hb hby d1_13) rfl ?_
    show Steps p.tables e below (T102.setTop (mkF m 14 #[.val (.ref a1), .val (.long q1), .second, .val (.long q2), .second, .val (.long q3), .second] [(.int (lcmpW q1 (1 : Int64)))])) _
    refine XS.ifYes X102.here hx rfl (pc0 := 14) (pc' := 31) rfl (hb hby d1_14) rfl ((if0 _ _).trans (flt (fun q => hf1 ((lw_lt q1 (1 : Int64)).mp q))).2.1) (by decide) (by decide) ?_
    show Steps p.tables e below (T102.setTop (mkF m 31 #[.val (.ref a1), .val (.long q1), .second, .val (.long q2), .second, .val (.long q3), .second] [])) _
    refine XS.lloadN X102.here hx rfl (hb hby d1_31) rfl ?_
    show Steps p.tables e below (T102.setTop (mkF m 32 #[.val (.ref a1), .val (.long q1), .second, .val (.long q2), .second, .val (.long q3), .second] [(.long q2)])) _
    refine XS.lconst X102.here hx rfl (hb hby d1_32) ?_
    show Steps p.tables e below (T102.setTop (mkF m 33 #[.val (.ref a1), .val (.long q1), .second, .val (.long q2), .second, .val (.long q3), .second] [(.long (1 : Int64)), (.long q2)])) _
    refine XS.lcmp X102.here hx rfl (hb hby d1_33) rfl ?_
    show Steps p.tables e below (T102.setTop (mkF m 34 #[.val (.ref a1), .val (.long q1), .second, .val (.long q2), .second, .val (.long q3), .second] [(.int (lcmpW q2 (1 : Int64)))])) _
    refine XS.ifNo X102.here hx rfl (hb hby d1_34) rfl ((if0 _ _).trans (flt (fun q => hp1 ((lw_lt q2 (1 : Int64)).mp q))).1) ?_
    show Steps p.tables e below (T102.setTop (mkF m 37 #[.val (.ref a1), .val (.long q1), .second, .val (.long q2), .second, .val (.long q3), .second] [])) _
    refine XS.lloadN X102.here hx rfl (hb hby d1_37) rfl ?_
    show Steps p.tables e below (T102.setTop (mkF m 38 #[.val (.ref a1), .val (.long q1), .second, .val (.long q2), .second, .val (.long q3), .second] [(.long q2)])) _
    refine X102.ldc2Long hx hown (mvT hZ (hw _ (List.mem_of_getElem? (i := 15) rfl))) (g := (mkF m 38 #[.val (.ref a1), .val (.long q1), .second, .val (.long q2), .second, .val (.long q3), .second] [(.long q2)])) rfl (hb hby d1_38) _ ?_
    show Steps p.tables e below (T102.setTop (mkF m 41 #[.val (.ref a1), .val (.long q1), .second, .val (.long q2), .second, .val (.long q3), .second] [(.long (3037000499 : Int64)), (.long q2)])) _
    refine XS.lcmp X102.here hx rfl (hb hby d1_41) rfl ?_
    show Steps p.tables e below (T102.setTop (mkF m 42 #[.val (.ref a1), .val (.long q1), .second, .val (.long q2), .second, .val (.long q3), .second] [(.int (lcmpW q2 (3037000499 : Int64)))])) _
    refine XS.ifYes X102.here hx rfl (pc0 := 42) (pc' := 59) rfl (hb hby d1_42) rfl ((if0 _ _).trans (flt (fun q => hp2 ((lw_gt q2 (3037000499 : Int64)).mp q))).2.2.2) (by decide) (by decide) ?_
    show Steps p.tables e below (T102.setTop (mkF m 59 #[.val (.ref a1), .val (.long q1), .second, .val (.long q2), .second, .val (.long q3), .second] [])) _
    refine XS.aloadN X102.here hx rfl (hb hby d1_59) rfl rfl ?_
    show Steps p.tables e below (T102.setTop (mkF m 60 #[.val (.ref a1), .val (.long q1), .second, .val (.long q2), .second, .val (.long q3), .second] [(.ref a1)])) _
    refine XS.lloadN X102.here hx rfl (hb hby d1_60) rfl ?_
    exact k
  obtain ⟨T103, h103, X103, e103, W103, st103⟩ := putF X102 hx hZ hown (host := "") (Or.inl (hw _ (List.mem_of_getElem? (i := 16) rfl))) Via.refl e102 F_a1_films_102 E_a1_102 (Or.inr ⟨(hw _ (List.mem_of_getElem? (i := 17) rfl)), rfl, hnm⟩) (hw _ (List.mem_of_getElem? (i := 4) rfl)) (ty := .long) (by decide) rfl rfl (g := (mkF m 61 #[.val (.ref a1), .val (.long q1), .second, .val (.long q2), .second, .val (.long q3), .second] [(.long q1), (.ref a1)])) rfl rfl (hb hby d1_61)
  have N103 := Fr.snoc X103 N102 ga1
  have K103 := K102.wr W103 (Or.inl (List.mem_of_getElem? (i := 0) rfl))
  have Z103 : n0 ≤ h103.size := Nat.le_trans Z102 (Keep.of_wr W103).1
  have E_a1_103 : Exa Z h103 a1 "com/example/tablewalk/tablewalk/SyntheticCast" := E_a1_102.wr W103
  have F_a1_film_103 : Fld Z h103 a1 "com/example/tablewalk/tablewalk/SyntheticCast" "film" "J" (.long (-1 : Int64)) := F_a1_film_102.other W103 (Or.inr (slot_ne (Or.inl (hw _ (List.mem_of_getElem? (i := 14) rfl))) (Or.inr (hw _ (List.mem_of_getElem? (i := 17) rfl))) (by decide) (t := .long) (t' := .long) (by decide) (by decide)))
  have F_a1_performers_103 : Fld Z h103 a1 "com/example/tablewalk/tablewalk/SyntheticCast" "performers" "J" (.long (0 : Int64)) := F_a1_performers_102.other W103 (Or.inr (slot_ne (Or.inr (hw _ (List.mem_of_getElem? (i := 19) rfl))) (Or.inr (hw _ (List.mem_of_getElem? (i := 17) rfl))) (by decide) (t := .long) (t' := .long) (by decide) (by decide)))
  have F_a1_state_103 : Fld Z h103 a1 "com/example/tablewalk/tablewalk/SyntheticCast" "state" "J" (.long (0 : Int64)) := F_a1_state_102.other W103 (Or.inr (slot_ne (Or.inl (hw _ (List.mem_of_getElem? (i := 21) rfl))) (Or.inr (hw _ (List.mem_of_getElem? (i := 17) rfl))) (by decide) (t := .long) (t' := .long) (by decide) (by decide)))
  have F_a1_left_103 : Fld Z h103 a1 "com/example/tablewalk/tablewalk/SyntheticCast" "left" "J" (.long (0 : Int64)) := F_a1_left_102.other W103 (Or.inr (slot_ne (Or.inl (hw _ (List.mem_of_getElem? (i := 28) rfl))) (Or.inr (hw _ (List.mem_of_getElem? (i := 17) rfl))) (by decide) (t := .long) (t' := .long) (by decide) (by decide)))
  have F_a1_small_103 : Fld Z h103 a1 "com/example/tablewalk/tablewalk/SyntheticCast" "small" "Z" (.int (0 : Int32)) := F_a1_small_102.other W103 (Or.inr (slot_ne (Or.inl (hw _ (List.mem_of_getElem? (i := 38) rfl))) (Or.inr (hw _ (List.mem_of_getElem? (i := 17) rfl))) (by decide) (t := .boolean) (t' := .long) (by decide) (by decide)))
  have F_a1_performer_103 : Fld Z h103 a1 "com/example/tablewalk/tablewalk/SyntheticCast" "performer" "J" (.long (0 : Int64)) := F_a1_performer_102.other W103 (Or.inr (slot_ne (Or.inl (hw _ (List.mem_of_getElem? (i := 41) rfl))) (Or.inr (hw _ (List.mem_of_getElem? (i := 17) rfl))) (by decide) (t := .long) (t' := .long) (by decide) (by decide)))
  have F_a1_films_103 : Fld Z h103 a1 "com/example/tablewalk/tablewalk/SyntheticCast" "films" "J" (.long q1) := F_a1_films_102.same W103
  refine own_step st103 ?_
  refine own_step (T' := T103) (f' := (mkF m 66 #[.val (.ref a1), .val (.long q1), .second, .val (.long q2), .second, .val (.long q3), .second] [(.long q2), (.ref a1)])) (fun t k => ?_) ?_
  · show Steps p.tables e below (T103.setTop (mkF m 64 #[.val (.ref a1), .val (.long q1), .second, .val (.long q2), .second, .val (.long q3), .second] [])) _
    refine XS.aloadN X103.here hx rfl (hb hby d1_64) rfl rfl ?_
    show Steps p.tables e below (T103.setTop (mkF m 65 #[.val (.ref a1), .val (.long q1), .second, .val (.long q2), .second, .val (.long q3), .second] [(.ref a1)])) _
    refine XS.lloadN X103.here hx rfl (hb hby d1_65) rfl ?_
    exact k
  obtain ⟨T104, h104, X104, e104, W104, st104⟩ := putF X103 hx hZ hown (host := "") (Or.inl (hw _ (List.mem_of_getElem? (i := 18) rfl))) Via.refl e103 F_a1_performers_103 E_a1_103 (Or.inr ⟨(hw _ (List.mem_of_getElem? (i := 19) rfl)), rfl, hnm⟩) (hw _ (List.mem_of_getElem? (i := 4) rfl)) (ty := .long) (by decide) rfl rfl (g := (mkF m 66 #[.val (.ref a1), .val (.long q1), .second, .val (.long q2), .second, .val (.long q3), .second] [(.long q2), (.ref a1)])) rfl rfl (hb hby d1_66)
  have N104 := Fr.snoc X104 N103 ga1
  have K104 := K103.wr W104 (Or.inl (List.mem_of_getElem? (i := 0) rfl))
  have Z104 : n0 ≤ h104.size := Nat.le_trans Z103 (Keep.of_wr W104).1
  have E_a1_104 : Exa Z h104 a1 "com/example/tablewalk/tablewalk/SyntheticCast" := E_a1_103.wr W104
  have F_a1_film_104 : Fld Z h104 a1 "com/example/tablewalk/tablewalk/SyntheticCast" "film" "J" (.long (-1 : Int64)) := F_a1_film_103.other W104 (Or.inr (slot_ne (Or.inl (hw _ (List.mem_of_getElem? (i := 14) rfl))) (Or.inr (hw _ (List.mem_of_getElem? (i := 19) rfl))) (by decide) (t := .long) (t' := .long) (by decide) (by decide)))
  have F_a1_films_104 : Fld Z h104 a1 "com/example/tablewalk/tablewalk/SyntheticCast" "films" "J" (.long q1) := F_a1_films_103.other W104 (Or.inr (slot_ne (Or.inr (hw _ (List.mem_of_getElem? (i := 17) rfl))) (Or.inr (hw _ (List.mem_of_getElem? (i := 19) rfl))) (by decide) (t := .long) (t' := .long) (by decide) (by decide)))
  have F_a1_state_104 : Fld Z h104 a1 "com/example/tablewalk/tablewalk/SyntheticCast" "state" "J" (.long (0 : Int64)) := F_a1_state_103.other W104 (Or.inr (slot_ne (Or.inl (hw _ (List.mem_of_getElem? (i := 21) rfl))) (Or.inr (hw _ (List.mem_of_getElem? (i := 19) rfl))) (by decide) (t := .long) (t' := .long) (by decide) (by decide)))
  have F_a1_left_104 : Fld Z h104 a1 "com/example/tablewalk/tablewalk/SyntheticCast" "left" "J" (.long (0 : Int64)) := F_a1_left_103.other W104 (Or.inr (slot_ne (Or.inl (hw _ (List.mem_of_getElem? (i := 28) rfl))) (Or.inr (hw _ (List.mem_of_getElem? (i := 19) rfl))) (by decide) (t := .long) (t' := .long) (by decide) (by decide)))
  have F_a1_small_104 : Fld Z h104 a1 "com/example/tablewalk/tablewalk/SyntheticCast" "small" "Z" (.int (0 : Int32)) := F_a1_small_103.other W104 (Or.inr (slot_ne (Or.inl (hw _ (List.mem_of_getElem? (i := 38) rfl))) (Or.inr (hw _ (List.mem_of_getElem? (i := 19) rfl))) (by decide) (t := .boolean) (t' := .long) (by decide) (by decide)))
  have F_a1_performer_104 : Fld Z h104 a1 "com/example/tablewalk/tablewalk/SyntheticCast" "performer" "J" (.long (0 : Int64)) := F_a1_performer_103.other W104 (Or.inr (slot_ne (Or.inl (hw _ (List.mem_of_getElem? (i := 41) rfl))) (Or.inr (hw _ (List.mem_of_getElem? (i := 19) rfl))) (by decide) (t := .long) (t' := .long) (by decide) (by decide)))
  have F_a1_performers_104 : Fld Z h104 a1 "com/example/tablewalk/tablewalk/SyntheticCast" "performers" "J" (.long q2) := F_a1_performers_103.same W104
  refine own_step st104 ?_
  refine own_step (T' := T104) (f' := (mkF m 72 #[.val (.ref a1), .val (.long q1), .second, .val (.long q2), .second, .val (.long q3), .second] [(.long q3), (.ref a1)])) (fun t k => ?_) ?_
  · show Steps p.tables e below (T104.setTop (mkF m 69 #[.val (.ref a1), .val (.long q1), .second, .val (.long q2), .second, .val (.long q3), .second] [])) _
    refine XS.aloadN X104.here hx rfl (hb hby d1_69) rfl rfl ?_
    show Steps p.tables e below (T104.setTop (mkF m 70 #[.val (.ref a1), .val (.long q1), .second, .val (.long q2), .second, .val (.long q3), .second] [(.ref a1)])) _
    refine XS.lload X104.here hx rfl (hb hby d1_70) rfl ?_
    exact k
  obtain ⟨T105, h105, X105, e105, W105, st105⟩ := putF X104 hx hZ hown (host := "") (Or.inl (hw _ (List.mem_of_getElem? (i := 20) rfl))) Via.refl e104 F_a1_state_104 E_a1_104 (Or.inl (hw _ (List.mem_of_getElem? (i := 21) rfl))) (hw _ (List.mem_of_getElem? (i := 4) rfl)) (ty := .long) (by decide) rfl rfl (g := (mkF m 72 #[.val (.ref a1), .val (.long q1), .second, .val (.long q2), .second, .val (.long q3), .second] [(.long q3), (.ref a1)])) rfl rfl (hb hby d1_72)
  have N105 := Fr.snoc X105 N104 ga1
  have K105 := K104.wr W105 (Or.inl (List.mem_of_getElem? (i := 0) rfl))
  have Z105 : n0 ≤ h105.size := Nat.le_trans Z104 (Keep.of_wr W105).1
  have E_a1_105 : Exa Z h105 a1 "com/example/tablewalk/tablewalk/SyntheticCast" := E_a1_104.wr W105
  have F_a1_film_105 : Fld Z h105 a1 "com/example/tablewalk/tablewalk/SyntheticCast" "film" "J" (.long (-1 : Int64)) := F_a1_film_104.other W105 (Or.inr (slot_ne (Or.inl (hw _ (List.mem_of_getElem? (i := 14) rfl))) (Or.inl (hw _ (List.mem_of_getElem? (i := 21) rfl))) (by decide) (t := .long) (t' := .long) (by decide) (by decide)))
  have F_a1_films_105 : Fld Z h105 a1 "com/example/tablewalk/tablewalk/SyntheticCast" "films" "J" (.long q1) := F_a1_films_104.other W105 (Or.inr (slot_ne (Or.inr (hw _ (List.mem_of_getElem? (i := 17) rfl))) (Or.inl (hw _ (List.mem_of_getElem? (i := 21) rfl))) (by decide) (t := .long) (t' := .long) (by decide) (by decide)))
  have F_a1_performers_105 : Fld Z h105 a1 "com/example/tablewalk/tablewalk/SyntheticCast" "performers" "J" (.long q2) := F_a1_performers_104.other W105 (Or.inr (slot_ne (Or.inr (hw _ (List.mem_of_getElem? (i := 19) rfl))) (Or.inl (hw _ (List.mem_of_getElem? (i := 21) rfl))) (by decide) (t := .long) (t' := .long) (by decide) (by decide)))
  have F_a1_left_105 : Fld Z h105 a1 "com/example/tablewalk/tablewalk/SyntheticCast" "left" "J" (.long (0 : Int64)) := F_a1_left_104.other W105 (Or.inr (slot_ne (Or.inl (hw _ (List.mem_of_getElem? (i := 28) rfl))) (Or.inl (hw _ (List.mem_of_getElem? (i := 21) rfl))) (by decide) (t := .long) (t' := .long) (by decide) (by decide)))
  have F_a1_small_105 : Fld Z h105 a1 "com/example/tablewalk/tablewalk/SyntheticCast" "small" "Z" (.int (0 : Int32)) := F_a1_small_104.other W105 (Or.inr (slot_ne (Or.inl (hw _ (List.mem_of_getElem? (i := 38) rfl))) (Or.inl (hw _ (List.mem_of_getElem? (i := 21) rfl))) (by decide) (t := .boolean) (t' := .long) (by decide) (by decide)))
  have F_a1_performer_105 : Fld Z h105 a1 "com/example/tablewalk/tablewalk/SyntheticCast" "performer" "J" (.long (0 : Int64)) := F_a1_performer_104.other W105 (Or.inr (slot_ne (Or.inl (hw _ (List.mem_of_getElem? (i := 41) rfl))) (Or.inl (hw _ (List.mem_of_getElem? (i := 21) rfl))) (by decide) (t := .long) (t' := .long) (by decide) (by decide)))
  have F_a1_state_105 : Fld Z h105 a1 "com/example/tablewalk/tablewalk/SyntheticCast" "state" "J" (.long q3) := F_a1_state_104.same W105
  refine own_step st105 ?_
  exact own_retV X105 hx hret hlk (hb hby d1_75) (by decide) (by decide) (by rw [e105]; exact ⟨rfl, N105, K105, ⟨E_a1_105, F_a1_film_105, F_a1_films_105, F_a1_performers_105, F_a1_state_105, F_a1_left_105, F_a1_small_105, F_a1_performer_105⟩⟩)
theorem own_nz {y : Int64} (h : 0 < y.toInt) : y ≠ 0 := by
  rintro rfl; rw [show (0 : Int64).toInt = 0 from rfl] at h; omega
theorem own_dr {q x u : Int64} (hq : 0 < q.toInt) (hu : u = ((x.toUInt64 >>> ((1 : Int32) &&& 0x3f).toInt64.toUInt64).toInt64)) : 0 ≤ (u - (u / q) * q).toInt ∧ (u - (u / q) * q).toInt < q.toInt := by
  have h1 := c_lushr x 1 1 rfl (by decide)
  rw [← hu] at h1
  have r := c_lrem u q q.toInt rfl
  rw [r.1 (by omega)]
  exact ⟨Int.emod_nonneg _ (by omega), Int.emod_lt_of_pos _ hq⟩

theorem d4_0 : decode prog_24_method_5_code 0 = .ok (.aload_n 0, 1) := by decide +kernel
theorem d4_1 : decode prog_24_method_5_code 1 = .ok (.dup, 1) := by decide +kernel
theorem d4_2 : decode prog_24_method_5_code 2 = .ok (.getfield 33, 3) := by decide +kernel
theorem d4_5 : decode prog_24_method_5_code 5 = .ok (.ldc2_w 56, 3) := by decide +kernel
theorem d4_8 : decode prog_24_method_5_code 8 = .ok (.ladd, 1) := by decide +kernel
theorem d4_9 : decode prog_24_method_5_code 9 = .ok (.putfield 33, 3) := by decide +kernel
theorem d4_12 : decode prog_24_method_5_code 12 = .ok (.aload_n 0, 1) := by decide +kernel
theorem d4_13 : decode prog_24_method_5_code 13 = .ok (.getfield 33, 3) := by decide +kernel
theorem d4_16 : decode prog_24_method_5_code 16 = .ok (.lstore_n 3, 1) := by decide +kernel
theorem d4_17 : decode prog_24_method_5_code 17 = .ok (.lload_n 3, 1) := by decide +kernel
theorem d4_18 : decode prog_24_method_5_code 18 = .ok (.lload_n 3, 1) := by decide +kernel
theorem d4_19 : decode prog_24_method_5_code 19 = .ok (.bipush 30, 2) := by decide +kernel
theorem d4_21 : decode prog_24_method_5_code 21 = .ok (.lushr, 1) := by decide +kernel
theorem d4_22 : decode prog_24_method_5_code 22 = .ok (.lxor, 1) := by decide +kernel
theorem d4_23 : decode prog_24_method_5_code 23 = .ok (.ldc2_w 58, 3) := by decide +kernel
theorem d4_26 : decode prog_24_method_5_code 26 = .ok (.lmul, 1) := by decide +kernel
theorem d4_27 : decode prog_24_method_5_code 27 = .ok (.lstore_n 3, 1) := by decide +kernel
theorem d4_28 : decode prog_24_method_5_code 28 = .ok (.lload_n 3, 1) := by decide +kernel
theorem d4_29 : decode prog_24_method_5_code 29 = .ok (.lload_n 3, 1) := by decide +kernel
theorem d4_30 : decode prog_24_method_5_code 30 = .ok (.bipush 27, 2) := by decide +kernel
theorem d4_32 : decode prog_24_method_5_code 32 = .ok (.lushr, 1) := by decide +kernel
theorem d4_33 : decode prog_24_method_5_code 33 = .ok (.lxor, 1) := by decide +kernel
theorem d4_34 : decode prog_24_method_5_code 34 = .ok (.ldc2_w 60, 3) := by decide +kernel
theorem d4_37 : decode prog_24_method_5_code 37 = .ok (.lmul, 1) := by decide +kernel
theorem d4_38 : decode prog_24_method_5_code 38 = .ok (.lstore_n 3, 1) := by decide +kernel
theorem d4_39 : decode prog_24_method_5_code 39 = .ok (.lload_n 3, 1) := by decide +kernel
theorem d4_40 : decode prog_24_method_5_code 40 = .ok (.lload_n 3, 1) := by decide +kernel
theorem d4_41 : decode prog_24_method_5_code 41 = .ok (.bipush 31, 2) := by decide +kernel
theorem d4_43 : decode prog_24_method_5_code 43 = .ok (.lushr, 1) := by decide +kernel
theorem d4_44 : decode prog_24_method_5_code 44 = .ok (.lxor, 1) := by decide +kernel
theorem d4_45 : decode prog_24_method_5_code 45 = .ok (.iconst 1, 1) := by decide +kernel
theorem d4_46 : decode prog_24_method_5_code 46 = .ok (.lushr, 1) := by decide +kernel
theorem d4_47 : decode prog_24_method_5_code 47 = .ok (.lload_n 1, 1) := by decide +kernel
theorem d4_48 : decode prog_24_method_5_code 48 = .ok (.lrem, 1) := by decide +kernel
theorem d4_49 : decode prog_24_method_5_code 49 = .ok (.lreturn, 1) := by decide +kernel
theorem own_ef_own_rm4 (m : MethodId) (x0 : Addr) (x1 : Int64) : entryFrame m #[(.ref x0), (.long x1)] 5 = mkF m 0 #[.val (.ref x0), .val (.long x1), .second, .unset, .unset] [] := by first | (simp [entryFrame, mkF, argsToLocals, Value.category]; done) | rfl
def own_Q_rm4 (Z : State) (a1 : Addr) (q1 : Int64) (u1 u2 u3 u4 u5 : Int64) (u6 : Int32) (u7 : Int64) (h0 : Heap) (n0 : Nat) (v : Option Value) (h : Heap) (L : List Loc) : Prop := ∃ (r s' : Int64), v = some (.long r) ∧ 0 ≤ r.toInt ∧ r.toInt < q1.toInt ∧ Fr n0 L ∧ Keep h0 h [a1] ∧ own_Obj Z h a1 u1 u2 u3 s' u5 u6 u7
set_option maxRecDepth 65536 in
set_option maxHeartbeats 40000000 in
theorem own_rm4 (l : Launch) (Z : State) (a0 : Array Value) (hw : ∀ d ∈ tables_1, d.before a0 Z = true) (a1 : Addr) (q1 : Int64) (u1 u2 u3 u4 u5 : Int64) (u6 : Int32) (u7 : Int64) (h0 : Heap) (n0 : Nat) (Z0 : n0 ≤ h0.size) (ga1 : n0 ≤ a1) (OB : own_Obj Z h0 a1 u1 u2 u3 u4 u5 u6 u7) (hq : 0 < q1.toInt) :
    MetFree l (⟨"com/example/tablewalk/tablewalk/SyntheticCast", "draw", "(J)J"⟩ : MethodName) (head1 [Jvm.Cond.code (⟨"com/example/tablewalk/tablewalk/SyntheticCast", "draw", "(J)J"⟩ : MethodName) prog_24_method_5_code 5 (some .long)] ({ frames := 0, cells := 0, slots := 0, locals := 0 } : Room)) (fun a U => a = #[(.ref a1), (.long q1)] ∧ Z.Warmed39 U.vm ∧ U.heap = h0) (fun _ _ _ _ _ => True) (fun _ U o U' => ∃ v L, o = .returned v ∧ own_Q_rm4 Z a1 q1 u1 u2 u3 u4 u5 u6 u7 h0 n0 v U'.heap L ∧ FrameEnd U o U' L ({ frames := 0, cells := 0, slots := 0, locals := 0 } : Room).cells ({ frames := 0, cells := 0, slots := 0, locals := 0 } : Room).slots) := by
  refine MetFree.of_bodySF (plainFor_of_name own_pn0) hisR ?_
  intro p e s m args below meth c s₁ Bd hml0 hP hK
  obtain ⟨rfl, hZ, hh⟩ := hP
  have hx := Bd.exec
  have hby := Bd.bytes
  have hret := Bd.returns
  have hlk := Bd.notSynchronized
  have hml : c.maxLocals = 5 := hml0
  have hown : s.vm.findClass "com/example/tablewalk/tablewalk/SyntheticCast" = some m.cls := findClass_of_methodNamed Bd.named
  have hnm := (name_of_methodNamed Bd.named Bd.method).1
  have X0 : Stand p l e ({ frames := 0, cells := 0, slots := 0, locals := 0 } : Room) s m #[(.ref a1), (.long q1)] below meth c s₁ [] 0 0 := Stand.of_body Bd
  have e0 : s₁.heap = h0 := by rw [← hh, Bd.state]; rfl
  have N0 := Fr.nil n0
  refine own_Go.cast (own_ef_own_rm4 m a1 q1) ?_
  refine own_step (T' := s₁) (f' := (mkF m 2 #[.val (.ref a1), .val (.long q1), .second, .unset, .unset] [(.ref a1), (.ref a1)])) (fun t k => ?_) ?_
  · show Steps p.tables e below (s₁.setTop (mkF m 0 #[.val (.ref a1), .val (.long q1), .second, .unset, .unset] [])) _
    refine XS.aloadN X0.here hx rfl (hb hby d4_0) rfl rfl ?_
    show Steps p.tables e below (s₁.setTop (mkF m 1 #[.val (.ref a1), .val (.long q1), .second, .unset, .unset] [(.ref a1)])) _
    refine XS.dup X0.here hx rfl (hb hby d4_1) rfl rfl ?_
    exact k
  obtain ⟨T101, X101, e101, st101⟩ := getF X0 hx hZ hown (host := "") (Or.inl (hw _ (List.mem_of_getElem? (i := 20) rfl))) Via.refl e0 OB.2.2.2.2.1 (g := (mkF m 2 #[.val (.ref a1), .val (.long q1), .second, .unset, .unset] [(.ref a1), (.ref a1)])) rfl rfl (hb hby d4_2)
  refine own_step st101 ?_
  refine own_step (T' := T101) (f' := (mkF m 9 #[.val (.ref a1), .val (.long q1), .second, .unset, .unset] [(.long (u4 + (-7046029254386353131 : Int64))), (.ref a1)])) (fun t k => ?_) ?_
  · show Steps p.tables e below (T101.setTop (mkF m 5 #[.val (.ref a1), .val (.long q1), .second, .unset, .unset] [(.long u4), (.ref a1)])) _
    refine X101.ldc2Long hx hown (mvT hZ (hw _ (List.mem_of_getElem? (i := 34) rfl))) (g := (mkF m 5 #[.val (.ref a1), .val (.long q1), .second, .unset, .unset] [(.long u4), (.ref a1)])) rfl (hb hby d4_5) _ ?_
    show Steps p.tables e below (T101.setTop (mkF m 8 #[.val (.ref a1), .val (.long q1), .second, .unset, .unset] [(.long (-7046029254386353131 : Int64)), (.long u4), (.ref a1)])) _
    refine XS.ladd X101.here hx rfl (hb hby d4_8) rfl ?_
    exact k
  show own_Go p e below T101 (mkF m 9 #[.val (.ref a1), .val (.long q1), .second, .unset, .unset] [(.long (u4 + (-7046029254386353131 : Int64))), (.ref a1)]) _
  obtain ⟨yS, hyS⟩ : ∃ z : Int64, z = (u4 + (-7046029254386353131 : Int64)) := ⟨_, rfl⟩
  rw [← hyS]
  obtain ⟨T102, h102, X102, e102, W102, st102⟩ := putF X101 hx hZ hown (host := "") (Or.inl (hw _ (List.mem_of_getElem? (i := 20) rfl))) Via.refl e101 OB.2.2.2.2.1 OB.1 (Or.inl (hw _ (List.mem_of_getElem? (i := 21) rfl))) (hw _ (List.mem_of_getElem? (i := 4) rfl)) (ty := .long) (by decide) rfl rfl (g := (mkF m 9 #[.val (.ref a1), .val (.long q1), .second, .unset, .unset] [(.long yS), (.ref a1)])) rfl rfl (hb hby d4_9)
  have N102 := Fr.snoc X102 N0 ga1
  have K102 := (Keep.refl h0 [a1]).wr W102 (Or.inl (List.mem_of_getElem? (i := 0) rfl))
  have Z102 : n0 ≤ h102.size := Nat.le_trans Z0 (Keep.of_wr W102).1
  have E_a1_102 : Exa Z h102 a1 "com/example/tablewalk/tablewalk/SyntheticCast" := OB.1.wr W102
  have F_a1_film_102 : Fld Z h102 a1 "com/example/tablewalk/tablewalk/SyntheticCast" "film" "J" (.long u1) := OB.2.1.other W102 (Or.inr (slot_ne (Or.inl (hw _ (List.mem_of_getElem? (i := 14) rfl))) (Or.inl (hw _ (List.mem_of_getElem? (i := 21) rfl))) (by decide) (t := .long) (t' := .long) (by decide) (by decide)))
  have F_a1_films_102 : Fld Z h102 a1 "com/example/tablewalk/tablewalk/SyntheticCast" "films" "J" (.long u2) := OB.2.2.1.other W102 (Or.inr (slot_ne (Or.inr (hw _ (List.mem_of_getElem? (i := 17) rfl))) (Or.inl (hw _ (List.mem_of_getElem? (i := 21) rfl))) (by decide) (t := .long) (t' := .long) (by decide) (by decide)))
  have F_a1_performers_102 : Fld Z h102 a1 "com/example/tablewalk/tablewalk/SyntheticCast" "performers" "J" (.long u3) := OB.2.2.2.1.other W102 (Or.inr (slot_ne (Or.inr (hw _ (List.mem_of_getElem? (i := 19) rfl))) (Or.inl (hw _ (List.mem_of_getElem? (i := 21) rfl))) (by decide) (t := .long) (t' := .long) (by decide) (by decide)))
  have F_a1_left_102 : Fld Z h102 a1 "com/example/tablewalk/tablewalk/SyntheticCast" "left" "J" (.long u5) := OB.2.2.2.2.2.1.other W102 (Or.inr (slot_ne (Or.inl (hw _ (List.mem_of_getElem? (i := 28) rfl))) (Or.inl (hw _ (List.mem_of_getElem? (i := 21) rfl))) (by decide) (t := .long) (t' := .long) (by decide) (by decide)))
  have F_a1_small_102 : Fld Z h102 a1 "com/example/tablewalk/tablewalk/SyntheticCast" "small" "Z" (.int u6) := OB.2.2.2.2.2.2.1.other W102 (Or.inr (slot_ne (Or.inl (hw _ (List.mem_of_getElem? (i := 38) rfl))) (Or.inl (hw _ (List.mem_of_getElem? (i := 21) rfl))) (by decide) (t := .boolean) (t' := .long) (by decide) (by decide)))
  have F_a1_performer_102 : Fld Z h102 a1 "com/example/tablewalk/tablewalk/SyntheticCast" "performer" "J" (.long u7) := OB.2.2.2.2.2.2.2.other W102 (Or.inr (slot_ne (Or.inl (hw _ (List.mem_of_getElem? (i := 41) rfl))) (Or.inl (hw _ (List.mem_of_getElem? (i := 21) rfl))) (by decide) (t := .long) (t' := .long) (by decide) (by decide)))
  have F_a1_state_102 : Fld Z h102 a1 "com/example/tablewalk/tablewalk/SyntheticCast" "state" "J" (.long yS) := OB.2.2.2.2.1.same W102
  refine own_step st102 ?_
  refine own_step (T' := T102) (f' := (mkF m 13 #[.val (.ref a1), .val (.long q1), .second, .unset, .unset] [(.ref a1)])) (fun t k => ?_) ?_
  · show Steps p.tables e below (T102.setTop (mkF m 12 #[.val (.ref a1), .val (.long q1), .second, .unset, .unset] [])) _
    refine XS.aloadN X102.here hx rfl (hb hby d4_12) rfl rfl ?_
    exact k
  obtain ⟨T103, X103, e103, st103⟩ := getF X102 hx hZ hown (host := "") (Or.inl (hw _ (List.mem_of_getElem? (i := 20) rfl))) Via.refl e102 F_a1_state_102 (g := (mkF m 13 #[.val (.ref a1), .val (.long q1), .second, .unset, .unset] [(.ref a1)])) rfl rfl (hb hby d4_13)
  refine own_step st103 ?_
  refine own_step (T' := T103) (f' := (mkF m 27 #[.val (.ref a1), .val (.long q1), .second, .val (.long yS), .second] [(.long ((yS ^^^ ((yS.toUInt64 >>> ((30 : Int32) &&& 0x3f).toInt64.toUInt64).toInt64)) * (-4658895280553007687 : Int64)))])) (fun t k => ?_) ?_
  · show Steps p.tables e below (T103.setTop (mkF m 16 #[.val (.ref a1), .val (.long q1), .second, .unset, .unset] [(.long yS)])) _
    refine XS.lstoreN X103.here hx rfl (hb hby d4_16) rfl (l' := #[.val (.ref a1), .val (.long q1), .second, .val (.long yS), .second]) rfl ?_
    show Steps p.tables e below (T103.setTop (mkF m 17 #[.val (.ref a1), .val (.long q1), .second, .val (.long yS), .second] [])) _
    refine XS.lloadN X103.here hx rfl (hb hby d4_17) rfl ?_
    show Steps p.tables e below (T103.setTop (mkF m 18 #[.val (.ref a1), .val (.long q1), .second, .val (.long yS), .second] [(.long yS)])) _
    refine XS.lloadN X103.here hx rfl (hb hby d4_18) rfl ?_
    show Steps p.tables e below (T103.setTop (mkF m 19 #[.val (.ref a1), .val (.long q1), .second, .val (.long yS), .second] [(.long yS), (.long yS)])) _
    refine XS.bipush X103.here hx rfl (hb hby d4_19) ?_
    show Steps p.tables e below (T103.setTop (mkF m 21 #[.val (.ref a1), .val (.long q1), .second, .val (.long yS), .second] [(.int (30 : Int32)), (.long yS), (.long yS)])) _
    refine XS.lushr X103.here hx rfl (hb hby d4_21) rfl ?_
    show Steps p.tables e below (T103.setTop (mkF m 22 #[.val (.ref a1), .val (.long q1), .second, .val (.long yS), .second] [(.long ((yS.toUInt64 >>> ((30 : Int32) &&& 0x3f).toInt64.toUInt64).toInt64)), (.long yS)])) _
    refine XS.lxor X103.here hx rfl (hb hby d4_22) rfl ?_
    show Steps p.tables e below (T103.setTop (mkF m 23 #[.val (.ref a1), .val (.long q1), .second, .val (.long yS), .second] [(.long (yS ^^^ ((yS.toUInt64 >>> ((30 : Int32) &&& 0x3f).toInt64.toUInt64).toInt64)))])) _
    refine X103.ldc2Long hx hown (mvT hZ (hw _ (List.mem_of_getElem? (i := 35) rfl))) (g := (mkF m 23 #[.val (.ref a1), .val (.long q1), .second, .val (.long yS), .second] [(.long (yS ^^^ ((yS.toUInt64 >>> ((30 : Int32) &&& 0x3f).toInt64.toUInt64).toInt64)))])) rfl (hb hby d4_23) _ ?_
    show Steps p.tables e below (T103.setTop (mkF m 26 #[.val (.ref a1), .val (.long q1), .second, .val (.long yS), .second] [(.long (-4658895280553007687 : Int64)), (.long (yS ^^^ ((yS.toUInt64 >>> ((30 : Int32) &&& 0x3f).toInt64.toUInt64).toInt64)))])) _
    refine XS.lmul X103.here hx rfl (hb hby d4_26) rfl ?_
    exact k
  show own_Go p e below T103 (mkF m 27 #[.val (.ref a1), .val (.long q1), .second, .val (.long yS), .second] [(.long ((yS ^^^ ((yS.toUInt64 >>> ((30 : Int32) &&& 0x3f).toInt64.toUInt64).toInt64)) * (-4658895280553007687 : Int64)))]) _
  obtain ⟨yA, hyA⟩ : ∃ z : Int64, z = ((yS ^^^ ((yS.toUInt64 >>> ((30 : Int32) &&& 0x3f).toInt64.toUInt64).toInt64)) * (-4658895280553007687 : Int64)) := ⟨_, rfl⟩
  rw [← hyA]
  refine own_step (T' := T103) (f' := (mkF m 38 #[.val (.ref a1), .val (.long q1), .second, .val (.long yA), .second] [(.long ((yA ^^^ ((yA.toUInt64 >>> ((27 : Int32) &&& 0x3f).toInt64.toUInt64).toInt64)) * (-7723592293110705685 : Int64)))])) (fun t k => ?_) ?_
  · show Steps p.tables e below (T103.setTop (mkF m 27 #[.val (.ref a1), .val (.long q1), .second, .val (.long yS), .second] [(.long yA)])) _
    refine XS.lstoreN X103.here hx rfl (hb hby d4_27) rfl (l' := #[.val (.ref a1), .val (.long q1), .second, .val (.long yA), .second]) rfl ?_
    show Steps p.tables e below (T103.setTop (mkF m 28 #[.val (.ref a1), .val (.long q1), .second, .val (.long yA), .second] [])) _
    refine XS.lloadN X103.here hx rfl (hb hby d4_28) rfl ?_
    show Steps p.tables e below (T103.setTop (mkF m 29 #[.val (.ref a1), .val (.long q1), .second, .val (.long yA), .second] [(.long yA)])) _
    refine XS.lloadN X103.here hx rfl (hb hby d4_29) rfl ?_
    show Steps p.tables e below (T103.setTop (mkF m 30 #[.val (.ref a1), .val (.long q1), .second, .val (.long yA), .second] [(.long yA), (.long yA)])) _
    refine XS.bipush X103.here hx rfl (hb hby d4_30) ?_
    show Steps p.tables e below (T103.setTop (mkF m 32 #[.val (.ref a1), .val (.long q1), .second, .val (.long yA), .second] [(.int (27 : Int32)), (.long yA), (.long yA)])) _
    refine XS.lushr X103.here hx rfl (hb hby d4_32) rfl ?_
    show Steps p.tables e below (T103.setTop (mkF m 33 #[.val (.ref a1), .val (.long q1), .second, .val (.long yA), .second] [(.long ((yA.toUInt64 >>> ((27 : Int32) &&& 0x3f).toInt64.toUInt64).toInt64)), (.long yA)])) _
    refine XS.lxor X103.here hx rfl (hb hby d4_33) rfl ?_
    show Steps p.tables e below (T103.setTop (mkF m 34 #[.val (.ref a1), .val (.long q1), .second, .val (.long yA), .second] [(.long (yA ^^^ ((yA.toUInt64 >>> ((27 : Int32) &&& 0x3f).toInt64.toUInt64).toInt64)))])) _
    refine X103.ldc2Long hx hown (mvT hZ (hw _ (List.mem_of_getElem? (i := 36) rfl))) (g := (mkF m 34 #[.val (.ref a1), .val (.long q1), .second, .val (.long yA), .second] [(.long (yA ^^^ ((yA.toUInt64 >>> ((27 : Int32) &&& 0x3f).toInt64.toUInt64).toInt64)))])) rfl (hb hby d4_34) _ ?_
    show Steps p.tables e below (T103.setTop (mkF m 37 #[.val (.ref a1), .val (.long q1), .second, .val (.long yA), .second] [(.long (-7723592293110705685 : Int64)), (.long (yA ^^^ ((yA.toUInt64 >>> ((27 : Int32) &&& 0x3f).toInt64.toUInt64).toInt64)))])) _
    refine XS.lmul X103.here hx rfl (hb hby d4_37) rfl ?_
    exact k
  show own_Go p e below T103 (mkF m 38 #[.val (.ref a1), .val (.long q1), .second, .val (.long yA), .second] [(.long ((yA ^^^ ((yA.toUInt64 >>> ((27 : Int32) &&& 0x3f).toInt64.toUInt64).toInt64)) * (-7723592293110705685 : Int64)))]) _
  obtain ⟨yB, hyB⟩ : ∃ z : Int64, z = ((yA ^^^ ((yA.toUInt64 >>> ((27 : Int32) &&& 0x3f).toInt64.toUInt64).toInt64)) * (-7723592293110705685 : Int64)) := ⟨_, rfl⟩
  rw [← hyB]
  refine own_step (T' := T103) (f' := (mkF m 45 #[.val (.ref a1), .val (.long q1), .second, .val (.long yB), .second] [(.long (yB ^^^ ((yB.toUInt64 >>> ((31 : Int32) &&& 0x3f).toInt64.toUInt64).toInt64)))])) (fun t k => ?_) ?_
  · show Steps p.tables e below (T103.setTop (mkF m 38 #[.val (.ref a1), .val (.long q1), .second, .val (.long yA), .second] [(.long yB)])) _
    refine XS.lstoreN X103.here hx rfl (hb hby d4_38) rfl (l' := #[.val (.ref a1), .val (.long q1), .second, .val (.long yB), .second]) rfl ?_
    show Steps p.tables e below (T103.setTop (mkF m 39 #[.val (.ref a1), .val (.long q1), .second, .val (.long yB), .second] [])) _
    refine XS.lloadN X103.here hx rfl (hb hby d4_39) rfl ?_
    show Steps p.tables e below (T103.setTop (mkF m 40 #[.val (.ref a1), .val (.long q1), .second, .val (.long yB), .second] [(.long yB)])) _
    refine XS.lloadN X103.here hx rfl (hb hby d4_40) rfl ?_
    show Steps p.tables e below (T103.setTop (mkF m 41 #[.val (.ref a1), .val (.long q1), .second, .val (.long yB), .second] [(.long yB), (.long yB)])) _
    refine XS.bipush X103.here hx rfl (hb hby d4_41) ?_
    show Steps p.tables e below (T103.setTop (mkF m 43 #[.val (.ref a1), .val (.long q1), .second, .val (.long yB), .second] [(.int (31 : Int32)), (.long yB), (.long yB)])) _
    refine XS.lushr X103.here hx rfl (hb hby d4_43) rfl ?_
    show Steps p.tables e below (T103.setTop (mkF m 44 #[.val (.ref a1), .val (.long q1), .second, .val (.long yB), .second] [(.long ((yB.toUInt64 >>> ((31 : Int32) &&& 0x3f).toInt64.toUInt64).toInt64)), (.long yB)])) _
    refine XS.lxor X103.here hx rfl (hb hby d4_44) rfl ?_
    exact k
  show own_Go p e below T103 (mkF m 45 #[.val (.ref a1), .val (.long q1), .second, .val (.long yB), .second] [(.long (yB ^^^ ((yB.toUInt64 >>> ((31 : Int32) &&& 0x3f).toInt64.toUInt64).toInt64)))]) _
  obtain ⟨yC, hyC⟩ : ∃ z : Int64, z = (yB ^^^ ((yB.toUInt64 >>> ((31 : Int32) &&& 0x3f).toInt64.toUInt64).toInt64)) := ⟨_, rfl⟩
  rw [← hyC]
  refine own_step (T' := T103) (f' := (mkF m 47 #[.val (.ref a1), .val (.long q1), .second, .val (.long yB), .second] [(.long ((yC.toUInt64 >>> ((1 : Int32) &&& 0x3f).toInt64.toUInt64).toInt64))])) (fun t k => ?_) ?_
  · show Steps p.tables e below (T103.setTop (mkF m 45 #[.val (.ref a1), .val (.long q1), .second, .val (.long yB), .second] [(.long yC)])) _
    refine XS.iconst X103.here hx rfl (hb hby d4_45) ?_
    show Steps p.tables e below (T103.setTop (mkF m 46 #[.val (.ref a1), .val (.long q1), .second, .val (.long yB), .second] [(.int (1 : Int32)), (.long yC)])) _
    refine XS.lushr X103.here hx rfl (hb hby d4_46) rfl ?_
    exact k
  show own_Go p e below T103 (mkF m 47 #[.val (.ref a1), .val (.long q1), .second, .val (.long yB), .second] [(.long ((yC.toUInt64 >>> ((1 : Int32) &&& 0x3f).toInt64.toUInt64).toInt64))]) _
  obtain ⟨yU, hyU⟩ : ∃ z : Int64, z = ((yC.toUInt64 >>> ((1 : Int32) &&& 0x3f).toInt64.toUInt64).toInt64) := ⟨_, rfl⟩
  rw [← hyU]
  refine own_step (T' := T103) (f' := (mkF m 49 #[.val (.ref a1), .val (.long q1), .second, .val (.long yB), .second] [(.long (yU - (yU / q1) * q1))])) (fun t k => ?_) ?_
  · show Steps p.tables e below (T103.setTop (mkF m 47 #[.val (.ref a1), .val (.long q1), .second, .val (.long yB), .second] [(.long yU)])) _
    refine XS.lloadN X103.here hx rfl (hb hby d4_47) rfl ?_
    show Steps p.tables e below (T103.setTop (mkF m 48 #[.val (.ref a1), .val (.long q1), .second, .val (.long yB), .second] [(.long q1), (.long yU)])) _
    refine XS.lrem X103.here hx rfl (hb hby d4_48) rfl (own_nz hq) ?_
    exact k
  exact own_retJ X103 hx hret hlk (hb hby d4_49) (by decide) (by decide) (by rw [e103]; exact ⟨_, _, rfl, (own_dr hq hyU).1, (own_dr hq hyU).2, N102, K102, ⟨E_a1_102, F_a1_film_102, F_a1_films_102, F_a1_performers_102, F_a1_state_102, F_a1_left_102, F_a1_small_102, F_a1_performer_102⟩⟩)
theorem d5_0 : decode prog_24_method_4_code 0 = .ok (.aload_n 0, 1) := by decide +kernel
theorem d5_1 : decode prog_24_method_4_code 1 = .ok (.getfield 9, 3) := by decide +kernel
theorem d5_4 : decode prog_24_method_4_code 4 = .ok (.lreturn, 1) := by decide +kernel
theorem own_ef_own_rm5 (m : MethodId) (x0 : Addr) : entryFrame m #[(.ref x0)] 1 = mkF m 0 #[.val (.ref x0)] [] := by first | (simp [entryFrame, mkF, argsToLocals, Value.category]; done) | rfl
def own_Q_rm5 (Z : State) (a1 : Addr) (u1 u2 u3 u4 u5 : Int64) (u6 : Int32) (u7 : Int64) (h0 : Heap) (n0 : Nat) (v : Option Value) (h : Heap) (L : List Loc) : Prop := v = some (.long u1) ∧ Fr n0 L ∧ h = h0
set_option maxRecDepth 65536 in
set_option maxHeartbeats 40000000 in
theorem own_rm5 (l : Launch) (Z : State) (a0 : Array Value) (hw : ∀ d ∈ tables_1, d.before a0 Z = true) (a1 : Addr) (u1 u2 u3 u4 u5 : Int64) (u6 : Int32) (u7 : Int64) (h0 : Heap) (n0 : Nat) (OB : own_Obj Z h0 a1 u1 u2 u3 u4 u5 u6 u7) :
    MetFree l (⟨"com/example/tablewalk/tablewalk/SyntheticCast", "film", "()J"⟩ : MethodName) (head1 [Jvm.Cond.code (⟨"com/example/tablewalk/tablewalk/SyntheticCast", "film", "()J"⟩ : MethodName) prog_24_method_4_code 1 (some .long)] ({ frames := 0, cells := 0, slots := 0, locals := 0 } : Room)) (fun a U => a = #[(.ref a1)] ∧ Z.Warmed39 U.vm ∧ U.heap = h0) (fun _ _ _ _ _ => True) (fun _ U o U' => ∃ v L, o = .returned v ∧ own_Q_rm5 Z a1 u1 u2 u3 u4 u5 u6 u7 h0 n0 v U'.heap L ∧ FrameEnd U o U' L ({ frames := 0, cells := 0, slots := 0, locals := 0 } : Room).cells ({ frames := 0, cells := 0, slots := 0, locals := 0 } : Room).slots) := by
  refine MetFree.of_bodySF (plainFor_of_name own_pn0) hisR ?_
  intro p e s m args below meth c s₁ Bd hml0 hP hK
  obtain ⟨rfl, hZ, hh⟩ := hP
  have hx := Bd.exec
  have hby := Bd.bytes
  have hret := Bd.returns
  have hlk := Bd.notSynchronized
  have hml : c.maxLocals = 1 := hml0
  have hown : s.vm.findClass "com/example/tablewalk/tablewalk/SyntheticCast" = some m.cls := findClass_of_methodNamed Bd.named
  have hnm := (name_of_methodNamed Bd.named Bd.method).1
  have X0 : Stand p l e ({ frames := 0, cells := 0, slots := 0, locals := 0 } : Room) s m #[(.ref a1)] below meth c s₁ [] 0 0 := Stand.of_body Bd
  have e0 : s₁.heap = h0 := by rw [← hh, Bd.state]; rfl
  have N0 := Fr.nil n0
  refine own_Go.cast (own_ef_own_rm5 m a1) ?_
  refine own_step (T' := s₁) (f' := (mkF m 1 #[.val (.ref a1)] [(.ref a1)])) (fun t k => ?_) ?_
  · show Steps p.tables e below (s₁.setTop (mkF m 0 #[.val (.ref a1)] [])) _
    refine XS.aloadN X0.here hx rfl (hb hby d5_0) rfl rfl ?_
    exact k
  obtain ⟨T101, X101, e101, st101⟩ := getF X0 hx hZ hown (host := "") (Or.inl (hw _ (List.mem_of_getElem? (i := 13) rfl))) Via.refl e0 OB.2.1 (g := (mkF m 1 #[.val (.ref a1)] [(.ref a1)])) rfl rfl (hb hby d5_1)
  refine own_step st101 ?_
  exact own_retJ X101 hx hret hlk (hb hby d5_4) (by decide) (by decide) ⟨rfl, N0, e101⟩
theorem d6_0 : decode prog_24_method_3_code 0 = .ok (.aload_n 0, 1) := by decide +kernel
theorem d6_1 : decode prog_24_method_3_code 1 = .ok (.getfield 53, 3) := by decide +kernel
theorem d6_4 : decode prog_24_method_3_code 4 = .ok (.lreturn, 1) := by decide +kernel
theorem own_ef_own_rm6 (m : MethodId) (x0 : Addr) : entryFrame m #[(.ref x0)] 1 = mkF m 0 #[.val (.ref x0)] [] := by first | (simp [entryFrame, mkF, argsToLocals, Value.category]; done) | rfl
def own_Q_rm6 (Z : State) (a1 : Addr) (u1 u2 u3 u4 u5 : Int64) (u6 : Int32) (u7 : Int64) (h0 : Heap) (n0 : Nat) (v : Option Value) (h : Heap) (L : List Loc) : Prop := v = some (.long u7) ∧ Fr n0 L ∧ h = h0
set_option maxRecDepth 65536 in
set_option maxHeartbeats 40000000 in
theorem own_rm6 (l : Launch) (Z : State) (a0 : Array Value) (hw : ∀ d ∈ tables_1, d.before a0 Z = true) (a1 : Addr) (u1 u2 u3 u4 u5 : Int64) (u6 : Int32) (u7 : Int64) (h0 : Heap) (n0 : Nat) (OB : own_Obj Z h0 a1 u1 u2 u3 u4 u5 u6 u7) :
    MetFree l (⟨"com/example/tablewalk/tablewalk/SyntheticCast", "performer", "()J"⟩ : MethodName) (head1 [Jvm.Cond.code (⟨"com/example/tablewalk/tablewalk/SyntheticCast", "performer", "()J"⟩ : MethodName) prog_24_method_3_code 1 (some .long)] ({ frames := 0, cells := 0, slots := 0, locals := 0 } : Room)) (fun a U => a = #[(.ref a1)] ∧ Z.Warmed39 U.vm ∧ U.heap = h0) (fun _ _ _ _ _ => True) (fun _ U o U' => ∃ v L, o = .returned v ∧ own_Q_rm6 Z a1 u1 u2 u3 u4 u5 u6 u7 h0 n0 v U'.heap L ∧ FrameEnd U o U' L ({ frames := 0, cells := 0, slots := 0, locals := 0 } : Room).cells ({ frames := 0, cells := 0, slots := 0, locals := 0 } : Room).slots) := by
  refine MetFree.of_bodySF (plainFor_of_name own_pn0) hisR ?_
  intro p e s m args below meth c s₁ Bd hml0 hP hK
  obtain ⟨rfl, hZ, hh⟩ := hP
  have hx := Bd.exec
  have hby := Bd.bytes
  have hret := Bd.returns
  have hlk := Bd.notSynchronized
  have hml : c.maxLocals = 1 := hml0
  have hown : s.vm.findClass "com/example/tablewalk/tablewalk/SyntheticCast" = some m.cls := findClass_of_methodNamed Bd.named
  have hnm := (name_of_methodNamed Bd.named Bd.method).1
  have X0 : Stand p l e ({ frames := 0, cells := 0, slots := 0, locals := 0 } : Room) s m #[(.ref a1)] below meth c s₁ [] 0 0 := Stand.of_body Bd
  have e0 : s₁.heap = h0 := by rw [← hh, Bd.state]; rfl
  have N0 := Fr.nil n0
  refine own_Go.cast (own_ef_own_rm6 m a1) ?_
  refine own_step (T' := s₁) (f' := (mkF m 1 #[.val (.ref a1)] [(.ref a1)])) (fun t k => ?_) ?_
  · show Steps p.tables e below (s₁.setTop (mkF m 0 #[.val (.ref a1)] [])) _
    refine XS.aloadN X0.here hx rfl (hb hby d6_0) rfl rfl ?_
    exact k
  obtain ⟨T101, X101, e101, st101⟩ := getF X0 hx hZ hown (host := "") (Or.inl (hw _ (List.mem_of_getElem? (i := 40) rfl))) Via.refl e0 OB.2.2.2.2.2.2.2 (g := (mkF m 1 #[.val (.ref a1)] [(.ref a1)])) rfl rfl (hb hby d6_1)
  refine own_step st101 ?_
  exact own_retJ X101 hx hret hlk (hb hby d6_4) (by decide) (by decide) ⟨rfl, N0, e101⟩
theorem own_left1 {y r : Int64} (h : y = ((1 : Int64) + r)) (h0 : 0 ≤ r.toInt) (h1 : r.toInt < (2 : Int64).toInt) : 0 < y.toInt := by
  have e := c_ladd 1 r; have g := rng64 (1 + r); rw [← h] at e g
  rw [show (1 : Int64).toInt = 1 from rfl] at e; rw [show (2 : Int64).toInt = 2 from rfl] at h1; omega
theorem own_left4 {y r : Int64} (h : y = ((4 : Int64) + r)) (h0 : 0 ≤ r.toInt) (h1 : r.toInt < (60 : Int64).toInt) : 0 < y.toInt := by
  have e := c_ladd 4 r; have g := rng64 (4 + r); rw [← h] at e g
  rw [show (4 : Int64).toInt = 4 from rfl] at e; rw [show (60 : Int64).toInt = 60 from rfl] at h1; omega
theorem own_pos {y : Int64} (h : 0 < y.toInt) : ¬ (y = (0 : Int64)) := own_nz h
theorem own_dec {y : Int64} (h : 0 ≤ y.toInt) (hn : ¬ (y = (0 : Int64))) : 0 ≤ (y - (1 : Int64)).toInt := by
  have e := c_lsub y 1; have g := rng64 (y - 1); have g2 := rng64 y
  have : y.toInt ≠ 0 := fun q => hn (Int64.toInt_inj.mp (by rw [q]; rfl))
  rw [show (1 : Int64).toInt = 1 from rfl] at e; omega
theorem own_who {a b q w : Int64} (h0 : 0 < q.toInt) (h1 : q.toInt ≤ 3037000499) (a0 : 0 ≤ a.toInt) (a1 : a.toInt < q.toInt) (b0 : 0 ≤ b.toInt) (b1 : b.toInt < q.toInt) (hw : w = ((a * b) / q)) : 0 ≤ w.toInt ∧ w.toInt < q.toInt := by
  have e := c_lmul a b; have g := rng64 (a * b)
  have m0 : 0 ≤ a.toInt * b.toInt := Int.mul_nonneg a0 b0
  have m1 : a.toInt * b.toInt ≤ a.toInt * q.toInt := Int.mul_le_mul_of_nonneg_left (by omega) a0
  have m2 : a.toInt * q.toInt ≤ 3037000498 * q.toInt := Int.mul_le_mul_of_nonneg_right (by omega) (by omega)
  have m3 : a.toInt * b.toInt < q.toInt * q.toInt := by
    have : a.toInt * q.toInt < q.toInt * q.toInt := Int.mul_lt_mul_of_pos_right a1 h0
    omega
  generalize a.toInt * b.toInt = P at *
  have e2 : (a * b).toInt = P := by omega
  have d := c_ldiv (a * b) q q.toInt rfl (by rintro rfl; revert h0; decide)
  rw [hw, d.1 (by omega), e2]
  refine ⟨Int.ediv_nonneg m0 (by omega), ?_⟩
  exact Int.ediv_lt_of_lt_mul h0 m3
/-- what a call of next leaves -/
def own_nx (film films perf left who film' left' who' : Int64) (r : Int32) : Prop :=
  (r = 0 ∧ left = 0 ∧ film = (films - (1 : Int64)) ∧ film' = film ∧ left' = left ∧ who' = who) ∨
  (r = 1 ∧ ((¬ left = 0 ∧ film' = film) ∨ (left = 0 ∧ ¬ film = (films - (1 : Int64)) ∧ film' = (film + (1 : Int64)))) ∧ 0 ≤ left'.toInt ∧ 0 ≤ who'.toInt ∧ who'.toInt < perf.toInt)

theorem d3_0 : decode prog_24_method_2_code 0 = .ok (.aload_n 0, 1) := by decide +kernel
theorem d3_1 : decode prog_24_method_2_code 1 = .ok (.getfield 36, 3) := by decide +kernel
theorem d3_4 : decode prog_24_method_2_code 4 = .ok (.lconst 0, 1) := by decide +kernel
theorem d3_5 : decode prog_24_method_2_code 5 = .ok (.lcmp, 1) := by decide +kernel
theorem d3_6 : decode prog_24_method_2_code 6 = .ok (.ifCond .ne 87, 3) := by decide +kernel
theorem d3_9 : decode prog_24_method_2_code 9 = .ok (.aload_n 0, 1) := by decide +kernel
theorem d3_10 : decode prog_24_method_2_code 10 = .ok (.getfield 9, 3) := by decide +kernel
theorem d3_13 : decode prog_24_method_2_code 13 = .ok (.aload_n 0, 1) := by decide +kernel
theorem d3_14 : decode prog_24_method_2_code 14 = .ok (.getfield 27, 3) := by decide +kernel
theorem d3_17 : decode prog_24_method_2_code 17 = .ok (.lconst 1, 1) := by decide +kernel
theorem d3_18 : decode prog_24_method_2_code 18 = .ok (.lsub, 1) := by decide +kernel
theorem d3_19 : decode prog_24_method_2_code 19 = .ok (.lcmp, 1) := by decide +kernel
theorem d3_20 : decode prog_24_method_2_code 20 = .ok (.ifCond .ne 5, 3) := by decide +kernel
theorem d3_23 : decode prog_24_method_2_code 23 = .ok (.iconst 0, 1) := by decide +kernel
theorem d3_24 : decode prog_24_method_2_code 24 = .ok (.ireturn, 1) := by decide +kernel
theorem d3_25 : decode prog_24_method_2_code 25 = .ok (.aload_n 0, 1) := by decide +kernel
theorem d3_26 : decode prog_24_method_2_code 26 = .ok (.dup, 1) := by decide +kernel
theorem d3_27 : decode prog_24_method_2_code 27 = .ok (.getfield 9, 3) := by decide +kernel
theorem d3_30 : decode prog_24_method_2_code 30 = .ok (.lconst 1, 1) := by decide +kernel
theorem d3_31 : decode prog_24_method_2_code 31 = .ok (.ladd, 1) := by decide +kernel
theorem d3_32 : decode prog_24_method_2_code 32 = .ok (.putfield 9, 3) := by decide +kernel
theorem d3_35 : decode prog_24_method_2_code 35 = .ok (.aload_n 0, 1) := by decide +kernel
theorem d3_36 : decode prog_24_method_2_code 36 = .ok (.aload_n 0, 1) := by decide +kernel
theorem d3_37 : decode prog_24_method_2_code 37 = .ok (.ldc2_w 39, 3) := by decide +kernel
theorem d3_40 : decode prog_24_method_2_code 40 = .ok (.invokevirtual 41, 3) := by decide +kernel
theorem d3_43 : decode prog_24_method_2_code 43 = .ok (.lconst 0, 1) := by decide +kernel
theorem d3_44 : decode prog_24_method_2_code 44 = .ok (.lcmp, 1) := by decide +kernel
theorem d3_45 : decode prog_24_method_2_code 45 = .ok (.ifCond .ne 7, 3) := by decide +kernel
theorem d3_48 : decode prog_24_method_2_code 48 = .ok (.iconst 1, 1) := by decide +kernel
theorem d3_49 : decode prog_24_method_2_code 49 = .ok (.goto 4, 3) := by decide +kernel
theorem d3_52 : decode prog_24_method_2_code 52 = .ok (.iconst 0, 1) := by decide +kernel
theorem d3_53 : decode prog_24_method_2_code 53 = .ok (.putfield 45, 3) := by decide +kernel
theorem d3_56 : decode prog_24_method_2_code 56 = .ok (.aload_n 0, 1) := by decide +kernel
theorem d3_57 : decode prog_24_method_2_code 57 = .ok (.aload_n 0, 1) := by decide +kernel
theorem d3_58 : decode prog_24_method_2_code 58 = .ok (.getfield 45, 3) := by decide +kernel
theorem d3_61 : decode prog_24_method_2_code 61 = .ok (.ifCond .eq 15, 3) := by decide +kernel
theorem d3_64 : decode prog_24_method_2_code 64 = .ok (.lconst 1, 1) := by decide +kernel
theorem d3_65 : decode prog_24_method_2_code 65 = .ok (.aload_n 0, 1) := by decide +kernel
theorem d3_66 : decode prog_24_method_2_code 66 = .ok (.ldc2_w 49, 3) := by decide +kernel
theorem d3_69 : decode prog_24_method_2_code 69 = .ok (.invokevirtual 41, 3) := by decide +kernel
theorem d3_72 : decode prog_24_method_2_code 72 = .ok (.ladd, 1) := by decide +kernel
theorem d3_73 : decode prog_24_method_2_code 73 = .ok (.goto 14, 3) := by decide +kernel
theorem d3_76 : decode prog_24_method_2_code 76 = .ok (.ldc2_w 39, 3) := by decide +kernel
theorem d3_79 : decode prog_24_method_2_code 79 = .ok (.aload_n 0, 1) := by decide +kernel
theorem d3_80 : decode prog_24_method_2_code 80 = .ok (.ldc2_w 51, 3) := by decide +kernel
theorem d3_83 : decode prog_24_method_2_code 83 = .ok (.invokevirtual 41, 3) := by decide +kernel
theorem d3_86 : decode prog_24_method_2_code 86 = .ok (.ladd, 1) := by decide +kernel
theorem d3_87 : decode prog_24_method_2_code 87 = .ok (.putfield 36, 3) := by decide +kernel
theorem d3_90 : decode prog_24_method_2_code 90 = .ok (.goto (-90), 3) := by decide +kernel
theorem d3_93 : decode prog_24_method_2_code 93 = .ok (.aload_n 0, 1) := by decide +kernel
theorem d3_94 : decode prog_24_method_2_code 94 = .ok (.dup, 1) := by decide +kernel
theorem d3_95 : decode prog_24_method_2_code 95 = .ok (.getfield 36, 3) := by decide +kernel
theorem d3_98 : decode prog_24_method_2_code 98 = .ok (.lconst 1, 1) := by decide +kernel
theorem d3_99 : decode prog_24_method_2_code 99 = .ok (.lsub, 1) := by decide +kernel
theorem d3_100 : decode prog_24_method_2_code 100 = .ok (.putfield 36, 3) := by decide +kernel
theorem d3_103 : decode prog_24_method_2_code 103 = .ok (.aload_n 0, 1) := by decide +kernel
theorem d3_104 : decode prog_24_method_2_code 104 = .ok (.getfield 45, 3) := by decide +kernel
theorem d3_107 : decode prog_24_method_2_code 107 = .ok (.ifCond .eq 18, 3) := by decide +kernel
theorem d3_110 : decode prog_24_method_2_code 110 = .ok (.aload_n 0, 1) := by decide +kernel
theorem d3_111 : decode prog_24_method_2_code 111 = .ok (.aload_n 0, 1) := by decide +kernel
theorem d3_112 : decode prog_24_method_2_code 112 = .ok (.aload_n 0, 1) := by decide +kernel
theorem d3_113 : decode prog_24_method_2_code 113 = .ok (.getfield 30, 3) := by decide +kernel
theorem d3_116 : decode prog_24_method_2_code 116 = .ok (.invokevirtual 41, 3) := by decide +kernel
theorem d3_119 : decode prog_24_method_2_code 119 = .ok (.putfield 53, 3) := by decide +kernel
theorem d3_122 : decode prog_24_method_2_code 122 = .ok (.goto 31, 3) := by decide +kernel
theorem d3_125 : decode prog_24_method_2_code 125 = .ok (.aload_n 0, 1) := by decide +kernel
theorem d3_126 : decode prog_24_method_2_code 126 = .ok (.aload_n 0, 1) := by decide +kernel
theorem d3_127 : decode prog_24_method_2_code 127 = .ok (.getfield 30, 3) := by decide +kernel
theorem d3_130 : decode prog_24_method_2_code 130 = .ok (.invokevirtual 41, 3) := by decide +kernel
theorem d3_133 : decode prog_24_method_2_code 133 = .ok (.lstore_n 1, 1) := by decide +kernel
theorem d3_134 : decode prog_24_method_2_code 134 = .ok (.aload_n 0, 1) := by decide +kernel
theorem d3_135 : decode prog_24_method_2_code 135 = .ok (.lload_n 1, 1) := by decide +kernel
theorem d3_136 : decode prog_24_method_2_code 136 = .ok (.aload_n 0, 1) := by decide +kernel
theorem d3_137 : decode prog_24_method_2_code 137 = .ok (.aload_n 0, 1) := by decide +kernel
theorem d3_138 : decode prog_24_method_2_code 138 = .ok (.getfield 30, 3) := by decide +kernel
theorem d3_141 : decode prog_24_method_2_code 141 = .ok (.invokevirtual 41, 3) := by decide +kernel
theorem d3_144 : decode prog_24_method_2_code 144 = .ok (.lmul, 1) := by decide +kernel
theorem d3_145 : decode prog_24_method_2_code 145 = .ok (.aload_n 0, 1) := by decide +kernel
theorem d3_146 : decode prog_24_method_2_code 146 = .ok (.getfield 30, 3) := by decide +kernel
theorem d3_149 : decode prog_24_method_2_code 149 = .ok (.ldiv, 1) := by decide +kernel
theorem d3_150 : decode prog_24_method_2_code 150 = .ok (.putfield 53, 3) := by decide +kernel
theorem d3_153 : decode prog_24_method_2_code 153 = .ok (.iconst 1, 1) := by decide +kernel
theorem d3_154 : decode prog_24_method_2_code 154 = .ok (.ireturn, 1) := by decide +kernel
theorem own_ef_own_rm3 (m : MethodId) (x0 : Addr) : entryFrame m #[(.ref x0)] 3 = mkF m 0 #[.val (.ref x0), .unset, .unset] [] := by first | (simp [entryFrame, mkF, argsToLocals, Value.category]; done) | rfl
theorem own_pd0 : parseMethodDescriptor "(J)J" = some ⟨[.long], some .long⟩ := by decide +kernel
def own_Q_rm3 (Z : State) (a1 : Addr) (u1 u2 u3 u4 u5 : Int64) (u6 : Int32) (u7 : Int64) (h0 : Heap) (n0 : Nat) (v : Option Value) (h : Heap) (L : List Loc) : Prop := ∃ (film' state' left' who' : Int64) (small' r : Int32), v = some (.int r) ∧ Fr n0 L ∧ Keep h0 h [a1] ∧ own_Obj Z h a1 film' u2 u3 state' left' small' who' ∧ own_nx u1 u2 u3 u5 u7 film' left' who' r
set_option maxRecDepth 65536 in
set_option maxHeartbeats 40000000 in
theorem own_rm3 (l : Launch) (Z : State) (a0 : Array Value) (hw : ∀ d ∈ tables_1, d.before a0 Z = true) (a1 : Addr) (u1 u2 u3 u4 u5 : Int64) (u6 : Int32) (u7 : Int64) (h0 : Heap) (n0 : Nat) (Z0 : n0 ≤ h0.size) (ga1 : n0 ≤ a1) (OB : own_Obj Z h0 a1 u1 u2 u3 u4 u5 u6 u7) (hperf0 : 0 < u3.toInt) (hperf1 : u3.toInt ≤ 3037000499) (hleft : 0 ≤ u5.toInt) :
    MetFree l (⟨"com/example/tablewalk/tablewalk/SyntheticCast", "next", "()Z"⟩ : MethodName) (head1 [Jvm.Cond.code (⟨"com/example/tablewalk/tablewalk/SyntheticCast", "next", "()Z"⟩ : MethodName) prog_24_method_2_code 3 (some .boolean)] ({ frames := 1, cells := 0, slots := 0, locals := 19 } : Room)) (fun a U => a = #[(.ref a1)] ∧ Z.Warmed39 U.vm ∧ U.heap = h0) (fun _ _ _ _ _ => True) (fun _ U o U' => ∃ v L, o = .returned v ∧ own_Q_rm3 Z a1 u1 u2 u3 u4 u5 u6 u7 h0 n0 v U'.heap L ∧ FrameEnd U o U' L ({ frames := 1, cells := 0, slots := 0, locals := 19 } : Room).cells ({ frames := 1, cells := 0, slots := 0, locals := 19 } : Room).slots) := by
  refine MetFree.of_bodySF (plainFor_of_name own_pn0) hisR ?_
  intro p e s m args below meth c s₁ Bd hml0 hP hK
  obtain ⟨rfl, hZ, hh⟩ := hP
  have hx := Bd.exec
  have hby := Bd.bytes
  have hret := Bd.returns
  have hlk := Bd.notSynchronized
  have hml : c.maxLocals = 3 := hml0
  have hown : s.vm.findClass "com/example/tablewalk/tablewalk/SyntheticCast" = some m.cls := findClass_of_methodNamed Bd.named
  have hnm := (name_of_methodNamed Bd.named Bd.method).1
  have X0 : Stand p l e ({ frames := 1, cells := 0, slots := 0, locals := 19 } : Room) s m #[(.ref a1)] below meth c s₁ [] 0 0 := Stand.of_body Bd
  have e0 : s₁.heap = h0 := by rw [← hh, Bd.state]; rfl
  have N0 := Fr.nil n0
  refine own_Go.cast (own_ef_own_rm3 m a1) ?_
  refine own_step (T' := s₁) (f' := (mkF m 1 #[.val (.ref a1), .unset, .unset] [(.ref a1)])) (fun t k => ?_) ?_
  · show Steps p.tables e below (s₁.setTop (mkF m 0 #[.val (.ref a1), .unset, .unset] [])) _
    refine XS.aloadN X0.here hx rfl (hb hby d3_0) rfl rfl ?_
    exact k
  obtain ⟨T101, X101, e101, st101⟩ := getF X0 hx hZ hown (host := "") (Or.inl (hw _ (List.mem_of_getElem? (i := 27) rfl))) Via.refl e0 OB.2.2.2.2.2.1 (g := (mkF m 1 #[.val (.ref a1), .unset, .unset] [(.ref a1)])) rfl rfl (hb hby d3_1)
  refine own_step st101 ?_
  refine own_step (T' := T101) (f' := (mkF m 6 #[.val (.ref a1), .unset, .unset] [(.int (lcmpW u5 (0 : Int64)))])) (fun t k => ?_) ?_
  · show Steps p.tables e below (T101.setTop (mkF m 4 #[.val (.ref a1), .unset, .unset] [(.long u5)])) _
    refine XS.lconst X101.here hx rfl (hb hby d3_4) ?_
    show Steps p.tables e below (T101.setTop (mkF m 5 #[.val (.ref a1), .unset, .unset] [(.long (0 : Int64)), (.long u5)])) _
    refine XS.lcmp X101.here hx rfl (hb hby d3_5) rfl ?_
    exact k
  by_cases hc6_0 : u5 = (0 : Int64)
  · refine own_step (T' := T101) (f' := (mkF m 10 #[.val (.ref a1), .unset, .unset] [(.ref a1)])) (fun t k => ?_) ?_
    · show Steps p.tables e below (T101.setTop (mkF m 6 #[.val (.ref a1), .unset, .unset] [(.int (lcmpW u5 (0 : Int64)))])) _
      refine XS.ifNo X101.here hx rfl (hb hby d3_6) rfl ((if0 _ _).trans (teq ((lw_eq u5 (0 : Int64)).mpr hc6_0)).2) ?_
      show Steps p.tables e below (T101.setTop (mkF m 9 #[.val (.ref a1), .unset, .unset] [])) _
      refine XS.aloadN X101.here hx rfl (hb hby d3_9) rfl rfl ?_
      exact k
    obtain ⟨T102, X102, e102, st102⟩ := getF X101 hx hZ hown (host := "") (Or.inl (hw _ (List.mem_of_getElem? (i := 13) rfl))) Via.refl e101 OB.2.1 (g := (mkF m 10 #[.val (.ref a1), .unset, .unset] [(.ref a1)])) rfl rfl (hb hby d3_10)
    refine own_step st102 ?_
    refine own_step (T' := T102) (f' := (mkF m 14 #[.val (.ref a1), .unset, .unset] [(.ref a1), (.long u1)])) (fun t k => ?_) ?_
    · show Steps p.tables e below (T102.setTop (mkF m 13 #[.val (.ref a1), .unset, .unset] [(.long u1)])) _
      refine XS.aloadN X102.here hx rfl (hb hby d3_13) rfl rfl ?_
      exact k
    obtain ⟨T103, X103, e103, st103⟩ := getF X102 hx hZ hown (host := "") (Or.inl (hw _ (List.mem_of_getElem? (i := 16) rfl))) Via.refl e102 OB.2.2.1 (g := (mkF m 14 #[.val (.ref a1), .unset, .unset] [(.ref a1), (.long u1)])) rfl rfl (hb hby d3_14)
    refine own_step st103 ?_
    refine own_step (T' := T103) (f' := (mkF m 20 #[.val (.ref a1), .unset, .unset] [(.int (lcmpW u1 (u2 - (1 : Int64))))])) (fun t k => ?_) ?_
    · show Steps p.tables e below (T103.setTop (mkF m 17 #[.val (.ref a1), .unset, .unset] [(.long u2), (.long u1)])) _
      refine XS.lconst X103.here hx rfl (hb hby d3_17) ?_
      show Steps p.tables e below (T103.setTop (mkF m 18 #[.val (.ref a1), .unset, .unset] [(.long (1 : Int64)), (.long u2), (.long u1)])) _
      refine XS.lsub X103.here hx rfl (hb hby d3_18) rfl ?_
      show Steps p.tables e below (T103.setTop (mkF m 19 #[.val (.ref a1), .unset, .unset] [(.long (u2 - (1 : Int64))), (.long u1)])) _
      refine XS.lcmp X103.here hx rfl (hb hby d3_19) rfl ?_
      exact k
    by_cases hc20_1 : u1 = (u2 - (1 : Int64))
    · refine own_step (T' := T103) (f' := (mkF m 24 #[.val (.ref a1), .unset, .unset] [(.int (0 : Int32))])) (fun t k => ?_) ?_
      · show Steps p.tables e below (T103.setTop (mkF m 20 #[.val (.ref a1), .unset, .unset] [(.int (lcmpW u1 (u2 - (1 : Int64))))])) _
        refine XS.ifNo X103.here hx rfl (hb hby d3_20) rfl ((if0 _ _).trans (teq ((lw_eq u1 (u2 - (1 : Int64))).mpr hc20_1)).2) ?_
        show Steps p.tables e below (T103.setTop (mkF m 23 #[.val (.ref a1), .unset, .unset] [])) _
        refine XS.iconst X103.here hx rfl (hb hby d3_23) ?_
        exact k
      exact own_retZ X103 hx hret hlk (hb hby d3_24) (by decide) (by decide) (by rw [e103]; exact ⟨_, _, _, _, _, _, rfl, N0, (Keep.refl h0 [a1]), ⟨OB.1, OB.2.1, OB.2.2.1, OB.2.2.2.1, OB.2.2.2.2.1, OB.2.2.2.2.2.1, OB.2.2.2.2.2.2.1, OB.2.2.2.2.2.2.2⟩, Or.inl ⟨rfl, hc6_0, hc20_1, rfl, rfl, rfl⟩⟩)
    · refine own_step (T' := T103) (f' := (mkF m 27 #[.val (.ref a1), .unset, .unset] [(.ref a1), (.ref a1)])) (fun t k => ?_) ?_
      · show Steps p.tables e below (T103.setTop (mkF m 20 #[.val (.ref a1), .unset, .unset] [(.int (lcmpW u1 (u2 - (1 : Int64))))])) _
        refine XS.ifYes X103.here hx rfl (pc0 := 20) (pc' := 25) rfl (hb hby d3_20) rfl ((if0 _ _).trans (feq (fun q => hc20_1 ((lw_eq u1 (u2 - (1 : Int64))).mp q))).2) (by decide) (by decide) ?_
        show Steps p.tables e below (T103.setTop (mkF m 25 #[.val (.ref a1), .unset, .unset] [])) _
        refine XS.aloadN X103.here hx rfl (hb hby d3_25) rfl rfl ?_
        show Steps p.tables e below (T103.setTop (mkF m 26 #[.val (.ref a1), .unset, .unset] [(.ref a1)])) _
        refine XS.dup X103.here hx rfl (hb hby d3_26) rfl rfl ?_
        exact k
      obtain ⟨T104, X104, e104, st104⟩ := getF X103 hx hZ hown (host := "") (Or.inl (hw _ (List.mem_of_getElem? (i := 13) rfl))) Via.refl e103 OB.2.1 (g := (mkF m 27 #[.val (.ref a1), .unset, .unset] [(.ref a1), (.ref a1)])) rfl rfl (hb hby d3_27)
      refine own_step st104 ?_
      refine own_step (T' := T104) (f' := (mkF m 32 #[.val (.ref a1), .unset, .unset] [(.long (u1 + (1 : Int64))), (.ref a1)])) (fun t k => ?_) ?_
      · show Steps p.tables e below (T104.setTop (mkF m 30 #[.val (.ref a1), .unset, .unset] [(.long u1), (.ref a1)])) _
        refine XS.lconst X104.here hx rfl (hb hby d3_30) ?_
        show Steps p.tables e below (T104.setTop (mkF m 31 #[.val (.ref a1), .unset, .unset] [(.long (1 : Int64)), (.long u1), (.ref a1)])) _
        refine XS.ladd X104.here hx rfl (hb hby d3_31) rfl ?_
        exact k
      obtain ⟨T105, h105, X105, e105, W105, st105⟩ := putF X104 hx hZ hown (host := "") (Or.inl (hw _ (List.mem_of_getElem? (i := 13) rfl))) Via.refl e104 OB.2.1 OB.1 (Or.inl (hw _ (List.mem_of_getElem? (i := 14) rfl))) (hw _ (List.mem_of_getElem? (i := 4) rfl)) (ty := .long) (by decide) rfl rfl (g := (mkF m 32 #[.val (.ref a1), .unset, .unset] [(.long (u1 + (1 : Int64))), (.ref a1)])) rfl rfl (hb hby d3_32)
      have N105 := Fr.snoc X105 N0 ga1
      have K105 := (Keep.refl h0 [a1]).wr W105 (Or.inl (List.mem_of_getElem? (i := 0) rfl))
      have Z105 : n0 ≤ h105.size := Nat.le_trans Z0 (Keep.of_wr W105).1
      have E_a1_105 : Exa Z h105 a1 "com/example/tablewalk/tablewalk/SyntheticCast" := OB.1.wr W105
      have F_a1_films_105 : Fld Z h105 a1 "com/example/tablewalk/tablewalk/SyntheticCast" "films" "J" (.long u2) := OB.2.2.1.other W105 (Or.inr (slot_ne (Or.inr (hw _ (List.mem_of_getElem? (i := 17) rfl))) (Or.inl (hw _ (List.mem_of_getElem? (i := 14) rfl))) (by decide) (t := .long) (t' := .long) (by decide) (by decide)))
      have F_a1_performers_105 : Fld Z h105 a1 "com/example/tablewalk/tablewalk/SyntheticCast" "performers" "J" (.long u3) := OB.2.2.2.1.other W105 (Or.inr (slot_ne (Or.inr (hw _ (List.mem_of_getElem? (i := 19) rfl))) (Or.inl (hw _ (List.mem_of_getElem? (i := 14) rfl))) (by decide) (t := .long) (t' := .long) (by decide) (by decide)))
      have F_a1_state_105 : Fld Z h105 a1 "com/example/tablewalk/tablewalk/SyntheticCast" "state" "J" (.long u4) := OB.2.2.2.2.1.other W105 (Or.inr (slot_ne (Or.inl (hw _ (List.mem_of_getElem? (i := 21) rfl))) (Or.inl (hw _ (List.mem_of_getElem? (i := 14) rfl))) (by decide) (t := .long) (t' := .long) (by decide) (by decide)))
      have F_a1_left_105 : Fld Z h105 a1 "com/example/tablewalk/tablewalk/SyntheticCast" "left" "J" (.long u5) := OB.2.2.2.2.2.1.other W105 (Or.inr (slot_ne (Or.inl (hw _ (List.mem_of_getElem? (i := 28) rfl))) (Or.inl (hw _ (List.mem_of_getElem? (i := 14) rfl))) (by decide) (t := .long) (t' := .long) (by decide) (by decide)))
      have F_a1_small_105 : Fld Z h105 a1 "com/example/tablewalk/tablewalk/SyntheticCast" "small" "Z" (.int u6) := OB.2.2.2.2.2.2.1.other W105 (Or.inr (slot_ne (Or.inl (hw _ (List.mem_of_getElem? (i := 38) rfl))) (Or.inl (hw _ (List.mem_of_getElem? (i := 14) rfl))) (by decide) (t := .boolean) (t' := .long) (by decide) (by decide)))
      have F_a1_performer_105 : Fld Z h105 a1 "com/example/tablewalk/tablewalk/SyntheticCast" "performer" "J" (.long u7) := OB.2.2.2.2.2.2.2.other W105 (Or.inr (slot_ne (Or.inl (hw _ (List.mem_of_getElem? (i := 41) rfl))) (Or.inl (hw _ (List.mem_of_getElem? (i := 14) rfl))) (by decide) (t := .long) (t' := .long) (by decide) (by decide)))
      have F_a1_film_105 : Fld Z h105 a1 "com/example/tablewalk/tablewalk/SyntheticCast" "film" "J" (.long (u1 + (1 : Int64))) := OB.2.1.same W105
      refine own_step st105 ?_
      refine own_step (T' := T105) (f' := (mkF m 40 #[.val (.ref a1), .unset, .unset] [(.long (4 : Int64)), (.ref a1), (.ref a1)])) (fun t k => ?_) ?_
      · show Steps p.tables e below (T105.setTop (mkF m 35 #[.val (.ref a1), .unset, .unset] [])) _
        refine XS.aloadN X105.here hx rfl (hb hby d3_35) rfl rfl ?_
        show Steps p.tables e below (T105.setTop (mkF m 36 #[.val (.ref a1), .unset, .unset] [(.ref a1)])) _
        refine XS.aloadN X105.here hx rfl (hb hby d3_36) rfl rfl ?_
        show Steps p.tables e below (T105.setTop (mkF m 37 #[.val (.ref a1), .unset, .unset] [(.ref a1), (.ref a1)])) _
        refine X105.ldc2Long hx hown (mvT hZ (hw _ (List.mem_of_getElem? (i := 29) rfl))) (g := (mkF m 37 #[.val (.ref a1), .unset, .unset] [(.ref a1), (.ref a1)])) rfl (hb hby d3_37) _ ?_
        exact k
      obtain ⟨cq106, q106, q106'⟩ := E_a1_105.cell
      obtain ⟨_, _, ⟨T106, L106, k106, n106⟩, -, X106, ⟨Lc106, hQ106, l106, y106, z106⟩, st106⟩ := X105.privateBack hx (y := (⟨"com/example/tablewalk/tablewalk/SyntheticCast", "draw", "(J)J"⟩ : MethodName)) hown (mvT hZ (hw _ (List.mem_of_getElem? (i := 30) rfl))) (mvT hZ (hw _ (List.mem_of_getElem? (i := 31) rfl))) (own_selp hZ (hw _ (List.mem_of_getElem? (i := 32) rfl)) (hw _ (List.mem_of_getElem? (i := 31) rfl)) (hw _ (List.mem_of_getElem? (i := 4) rfl)) (by decide)) (Cond.privateMethod_at (mvP hZ (hw _ (List.mem_of_getElem? (i := 32) rfl)) (args := #[]))) (mvT hZ (hw _ (List.mem_of_getElem? (i := 33) rfl))) (by decide) (backOf (W := 1) (own_rm4 l Z a0 hw a1 (4 : Int64) (u1 + (1 : Int64)) u2 u3 u4 u5 u6 u7 h105 n0 Z105 ga1 ⟨E_a1_105, F_a1_film_105, F_a1_films_105, F_a1_performers_105, F_a1_state_105, F_a1_left_105, F_a1_small_105, F_a1_performer_105⟩ (by decide)) hZ (hw _ (List.mem_of_getElem? (i := 33) rfl)) (hw _ (List.mem_of_getElem? (i := 5) rfl)) (by decide) (by decide)) (g := (mkF m 40 #[.val (.ref a1), .unset, .unset] [(.long (4 : Int64)), (.ref a1), (.ref a1)])) rfl (by rw [hml]; rfl) (Steps.refl _) (a := a1) (by rw [e105]; exact q106) q106' (argsL := [(.long (4 : Int64))]) (rest := [(.ref a1)]) (lenOf own_pd0 rfl) rfl (by show 2 * 0 + _ ≤ _; exact Nat.le_of_eq rfl) (hb hby d3_40) (fun _ _ => ⟨rfl, e105, (by decide : 0 + 0 ≤ _), (by decide : 0 + 0 ≤ _)⟩)
      dsimp only [Pt.U, Pt.locs, Pt.cells, Pt.slots] at X106 l106 y106 z106 st106 hQ106
      subst l106 y106 z106
      obtain ⟨r106, s106, rfl, hr106, hR106, N106q, K106, OB106⟩ := hQ106
      have N106 := Fr.app N105 N106q
      refine own_step (fun t k => st106.trans k) ?_
      have K106' := K105.trans K106 (fun x hx => Or.inl hx)
      have Z106 := Nat.le_trans Z105 K106.1
      refine own_step (T' := T106) (f' := (mkF m 45 #[.val (.ref a1), .unset, .unset] [(.int (lcmpW r106 (0 : Int64))), (.ref a1)])) (fun t k => ?_) ?_
      · show Steps p.tables e below (T106.setTop (mkF m 43 #[.val (.ref a1), .unset, .unset] [(.long r106), (.ref a1)])) _
        refine XS.lconst X106.here hx rfl (hb hby d3_43) ?_
        show Steps p.tables e below (T106.setTop (mkF m 44 #[.val (.ref a1), .unset, .unset] [(.long (0 : Int64)), (.long r106), (.ref a1)])) _
        refine XS.lcmp X106.here hx rfl (hb hby d3_44) rfl ?_
        exact k
      by_cases hc45_2 : r106 = (0 : Int64)
      · refine own_step (T' := T106) (f' := (mkF m 53 #[.val (.ref a1), .unset, .unset] [(.int (1 : Int32)), (.ref a1)])) (fun t k => ?_) ?_
        · show Steps p.tables e below (T106.setTop (mkF m 45 #[.val (.ref a1), .unset, .unset] [(.int (lcmpW r106 (0 : Int64))), (.ref a1)])) _
          refine XS.ifNo X106.here hx rfl (hb hby d3_45) rfl ((if0 _ _).trans (teq ((lw_eq r106 (0 : Int64)).mpr hc45_2)).2) ?_
          show Steps p.tables e below (T106.setTop (mkF m 48 #[.val (.ref a1), .unset, .unset] [(.ref a1)])) _
          refine XS.iconst X106.here hx rfl (hb hby d3_48) ?_
          show Steps p.tables e below (T106.setTop (mkF m 49 #[.val (.ref a1), .unset, .unset] [(.int (1 : Int32)), (.ref a1)])) _
          refine XS.goto X106.here hx rfl (pc0 := 49) (pc' := 53) rfl (hb hby d3_49) (by decide) (by decide) ?_
          exact k
        obtain ⟨T107, h107, X107, e107, W107, st107⟩ := putFN X106 hx hZ hown (hw _ (List.mem_of_getElem? (i := 37) rfl)) Via.refl rfl OB106.2.2.2.2.2.2.1 OB106.1 (Or.inl (hw _ (List.mem_of_getElem? (i := 38) rfl))) (hw _ (List.mem_of_getElem? (i := 4) rfl)) (ty := .boolean) (v' := (.int (nar .boolean (1 : Int32)))) (by decide) rfl (fits_nar_bool _) (g := (mkF m 53 #[.val (.ref a1), .unset, .unset] [(.int (1 : Int32)), (.ref a1)])) rfl rfl (hb hby d3_53)
        have N107 := Fr.snoc X107 N106 ga1
        have K107 := K106'.wr W107 (Or.inl (List.mem_of_getElem? (i := 0) rfl))
        have Z107 : n0 ≤ h107.size := Nat.le_trans Z106 (Keep.of_wr W107).1
        have E_a1_107 : Exa Z h107 a1 "com/example/tablewalk/tablewalk/SyntheticCast" := OB106.1.wr W107
        have F_a1_film_107 : Fld Z h107 a1 "com/example/tablewalk/tablewalk/SyntheticCast" "film" "J" (.long (u1 + (1 : Int64))) := OB106.2.1.other W107 (Or.inr (slot_ne (Or.inl (hw _ (List.mem_of_getElem? (i := 14) rfl))) (Or.inl (hw _ (List.mem_of_getElem? (i := 38) rfl))) (by decide) (t := .long) (t' := .boolean) (by decide) (by decide)))
        have F_a1_films_107 : Fld Z h107 a1 "com/example/tablewalk/tablewalk/SyntheticCast" "films" "J" (.long u2) := OB106.2.2.1.other W107 (Or.inr (slot_ne (Or.inr (hw _ (List.mem_of_getElem? (i := 17) rfl))) (Or.inl (hw _ (List.mem_of_getElem? (i := 38) rfl))) (by decide) (t := .long) (t' := .boolean) (by decide) (by decide)))
        have F_a1_performers_107 : Fld Z h107 a1 "com/example/tablewalk/tablewalk/SyntheticCast" "performers" "J" (.long u3) := OB106.2.2.2.1.other W107 (Or.inr (slot_ne (Or.inr (hw _ (List.mem_of_getElem? (i := 19) rfl))) (Or.inl (hw _ (List.mem_of_getElem? (i := 38) rfl))) (by decide) (t := .long) (t' := .boolean) (by decide) (by decide)))
        have F_a1_state_107 : Fld Z h107 a1 "com/example/tablewalk/tablewalk/SyntheticCast" "state" "J" (.long s106) := OB106.2.2.2.2.1.other W107 (Or.inr (slot_ne (Or.inl (hw _ (List.mem_of_getElem? (i := 21) rfl))) (Or.inl (hw _ (List.mem_of_getElem? (i := 38) rfl))) (by decide) (t := .long) (t' := .boolean) (by decide) (by decide)))
        have F_a1_left_107 : Fld Z h107 a1 "com/example/tablewalk/tablewalk/SyntheticCast" "left" "J" (.long u5) := OB106.2.2.2.2.2.1.other W107 (Or.inr (slot_ne (Or.inl (hw _ (List.mem_of_getElem? (i := 28) rfl))) (Or.inl (hw _ (List.mem_of_getElem? (i := 38) rfl))) (by decide) (t := .long) (t' := .boolean) (by decide) (by decide)))
        have F_a1_performer_107 : Fld Z h107 a1 "com/example/tablewalk/tablewalk/SyntheticCast" "performer" "J" (.long u7) := OB106.2.2.2.2.2.2.2.other W107 (Or.inr (slot_ne (Or.inl (hw _ (List.mem_of_getElem? (i := 41) rfl))) (Or.inl (hw _ (List.mem_of_getElem? (i := 38) rfl))) (by decide) (t := .long) (t' := .boolean) (by decide) (by decide)))
        have F_a1_small_107 : Fld Z h107 a1 "com/example/tablewalk/tablewalk/SyntheticCast" "small" "Z" (.int (1 : Int32)) := OB106.2.2.2.2.2.2.1.same W107
        refine own_step st107 ?_
        refine own_step (T' := T107) (f' := (mkF m 58 #[.val (.ref a1), .unset, .unset] [(.ref a1), (.ref a1)])) (fun t k => ?_) ?_
        · show Steps p.tables e below (T107.setTop (mkF m 56 #[.val (.ref a1), .unset, .unset] [])) _
          refine XS.aloadN X107.here hx rfl (hb hby d3_56) rfl rfl ?_
          show Steps p.tables e below (T107.setTop (mkF m 57 #[.val (.ref a1), .unset, .unset] [(.ref a1)])) _
          refine XS.aloadN X107.here hx rfl (hb hby d3_57) rfl rfl ?_
          exact k
        obtain ⟨T108, X108, e108, st108⟩ := getF X107 hx hZ hown (host := "") (Or.inl (hw _ (List.mem_of_getElem? (i := 37) rfl))) Via.refl e107 F_a1_small_107 (g := (mkF m 58 #[.val (.ref a1), .unset, .unset] [(.ref a1), (.ref a1)])) rfl rfl (hb hby d3_58)
        refine own_step st108 ?_
        refine own_step (T' := T108) (f' := (mkF m 69 #[.val (.ref a1), .unset, .unset] [(.long (2 : Int64)), (.ref a1), (.long (1 : Int64)), (.ref a1)])) (fun t k => ?_) ?_
        · show Steps p.tables e below (T108.setTop (mkF m 61 #[.val (.ref a1), .unset, .unset] [(.int (1 : Int32)), (.ref a1)])) _
          refine XS.ifNo X108.here hx rfl (hb hby d3_61) rfl ((if0 _ _).trans (feq (by decide : ¬ ((1 : Int32) = (0 : Int32)))).1) ?_
          show Steps p.tables e below (T108.setTop (mkF m 64 #[.val (.ref a1), .unset, .unset] [(.ref a1)])) _
          refine XS.lconst X108.here hx rfl (hb hby d3_64) ?_
          show Steps p.tables e below (T108.setTop (mkF m 65 #[.val (.ref a1), .unset, .unset] [(.long (1 : Int64)), (.ref a1)])) _
          refine XS.aloadN X108.here hx rfl (hb hby d3_65) rfl rfl ?_
          show Steps p.tables e below (T108.setTop (mkF m 66 #[.val (.ref a1), .unset, .unset] [(.ref a1), (.long (1 : Int64)), (.ref a1)])) _
          refine X108.ldc2Long hx hown (mvT hZ (hw _ (List.mem_of_getElem? (i := 57) rfl))) (g := (mkF m 66 #[.val (.ref a1), .unset, .unset] [(.ref a1), (.long (1 : Int64)), (.ref a1)])) rfl (hb hby d3_66) _ ?_
          exact k
        obtain ⟨cq109, q109, q109'⟩ := E_a1_107.cell
        obtain ⟨_, _, ⟨T109, L109, k109, n109⟩, -, X109, ⟨Lc109, hQ109, l109, y109, z109⟩, st109⟩ := X108.privateBack hx (y := (⟨"com/example/tablewalk/tablewalk/SyntheticCast", "draw", "(J)J"⟩ : MethodName)) hown (mvT hZ (hw _ (List.mem_of_getElem? (i := 30) rfl))) (mvT hZ (hw _ (List.mem_of_getElem? (i := 31) rfl))) (own_selp hZ (hw _ (List.mem_of_getElem? (i := 32) rfl)) (hw _ (List.mem_of_getElem? (i := 31) rfl)) (hw _ (List.mem_of_getElem? (i := 4) rfl)) (by decide)) (Cond.privateMethod_at (mvP hZ (hw _ (List.mem_of_getElem? (i := 32) rfl)) (args := #[]))) (mvT hZ (hw _ (List.mem_of_getElem? (i := 33) rfl))) (by decide) (backOf (W := 3) (own_rm4 l Z a0 hw a1 (2 : Int64) (u1 + (1 : Int64)) u2 u3 s106 u5 (1 : Int32) u7 h107 n0 Z107 ga1 ⟨E_a1_107, F_a1_film_107, F_a1_films_107, F_a1_performers_107, F_a1_state_107, F_a1_left_107, F_a1_small_107, F_a1_performer_107⟩ (by decide)) hZ (hw _ (List.mem_of_getElem? (i := 33) rfl)) (hw _ (List.mem_of_getElem? (i := 5) rfl)) (by decide) (by decide)) (g := (mkF m 69 #[.val (.ref a1), .unset, .unset] [(.long (2 : Int64)), (.ref a1), (.long (1 : Int64)), (.ref a1)])) rfl (by rw [hml]; rfl) (Steps.refl _) (a := a1) (by rw [e108]; exact q109) q109' (argsL := [(.long (2 : Int64))]) (rest := [(.long (1 : Int64)), (.ref a1)]) (lenOf own_pd0 rfl) rfl (by show 2 * 0 + _ ≤ _; exact Nat.le_of_eq rfl) (hb hby d3_69) (fun _ _ => ⟨rfl, e108, (by decide : 0 + 0 ≤ _), (by decide : 0 + 0 ≤ _)⟩)
        dsimp only [Pt.U, Pt.locs, Pt.cells, Pt.slots] at X109 l109 y109 z109 st109 hQ109
        subst l109 y109 z109
        obtain ⟨r109, s109, rfl, hr109, hR109, N109q, K109, OB109⟩ := hQ109
        have N109 := Fr.app N107 N109q
        refine own_step (fun t k => st109.trans k) ?_
        have K109' := K107.trans K109 (fun x hx => Or.inl hx)
        have Z109 := Nat.le_trans Z107 K109.1
        refine own_step (T' := T109) (f' := (mkF m 87 #[.val (.ref a1), .unset, .unset] [(.long ((1 : Int64) + r109)), (.ref a1)])) (fun t k => ?_) ?_
        · show Steps p.tables e below (T109.setTop (mkF m 72 #[.val (.ref a1), .unset, .unset] [(.long r109), (.long (1 : Int64)), (.ref a1)])) _
          refine XS.ladd X109.here hx rfl (hb hby d3_72) rfl ?_
          show Steps p.tables e below (T109.setTop (mkF m 73 #[.val (.ref a1), .unset, .unset] [(.long ((1 : Int64) + r109)), (.ref a1)])) _
          refine XS.goto X109.here hx rfl (pc0 := 73) (pc' := 87) rfl (hb hby d3_73) (by decide) (by decide) ?_
          exact k
        show own_Go p e below T109 (mkF m 87 #[.val (.ref a1), .unset, .unset] [(.long ((1 : Int64) + r109)), (.ref a1)]) _
        obtain ⟨yL110, hyL110⟩ : ∃ z : Int64, z = ((1 : Int64) + r109) := ⟨_, rfl⟩
        rw [← hyL110]
        have hlyL110 := own_left1 hyL110 hr109 hR109
        have hnyL110 : ¬ (yL110 = (0 : Int64)) := own_pos hlyL110
        obtain ⟨T111, h111, X111, e111, W111, st111⟩ := putF X109 hx hZ hown (host := "") (Or.inl (hw _ (List.mem_of_getElem? (i := 27) rfl))) Via.refl rfl OB109.2.2.2.2.2.1 OB109.1 (Or.inl (hw _ (List.mem_of_getElem? (i := 28) rfl))) (hw _ (List.mem_of_getElem? (i := 4) rfl)) (ty := .long) (by decide) rfl rfl (g := (mkF m 87 #[.val (.ref a1), .unset, .unset] [(.long yL110), (.ref a1)])) rfl rfl (hb hby d3_87)
        have N111 := Fr.snoc X111 N109 ga1
        have K111 := K109'.wr W111 (Or.inl (List.mem_of_getElem? (i := 0) rfl))
        have Z111 : n0 ≤ h111.size := Nat.le_trans Z109 (Keep.of_wr W111).1
        have E_a1_111 : Exa Z h111 a1 "com/example/tablewalk/tablewalk/SyntheticCast" := OB109.1.wr W111
        have F_a1_film_111 : Fld Z h111 a1 "com/example/tablewalk/tablewalk/SyntheticCast" "film" "J" (.long (u1 + (1 : Int64))) := OB109.2.1.other W111 (Or.inr (slot_ne (Or.inl (hw _ (List.mem_of_getElem? (i := 14) rfl))) (Or.inl (hw _ (List.mem_of_getElem? (i := 28) rfl))) (by decide) (t := .long) (t' := .long) (by decide) (by decide)))
        have F_a1_films_111 : Fld Z h111 a1 "com/example/tablewalk/tablewalk/SyntheticCast" "films" "J" (.long u2) := OB109.2.2.1.other W111 (Or.inr (slot_ne (Or.inr (hw _ (List.mem_of_getElem? (i := 17) rfl))) (Or.inl (hw _ (List.mem_of_getElem? (i := 28) rfl))) (by decide) (t := .long) (t' := .long) (by decide) (by decide)))
        have F_a1_performers_111 : Fld Z h111 a1 "com/example/tablewalk/tablewalk/SyntheticCast" "performers" "J" (.long u3) := OB109.2.2.2.1.other W111 (Or.inr (slot_ne (Or.inr (hw _ (List.mem_of_getElem? (i := 19) rfl))) (Or.inl (hw _ (List.mem_of_getElem? (i := 28) rfl))) (by decide) (t := .long) (t' := .long) (by decide) (by decide)))
        have F_a1_state_111 : Fld Z h111 a1 "com/example/tablewalk/tablewalk/SyntheticCast" "state" "J" (.long s109) := OB109.2.2.2.2.1.other W111 (Or.inr (slot_ne (Or.inl (hw _ (List.mem_of_getElem? (i := 21) rfl))) (Or.inl (hw _ (List.mem_of_getElem? (i := 28) rfl))) (by decide) (t := .long) (t' := .long) (by decide) (by decide)))
        have F_a1_small_111 : Fld Z h111 a1 "com/example/tablewalk/tablewalk/SyntheticCast" "small" "Z" (.int (1 : Int32)) := OB109.2.2.2.2.2.2.1.other W111 (Or.inr (slot_ne (Or.inl (hw _ (List.mem_of_getElem? (i := 38) rfl))) (Or.inl (hw _ (List.mem_of_getElem? (i := 28) rfl))) (by decide) (t := .boolean) (t' := .long) (by decide) (by decide)))
        have F_a1_performer_111 : Fld Z h111 a1 "com/example/tablewalk/tablewalk/SyntheticCast" "performer" "J" (.long u7) := OB109.2.2.2.2.2.2.2.other W111 (Or.inr (slot_ne (Or.inl (hw _ (List.mem_of_getElem? (i := 41) rfl))) (Or.inl (hw _ (List.mem_of_getElem? (i := 28) rfl))) (by decide) (t := .long) (t' := .long) (by decide) (by decide)))
        have F_a1_left_111 : Fld Z h111 a1 "com/example/tablewalk/tablewalk/SyntheticCast" "left" "J" (.long yL110) := OB109.2.2.2.2.2.1.same W111
        refine own_step st111 ?_
        refine own_step (T' := T111) (f' := (mkF m 1 #[.val (.ref a1), .unset, .unset] [(.ref a1)])) (fun t k => ?_) ?_
        · show Steps p.tables e below (T111.setTop (mkF m 90 #[.val (.ref a1), .unset, .unset] [])) _
          refine XS.goto X111.here hx rfl (pc0 := 90) (pc' := 0) rfl (hb hby d3_90) (by decide) (by decide) ?_
          show Steps p.tables e below (T111.setTop (mkF m 0 #[.val (.ref a1), .unset, .unset] [])) _
          refine XS.aloadN X111.here hx rfl (hb hby d3_0) rfl rfl ?_
          exact k
        obtain ⟨T112, X112, e112, st112⟩ := getF X111 hx hZ hown (host := "") (Or.inl (hw _ (List.mem_of_getElem? (i := 27) rfl))) Via.refl e111 F_a1_left_111 (g := (mkF m 1 #[.val (.ref a1), .unset, .unset] [(.ref a1)])) rfl rfl (hb hby d3_1)
        refine own_step st112 ?_
        refine own_step (T' := T112) (f' := (mkF m 95 #[.val (.ref a1), .unset, .unset] [(.ref a1), (.ref a1)])) (fun t k => ?_) ?_
        · show Steps p.tables e below (T112.setTop (mkF m 4 #[.val (.ref a1), .unset, .unset] [(.long yL110)])) _
          refine XS.lconst X112.here hx rfl (hb hby d3_4) ?_
          show Steps p.tables e below (T112.setTop (mkF m 5 #[.val (.ref a1), .unset, .unset] [(.long (0 : Int64)), (.long yL110)])) _
          refine XS.lcmp X112.here hx rfl (hb hby d3_5) rfl ?_
          show Steps p.tables e below (T112.setTop (mkF m 6 #[.val (.ref a1), .unset, .unset] [(.int (lcmpW yL110 (0 : Int64)))])) _
          refine XS.ifYes X112.here hx rfl (pc0 := 6) (pc' := 93) rfl (hb hby d3_6) rfl ((if0 _ _).trans (feq (fun q => hnyL110 ((lw_eq yL110 (0 : Int64)).mp q))).2) (by decide) (by decide) ?_
          show Steps p.tables e below (T112.setTop (mkF m 93 #[.val (.ref a1), .unset, .unset] [])) _
          refine XS.aloadN X112.here hx rfl (hb hby d3_93) rfl rfl ?_
          show Steps p.tables e below (T112.setTop (mkF m 94 #[.val (.ref a1), .unset, .unset] [(.ref a1)])) _
          refine XS.dup X112.here hx rfl (hb hby d3_94) rfl rfl ?_
          exact k
        obtain ⟨T113, X113, e113, st113⟩ := getF X112 hx hZ hown (host := "") (Or.inl (hw _ (List.mem_of_getElem? (i := 27) rfl))) Via.refl e112 F_a1_left_111 (g := (mkF m 95 #[.val (.ref a1), .unset, .unset] [(.ref a1), (.ref a1)])) rfl rfl (hb hby d3_95)
        refine own_step st113 ?_
        refine own_step (T' := T113) (f' := (mkF m 100 #[.val (.ref a1), .unset, .unset] [(.long (yL110 - (1 : Int64))), (.ref a1)])) (fun t k => ?_) ?_
        · show Steps p.tables e below (T113.setTop (mkF m 98 #[.val (.ref a1), .unset, .unset] [(.long yL110), (.ref a1)])) _
          refine XS.lconst X113.here hx rfl (hb hby d3_98) ?_
          show Steps p.tables e below (T113.setTop (mkF m 99 #[.val (.ref a1), .unset, .unset] [(.long (1 : Int64)), (.long yL110), (.ref a1)])) _
          refine XS.lsub X113.here hx rfl (hb hby d3_99) rfl ?_
          exact k
        obtain ⟨T114, h114, X114, e114, W114, st114⟩ := putF X113 hx hZ hown (host := "") (Or.inl (hw _ (List.mem_of_getElem? (i := 27) rfl))) Via.refl e113 F_a1_left_111 E_a1_111 (Or.inl (hw _ (List.mem_of_getElem? (i := 28) rfl))) (hw _ (List.mem_of_getElem? (i := 4) rfl)) (ty := .long) (by decide) rfl rfl (g := (mkF m 100 #[.val (.ref a1), .unset, .unset] [(.long (yL110 - (1 : Int64))), (.ref a1)])) rfl rfl (hb hby d3_100)
        have N114 := Fr.snoc X114 N111 ga1
        have K114 := K111.wr W114 (Or.inl (List.mem_of_getElem? (i := 0) rfl))
        have Z114 : n0 ≤ h114.size := Nat.le_trans Z111 (Keep.of_wr W114).1
        have E_a1_114 : Exa Z h114 a1 "com/example/tablewalk/tablewalk/SyntheticCast" := E_a1_111.wr W114
        have F_a1_film_114 : Fld Z h114 a1 "com/example/tablewalk/tablewalk/SyntheticCast" "film" "J" (.long (u1 + (1 : Int64))) := F_a1_film_111.other W114 (Or.inr (slot_ne (Or.inl (hw _ (List.mem_of_getElem? (i := 14) rfl))) (Or.inl (hw _ (List.mem_of_getElem? (i := 28) rfl))) (by decide) (t := .long) (t' := .long) (by decide) (by decide)))
        have F_a1_films_114 : Fld Z h114 a1 "com/example/tablewalk/tablewalk/SyntheticCast" "films" "J" (.long u2) := F_a1_films_111.other W114 (Or.inr (slot_ne (Or.inr (hw _ (List.mem_of_getElem? (i := 17) rfl))) (Or.inl (hw _ (List.mem_of_getElem? (i := 28) rfl))) (by decide) (t := .long) (t' := .long) (by decide) (by decide)))
        have F_a1_performers_114 : Fld Z h114 a1 "com/example/tablewalk/tablewalk/SyntheticCast" "performers" "J" (.long u3) := F_a1_performers_111.other W114 (Or.inr (slot_ne (Or.inr (hw _ (List.mem_of_getElem? (i := 19) rfl))) (Or.inl (hw _ (List.mem_of_getElem? (i := 28) rfl))) (by decide) (t := .long) (t' := .long) (by decide) (by decide)))
        have F_a1_state_114 : Fld Z h114 a1 "com/example/tablewalk/tablewalk/SyntheticCast" "state" "J" (.long s109) := F_a1_state_111.other W114 (Or.inr (slot_ne (Or.inl (hw _ (List.mem_of_getElem? (i := 21) rfl))) (Or.inl (hw _ (List.mem_of_getElem? (i := 28) rfl))) (by decide) (t := .long) (t' := .long) (by decide) (by decide)))
        have F_a1_small_114 : Fld Z h114 a1 "com/example/tablewalk/tablewalk/SyntheticCast" "small" "Z" (.int (1 : Int32)) := F_a1_small_111.other W114 (Or.inr (slot_ne (Or.inl (hw _ (List.mem_of_getElem? (i := 38) rfl))) (Or.inl (hw _ (List.mem_of_getElem? (i := 28) rfl))) (by decide) (t := .boolean) (t' := .long) (by decide) (by decide)))
        have F_a1_performer_114 : Fld Z h114 a1 "com/example/tablewalk/tablewalk/SyntheticCast" "performer" "J" (.long u7) := F_a1_performer_111.other W114 (Or.inr (slot_ne (Or.inl (hw _ (List.mem_of_getElem? (i := 41) rfl))) (Or.inl (hw _ (List.mem_of_getElem? (i := 28) rfl))) (by decide) (t := .long) (t' := .long) (by decide) (by decide)))
        have F_a1_left_114 : Fld Z h114 a1 "com/example/tablewalk/tablewalk/SyntheticCast" "left" "J" (.long (yL110 - (1 : Int64))) := F_a1_left_111.same W114
        refine own_step st114 ?_
        refine own_step (T' := T114) (f' := (mkF m 104 #[.val (.ref a1), .unset, .unset] [(.ref a1)])) (fun t k => ?_) ?_
        · show Steps p.tables e below (T114.setTop (mkF m 103 #[.val (.ref a1), .unset, .unset] [])) _
          refine XS.aloadN X114.here hx rfl (hb hby d3_103) rfl rfl ?_
          exact k
        obtain ⟨T115, X115, e115, st115⟩ := getF X114 hx hZ hown (host := "") (Or.inl (hw _ (List.mem_of_getElem? (i := 37) rfl))) Via.refl e114 F_a1_small_114 (g := (mkF m 104 #[.val (.ref a1), .unset, .unset] [(.ref a1)])) rfl rfl (hb hby d3_104)
        refine own_step st115 ?_
        refine own_step (T' := T115) (f' := (mkF m 113 #[.val (.ref a1), .unset, .unset] [(.ref a1), (.ref a1), (.ref a1)])) (fun t k => ?_) ?_
        · show Steps p.tables e below (T115.setTop (mkF m 107 #[.val (.ref a1), .unset, .unset] [(.int (1 : Int32))])) _
          refine XS.ifNo X115.here hx rfl (hb hby d3_107) rfl ((if0 _ _).trans (feq (by decide : ¬ ((1 : Int32) = (0 : Int32)))).1) ?_
          show Steps p.tables e below (T115.setTop (mkF m 110 #[.val (.ref a1), .unset, .unset] [])) _
          refine XS.aloadN X115.here hx rfl (hb hby d3_110) rfl rfl ?_
          show Steps p.tables e below (T115.setTop (mkF m 111 #[.val (.ref a1), .unset, .unset] [(.ref a1)])) _
          refine XS.aloadN X115.here hx rfl (hb hby d3_111) rfl rfl ?_
          show Steps p.tables e below (T115.setTop (mkF m 112 #[.val (.ref a1), .unset, .unset] [(.ref a1), (.ref a1)])) _
          refine XS.aloadN X115.here hx rfl (hb hby d3_112) rfl rfl ?_
          exact k
        obtain ⟨T116, X116, e116, st116⟩ := getF X115 hx hZ hown (host := "") (Or.inl (hw _ (List.mem_of_getElem? (i := 18) rfl))) Via.refl e115 F_a1_performers_114 (g := (mkF m 113 #[.val (.ref a1), .unset, .unset] [(.ref a1), (.ref a1), (.ref a1)])) rfl rfl (hb hby d3_113)
        refine own_step st116 ?_
        obtain ⟨cq117, q117, q117'⟩ := E_a1_114.cell
        obtain ⟨_, _, ⟨T117, L117, k117, n117⟩, -, X117, ⟨Lc117, hQ117, l117, y117, z117⟩, st117⟩ := X116.privateBack hx (y := (⟨"com/example/tablewalk/tablewalk/SyntheticCast", "draw", "(J)J"⟩ : MethodName)) hown (mvT hZ (hw _ (List.mem_of_getElem? (i := 30) rfl))) (mvT hZ (hw _ (List.mem_of_getElem? (i := 31) rfl))) (own_selp hZ (hw _ (List.mem_of_getElem? (i := 32) rfl)) (hw _ (List.mem_of_getElem? (i := 31) rfl)) (hw _ (List.mem_of_getElem? (i := 4) rfl)) (by decide)) (Cond.privateMethod_at (mvP hZ (hw _ (List.mem_of_getElem? (i := 32) rfl)) (args := #[]))) (mvT hZ (hw _ (List.mem_of_getElem? (i := 33) rfl))) (by decide) (backOf (W := 1) (own_rm4 l Z a0 hw a1 u3 (u1 + (1 : Int64)) u2 u3 s109 (yL110 - (1 : Int64)) (1 : Int32) u7 h114 n0 Z114 ga1 ⟨E_a1_114, F_a1_film_114, F_a1_films_114, F_a1_performers_114, F_a1_state_114, F_a1_left_114, F_a1_small_114, F_a1_performer_114⟩ hperf0) hZ (hw _ (List.mem_of_getElem? (i := 33) rfl)) (hw _ (List.mem_of_getElem? (i := 5) rfl)) (by decide) (by decide)) (g := (mkF m 116 #[.val (.ref a1), .unset, .unset] [(.long u3), (.ref a1), (.ref a1)])) rfl (by rw [hml]; rfl) (Steps.refl _) (a := a1) (by rw [e116]; exact q117) q117' (argsL := [(.long u3)]) (rest := [(.ref a1)]) (lenOf own_pd0 rfl) rfl (by show 2 * 0 + _ ≤ _; exact Nat.le_of_eq rfl) (hb hby d3_116) (fun _ _ => ⟨rfl, e116, (by decide : 0 + 0 ≤ _), (by decide : 0 + 0 ≤ _)⟩)
        dsimp only [Pt.U, Pt.locs, Pt.cells, Pt.slots] at X117 l117 y117 z117 st117 hQ117
        subst l117 y117 z117
        obtain ⟨r117, s117, rfl, hr117, hR117, N117q, K117, OB117⟩ := hQ117
        have N117 := Fr.app N114 N117q
        refine own_step (fun t k => st117.trans k) ?_
        have K117' := K114.trans K117 (fun x hx => Or.inl hx)
        have Z117 := Nat.le_trans Z114 K117.1
        obtain ⟨T118, h118, X118, e118, W118, st118⟩ := putF X117 hx hZ hown (host := "") (Or.inl (hw _ (List.mem_of_getElem? (i := 40) rfl))) Via.refl rfl OB117.2.2.2.2.2.2.2 OB117.1 (Or.inl (hw _ (List.mem_of_getElem? (i := 41) rfl))) (hw _ (List.mem_of_getElem? (i := 4) rfl)) (ty := .long) (by decide) rfl rfl (g := (mkF m 119 #[.val (.ref a1), .unset, .unset] [(.long r117), (.ref a1)])) rfl rfl (hb hby d3_119)
        have N118 := Fr.snoc X118 N117 ga1
        have K118 := K117'.wr W118 (Or.inl (List.mem_of_getElem? (i := 0) rfl))
        have Z118 : n0 ≤ h118.size := Nat.le_trans Z117 (Keep.of_wr W118).1
        have E_a1_118 : Exa Z h118 a1 "com/example/tablewalk/tablewalk/SyntheticCast" := OB117.1.wr W118
        have F_a1_film_118 : Fld Z h118 a1 "com/example/tablewalk/tablewalk/SyntheticCast" "film" "J" (.long (u1 + (1 : Int64))) := OB117.2.1.other W118 (Or.inr (slot_ne (Or.inl (hw _ (List.mem_of_getElem? (i := 14) rfl))) (Or.inl (hw _ (List.mem_of_getElem? (i := 41) rfl))) (by decide) (t := .long) (t' := .long) (by decide) (by decide)))
        have F_a1_films_118 : Fld Z h118 a1 "com/example/tablewalk/tablewalk/SyntheticCast" "films" "J" (.long u2) := OB117.2.2.1.other W118 (Or.inr (slot_ne (Or.inr (hw _ (List.mem_of_getElem? (i := 17) rfl))) (Or.inl (hw _ (List.mem_of_getElem? (i := 41) rfl))) (by decide) (t := .long) (t' := .long) (by decide) (by decide)))
        have F_a1_performers_118 : Fld Z h118 a1 "com/example/tablewalk/tablewalk/SyntheticCast" "performers" "J" (.long u3) := OB117.2.2.2.1.other W118 (Or.inr (slot_ne (Or.inr (hw _ (List.mem_of_getElem? (i := 19) rfl))) (Or.inl (hw _ (List.mem_of_getElem? (i := 41) rfl))) (by decide) (t := .long) (t' := .long) (by decide) (by decide)))
        have F_a1_state_118 : Fld Z h118 a1 "com/example/tablewalk/tablewalk/SyntheticCast" "state" "J" (.long s117) := OB117.2.2.2.2.1.other W118 (Or.inr (slot_ne (Or.inl (hw _ (List.mem_of_getElem? (i := 21) rfl))) (Or.inl (hw _ (List.mem_of_getElem? (i := 41) rfl))) (by decide) (t := .long) (t' := .long) (by decide) (by decide)))
        have F_a1_left_118 : Fld Z h118 a1 "com/example/tablewalk/tablewalk/SyntheticCast" "left" "J" (.long (yL110 - (1 : Int64))) := OB117.2.2.2.2.2.1.other W118 (Or.inr (slot_ne (Or.inl (hw _ (List.mem_of_getElem? (i := 28) rfl))) (Or.inl (hw _ (List.mem_of_getElem? (i := 41) rfl))) (by decide) (t := .long) (t' := .long) (by decide) (by decide)))
        have F_a1_small_118 : Fld Z h118 a1 "com/example/tablewalk/tablewalk/SyntheticCast" "small" "Z" (.int (1 : Int32)) := OB117.2.2.2.2.2.2.1.other W118 (Or.inr (slot_ne (Or.inl (hw _ (List.mem_of_getElem? (i := 38) rfl))) (Or.inl (hw _ (List.mem_of_getElem? (i := 41) rfl))) (by decide) (t := .boolean) (t' := .long) (by decide) (by decide)))
        have F_a1_performer_118 : Fld Z h118 a1 "com/example/tablewalk/tablewalk/SyntheticCast" "performer" "J" (.long r117) := OB117.2.2.2.2.2.2.2.same W118
        refine own_step st118 ?_
        refine own_step (T' := T118) (f' := (mkF m 154 #[.val (.ref a1), .unset, .unset] [(.int (1 : Int32))])) (fun t k => ?_) ?_
        · show Steps p.tables e below (T118.setTop (mkF m 122 #[.val (.ref a1), .unset, .unset] [])) _
          refine XS.goto X118.here hx rfl (pc0 := 122) (pc' := 153) rfl (hb hby d3_122) (by decide) (by decide) ?_
          show Steps p.tables e below (T118.setTop (mkF m 153 #[.val (.ref a1), .unset, .unset] [])) _
          refine XS.iconst X118.here hx rfl (hb hby d3_153) ?_
          exact k
        exact own_retZ X118 hx hret hlk (hb hby d3_154) (by decide) (by decide) (by rw [e118]; exact ⟨_, _, _, _, _, _, rfl, N118, K118, ⟨E_a1_118, F_a1_film_118, F_a1_films_118, F_a1_performers_118, F_a1_state_118, F_a1_left_118, F_a1_small_118, F_a1_performer_118⟩, Or.inr ⟨rfl, Or.inr ⟨hc6_0, hc20_1, rfl⟩, (own_dec (Int.le_of_lt hlyL110) hnyL110), ⟨hr117, hR117⟩⟩⟩)
      · refine own_step (T' := T106) (f' := (mkF m 53 #[.val (.ref a1), .unset, .unset] [(.int (0 : Int32)), (.ref a1)])) (fun t k => ?_) ?_
        · show Steps p.tables e below (T106.setTop (mkF m 45 #[.val (.ref a1), .unset, .unset] [(.int (lcmpW r106 (0 : Int64))), (.ref a1)])) _
          refine XS.ifYes X106.here hx rfl (pc0 := 45) (pc' := 52) rfl (hb hby d3_45) rfl ((if0 _ _).trans (feq (fun q => hc45_2 ((lw_eq r106 (0 : Int64)).mp q))).2) (by decide) (by decide) ?_
          show Steps p.tables e below (T106.setTop (mkF m 52 #[.val (.ref a1), .unset, .unset] [(.ref a1)])) _
          refine XS.iconst X106.here hx rfl (hb hby d3_52) ?_
          exact k
        obtain ⟨T119, h119, X119, e119, W119, st119⟩ := putFN X106 hx hZ hown (hw _ (List.mem_of_getElem? (i := 37) rfl)) Via.refl rfl OB106.2.2.2.2.2.2.1 OB106.1 (Or.inl (hw _ (List.mem_of_getElem? (i := 38) rfl))) (hw _ (List.mem_of_getElem? (i := 4) rfl)) (ty := .boolean) (v' := (.int (nar .boolean (0 : Int32)))) (by decide) rfl (fits_nar_bool _) (g := (mkF m 53 #[.val (.ref a1), .unset, .unset] [(.int (0 : Int32)), (.ref a1)])) rfl rfl (hb hby d3_53)
        have N119 := Fr.snoc X119 N106 ga1
        have K119 := K106'.wr W119 (Or.inl (List.mem_of_getElem? (i := 0) rfl))
        have Z119 : n0 ≤ h119.size := Nat.le_trans Z106 (Keep.of_wr W119).1
        have E_a1_119 : Exa Z h119 a1 "com/example/tablewalk/tablewalk/SyntheticCast" := OB106.1.wr W119
        have F_a1_film_119 : Fld Z h119 a1 "com/example/tablewalk/tablewalk/SyntheticCast" "film" "J" (.long (u1 + (1 : Int64))) := OB106.2.1.other W119 (Or.inr (slot_ne (Or.inl (hw _ (List.mem_of_getElem? (i := 14) rfl))) (Or.inl (hw _ (List.mem_of_getElem? (i := 38) rfl))) (by decide) (t := .long) (t' := .boolean) (by decide) (by decide)))
        have F_a1_films_119 : Fld Z h119 a1 "com/example/tablewalk/tablewalk/SyntheticCast" "films" "J" (.long u2) := OB106.2.2.1.other W119 (Or.inr (slot_ne (Or.inr (hw _ (List.mem_of_getElem? (i := 17) rfl))) (Or.inl (hw _ (List.mem_of_getElem? (i := 38) rfl))) (by decide) (t := .long) (t' := .boolean) (by decide) (by decide)))
        have F_a1_performers_119 : Fld Z h119 a1 "com/example/tablewalk/tablewalk/SyntheticCast" "performers" "J" (.long u3) := OB106.2.2.2.1.other W119 (Or.inr (slot_ne (Or.inr (hw _ (List.mem_of_getElem? (i := 19) rfl))) (Or.inl (hw _ (List.mem_of_getElem? (i := 38) rfl))) (by decide) (t := .long) (t' := .boolean) (by decide) (by decide)))
        have F_a1_state_119 : Fld Z h119 a1 "com/example/tablewalk/tablewalk/SyntheticCast" "state" "J" (.long s106) := OB106.2.2.2.2.1.other W119 (Or.inr (slot_ne (Or.inl (hw _ (List.mem_of_getElem? (i := 21) rfl))) (Or.inl (hw _ (List.mem_of_getElem? (i := 38) rfl))) (by decide) (t := .long) (t' := .boolean) (by decide) (by decide)))
        have F_a1_left_119 : Fld Z h119 a1 "com/example/tablewalk/tablewalk/SyntheticCast" "left" "J" (.long u5) := OB106.2.2.2.2.2.1.other W119 (Or.inr (slot_ne (Or.inl (hw _ (List.mem_of_getElem? (i := 28) rfl))) (Or.inl (hw _ (List.mem_of_getElem? (i := 38) rfl))) (by decide) (t := .long) (t' := .boolean) (by decide) (by decide)))
        have F_a1_performer_119 : Fld Z h119 a1 "com/example/tablewalk/tablewalk/SyntheticCast" "performer" "J" (.long u7) := OB106.2.2.2.2.2.2.2.other W119 (Or.inr (slot_ne (Or.inl (hw _ (List.mem_of_getElem? (i := 41) rfl))) (Or.inl (hw _ (List.mem_of_getElem? (i := 38) rfl))) (by decide) (t := .long) (t' := .boolean) (by decide) (by decide)))
        have F_a1_small_119 : Fld Z h119 a1 "com/example/tablewalk/tablewalk/SyntheticCast" "small" "Z" (.int (0 : Int32)) := OB106.2.2.2.2.2.2.1.same W119
        refine own_step st119 ?_
        refine own_step (T' := T119) (f' := (mkF m 58 #[.val (.ref a1), .unset, .unset] [(.ref a1), (.ref a1)])) (fun t k => ?_) ?_
        · show Steps p.tables e below (T119.setTop (mkF m 56 #[.val (.ref a1), .unset, .unset] [])) _
          refine XS.aloadN X119.here hx rfl (hb hby d3_56) rfl rfl ?_
          show Steps p.tables e below (T119.setTop (mkF m 57 #[.val (.ref a1), .unset, .unset] [(.ref a1)])) _
          refine XS.aloadN X119.here hx rfl (hb hby d3_57) rfl rfl ?_
          exact k
        obtain ⟨T120, X120, e120, st120⟩ := getF X119 hx hZ hown (host := "") (Or.inl (hw _ (List.mem_of_getElem? (i := 37) rfl))) Via.refl e119 F_a1_small_119 (g := (mkF m 58 #[.val (.ref a1), .unset, .unset] [(.ref a1), (.ref a1)])) rfl rfl (hb hby d3_58)
        refine own_step st120 ?_
        refine own_step (T' := T120) (f' := (mkF m 83 #[.val (.ref a1), .unset, .unset] [(.long (60 : Int64)), (.ref a1), (.long (4 : Int64)), (.ref a1)])) (fun t k => ?_) ?_
        · show Steps p.tables e below (T120.setTop (mkF m 61 #[.val (.ref a1), .unset, .unset] [(.int (0 : Int32)), (.ref a1)])) _
          refine XS.ifYes X120.here hx rfl (pc0 := 61) (pc' := 76) rfl (hb hby d3_61) rfl ((if0 _ _).trans (teq (by decide : (0 : Int32) = (0 : Int32))).1) (by decide) (by decide) ?_
          show Steps p.tables e below (T120.setTop (mkF m 76 #[.val (.ref a1), .unset, .unset] [(.ref a1)])) _
          refine X120.ldc2Long hx hown (mvT hZ (hw _ (List.mem_of_getElem? (i := 29) rfl))) (g := (mkF m 76 #[.val (.ref a1), .unset, .unset] [(.ref a1)])) rfl (hb hby d3_76) _ ?_
          show Steps p.tables e below (T120.setTop (mkF m 79 #[.val (.ref a1), .unset, .unset] [(.long (4 : Int64)), (.ref a1)])) _
          refine XS.aloadN X120.here hx rfl (hb hby d3_79) rfl rfl ?_
          show Steps p.tables e below (T120.setTop (mkF m 80 #[.val (.ref a1), .unset, .unset] [(.ref a1), (.long (4 : Int64)), (.ref a1)])) _
          refine X120.ldc2Long hx hown (mvT hZ (hw _ (List.mem_of_getElem? (i := 39) rfl))) (g := (mkF m 80 #[.val (.ref a1), .unset, .unset] [(.ref a1), (.long (4 : Int64)), (.ref a1)])) rfl (hb hby d3_80) _ ?_
          exact k
        obtain ⟨cq121, q121, q121'⟩ := E_a1_119.cell
        obtain ⟨_, _, ⟨T121, L121, k121, n121⟩, -, X121, ⟨Lc121, hQ121, l121, y121, z121⟩, st121⟩ := X120.privateBack hx (y := (⟨"com/example/tablewalk/tablewalk/SyntheticCast", "draw", "(J)J"⟩ : MethodName)) hown (mvT hZ (hw _ (List.mem_of_getElem? (i := 30) rfl))) (mvT hZ (hw _ (List.mem_of_getElem? (i := 31) rfl))) (own_selp hZ (hw _ (List.mem_of_getElem? (i := 32) rfl)) (hw _ (List.mem_of_getElem? (i := 31) rfl)) (hw _ (List.mem_of_getElem? (i := 4) rfl)) (by decide)) (Cond.privateMethod_at (mvP hZ (hw _ (List.mem_of_getElem? (i := 32) rfl)) (args := #[]))) (mvT hZ (hw _ (List.mem_of_getElem? (i := 33) rfl))) (by decide) (backOf (W := 3) (own_rm4 l Z a0 hw a1 (60 : Int64) (u1 + (1 : Int64)) u2 u3 s106 u5 (0 : Int32) u7 h119 n0 Z119 ga1 ⟨E_a1_119, F_a1_film_119, F_a1_films_119, F_a1_performers_119, F_a1_state_119, F_a1_left_119, F_a1_small_119, F_a1_performer_119⟩ (by decide)) hZ (hw _ (List.mem_of_getElem? (i := 33) rfl)) (hw _ (List.mem_of_getElem? (i := 5) rfl)) (by decide) (by decide)) (g := (mkF m 83 #[.val (.ref a1), .unset, .unset] [(.long (60 : Int64)), (.ref a1), (.long (4 : Int64)), (.ref a1)])) rfl (by rw [hml]; rfl) (Steps.refl _) (a := a1) (by rw [e120]; exact q121) q121' (argsL := [(.long (60 : Int64))]) (rest := [(.long (4 : Int64)), (.ref a1)]) (lenOf own_pd0 rfl) rfl (by show 2 * 0 + _ ≤ _; exact Nat.le_of_eq rfl) (hb hby d3_83) (fun _ _ => ⟨rfl, e120, (by decide : 0 + 0 ≤ _), (by decide : 0 + 0 ≤ _)⟩)
        dsimp only [Pt.U, Pt.locs, Pt.cells, Pt.slots] at X121 l121 y121 z121 st121 hQ121
        subst l121 y121 z121
        obtain ⟨r121, s121, rfl, hr121, hR121, N121q, K121, OB121⟩ := hQ121
        have N121 := Fr.app N119 N121q
        refine own_step (fun t k => st121.trans k) ?_
        have K121' := K119.trans K121 (fun x hx => Or.inl hx)
        have Z121 := Nat.le_trans Z119 K121.1
        refine own_step (T' := T121) (f' := (mkF m 87 #[.val (.ref a1), .unset, .unset] [(.long ((4 : Int64) + r121)), (.ref a1)])) (fun t k => ?_) ?_
        · show Steps p.tables e below (T121.setTop (mkF m 86 #[.val (.ref a1), .unset, .unset] [(.long r121), (.long (4 : Int64)), (.ref a1)])) _
          refine XS.ladd X121.here hx rfl (hb hby d3_86) rfl ?_
          exact k
        show own_Go p e below T121 (mkF m 87 #[.val (.ref a1), .unset, .unset] [(.long ((4 : Int64) + r121)), (.ref a1)]) _
        obtain ⟨yL122, hyL122⟩ : ∃ z : Int64, z = ((4 : Int64) + r121) := ⟨_, rfl⟩
        rw [← hyL122]
        have hlyL122 := own_left4 hyL122 hr121 hR121
        have hnyL122 : ¬ (yL122 = (0 : Int64)) := own_pos hlyL122
        obtain ⟨T123, h123, X123, e123, W123, st123⟩ := putF X121 hx hZ hown (host := "") (Or.inl (hw _ (List.mem_of_getElem? (i := 27) rfl))) Via.refl rfl OB121.2.2.2.2.2.1 OB121.1 (Or.inl (hw _ (List.mem_of_getElem? (i := 28) rfl))) (hw _ (List.mem_of_getElem? (i := 4) rfl)) (ty := .long) (by decide) rfl rfl (g := (mkF m 87 #[.val (.ref a1), .unset, .unset] [(.long yL122), (.ref a1)])) rfl rfl (hb hby d3_87)
        have N123 := Fr.snoc X123 N121 ga1
        have K123 := K121'.wr W123 (Or.inl (List.mem_of_getElem? (i := 0) rfl))
        have Z123 : n0 ≤ h123.size := Nat.le_trans Z121 (Keep.of_wr W123).1
        have E_a1_123 : Exa Z h123 a1 "com/example/tablewalk/tablewalk/SyntheticCast" := OB121.1.wr W123
        have F_a1_film_123 : Fld Z h123 a1 "com/example/tablewalk/tablewalk/SyntheticCast" "film" "J" (.long (u1 + (1 : Int64))) := OB121.2.1.other W123 (Or.inr (slot_ne (Or.inl (hw _ (List.mem_of_getElem? (i := 14) rfl))) (Or.inl (hw _ (List.mem_of_getElem? (i := 28) rfl))) (by decide) (t := .long) (t' := .long) (by decide) (by decide)))
        have F_a1_films_123 : Fld Z h123 a1 "com/example/tablewalk/tablewalk/SyntheticCast" "films" "J" (.long u2) := OB121.2.2.1.other W123 (Or.inr (slot_ne (Or.inr (hw _ (List.mem_of_getElem? (i := 17) rfl))) (Or.inl (hw _ (List.mem_of_getElem? (i := 28) rfl))) (by decide) (t := .long) (t' := .long) (by decide) (by decide)))
        have F_a1_performers_123 : Fld Z h123 a1 "com/example/tablewalk/tablewalk/SyntheticCast" "performers" "J" (.long u3) := OB121.2.2.2.1.other W123 (Or.inr (slot_ne (Or.inr (hw _ (List.mem_of_getElem? (i := 19) rfl))) (Or.inl (hw _ (List.mem_of_getElem? (i := 28) rfl))) (by decide) (t := .long) (t' := .long) (by decide) (by decide)))
        have F_a1_state_123 : Fld Z h123 a1 "com/example/tablewalk/tablewalk/SyntheticCast" "state" "J" (.long s121) := OB121.2.2.2.2.1.other W123 (Or.inr (slot_ne (Or.inl (hw _ (List.mem_of_getElem? (i := 21) rfl))) (Or.inl (hw _ (List.mem_of_getElem? (i := 28) rfl))) (by decide) (t := .long) (t' := .long) (by decide) (by decide)))
        have F_a1_small_123 : Fld Z h123 a1 "com/example/tablewalk/tablewalk/SyntheticCast" "small" "Z" (.int (0 : Int32)) := OB121.2.2.2.2.2.2.1.other W123 (Or.inr (slot_ne (Or.inl (hw _ (List.mem_of_getElem? (i := 38) rfl))) (Or.inl (hw _ (List.mem_of_getElem? (i := 28) rfl))) (by decide) (t := .boolean) (t' := .long) (by decide) (by decide)))
        have F_a1_performer_123 : Fld Z h123 a1 "com/example/tablewalk/tablewalk/SyntheticCast" "performer" "J" (.long u7) := OB121.2.2.2.2.2.2.2.other W123 (Or.inr (slot_ne (Or.inl (hw _ (List.mem_of_getElem? (i := 41) rfl))) (Or.inl (hw _ (List.mem_of_getElem? (i := 28) rfl))) (by decide) (t := .long) (t' := .long) (by decide) (by decide)))
        have F_a1_left_123 : Fld Z h123 a1 "com/example/tablewalk/tablewalk/SyntheticCast" "left" "J" (.long yL122) := OB121.2.2.2.2.2.1.same W123
        refine own_step st123 ?_
        refine own_step (T' := T123) (f' := (mkF m 1 #[.val (.ref a1), .unset, .unset] [(.ref a1)])) (fun t k => ?_) ?_
        · show Steps p.tables e below (T123.setTop (mkF m 90 #[.val (.ref a1), .unset, .unset] [])) _
          refine XS.goto X123.here hx rfl (pc0 := 90) (pc' := 0) rfl (hb hby d3_90) (by decide) (by decide) ?_
          show Steps p.tables e below (T123.setTop (mkF m 0 #[.val (.ref a1), .unset, .unset] [])) _
          refine XS.aloadN X123.here hx rfl (hb hby d3_0) rfl rfl ?_
          exact k
        obtain ⟨T124, X124, e124, st124⟩ := getF X123 hx hZ hown (host := "") (Or.inl (hw _ (List.mem_of_getElem? (i := 27) rfl))) Via.refl e123 F_a1_left_123 (g := (mkF m 1 #[.val (.ref a1), .unset, .unset] [(.ref a1)])) rfl rfl (hb hby d3_1)
        refine own_step st124 ?_
        refine own_step (T' := T124) (f' := (mkF m 95 #[.val (.ref a1), .unset, .unset] [(.ref a1), (.ref a1)])) (fun t k => ?_) ?_
        · show Steps p.tables e below (T124.setTop (mkF m 4 #[.val (.ref a1), .unset, .unset] [(.long yL122)])) _
          refine XS.lconst X124.here hx rfl (hb hby d3_4) ?_
          show Steps p.tables e below (T124.setTop (mkF m 5 #[.val (.ref a1), .unset, .unset] [(.long (0 : Int64)), (.long yL122)])) _
          refine XS.lcmp X124.here hx rfl (hb hby d3_5) rfl ?_
          show Steps p.tables e below (T124.setTop (mkF m 6 #[.val (.ref a1), .unset, .unset] [(.int (lcmpW yL122 (0 : Int64)))])) _
          refine XS.ifYes X124.here hx rfl (pc0 := 6) (pc' := 93) rfl (hb hby d3_6) rfl ((if0 _ _).trans (feq (fun q => hnyL122 ((lw_eq yL122 (0 : Int64)).mp q))).2) (by decide) (by decide) ?_
          show Steps p.tables e below (T124.setTop (mkF m 93 #[.val (.ref a1), .unset, .unset] [])) _
          refine XS.aloadN X124.here hx rfl (hb hby d3_93) rfl rfl ?_
          show Steps p.tables e below (T124.setTop (mkF m 94 #[.val (.ref a1), .unset, .unset] [(.ref a1)])) _
          refine XS.dup X124.here hx rfl (hb hby d3_94) rfl rfl ?_
          exact k
        obtain ⟨T125, X125, e125, st125⟩ := getF X124 hx hZ hown (host := "") (Or.inl (hw _ (List.mem_of_getElem? (i := 27) rfl))) Via.refl e124 F_a1_left_123 (g := (mkF m 95 #[.val (.ref a1), .unset, .unset] [(.ref a1), (.ref a1)])) rfl rfl (hb hby d3_95)
        refine own_step st125 ?_
        refine own_step (T' := T125) (f' := (mkF m 100 #[.val (.ref a1), .unset, .unset] [(.long (yL122 - (1 : Int64))), (.ref a1)])) (fun t k => ?_) ?_
        · show Steps p.tables e below (T125.setTop (mkF m 98 #[.val (.ref a1), .unset, .unset] [(.long yL122), (.ref a1)])) _
          refine XS.lconst X125.here hx rfl (hb hby d3_98) ?_
          show Steps p.tables e below (T125.setTop (mkF m 99 #[.val (.ref a1), .unset, .unset] [(.long (1 : Int64)), (.long yL122), (.ref a1)])) _
          refine XS.lsub X125.here hx rfl (hb hby d3_99) rfl ?_
          exact k
        obtain ⟨T126, h126, X126, e126, W126, st126⟩ := putF X125 hx hZ hown (host := "") (Or.inl (hw _ (List.mem_of_getElem? (i := 27) rfl))) Via.refl e125 F_a1_left_123 E_a1_123 (Or.inl (hw _ (List.mem_of_getElem? (i := 28) rfl))) (hw _ (List.mem_of_getElem? (i := 4) rfl)) (ty := .long) (by decide) rfl rfl (g := (mkF m 100 #[.val (.ref a1), .unset, .unset] [(.long (yL122 - (1 : Int64))), (.ref a1)])) rfl rfl (hb hby d3_100)
        have N126 := Fr.snoc X126 N123 ga1
        have K126 := K123.wr W126 (Or.inl (List.mem_of_getElem? (i := 0) rfl))
        have Z126 : n0 ≤ h126.size := Nat.le_trans Z123 (Keep.of_wr W126).1
        have E_a1_126 : Exa Z h126 a1 "com/example/tablewalk/tablewalk/SyntheticCast" := E_a1_123.wr W126
        have F_a1_film_126 : Fld Z h126 a1 "com/example/tablewalk/tablewalk/SyntheticCast" "film" "J" (.long (u1 + (1 : Int64))) := F_a1_film_123.other W126 (Or.inr (slot_ne (Or.inl (hw _ (List.mem_of_getElem? (i := 14) rfl))) (Or.inl (hw _ (List.mem_of_getElem? (i := 28) rfl))) (by decide) (t := .long) (t' := .long) (by decide) (by decide)))
        have F_a1_films_126 : Fld Z h126 a1 "com/example/tablewalk/tablewalk/SyntheticCast" "films" "J" (.long u2) := F_a1_films_123.other W126 (Or.inr (slot_ne (Or.inr (hw _ (List.mem_of_getElem? (i := 17) rfl))) (Or.inl (hw _ (List.mem_of_getElem? (i := 28) rfl))) (by decide) (t := .long) (t' := .long) (by decide) (by decide)))
        have F_a1_performers_126 : Fld Z h126 a1 "com/example/tablewalk/tablewalk/SyntheticCast" "performers" "J" (.long u3) := F_a1_performers_123.other W126 (Or.inr (slot_ne (Or.inr (hw _ (List.mem_of_getElem? (i := 19) rfl))) (Or.inl (hw _ (List.mem_of_getElem? (i := 28) rfl))) (by decide) (t := .long) (t' := .long) (by decide) (by decide)))
        have F_a1_state_126 : Fld Z h126 a1 "com/example/tablewalk/tablewalk/SyntheticCast" "state" "J" (.long s121) := F_a1_state_123.other W126 (Or.inr (slot_ne (Or.inl (hw _ (List.mem_of_getElem? (i := 21) rfl))) (Or.inl (hw _ (List.mem_of_getElem? (i := 28) rfl))) (by decide) (t := .long) (t' := .long) (by decide) (by decide)))
        have F_a1_small_126 : Fld Z h126 a1 "com/example/tablewalk/tablewalk/SyntheticCast" "small" "Z" (.int (0 : Int32)) := F_a1_small_123.other W126 (Or.inr (slot_ne (Or.inl (hw _ (List.mem_of_getElem? (i := 38) rfl))) (Or.inl (hw _ (List.mem_of_getElem? (i := 28) rfl))) (by decide) (t := .boolean) (t' := .long) (by decide) (by decide)))
        have F_a1_performer_126 : Fld Z h126 a1 "com/example/tablewalk/tablewalk/SyntheticCast" "performer" "J" (.long u7) := F_a1_performer_123.other W126 (Or.inr (slot_ne (Or.inl (hw _ (List.mem_of_getElem? (i := 41) rfl))) (Or.inl (hw _ (List.mem_of_getElem? (i := 28) rfl))) (by decide) (t := .long) (t' := .long) (by decide) (by decide)))
        have F_a1_left_126 : Fld Z h126 a1 "com/example/tablewalk/tablewalk/SyntheticCast" "left" "J" (.long (yL122 - (1 : Int64))) := F_a1_left_123.same W126
        refine own_step st126 ?_
        refine own_step (T' := T126) (f' := (mkF m 104 #[.val (.ref a1), .unset, .unset] [(.ref a1)])) (fun t k => ?_) ?_
        · show Steps p.tables e below (T126.setTop (mkF m 103 #[.val (.ref a1), .unset, .unset] [])) _
          refine XS.aloadN X126.here hx rfl (hb hby d3_103) rfl rfl ?_
          exact k
        obtain ⟨T127, X127, e127, st127⟩ := getF X126 hx hZ hown (host := "") (Or.inl (hw _ (List.mem_of_getElem? (i := 37) rfl))) Via.refl e126 F_a1_small_126 (g := (mkF m 104 #[.val (.ref a1), .unset, .unset] [(.ref a1)])) rfl rfl (hb hby d3_104)
        refine own_step st127 ?_
        refine own_step (T' := T127) (f' := (mkF m 127 #[.val (.ref a1), .unset, .unset] [(.ref a1), (.ref a1)])) (fun t k => ?_) ?_
        · show Steps p.tables e below (T127.setTop (mkF m 107 #[.val (.ref a1), .unset, .unset] [(.int (0 : Int32))])) _
          refine XS.ifYes X127.here hx rfl (pc0 := 107) (pc' := 125) rfl (hb hby d3_107) rfl ((if0 _ _).trans (teq (by decide : (0 : Int32) = (0 : Int32))).1) (by decide) (by decide) ?_
          show Steps p.tables e below (T127.setTop (mkF m 125 #[.val (.ref a1), .unset, .unset] [])) _
          refine XS.aloadN X127.here hx rfl (hb hby d3_125) rfl rfl ?_
          show Steps p.tables e below (T127.setTop (mkF m 126 #[.val (.ref a1), .unset, .unset] [(.ref a1)])) _
          refine XS.aloadN X127.here hx rfl (hb hby d3_126) rfl rfl ?_
          exact k
        obtain ⟨T128, X128, e128, st128⟩ := getF X127 hx hZ hown (host := "") (Or.inl (hw _ (List.mem_of_getElem? (i := 18) rfl))) Via.refl e127 F_a1_performers_126 (g := (mkF m 127 #[.val (.ref a1), .unset, .unset] [(.ref a1), (.ref a1)])) rfl rfl (hb hby d3_127)
        refine own_step st128 ?_
        obtain ⟨cq129, q129, q129'⟩ := E_a1_126.cell
        obtain ⟨_, _, ⟨T129, L129, k129, n129⟩, -, X129, ⟨Lc129, hQ129, l129, y129, z129⟩, st129⟩ := X128.privateBack hx (y := (⟨"com/example/tablewalk/tablewalk/SyntheticCast", "draw", "(J)J"⟩ : MethodName)) hown (mvT hZ (hw _ (List.mem_of_getElem? (i := 30) rfl))) (mvT hZ (hw _ (List.mem_of_getElem? (i := 31) rfl))) (own_selp hZ (hw _ (List.mem_of_getElem? (i := 32) rfl)) (hw _ (List.mem_of_getElem? (i := 31) rfl)) (hw _ (List.mem_of_getElem? (i := 4) rfl)) (by decide)) (Cond.privateMethod_at (mvP hZ (hw _ (List.mem_of_getElem? (i := 32) rfl)) (args := #[]))) (mvT hZ (hw _ (List.mem_of_getElem? (i := 33) rfl))) (by decide) (backOf (W := 0) (own_rm4 l Z a0 hw a1 u3 (u1 + (1 : Int64)) u2 u3 s121 (yL122 - (1 : Int64)) (0 : Int32) u7 h126 n0 Z126 ga1 ⟨E_a1_126, F_a1_film_126, F_a1_films_126, F_a1_performers_126, F_a1_state_126, F_a1_left_126, F_a1_small_126, F_a1_performer_126⟩ hperf0) hZ (hw _ (List.mem_of_getElem? (i := 33) rfl)) (hw _ (List.mem_of_getElem? (i := 5) rfl)) (by decide) (by decide)) (g := (mkF m 130 #[.val (.ref a1), .unset, .unset] [(.long u3), (.ref a1)])) rfl (by rw [hml]; rfl) (Steps.refl _) (a := a1) (by rw [e128]; exact q129) q129' (argsL := [(.long u3)]) (rest := []) (lenOf own_pd0 rfl) rfl (by show 2 * 0 + _ ≤ _; exact Nat.le_of_eq rfl) (hb hby d3_130) (fun _ _ => ⟨rfl, e128, (by decide : 0 + 0 ≤ _), (by decide : 0 + 0 ≤ _)⟩)
        dsimp only [Pt.U, Pt.locs, Pt.cells, Pt.slots] at X129 l129 y129 z129 st129 hQ129
        subst l129 y129 z129
        obtain ⟨r129, s129, rfl, hr129, hR129, N129q, K129, OB129⟩ := hQ129
        have N129 := Fr.app N126 N129q
        refine own_step (fun t k => st129.trans k) ?_
        have K129' := K126.trans K129 (fun x hx => Or.inl hx)
        have Z129 := Nat.le_trans Z126 K129.1
        refine own_step (T' := T129) (f' := (mkF m 138 #[.val (.ref a1), .val (.long r129), .second] [(.ref a1), (.ref a1), (.long r129), (.ref a1)])) (fun t k => ?_) ?_
        · show Steps p.tables e below (T129.setTop (mkF m 133 #[.val (.ref a1), .unset, .unset] [(.long r129)])) _
          refine XS.lstoreN X129.here hx rfl (hb hby d3_133) rfl (l' := #[.val (.ref a1), .val (.long r129), .second]) rfl ?_
          show Steps p.tables e below (T129.setTop (mkF m 134 #[.val (.ref a1), .val (.long r129), .second] [])) _
          refine XS.aloadN X129.here hx rfl (hb hby d3_134) rfl rfl ?_
          show Steps p.tables e below (T129.setTop (mkF m 135 #[.val (.ref a1), .val (.long r129), .second] [(.ref a1)])) _
          refine XS.lloadN X129.here hx rfl (hb hby d3_135) rfl ?_
          show Steps p.tables e below (T129.setTop (mkF m 136 #[.val (.ref a1), .val (.long r129), .second] [(.long r129), (.ref a1)])) _
          refine XS.aloadN X129.here hx rfl (hb hby d3_136) rfl rfl ?_
          show Steps p.tables e below (T129.setTop (mkF m 137 #[.val (.ref a1), .val (.long r129), .second] [(.ref a1), (.long r129), (.ref a1)])) _
          refine XS.aloadN X129.here hx rfl (hb hby d3_137) rfl rfl ?_
          exact k
        obtain ⟨T130, X130, e130, st130⟩ := getF X129 hx hZ hown (host := "") (Or.inl (hw _ (List.mem_of_getElem? (i := 18) rfl))) Via.refl rfl OB129.2.2.2.1 (g := (mkF m 138 #[.val (.ref a1), .val (.long r129), .second] [(.ref a1), (.ref a1), (.long r129), (.ref a1)])) rfl rfl (hb hby d3_138)
        refine own_step st130 ?_
        obtain ⟨cq131, q131, q131'⟩ := OB129.1.cell
        obtain ⟨_, _, ⟨T131, L131, k131, n131⟩, -, X131, ⟨Lc131, hQ131, l131, y131, z131⟩, st131⟩ := X130.privateBack hx (y := (⟨"com/example/tablewalk/tablewalk/SyntheticCast", "draw", "(J)J"⟩ : MethodName)) hown (mvT hZ (hw _ (List.mem_of_getElem? (i := 30) rfl))) (mvT hZ (hw _ (List.mem_of_getElem? (i := 31) rfl))) (own_selp hZ (hw _ (List.mem_of_getElem? (i := 32) rfl)) (hw _ (List.mem_of_getElem? (i := 31) rfl)) (hw _ (List.mem_of_getElem? (i := 4) rfl)) (by decide)) (Cond.privateMethod_at (mvP hZ (hw _ (List.mem_of_getElem? (i := 32) rfl)) (args := #[]))) (mvT hZ (hw _ (List.mem_of_getElem? (i := 33) rfl))) (by decide) (backOf (W := 3) (own_rm4 l Z a0 hw a1 u3 (u1 + (1 : Int64)) u2 u3 s129 (yL122 - (1 : Int64)) (0 : Int32) u7 T129.heap n0 Z129 ga1 ⟨OB129.1, OB129.2.1, OB129.2.2.1, OB129.2.2.2.1, OB129.2.2.2.2.1, OB129.2.2.2.2.2.1, OB129.2.2.2.2.2.2.1, OB129.2.2.2.2.2.2.2⟩ hperf0) hZ (hw _ (List.mem_of_getElem? (i := 33) rfl)) (hw _ (List.mem_of_getElem? (i := 5) rfl)) (by decide) (by decide)) (g := (mkF m 141 #[.val (.ref a1), .val (.long r129), .second] [(.long u3), (.ref a1), (.long r129), (.ref a1)])) rfl (by rw [hml]; rfl) (Steps.refl _) (a := a1) (by rw [e130]; exact q131) q131' (argsL := [(.long u3)]) (rest := [(.long r129), (.ref a1)]) (lenOf own_pd0 rfl) rfl (by show 2 * 0 + _ ≤ _; exact Nat.le_of_eq rfl) (hb hby d3_141) (fun _ _ => ⟨rfl, e130, (by decide : 0 + 0 ≤ _), (by decide : 0 + 0 ≤ _)⟩)
        dsimp only [Pt.U, Pt.locs, Pt.cells, Pt.slots] at X131 l131 y131 z131 st131 hQ131
        subst l131 y131 z131
        obtain ⟨r131, s131, rfl, hr131, hR131, N131q, K131, OB131⟩ := hQ131
        have N131 := Fr.app N129 N131q
        refine own_step (fun t k => st131.trans k) ?_
        have K131' := K129'.trans K131 (fun x hx => Or.inl hx)
        have Z131 := Nat.le_trans Z129 K131.1
        refine own_step (T' := T131) (f' := (mkF m 146 #[.val (.ref a1), .val (.long r129), .second] [(.ref a1), (.long (r129 * r131)), (.ref a1)])) (fun t k => ?_) ?_
        · show Steps p.tables e below (T131.setTop (mkF m 144 #[.val (.ref a1), .val (.long r129), .second] [(.long r131), (.long r129), (.ref a1)])) _
          refine XS.lmul X131.here hx rfl (hb hby d3_144) rfl ?_
          show Steps p.tables e below (T131.setTop (mkF m 145 #[.val (.ref a1), .val (.long r129), .second] [(.long (r129 * r131)), (.ref a1)])) _
          refine XS.aloadN X131.here hx rfl (hb hby d3_145) rfl rfl ?_
          exact k
        obtain ⟨T132, X132, e132, st132⟩ := getF X131 hx hZ hown (host := "") (Or.inl (hw _ (List.mem_of_getElem? (i := 18) rfl))) Via.refl rfl OB131.2.2.2.1 (g := (mkF m 146 #[.val (.ref a1), .val (.long r129), .second] [(.ref a1), (.long (r129 * r131)), (.ref a1)])) rfl rfl (hb hby d3_146)
        refine own_step st132 ?_
        refine own_step (T' := T132) (f' := (mkF m 150 #[.val (.ref a1), .val (.long r129), .second] [(.long ((r129 * r131) / u3)), (.ref a1)])) (fun t k => ?_) ?_
        · show Steps p.tables e below (T132.setTop (mkF m 149 #[.val (.ref a1), .val (.long r129), .second] [(.long u3), (.long (r129 * r131)), (.ref a1)])) _
          refine XS.ldiv X132.here hx rfl (hb hby d3_149) rfl (own_nz hperf0) ?_
          exact k
        show own_Go p e below T132 (mkF m 150 #[.val (.ref a1), .val (.long r129), .second] [(.long ((r129 * r131) / u3)), (.ref a1)]) _
        obtain ⟨yW133, hyW133⟩ : ∃ z : Int64, z = ((r129 * r131) / u3) := ⟨_, rfl⟩
        rw [← hyW133]
        obtain ⟨T134, h134, X134, e134, W134, st134⟩ := putF X132 hx hZ hown (host := "") (Or.inl (hw _ (List.mem_of_getElem? (i := 40) rfl))) Via.refl e132 OB131.2.2.2.2.2.2.2 OB131.1 (Or.inl (hw _ (List.mem_of_getElem? (i := 41) rfl))) (hw _ (List.mem_of_getElem? (i := 4) rfl)) (ty := .long) (by decide) rfl rfl (g := (mkF m 150 #[.val (.ref a1), .val (.long r129), .second] [(.long yW133), (.ref a1)])) rfl rfl (hb hby d3_150)
        have N134 := Fr.snoc X134 N131 ga1
        have K134 := K131'.wr W134 (Or.inl (List.mem_of_getElem? (i := 0) rfl))
        have Z134 : n0 ≤ h134.size := Nat.le_trans Z131 (Keep.of_wr W134).1
        have E_a1_134 : Exa Z h134 a1 "com/example/tablewalk/tablewalk/SyntheticCast" := OB131.1.wr W134
        have F_a1_film_134 : Fld Z h134 a1 "com/example/tablewalk/tablewalk/SyntheticCast" "film" "J" (.long (u1 + (1 : Int64))) := OB131.2.1.other W134 (Or.inr (slot_ne (Or.inl (hw _ (List.mem_of_getElem? (i := 14) rfl))) (Or.inl (hw _ (List.mem_of_getElem? (i := 41) rfl))) (by decide) (t := .long) (t' := .long) (by decide) (by decide)))
        have F_a1_films_134 : Fld Z h134 a1 "com/example/tablewalk/tablewalk/SyntheticCast" "films" "J" (.long u2) := OB131.2.2.1.other W134 (Or.inr (slot_ne (Or.inr (hw _ (List.mem_of_getElem? (i := 17) rfl))) (Or.inl (hw _ (List.mem_of_getElem? (i := 41) rfl))) (by decide) (t := .long) (t' := .long) (by decide) (by decide)))
        have F_a1_performers_134 : Fld Z h134 a1 "com/example/tablewalk/tablewalk/SyntheticCast" "performers" "J" (.long u3) := OB131.2.2.2.1.other W134 (Or.inr (slot_ne (Or.inr (hw _ (List.mem_of_getElem? (i := 19) rfl))) (Or.inl (hw _ (List.mem_of_getElem? (i := 41) rfl))) (by decide) (t := .long) (t' := .long) (by decide) (by decide)))
        have F_a1_state_134 : Fld Z h134 a1 "com/example/tablewalk/tablewalk/SyntheticCast" "state" "J" (.long s131) := OB131.2.2.2.2.1.other W134 (Or.inr (slot_ne (Or.inl (hw _ (List.mem_of_getElem? (i := 21) rfl))) (Or.inl (hw _ (List.mem_of_getElem? (i := 41) rfl))) (by decide) (t := .long) (t' := .long) (by decide) (by decide)))
        have F_a1_left_134 : Fld Z h134 a1 "com/example/tablewalk/tablewalk/SyntheticCast" "left" "J" (.long (yL122 - (1 : Int64))) := OB131.2.2.2.2.2.1.other W134 (Or.inr (slot_ne (Or.inl (hw _ (List.mem_of_getElem? (i := 28) rfl))) (Or.inl (hw _ (List.mem_of_getElem? (i := 41) rfl))) (by decide) (t := .long) (t' := .long) (by decide) (by decide)))
        have F_a1_small_134 : Fld Z h134 a1 "com/example/tablewalk/tablewalk/SyntheticCast" "small" "Z" (.int (0 : Int32)) := OB131.2.2.2.2.2.2.1.other W134 (Or.inr (slot_ne (Or.inl (hw _ (List.mem_of_getElem? (i := 38) rfl))) (Or.inl (hw _ (List.mem_of_getElem? (i := 41) rfl))) (by decide) (t := .boolean) (t' := .long) (by decide) (by decide)))
        have F_a1_performer_134 : Fld Z h134 a1 "com/example/tablewalk/tablewalk/SyntheticCast" "performer" "J" (.long yW133) := OB131.2.2.2.2.2.2.2.same W134
        refine own_step st134 ?_
        refine own_step (T' := T134) (f' := (mkF m 154 #[.val (.ref a1), .val (.long r129), .second] [(.int (1 : Int32))])) (fun t k => ?_) ?_
        · show Steps p.tables e below (T134.setTop (mkF m 153 #[.val (.ref a1), .val (.long r129), .second] [])) _
          refine XS.iconst X134.here hx rfl (hb hby d3_153) ?_
          exact k
        exact own_retZ X134 hx hret hlk (hb hby d3_154) (by decide) (by decide) (by rw [e134]; exact ⟨_, _, _, _, _, _, rfl, N134, K134, ⟨E_a1_134, F_a1_film_134, F_a1_films_134, F_a1_performers_134, F_a1_state_134, F_a1_left_134, F_a1_small_134, F_a1_performer_134⟩, Or.inr ⟨rfl, Or.inr ⟨hc6_0, hc20_1, rfl⟩, (own_dec (Int.le_of_lt hlyL122) hnyL122), (own_who hperf0 hperf1 hr129 hR129 hr131 hR131 hyW133)⟩⟩)
  · refine own_step (T' := T101) (f' := (mkF m 95 #[.val (.ref a1), .unset, .unset] [(.ref a1), (.ref a1)])) (fun t k => ?_) ?_
    · show Steps p.tables e below (T101.setTop (mkF m 6 #[.val (.ref a1), .unset, .unset] [(.int (lcmpW u5 (0 : Int64)))])) _
      refine XS.ifYes X101.here hx rfl (pc0 := 6) (pc' := 93) rfl (hb hby d3_6) rfl ((if0 _ _).trans (feq (fun q => hc6_0 ((lw_eq u5 (0 : Int64)).mp q))).2) (by decide) (by decide) ?_
      show Steps p.tables e below (T101.setTop (mkF m 93 #[.val (.ref a1), .unset, .unset] [])) _
      refine XS.aloadN X101.here hx rfl (hb hby d3_93) rfl rfl ?_
      show Steps p.tables e below (T101.setTop (mkF m 94 #[.val (.ref a1), .unset, .unset] [(.ref a1)])) _
      refine XS.dup X101.here hx rfl (hb hby d3_94) rfl rfl ?_
      exact k
    obtain ⟨T135, X135, e135, st135⟩ := getF X101 hx hZ hown (host := "") (Or.inl (hw _ (List.mem_of_getElem? (i := 27) rfl))) Via.refl e101 OB.2.2.2.2.2.1 (g := (mkF m 95 #[.val (.ref a1), .unset, .unset] [(.ref a1), (.ref a1)])) rfl rfl (hb hby d3_95)
    refine own_step st135 ?_
    refine own_step (T' := T135) (f' := (mkF m 100 #[.val (.ref a1), .unset, .unset] [(.long (u5 - (1 : Int64))), (.ref a1)])) (fun t k => ?_) ?_
    · show Steps p.tables e below (T135.setTop (mkF m 98 #[.val (.ref a1), .unset, .unset] [(.long u5), (.ref a1)])) _
      refine XS.lconst X135.here hx rfl (hb hby d3_98) ?_
      show Steps p.tables e below (T135.setTop (mkF m 99 #[.val (.ref a1), .unset, .unset] [(.long (1 : Int64)), (.long u5), (.ref a1)])) _
      refine XS.lsub X135.here hx rfl (hb hby d3_99) rfl ?_
      exact k
    obtain ⟨T136, h136, X136, e136, W136, st136⟩ := putF X135 hx hZ hown (host := "") (Or.inl (hw _ (List.mem_of_getElem? (i := 27) rfl))) Via.refl e135 OB.2.2.2.2.2.1 OB.1 (Or.inl (hw _ (List.mem_of_getElem? (i := 28) rfl))) (hw _ (List.mem_of_getElem? (i := 4) rfl)) (ty := .long) (by decide) rfl rfl (g := (mkF m 100 #[.val (.ref a1), .unset, .unset] [(.long (u5 - (1 : Int64))), (.ref a1)])) rfl rfl (hb hby d3_100)
    have N136 := Fr.snoc X136 N0 ga1
    have K136 := (Keep.refl h0 [a1]).wr W136 (Or.inl (List.mem_of_getElem? (i := 0) rfl))
    have Z136 : n0 ≤ h136.size := Nat.le_trans Z0 (Keep.of_wr W136).1
    have E_a1_136 : Exa Z h136 a1 "com/example/tablewalk/tablewalk/SyntheticCast" := OB.1.wr W136
    have F_a1_film_136 : Fld Z h136 a1 "com/example/tablewalk/tablewalk/SyntheticCast" "film" "J" (.long u1) := OB.2.1.other W136 (Or.inr (slot_ne (Or.inl (hw _ (List.mem_of_getElem? (i := 14) rfl))) (Or.inl (hw _ (List.mem_of_getElem? (i := 28) rfl))) (by decide) (t := .long) (t' := .long) (by decide) (by decide)))
    have F_a1_films_136 : Fld Z h136 a1 "com/example/tablewalk/tablewalk/SyntheticCast" "films" "J" (.long u2) := OB.2.2.1.other W136 (Or.inr (slot_ne (Or.inr (hw _ (List.mem_of_getElem? (i := 17) rfl))) (Or.inl (hw _ (List.mem_of_getElem? (i := 28) rfl))) (by decide) (t := .long) (t' := .long) (by decide) (by decide)))
    have F_a1_performers_136 : Fld Z h136 a1 "com/example/tablewalk/tablewalk/SyntheticCast" "performers" "J" (.long u3) := OB.2.2.2.1.other W136 (Or.inr (slot_ne (Or.inr (hw _ (List.mem_of_getElem? (i := 19) rfl))) (Or.inl (hw _ (List.mem_of_getElem? (i := 28) rfl))) (by decide) (t := .long) (t' := .long) (by decide) (by decide)))
    have F_a1_state_136 : Fld Z h136 a1 "com/example/tablewalk/tablewalk/SyntheticCast" "state" "J" (.long u4) := OB.2.2.2.2.1.other W136 (Or.inr (slot_ne (Or.inl (hw _ (List.mem_of_getElem? (i := 21) rfl))) (Or.inl (hw _ (List.mem_of_getElem? (i := 28) rfl))) (by decide) (t := .long) (t' := .long) (by decide) (by decide)))
    have F_a1_small_136 : Fld Z h136 a1 "com/example/tablewalk/tablewalk/SyntheticCast" "small" "Z" (.int u6) := OB.2.2.2.2.2.2.1.other W136 (Or.inr (slot_ne (Or.inl (hw _ (List.mem_of_getElem? (i := 38) rfl))) (Or.inl (hw _ (List.mem_of_getElem? (i := 28) rfl))) (by decide) (t := .boolean) (t' := .long) (by decide) (by decide)))
    have F_a1_performer_136 : Fld Z h136 a1 "com/example/tablewalk/tablewalk/SyntheticCast" "performer" "J" (.long u7) := OB.2.2.2.2.2.2.2.other W136 (Or.inr (slot_ne (Or.inl (hw _ (List.mem_of_getElem? (i := 41) rfl))) (Or.inl (hw _ (List.mem_of_getElem? (i := 28) rfl))) (by decide) (t := .long) (t' := .long) (by decide) (by decide)))
    have F_a1_left_136 : Fld Z h136 a1 "com/example/tablewalk/tablewalk/SyntheticCast" "left" "J" (.long (u5 - (1 : Int64))) := OB.2.2.2.2.2.1.same W136
    refine own_step st136 ?_
    refine own_step (T' := T136) (f' := (mkF m 104 #[.val (.ref a1), .unset, .unset] [(.ref a1)])) (fun t k => ?_) ?_
    · show Steps p.tables e below (T136.setTop (mkF m 103 #[.val (.ref a1), .unset, .unset] [])) _
      refine XS.aloadN X136.here hx rfl (hb hby d3_103) rfl rfl ?_
      exact k
    obtain ⟨T137, X137, e137, st137⟩ := getF X136 hx hZ hown (host := "") (Or.inl (hw _ (List.mem_of_getElem? (i := 37) rfl))) Via.refl e136 F_a1_small_136 (g := (mkF m 104 #[.val (.ref a1), .unset, .unset] [(.ref a1)])) rfl rfl (hb hby d3_104)
    refine own_step st137 ?_
    by_cases hc107_1 : u6 = (0 : Int32)
    · refine own_step (T' := T137) (f' := (mkF m 127 #[.val (.ref a1), .unset, .unset] [(.ref a1), (.ref a1)])) (fun t k => ?_) ?_
      · show Steps p.tables e below (T137.setTop (mkF m 107 #[.val (.ref a1), .unset, .unset] [(.int u6)])) _
        refine XS.ifYes X137.here hx rfl (pc0 := 107) (pc' := 125) rfl (hb hby d3_107) rfl ((if0 _ _).trans (teq hc107_1).1) (by decide) (by decide) ?_
        show Steps p.tables e below (T137.setTop (mkF m 125 #[.val (.ref a1), .unset, .unset] [])) _
        refine XS.aloadN X137.here hx rfl (hb hby d3_125) rfl rfl ?_
        show Steps p.tables e below (T137.setTop (mkF m 126 #[.val (.ref a1), .unset, .unset] [(.ref a1)])) _
        refine XS.aloadN X137.here hx rfl (hb hby d3_126) rfl rfl ?_
        exact k
      obtain ⟨T138, X138, e138, st138⟩ := getF X137 hx hZ hown (host := "") (Or.inl (hw _ (List.mem_of_getElem? (i := 18) rfl))) Via.refl e137 F_a1_performers_136 (g := (mkF m 127 #[.val (.ref a1), .unset, .unset] [(.ref a1), (.ref a1)])) rfl rfl (hb hby d3_127)
      refine own_step st138 ?_
      obtain ⟨cq139, q139, q139'⟩ := E_a1_136.cell
      obtain ⟨_, _, ⟨T139, L139, k139, n139⟩, -, X139, ⟨Lc139, hQ139, l139, y139, z139⟩, st139⟩ := X138.privateBack hx (y := (⟨"com/example/tablewalk/tablewalk/SyntheticCast", "draw", "(J)J"⟩ : MethodName)) hown (mvT hZ (hw _ (List.mem_of_getElem? (i := 30) rfl))) (mvT hZ (hw _ (List.mem_of_getElem? (i := 31) rfl))) (own_selp hZ (hw _ (List.mem_of_getElem? (i := 32) rfl)) (hw _ (List.mem_of_getElem? (i := 31) rfl)) (hw _ (List.mem_of_getElem? (i := 4) rfl)) (by decide)) (Cond.privateMethod_at (mvP hZ (hw _ (List.mem_of_getElem? (i := 32) rfl)) (args := #[]))) (mvT hZ (hw _ (List.mem_of_getElem? (i := 33) rfl))) (by decide) (backOf (W := 0) (own_rm4 l Z a0 hw a1 u3 u1 u2 u3 u4 (u5 - (1 : Int64)) u6 u7 h136 n0 Z136 ga1 ⟨E_a1_136, F_a1_film_136, F_a1_films_136, F_a1_performers_136, F_a1_state_136, F_a1_left_136, F_a1_small_136, F_a1_performer_136⟩ hperf0) hZ (hw _ (List.mem_of_getElem? (i := 33) rfl)) (hw _ (List.mem_of_getElem? (i := 5) rfl)) (by decide) (by decide)) (g := (mkF m 130 #[.val (.ref a1), .unset, .unset] [(.long u3), (.ref a1)])) rfl (by rw [hml]; rfl) (Steps.refl _) (a := a1) (by rw [e138]; exact q139) q139' (argsL := [(.long u3)]) (rest := []) (lenOf own_pd0 rfl) rfl (by show 2 * 0 + _ ≤ _; exact Nat.le_of_eq rfl) (hb hby d3_130) (fun _ _ => ⟨rfl, e138, (by decide : 0 + 0 ≤ _), (by decide : 0 + 0 ≤ _)⟩)
      dsimp only [Pt.U, Pt.locs, Pt.cells, Pt.slots] at X139 l139 y139 z139 st139 hQ139
      subst l139 y139 z139
      obtain ⟨r139, s139, rfl, hr139, hR139, N139q, K139, OB139⟩ := hQ139
      have N139 := Fr.app N136 N139q
      refine own_step (fun t k => st139.trans k) ?_
      have K139' := K136.trans K139 (fun x hx => Or.inl hx)
      have Z139 := Nat.le_trans Z136 K139.1
      refine own_step (T' := T139) (f' := (mkF m 138 #[.val (.ref a1), .val (.long r139), .second] [(.ref a1), (.ref a1), (.long r139), (.ref a1)])) (fun t k => ?_) ?_
      · show Steps p.tables e below (T139.setTop (mkF m 133 #[.val (.ref a1), .unset, .unset] [(.long r139)])) _
        refine XS.lstoreN X139.here hx rfl (hb hby d3_133) rfl (l' := #[.val (.ref a1), .val (.long r139), .second]) rfl ?_
        show Steps p.tables e below (T139.setTop (mkF m 134 #[.val (.ref a1), .val (.long r139), .second] [])) _
        refine XS.aloadN X139.here hx rfl (hb hby d3_134) rfl rfl ?_
        show Steps p.tables e below (T139.setTop (mkF m 135 #[.val (.ref a1), .val (.long r139), .second] [(.ref a1)])) _
        refine XS.lloadN X139.here hx rfl (hb hby d3_135) rfl ?_
        show Steps p.tables e below (T139.setTop (mkF m 136 #[.val (.ref a1), .val (.long r139), .second] [(.long r139), (.ref a1)])) _
        refine XS.aloadN X139.here hx rfl (hb hby d3_136) rfl rfl ?_
        show Steps p.tables e below (T139.setTop (mkF m 137 #[.val (.ref a1), .val (.long r139), .second] [(.ref a1), (.long r139), (.ref a1)])) _
        refine XS.aloadN X139.here hx rfl (hb hby d3_137) rfl rfl ?_
        exact k
      obtain ⟨T140, X140, e140, st140⟩ := getF X139 hx hZ hown (host := "") (Or.inl (hw _ (List.mem_of_getElem? (i := 18) rfl))) Via.refl rfl OB139.2.2.2.1 (g := (mkF m 138 #[.val (.ref a1), .val (.long r139), .second] [(.ref a1), (.ref a1), (.long r139), (.ref a1)])) rfl rfl (hb hby d3_138)
      refine own_step st140 ?_
      obtain ⟨cq141, q141, q141'⟩ := OB139.1.cell
      obtain ⟨_, _, ⟨T141, L141, k141, n141⟩, -, X141, ⟨Lc141, hQ141, l141, y141, z141⟩, st141⟩ := X140.privateBack hx (y := (⟨"com/example/tablewalk/tablewalk/SyntheticCast", "draw", "(J)J"⟩ : MethodName)) hown (mvT hZ (hw _ (List.mem_of_getElem? (i := 30) rfl))) (mvT hZ (hw _ (List.mem_of_getElem? (i := 31) rfl))) (own_selp hZ (hw _ (List.mem_of_getElem? (i := 32) rfl)) (hw _ (List.mem_of_getElem? (i := 31) rfl)) (hw _ (List.mem_of_getElem? (i := 4) rfl)) (by decide)) (Cond.privateMethod_at (mvP hZ (hw _ (List.mem_of_getElem? (i := 32) rfl)) (args := #[]))) (mvT hZ (hw _ (List.mem_of_getElem? (i := 33) rfl))) (by decide) (backOf (W := 3) (own_rm4 l Z a0 hw a1 u3 u1 u2 u3 s139 (u5 - (1 : Int64)) u6 u7 T139.heap n0 Z139 ga1 ⟨OB139.1, OB139.2.1, OB139.2.2.1, OB139.2.2.2.1, OB139.2.2.2.2.1, OB139.2.2.2.2.2.1, OB139.2.2.2.2.2.2.1, OB139.2.2.2.2.2.2.2⟩ hperf0) hZ (hw _ (List.mem_of_getElem? (i := 33) rfl)) (hw _ (List.mem_of_getElem? (i := 5) rfl)) (by decide) (by decide)) (g := (mkF m 141 #[.val (.ref a1), .val (.long r139), .second] [(.long u3), (.ref a1), (.long r139), (.ref a1)])) rfl (by rw [hml]; rfl) (Steps.refl _) (a := a1) (by rw [e140]; exact q141) q141' (argsL := [(.long u3)]) (rest := [(.long r139), (.ref a1)]) (lenOf own_pd0 rfl) rfl (by show 2 * 0 + _ ≤ _; exact Nat.le_of_eq rfl) (hb hby d3_141) (fun _ _ => ⟨rfl, e140, (by decide : 0 + 0 ≤ _), (by decide : 0 + 0 ≤ _)⟩)
      dsimp only [Pt.U, Pt.locs, Pt.cells, Pt.slots] at X141 l141 y141 z141 st141 hQ141
      subst l141 y141 z141
      obtain ⟨r141, s141, rfl, hr141, hR141, N141q, K141, OB141⟩ := hQ141
      have N141 := Fr.app N139 N141q
      refine own_step (fun t k => st141.trans k) ?_
      have K141' := K139'.trans K141 (fun x hx => Or.inl hx)
      have Z141 := Nat.le_trans Z139 K141.1
      refine own_step (T' := T141) (f' := (mkF m 146 #[.val (.ref a1), .val (.long r139), .second] [(.ref a1), (.long (r139 * r141)), (.ref a1)])) (fun t k => ?_) ?_
      · show Steps p.tables e below (T141.setTop (mkF m 144 #[.val (.ref a1), .val (.long r139), .second] [(.long r141), (.long r139), (.ref a1)])) _
        refine XS.lmul X141.here hx rfl (hb hby d3_144) rfl ?_
        show Steps p.tables e below (T141.setTop (mkF m 145 #[.val (.ref a1), .val (.long r139), .second] [(.long (r139 * r141)), (.ref a1)])) _
        refine XS.aloadN X141.here hx rfl (hb hby d3_145) rfl rfl ?_
        exact k
      obtain ⟨T142, X142, e142, st142⟩ := getF X141 hx hZ hown (host := "") (Or.inl (hw _ (List.mem_of_getElem? (i := 18) rfl))) Via.refl rfl OB141.2.2.2.1 (g := (mkF m 146 #[.val (.ref a1), .val (.long r139), .second] [(.ref a1), (.long (r139 * r141)), (.ref a1)])) rfl rfl (hb hby d3_146)
      refine own_step st142 ?_
      refine own_step (T' := T142) (f' := (mkF m 150 #[.val (.ref a1), .val (.long r139), .second] [(.long ((r139 * r141) / u3)), (.ref a1)])) (fun t k => ?_) ?_
      · show Steps p.tables e below (T142.setTop (mkF m 149 #[.val (.ref a1), .val (.long r139), .second] [(.long u3), (.long (r139 * r141)), (.ref a1)])) _
        refine XS.ldiv X142.here hx rfl (hb hby d3_149) rfl (own_nz hperf0) ?_
        exact k
      show own_Go p e below T142 (mkF m 150 #[.val (.ref a1), .val (.long r139), .second] [(.long ((r139 * r141) / u3)), (.ref a1)]) _
      obtain ⟨yW143, hyW143⟩ : ∃ z : Int64, z = ((r139 * r141) / u3) := ⟨_, rfl⟩
      rw [← hyW143]
      obtain ⟨T144, h144, X144, e144, W144, st144⟩ := putF X142 hx hZ hown (host := "") (Or.inl (hw _ (List.mem_of_getElem? (i := 40) rfl))) Via.refl e142 OB141.2.2.2.2.2.2.2 OB141.1 (Or.inl (hw _ (List.mem_of_getElem? (i := 41) rfl))) (hw _ (List.mem_of_getElem? (i := 4) rfl)) (ty := .long) (by decide) rfl rfl (g := (mkF m 150 #[.val (.ref a1), .val (.long r139), .second] [(.long yW143), (.ref a1)])) rfl rfl (hb hby d3_150)
      have N144 := Fr.snoc X144 N141 ga1
      have K144 := K141'.wr W144 (Or.inl (List.mem_of_getElem? (i := 0) rfl))
      have Z144 : n0 ≤ h144.size := Nat.le_trans Z141 (Keep.of_wr W144).1
      have E_a1_144 : Exa Z h144 a1 "com/example/tablewalk/tablewalk/SyntheticCast" := OB141.1.wr W144
      have F_a1_film_144 : Fld Z h144 a1 "com/example/tablewalk/tablewalk/SyntheticCast" "film" "J" (.long u1) := OB141.2.1.other W144 (Or.inr (slot_ne (Or.inl (hw _ (List.mem_of_getElem? (i := 14) rfl))) (Or.inl (hw _ (List.mem_of_getElem? (i := 41) rfl))) (by decide) (t := .long) (t' := .long) (by decide) (by decide)))
      have F_a1_films_144 : Fld Z h144 a1 "com/example/tablewalk/tablewalk/SyntheticCast" "films" "J" (.long u2) := OB141.2.2.1.other W144 (Or.inr (slot_ne (Or.inr (hw _ (List.mem_of_getElem? (i := 17) rfl))) (Or.inl (hw _ (List.mem_of_getElem? (i := 41) rfl))) (by decide) (t := .long) (t' := .long) (by decide) (by decide)))
      have F_a1_performers_144 : Fld Z h144 a1 "com/example/tablewalk/tablewalk/SyntheticCast" "performers" "J" (.long u3) := OB141.2.2.2.1.other W144 (Or.inr (slot_ne (Or.inr (hw _ (List.mem_of_getElem? (i := 19) rfl))) (Or.inl (hw _ (List.mem_of_getElem? (i := 41) rfl))) (by decide) (t := .long) (t' := .long) (by decide) (by decide)))
      have F_a1_state_144 : Fld Z h144 a1 "com/example/tablewalk/tablewalk/SyntheticCast" "state" "J" (.long s141) := OB141.2.2.2.2.1.other W144 (Or.inr (slot_ne (Or.inl (hw _ (List.mem_of_getElem? (i := 21) rfl))) (Or.inl (hw _ (List.mem_of_getElem? (i := 41) rfl))) (by decide) (t := .long) (t' := .long) (by decide) (by decide)))
      have F_a1_left_144 : Fld Z h144 a1 "com/example/tablewalk/tablewalk/SyntheticCast" "left" "J" (.long (u5 - (1 : Int64))) := OB141.2.2.2.2.2.1.other W144 (Or.inr (slot_ne (Or.inl (hw _ (List.mem_of_getElem? (i := 28) rfl))) (Or.inl (hw _ (List.mem_of_getElem? (i := 41) rfl))) (by decide) (t := .long) (t' := .long) (by decide) (by decide)))
      have F_a1_small_144 : Fld Z h144 a1 "com/example/tablewalk/tablewalk/SyntheticCast" "small" "Z" (.int u6) := OB141.2.2.2.2.2.2.1.other W144 (Or.inr (slot_ne (Or.inl (hw _ (List.mem_of_getElem? (i := 38) rfl))) (Or.inl (hw _ (List.mem_of_getElem? (i := 41) rfl))) (by decide) (t := .boolean) (t' := .long) (by decide) (by decide)))
      have F_a1_performer_144 : Fld Z h144 a1 "com/example/tablewalk/tablewalk/SyntheticCast" "performer" "J" (.long yW143) := OB141.2.2.2.2.2.2.2.same W144
      refine own_step st144 ?_
      refine own_step (T' := T144) (f' := (mkF m 154 #[.val (.ref a1), .val (.long r139), .second] [(.int (1 : Int32))])) (fun t k => ?_) ?_
      · show Steps p.tables e below (T144.setTop (mkF m 153 #[.val (.ref a1), .val (.long r139), .second] [])) _
        refine XS.iconst X144.here hx rfl (hb hby d3_153) ?_
        exact k
      exact own_retZ X144 hx hret hlk (hb hby d3_154) (by decide) (by decide) (by rw [e144]; exact ⟨_, _, _, _, _, _, rfl, N144, K144, ⟨E_a1_144, F_a1_film_144, F_a1_films_144, F_a1_performers_144, F_a1_state_144, F_a1_left_144, F_a1_small_144, F_a1_performer_144⟩, Or.inr ⟨rfl, Or.inl ⟨hc6_0, rfl⟩, (own_dec hleft hc6_0), (own_who hperf0 hperf1 hr139 hR139 hr141 hR141 hyW143)⟩⟩)
    · refine own_step (T' := T137) (f' := (mkF m 113 #[.val (.ref a1), .unset, .unset] [(.ref a1), (.ref a1), (.ref a1)])) (fun t k => ?_) ?_
      · show Steps p.tables e below (T137.setTop (mkF m 107 #[.val (.ref a1), .unset, .unset] [(.int u6)])) _
        refine XS.ifNo X137.here hx rfl (hb hby d3_107) rfl ((if0 _ _).trans (feq hc107_1).1) ?_
        show Steps p.tables e below (T137.setTop (mkF m 110 #[.val (.ref a1), .unset, .unset] [])) _
        refine XS.aloadN X137.here hx rfl (hb hby d3_110) rfl rfl ?_
        show Steps p.tables e below (T137.setTop (mkF m 111 #[.val (.ref a1), .unset, .unset] [(.ref a1)])) _
        refine XS.aloadN X137.here hx rfl (hb hby d3_111) rfl rfl ?_
        show Steps p.tables e below (T137.setTop (mkF m 112 #[.val (.ref a1), .unset, .unset] [(.ref a1), (.ref a1)])) _
        refine XS.aloadN X137.here hx rfl (hb hby d3_112) rfl rfl ?_
        exact k
      obtain ⟨T145, X145, e145, st145⟩ := getF X137 hx hZ hown (host := "") (Or.inl (hw _ (List.mem_of_getElem? (i := 18) rfl))) Via.refl e137 F_a1_performers_136 (g := (mkF m 113 #[.val (.ref a1), .unset, .unset] [(.ref a1), (.ref a1), (.ref a1)])) rfl rfl (hb hby d3_113)
      refine own_step st145 ?_
      obtain ⟨cq146, q146, q146'⟩ := E_a1_136.cell
      obtain ⟨_, _, ⟨T146, L146, k146, n146⟩, -, X146, ⟨Lc146, hQ146, l146, y146, z146⟩, st146⟩ := X145.privateBack hx (y := (⟨"com/example/tablewalk/tablewalk/SyntheticCast", "draw", "(J)J"⟩ : MethodName)) hown (mvT hZ (hw _ (List.mem_of_getElem? (i := 30) rfl))) (mvT hZ (hw _ (List.mem_of_getElem? (i := 31) rfl))) (own_selp hZ (hw _ (List.mem_of_getElem? (i := 32) rfl)) (hw _ (List.mem_of_getElem? (i := 31) rfl)) (hw _ (List.mem_of_getElem? (i := 4) rfl)) (by decide)) (Cond.privateMethod_at (mvP hZ (hw _ (List.mem_of_getElem? (i := 32) rfl)) (args := #[]))) (mvT hZ (hw _ (List.mem_of_getElem? (i := 33) rfl))) (by decide) (backOf (W := 1) (own_rm4 l Z a0 hw a1 u3 u1 u2 u3 u4 (u5 - (1 : Int64)) u6 u7 h136 n0 Z136 ga1 ⟨E_a1_136, F_a1_film_136, F_a1_films_136, F_a1_performers_136, F_a1_state_136, F_a1_left_136, F_a1_small_136, F_a1_performer_136⟩ hperf0) hZ (hw _ (List.mem_of_getElem? (i := 33) rfl)) (hw _ (List.mem_of_getElem? (i := 5) rfl)) (by decide) (by decide)) (g := (mkF m 116 #[.val (.ref a1), .unset, .unset] [(.long u3), (.ref a1), (.ref a1)])) rfl (by rw [hml]; rfl) (Steps.refl _) (a := a1) (by rw [e145]; exact q146) q146' (argsL := [(.long u3)]) (rest := [(.ref a1)]) (lenOf own_pd0 rfl) rfl (by show 2 * 0 + _ ≤ _; exact Nat.le_of_eq rfl) (hb hby d3_116) (fun _ _ => ⟨rfl, e145, (by decide : 0 + 0 ≤ _), (by decide : 0 + 0 ≤ _)⟩)
      dsimp only [Pt.U, Pt.locs, Pt.cells, Pt.slots] at X146 l146 y146 z146 st146 hQ146
      subst l146 y146 z146
      obtain ⟨r146, s146, rfl, hr146, hR146, N146q, K146, OB146⟩ := hQ146
      have N146 := Fr.app N136 N146q
      refine own_step (fun t k => st146.trans k) ?_
      have K146' := K136.trans K146 (fun x hx => Or.inl hx)
      have Z146 := Nat.le_trans Z136 K146.1
      obtain ⟨T147, h147, X147, e147, W147, st147⟩ := putF X146 hx hZ hown (host := "") (Or.inl (hw _ (List.mem_of_getElem? (i := 40) rfl))) Via.refl rfl OB146.2.2.2.2.2.2.2 OB146.1 (Or.inl (hw _ (List.mem_of_getElem? (i := 41) rfl))) (hw _ (List.mem_of_getElem? (i := 4) rfl)) (ty := .long) (by decide) rfl rfl (g := (mkF m 119 #[.val (.ref a1), .unset, .unset] [(.long r146), (.ref a1)])) rfl rfl (hb hby d3_119)
      have N147 := Fr.snoc X147 N146 ga1
      have K147 := K146'.wr W147 (Or.inl (List.mem_of_getElem? (i := 0) rfl))
      have Z147 : n0 ≤ h147.size := Nat.le_trans Z146 (Keep.of_wr W147).1
      have E_a1_147 : Exa Z h147 a1 "com/example/tablewalk/tablewalk/SyntheticCast" := OB146.1.wr W147
      have F_a1_film_147 : Fld Z h147 a1 "com/example/tablewalk/tablewalk/SyntheticCast" "film" "J" (.long u1) := OB146.2.1.other W147 (Or.inr (slot_ne (Or.inl (hw _ (List.mem_of_getElem? (i := 14) rfl))) (Or.inl (hw _ (List.mem_of_getElem? (i := 41) rfl))) (by decide) (t := .long) (t' := .long) (by decide) (by decide)))
      have F_a1_films_147 : Fld Z h147 a1 "com/example/tablewalk/tablewalk/SyntheticCast" "films" "J" (.long u2) := OB146.2.2.1.other W147 (Or.inr (slot_ne (Or.inr (hw _ (List.mem_of_getElem? (i := 17) rfl))) (Or.inl (hw _ (List.mem_of_getElem? (i := 41) rfl))) (by decide) (t := .long) (t' := .long) (by decide) (by decide)))
      have F_a1_performers_147 : Fld Z h147 a1 "com/example/tablewalk/tablewalk/SyntheticCast" "performers" "J" (.long u3) := OB146.2.2.2.1.other W147 (Or.inr (slot_ne (Or.inr (hw _ (List.mem_of_getElem? (i := 19) rfl))) (Or.inl (hw _ (List.mem_of_getElem? (i := 41) rfl))) (by decide) (t := .long) (t' := .long) (by decide) (by decide)))
      have F_a1_state_147 : Fld Z h147 a1 "com/example/tablewalk/tablewalk/SyntheticCast" "state" "J" (.long s146) := OB146.2.2.2.2.1.other W147 (Or.inr (slot_ne (Or.inl (hw _ (List.mem_of_getElem? (i := 21) rfl))) (Or.inl (hw _ (List.mem_of_getElem? (i := 41) rfl))) (by decide) (t := .long) (t' := .long) (by decide) (by decide)))
      have F_a1_left_147 : Fld Z h147 a1 "com/example/tablewalk/tablewalk/SyntheticCast" "left" "J" (.long (u5 - (1 : Int64))) := OB146.2.2.2.2.2.1.other W147 (Or.inr (slot_ne (Or.inl (hw _ (List.mem_of_getElem? (i := 28) rfl))) (Or.inl (hw _ (List.mem_of_getElem? (i := 41) rfl))) (by decide) (t := .long) (t' := .long) (by decide) (by decide)))
      have F_a1_small_147 : Fld Z h147 a1 "com/example/tablewalk/tablewalk/SyntheticCast" "small" "Z" (.int u6) := OB146.2.2.2.2.2.2.1.other W147 (Or.inr (slot_ne (Or.inl (hw _ (List.mem_of_getElem? (i := 38) rfl))) (Or.inl (hw _ (List.mem_of_getElem? (i := 41) rfl))) (by decide) (t := .boolean) (t' := .long) (by decide) (by decide)))
      have F_a1_performer_147 : Fld Z h147 a1 "com/example/tablewalk/tablewalk/SyntheticCast" "performer" "J" (.long r146) := OB146.2.2.2.2.2.2.2.same W147
      refine own_step st147 ?_
      refine own_step (T' := T147) (f' := (mkF m 154 #[.val (.ref a1), .unset, .unset] [(.int (1 : Int32))])) (fun t k => ?_) ?_
      · show Steps p.tables e below (T147.setTop (mkF m 122 #[.val (.ref a1), .unset, .unset] [])) _
        refine XS.goto X147.here hx rfl (pc0 := 122) (pc' := 153) rfl (hb hby d3_122) (by decide) (by decide) ?_
        show Steps p.tables e below (T147.setTop (mkF m 153 #[.val (.ref a1), .unset, .unset] [])) _
        refine XS.iconst X147.here hx rfl (hb hby d3_153) ?_
        exact k
      exact own_retZ X147 hx hret hlk (hb hby d3_154) (by decide) (by decide) (by rw [e147]; exact ⟨_, _, _, _, _, _, rfl, N147, K147, ⟨E_a1_147, F_a1_film_147, F_a1_films_147, F_a1_performers_147, F_a1_state_147, F_a1_left_147, F_a1_small_147, F_a1_performer_147⟩, Or.inr ⟨rfl, Or.inl ⟨hc6_0, rfl⟩, (own_dec hleft hc6_0), ⟨hr146, hR146⟩⟩⟩)
def own_f7 (p1 : Int32) (q2 : Int64) (q3 : Int64) (p4 : Int32) (q5 : Int64) (q6 : Int64) (q7 : Int64) (q8 : Int64) : Int32 := (if p1 = (0 : Int32) then (if p4 = (0 : Int32) then (if q5 = q2 then (if q6 = q3 then (1 : Int32) else (0 : Int32)) else (0 : Int32)) else (0 : Int32)) else (if p4 = (0 : Int32) then (if q2 = (q7 - (1 : Int64)) then (if q5 = q2 then (if q6 = q3 then (1 : Int32) else (0 : Int32)) else (0 : Int32)) else (0 : Int32)) else (if q5 = q2 then (if q5 < (0 : Int64) then (0 : Int32) else (if q5 < q7 then (if q6 < (0 : Int64) then (0 : Int32) else (if q6 < q8 then (1 : Int32) else (0 : Int32))) else (0 : Int32))) else (if q5 = (q2 + (1 : Int64)) then (if q5 < (0 : Int64) then (0 : Int32) else (if q5 < q7 then (if q6 < (0 : Int64) then (0 : Int32) else (if q6 < q8 then (1 : Int32) else (0 : Int32))) else (0 : Int32))) else (0 : Int32)))))
theorem d7_0 : decode method_3_code 0 = .ok (.iload_n 0, 1) := by decide +kernel
theorem d7_1 : decode method_3_code 1 = .ok (.ifCond .ne 28, 3) := by decide +kernel
theorem d7_4 : decode method_3_code 4 = .ok (.iload 5, 2) := by decide +kernel
theorem d7_6 : decode method_3_code 6 = .ok (.ifCond .ne 21, 3) := by decide +kernel
theorem d7_9 : decode method_3_code 9 = .ok (.lload 6, 2) := by decide +kernel
theorem d7_11 : decode method_3_code 11 = .ok (.lload_n 1, 1) := by decide +kernel
theorem d7_12 : decode method_3_code 12 = .ok (.lcmp, 1) := by decide +kernel
theorem d7_13 : decode method_3_code 13 = .ok (.ifCond .ne 14, 3) := by decide +kernel
theorem d7_16 : decode method_3_code 16 = .ok (.lload 8, 2) := by decide +kernel
theorem d7_18 : decode method_3_code 18 = .ok (.lload_n 3, 1) := by decide +kernel
theorem d7_19 : decode method_3_code 19 = .ok (.lcmp, 1) := by decide +kernel
theorem d7_20 : decode method_3_code 20 = .ok (.ifCond .ne 7, 3) := by decide +kernel
theorem d7_23 : decode method_3_code 23 = .ok (.iconst 1, 1) := by decide +kernel
theorem d7_24 : decode method_3_code 24 = .ok (.goto 4, 3) := by decide +kernel
theorem d7_27 : decode method_3_code 27 = .ok (.iconst 0, 1) := by decide +kernel
theorem d7_28 : decode method_3_code 28 = .ok (.ireturn, 1) := by decide +kernel
theorem d7_29 : decode method_3_code 29 = .ok (.iload 5, 2) := by decide +kernel
theorem d7_31 : decode method_3_code 31 = .ok (.ifCond .eq 55, 3) := by decide +kernel
theorem d7_34 : decode method_3_code 34 = .ok (.lload 6, 2) := by decide +kernel
theorem d7_36 : decode method_3_code 36 = .ok (.lload_n 1, 1) := by decide +kernel
theorem d7_37 : decode method_3_code 37 = .ok (.lcmp, 1) := by decide +kernel
theorem d7_38 : decode method_3_code 38 = .ok (.ifCond .eq 12, 3) := by decide +kernel
theorem d7_41 : decode method_3_code 41 = .ok (.lload 6, 2) := by decide +kernel
theorem d7_43 : decode method_3_code 43 = .ok (.lload_n 1, 1) := by decide +kernel
theorem d7_44 : decode method_3_code 44 = .ok (.lconst 1, 1) := by decide +kernel
theorem d7_45 : decode method_3_code 45 = .ok (.ladd, 1) := by decide +kernel
theorem d7_46 : decode method_3_code 46 = .ok (.lcmp, 1) := by decide +kernel
theorem d7_47 : decode method_3_code 47 = .ok (.ifCond .ne 37, 3) := by decide +kernel
theorem d7_50 : decode method_3_code 50 = .ok (.lconst 0, 1) := by decide +kernel
theorem d7_51 : decode method_3_code 51 = .ok (.lload 6, 2) := by decide +kernel
theorem d7_53 : decode method_3_code 53 = .ok (.lcmp, 1) := by decide +kernel
theorem d7_54 : decode method_3_code 54 = .ok (.ifCond .gt 30, 3) := by decide +kernel
theorem d7_57 : decode method_3_code 57 = .ok (.lload 6, 2) := by decide +kernel
theorem d7_59 : decode method_3_code 59 = .ok (.lload 10, 2) := by decide +kernel
theorem d7_61 : decode method_3_code 61 = .ok (.lcmp, 1) := by decide +kernel
theorem d7_62 : decode method_3_code 62 = .ok (.ifCond .ge 22, 3) := by decide +kernel
theorem d7_65 : decode method_3_code 65 = .ok (.lconst 0, 1) := by decide +kernel
theorem d7_66 : decode method_3_code 66 = .ok (.lload 8, 2) := by decide +kernel
theorem d7_68 : decode method_3_code 68 = .ok (.lcmp, 1) := by decide +kernel
theorem d7_69 : decode method_3_code 69 = .ok (.ifCond .gt 15, 3) := by decide +kernel
theorem d7_72 : decode method_3_code 72 = .ok (.lload 8, 2) := by decide +kernel
theorem d7_74 : decode method_3_code 74 = .ok (.lload 12, 2) := by decide +kernel
theorem d7_76 : decode method_3_code 76 = .ok (.lcmp, 1) := by decide +kernel
theorem d7_77 : decode method_3_code 77 = .ok (.ifCond .ge 7, 3) := by decide +kernel
theorem d7_80 : decode method_3_code 80 = .ok (.iconst 1, 1) := by decide +kernel
theorem d7_81 : decode method_3_code 81 = .ok (.goto 4, 3) := by decide +kernel
theorem d7_84 : decode method_3_code 84 = .ok (.iconst 0, 1) := by decide +kernel
theorem d7_85 : decode method_3_code 85 = .ok (.ireturn, 1) := by decide +kernel
theorem d7_86 : decode method_3_code 86 = .ok (.lload_n 1, 1) := by decide +kernel
theorem d7_87 : decode method_3_code 87 = .ok (.lload 10, 2) := by decide +kernel
theorem d7_89 : decode method_3_code 89 = .ok (.lconst 1, 1) := by decide +kernel
theorem d7_90 : decode method_3_code 90 = .ok (.lsub, 1) := by decide +kernel
theorem d7_91 : decode method_3_code 91 = .ok (.lcmp, 1) := by decide +kernel
theorem d7_92 : decode method_3_code 92 = .ok (.ifCond .ne 21, 3) := by decide +kernel
theorem d7_95 : decode method_3_code 95 = .ok (.lload 6, 2) := by decide +kernel
theorem d7_97 : decode method_3_code 97 = .ok (.lload_n 1, 1) := by decide +kernel
theorem d7_98 : decode method_3_code 98 = .ok (.lcmp, 1) := by decide +kernel
theorem d7_99 : decode method_3_code 99 = .ok (.ifCond .ne 14, 3) := by decide +kernel
theorem d7_102 : decode method_3_code 102 = .ok (.lload 8, 2) := by decide +kernel
theorem d7_104 : decode method_3_code 104 = .ok (.lload_n 3, 1) := by decide +kernel
theorem d7_105 : decode method_3_code 105 = .ok (.lcmp, 1) := by decide +kernel
theorem d7_106 : decode method_3_code 106 = .ok (.ifCond .ne 7, 3) := by decide +kernel
theorem d7_109 : decode method_3_code 109 = .ok (.iconst 1, 1) := by decide +kernel
theorem d7_110 : decode method_3_code 110 = .ok (.goto 4, 3) := by decide +kernel
theorem d7_113 : decode method_3_code 113 = .ok (.iconst 0, 1) := by decide +kernel
theorem d7_114 : decode method_3_code 114 = .ok (.ireturn, 1) := by decide +kernel
theorem own_pn1 : plainName "com/example/tablewalk/tablewalk/SyntheticCastNextPinLaw" = true := by first | (simp [plainName, overriddenIn]; done) | decide +kernel
theorem own_ef_own_rm7 (m : MethodId) (x0 : Int32) (x1 : Int64) (x2 : Int64) (x3 : Int32) (x4 : Int64) (x5 : Int64) (x6 : Int64) (x7 : Int64) : entryFrame m #[(.int x0), (.long x1), (.long x2), (.int x3), (.long x4), (.long x5), (.long x6), (.long x7)] 14 = mkF m 0 #[.val (.int x0), .val (.long x1), .second, .val (.long x2), .second, .val (.int x3), .val (.long x4), .second, .val (.long x5), .second, .val (.long x6), .second, .val (.long x7), .second] [] := by first | (simp [entryFrame, mkF, argsToLocals, Value.category]; done) | rfl
def own_Q_rm7 (Z : State) (p1 : Int32) (q2 : Int64) (q3 : Int64) (p4 : Int32) (q5 : Int64) (q6 : Int64) (q7 : Int64) (q8 : Int64) (h0 : Heap) (n0 : Nat) (v : Option Value) (h : Heap) (L : List Loc) : Prop := v = some (.int (own_f7 p1 q2 q3 p4 q5 q6 q7 q8)) ∧ Fr n0 L ∧ h = h0
set_option maxRecDepth 65536 in
set_option maxHeartbeats 40000000 in
theorem own_rm7 (l : Launch) (Z : State) (a0 : Array Value) (hw : ∀ d ∈ tables_1, d.before a0 Z = true) (p1 : Int32) (q2 : Int64) (q3 : Int64) (p4 : Int32) (q5 : Int64) (q6 : Int64) (q7 : Int64) (q8 : Int64) (h0 : Heap) (n0 : Nat) :
    MetFree l (⟨"com/example/tablewalk/tablewalk/SyntheticCastNextPinLaw", "step", "(ZJJZJJJJ)Z"⟩ : MethodName) (head1 [Jvm.Cond.code (⟨"com/example/tablewalk/tablewalk/SyntheticCastNextPinLaw", "step", "(ZJJZJJJJ)Z"⟩ : MethodName) method_3_code 14 (some .boolean)] ({ frames := 0, cells := 0, slots := 0, locals := 0 } : Room)) (fun a U => a = #[(.int p1), (.long q2), (.long q3), (.int p4), (.long q5), (.long q6), (.long q7), (.long q8)] ∧ Z.Warmed39 U.vm ∧ U.heap = h0) (fun _ _ _ _ _ => True) (fun _ U o U' => ∃ v L, o = .returned v ∧ own_Q_rm7 Z p1 q2 q3 p4 q5 q6 q7 q8 h0 n0 v U'.heap L ∧ FrameEnd U o U' L ({ frames := 0, cells := 0, slots := 0, locals := 0 } : Room).cells ({ frames := 0, cells := 0, slots := 0, locals := 0 } : Room).slots) := by
  refine MetFree.of_bodySF (plainFor_of_name own_pn1) hisR ?_
  intro p e s m args below meth c s₁ Bd hml0 hP hK
  obtain ⟨rfl, hZ, hh⟩ := hP
  have hx := Bd.exec
  have hby := Bd.bytes
  have hret := Bd.returns
  have hlk := Bd.notSynchronized
  have hml : c.maxLocals = 14 := hml0
  have hown : s.vm.findClass "com/example/tablewalk/tablewalk/SyntheticCastNextPinLaw" = some m.cls := findClass_of_methodNamed Bd.named
  have hnm := (name_of_methodNamed Bd.named Bd.method).1
  have X0 : Stand p l e ({ frames := 0, cells := 0, slots := 0, locals := 0 } : Room) s m #[(.int p1), (.long q2), (.long q3), (.int p4), (.long q5), (.long q6), (.long q7), (.long q8)] below meth c s₁ [] 0 0 := Stand.of_body Bd
  have e0 : s₁.heap = h0 := by rw [← hh, Bd.state]; rfl
  have N0 := Fr.nil n0
  refine own_Go.cast (own_ef_own_rm7 m p1 q2 q3 p4 q5 q6 q7 q8) ?_
  refine own_step (T' := s₁) (f' := (mkF m 1 #[.val (.int p1), .val (.long q2), .second, .val (.long q3), .second, .val (.int p4), .val (.long q5), .second, .val (.long q6), .second, .val (.long q7), .second, .val (.long q8), .second] [(.int p1)])) (fun t k => ?_) ?_
  · show Steps p.tables e below (s₁.setTop (mkF m 0 #[.val (.int p1), .val (.long q2), .second, .val (.long q3), .second, .val (.int p4), .val (.long q5), .second, .val (.long q6), .second, .val (.long q7), .second, .val (.long q8), .second] [])) _
    refine XS.iloadN X0.here hx rfl (hb hby d7_0) rfl ?_
    exact k
  by_cases hc1_0 : p1 = (0 : Int32)
  · refine own_step (T' := s₁) (f' := (mkF m 6 #[.val (.int p1), .val (.long q2), .second, .val (.long q3), .second, .val (.int p4), .val (.long q5), .second, .val (.long q6), .second, .val (.long q7), .second, .val (.long q8), .second] [(.int p4)])) (fun t k => ?_) ?_
    · show Steps p.tables e below (s₁.setTop (mkF m 1 #[.val (.int p1), .val (.long q2), .second, .val (.long q3), .second, .val (.int p4), .val (.long q5), .second, .val (.long q6), .second, .val (.long q7), .second, .val (.long q8), .second] [(.int p1)])) _
      refine XS.ifNo X0.here hx rfl (hb hby d7_1) rfl ((if0 _ _).trans (teq hc1_0).2) ?_
      show Steps p.tables e below (s₁.setTop (mkF m 4 #[.val (.int p1), .val (.long q2), .second, .val (.long q3), .second, .val (.int p4), .val (.long q5), .second, .val (.long q6), .second, .val (.long q7), .second, .val (.long q8), .second] [])) _
      refine XS.iload X0.here hx rfl (hb hby d7_4) rfl ?_
      exact k
    by_cases hc6_1 : p4 = (0 : Int32)
    · refine own_step (T' := s₁) (f' := (mkF m 13 #[.val (.int p1), .val (.long q2), .second, .val (.long q3), .second, .val (.int p4), .val (.long q5), .second, .val (.long q6), .second, .val (.long q7), .second, .val (.long q8), .second] [(.int (lcmpW q5 q2))])) (fun t k => ?_) ?_
      · show Steps p.tables e below (s₁.setTop (mkF m 6 #[.val (.int p1), .val (.long q2), .second, .val (.long q3), .second, .val (.int p4), .val (.long q5), .second, .val (.long q6), .second, .val (.long q7), .second, .val (.long q8), .second] [(.int p4)])) _
        refine XS.ifNo X0.here hx rfl (hb hby d7_6) rfl ((if0 _ _).trans (teq hc6_1).2) ?_
        show Steps p.tables e below (s₁.setTop (mkF m 9 #[.val (.int p1), .val (.long q2), .second, .val (.long q3), .second, .val (.int p4), .val (.long q5), .second, .val (.long q6), .second, .val (.long q7), .second, .val (.long q8), .second] [])) _
        refine XS.lload X0.here hx rfl (hb hby d7_9) rfl ?_
        show Steps p.tables e below (s₁.setTop (mkF m 11 #[.val (.int p1), .val (.long q2), .second, .val (.long q3), .second, .val (.int p4), .val (.long q5), .second, .val (.long q6), .second, .val (.long q7), .second, .val (.long q8), .second] [(.long q5)])) _
        refine XS.lloadN X0.here hx rfl (hb hby d7_11) rfl ?_
        show Steps p.tables e below (s₁.setTop (mkF m 12 #[.val (.int p1), .val (.long q2), .second, .val (.long q3), .second, .val (.int p4), .val (.long q5), .second, .val (.long q6), .second, .val (.long q7), .second, .val (.long q8), .second] [(.long q2), (.long q5)])) _
        refine XS.lcmp X0.here hx rfl (hb hby d7_12) rfl ?_
        exact k
      by_cases hc13_2 : q5 = q2
      · refine own_step (T' := s₁) (f' := (mkF m 20 #[.val (.int p1), .val (.long q2), .second, .val (.long q3), .second, .val (.int p4), .val (.long q5), .second, .val (.long q6), .second, .val (.long q7), .second, .val (.long q8), .second] [(.int (lcmpW q6 q3))])) (fun t k => ?_) ?_
        · show Steps p.tables e below (s₁.setTop (mkF m 13 #[.val (.int p1), .val (.long q2), .second, .val (.long q3), .second, .val (.int p4), .val (.long q5), .second, .val (.long q6), .second, .val (.long q7), .second, .val (.long q8), .second] [(.int (lcmpW q5 q2))])) _
          refine XS.ifNo X0.here hx rfl (hb hby d7_13) rfl ((if0 _ _).trans (teq ((lw_eq q5 q2).mpr hc13_2)).2) ?_
          show Steps p.tables e below (s₁.setTop (mkF m 16 #[.val (.int p1), .val (.long q2), .second, .val (.long q3), .second, .val (.int p4), .val (.long q5), .second, .val (.long q6), .second, .val (.long q7), .second, .val (.long q8), .second] [])) _
          refine XS.lload X0.here hx rfl (hb hby d7_16) rfl ?_
          show Steps p.tables e below (s₁.setTop (mkF m 18 #[.val (.int p1), .val (.long q2), .second, .val (.long q3), .second, .val (.int p4), .val (.long q5), .second, .val (.long q6), .second, .val (.long q7), .second, .val (.long q8), .second] [(.long q6)])) _
          refine XS.lloadN X0.here hx rfl (hb hby d7_18) rfl ?_
          show Steps p.tables e below (s₁.setTop (mkF m 19 #[.val (.int p1), .val (.long q2), .second, .val (.long q3), .second, .val (.int p4), .val (.long q5), .second, .val (.long q6), .second, .val (.long q7), .second, .val (.long q8), .second] [(.long q3), (.long q6)])) _
          refine XS.lcmp X0.here hx rfl (hb hby d7_19) rfl ?_
          exact k
        by_cases hc20_3 : q6 = q3
        · refine own_step (T' := s₁) (f' := (mkF m 28 #[.val (.int p1), .val (.long q2), .second, .val (.long q3), .second, .val (.int p4), .val (.long q5), .second, .val (.long q6), .second, .val (.long q7), .second, .val (.long q8), .second] [(.int (1 : Int32))])) (fun t k => ?_) ?_
          · show Steps p.tables e below (s₁.setTop (mkF m 20 #[.val (.int p1), .val (.long q2), .second, .val (.long q3), .second, .val (.int p4), .val (.long q5), .second, .val (.long q6), .second, .val (.long q7), .second, .val (.long q8), .second] [(.int (lcmpW q6 q3))])) _
            refine XS.ifNo X0.here hx rfl (hb hby d7_20) rfl ((if0 _ _).trans (teq ((lw_eq q6 q3).mpr hc20_3)).2) ?_
            show Steps p.tables e below (s₁.setTop (mkF m 23 #[.val (.int p1), .val (.long q2), .second, .val (.long q3), .second, .val (.int p4), .val (.long q5), .second, .val (.long q6), .second, .val (.long q7), .second, .val (.long q8), .second] [])) _
            refine XS.iconst X0.here hx rfl (hb hby d7_23) ?_
            show Steps p.tables e below (s₁.setTop (mkF m 24 #[.val (.int p1), .val (.long q2), .second, .val (.long q3), .second, .val (.int p4), .val (.long q5), .second, .val (.long q6), .second, .val (.long q7), .second, .val (.long q8), .second] [(.int (1 : Int32))])) _
            refine XS.goto X0.here hx rfl (pc0 := 24) (pc' := 28) rfl (hb hby d7_24) (by decide) (by decide) ?_
            exact k
          exact own_retZ X0 hx hret hlk (hb hby d7_28) (by decide) (by decide) ⟨(congrArg (fun z => some (Value.int z)) ((show nar .boolean (1 : Int32) = (1 : Int32) from rfl).trans (show (1 : Int32) = own_f7 p1 q2 q3 p4 q5 q6 q7 q8 from (by rw [own_f7, if_pos hc1_0, if_pos hc6_1, if_pos hc13_2, if_pos hc20_3])))), N0, e0⟩
        · refine own_step (T' := s₁) (f' := (mkF m 28 #[.val (.int p1), .val (.long q2), .second, .val (.long q3), .second, .val (.int p4), .val (.long q5), .second, .val (.long q6), .second, .val (.long q7), .second, .val (.long q8), .second] [(.int (0 : Int32))])) (fun t k => ?_) ?_
          · show Steps p.tables e below (s₁.setTop (mkF m 20 #[.val (.int p1), .val (.long q2), .second, .val (.long q3), .second, .val (.int p4), .val (.long q5), .second, .val (.long q6), .second, .val (.long q7), .second, .val (.long q8), .second] [(.int (lcmpW q6 q3))])) _
            refine XS.ifYes X0.here hx rfl (pc0 := 20) (pc' := 27) rfl (hb hby d7_20) rfl ((if0 _ _).trans (feq (fun q => hc20_3 ((lw_eq q6 q3).mp q))).2) (by decide) (by decide) ?_
            show Steps p.tables e below (s₁.setTop (mkF m 27 #[.val (.int p1), .val (.long q2), .second, .val (.long q3), .second, .val (.int p4), .val (.long q5), .second, .val (.long q6), .second, .val (.long q7), .second, .val (.long q8), .second] [])) _
            refine XS.iconst X0.here hx rfl (hb hby d7_27) ?_
            exact k
          exact own_retZ X0 hx hret hlk (hb hby d7_28) (by decide) (by decide) ⟨(congrArg (fun z => some (Value.int z)) ((show nar .boolean (0 : Int32) = (0 : Int32) from rfl).trans (show (0 : Int32) = own_f7 p1 q2 q3 p4 q5 q6 q7 q8 from (by rw [own_f7, if_pos hc1_0, if_pos hc6_1, if_pos hc13_2, if_neg hc20_3])))), N0, e0⟩
      · refine own_step (T' := s₁) (f' := (mkF m 28 #[.val (.int p1), .val (.long q2), .second, .val (.long q3), .second, .val (.int p4), .val (.long q5), .second, .val (.long q6), .second, .val (.long q7), .second, .val (.long q8), .second] [(.int (0 : Int32))])) (fun t k => ?_) ?_
        · show Steps p.tables e below (s₁.setTop (mkF m 13 #[.val (.int p1), .val (.long q2), .second, .val (.long q3), .second, .val (.int p4), .val (.long q5), .second, .val (.long q6), .second, .val (.long q7), .second, .val (.long q8), .second] [(.int (lcmpW q5 q2))])) _
          refine XS.ifYes X0.here hx rfl (pc0 := 13) (pc' := 27) rfl (hb hby d7_13) rfl ((if0 _ _).trans (feq (fun q => hc13_2 ((lw_eq q5 q2).mp q))).2) (by decide) (by decide) ?_
          show Steps p.tables e below (s₁.setTop (mkF m 27 #[.val (.int p1), .val (.long q2), .second, .val (.long q3), .second, .val (.int p4), .val (.long q5), .second, .val (.long q6), .second, .val (.long q7), .second, .val (.long q8), .second] [])) _
          refine XS.iconst X0.here hx rfl (hb hby d7_27) ?_
          exact k
        exact own_retZ X0 hx hret hlk (hb hby d7_28) (by decide) (by decide) ⟨(congrArg (fun z => some (Value.int z)) ((show nar .boolean (0 : Int32) = (0 : Int32) from rfl).trans (show (0 : Int32) = own_f7 p1 q2 q3 p4 q5 q6 q7 q8 from (by rw [own_f7, if_pos hc1_0, if_pos hc6_1, if_neg hc13_2])))), N0, e0⟩
    · refine own_step (T' := s₁) (f' := (mkF m 28 #[.val (.int p1), .val (.long q2), .second, .val (.long q3), .second, .val (.int p4), .val (.long q5), .second, .val (.long q6), .second, .val (.long q7), .second, .val (.long q8), .second] [(.int (0 : Int32))])) (fun t k => ?_) ?_
      · show Steps p.tables e below (s₁.setTop (mkF m 6 #[.val (.int p1), .val (.long q2), .second, .val (.long q3), .second, .val (.int p4), .val (.long q5), .second, .val (.long q6), .second, .val (.long q7), .second, .val (.long q8), .second] [(.int p4)])) _
        refine XS.ifYes X0.here hx rfl (pc0 := 6) (pc' := 27) rfl (hb hby d7_6) rfl ((if0 _ _).trans (feq hc6_1).2) (by decide) (by decide) ?_
        show Steps p.tables e below (s₁.setTop (mkF m 27 #[.val (.int p1), .val (.long q2), .second, .val (.long q3), .second, .val (.int p4), .val (.long q5), .second, .val (.long q6), .second, .val (.long q7), .second, .val (.long q8), .second] [])) _
        refine XS.iconst X0.here hx rfl (hb hby d7_27) ?_
        exact k
      exact own_retZ X0 hx hret hlk (hb hby d7_28) (by decide) (by decide) ⟨(congrArg (fun z => some (Value.int z)) ((show nar .boolean (0 : Int32) = (0 : Int32) from rfl).trans (show (0 : Int32) = own_f7 p1 q2 q3 p4 q5 q6 q7 q8 from (by rw [own_f7, if_pos hc1_0, if_neg hc6_1])))), N0, e0⟩
  · refine own_step (T' := s₁) (f' := (mkF m 31 #[.val (.int p1), .val (.long q2), .second, .val (.long q3), .second, .val (.int p4), .val (.long q5), .second, .val (.long q6), .second, .val (.long q7), .second, .val (.long q8), .second] [(.int p4)])) (fun t k => ?_) ?_
    · show Steps p.tables e below (s₁.setTop (mkF m 1 #[.val (.int p1), .val (.long q2), .second, .val (.long q3), .second, .val (.int p4), .val (.long q5), .second, .val (.long q6), .second, .val (.long q7), .second, .val (.long q8), .second] [(.int p1)])) _
      refine XS.ifYes X0.here hx rfl (pc0 := 1) (pc' := 29) rfl (hb hby d7_1) rfl ((if0 _ _).trans (feq hc1_0).2) (by decide) (by decide) ?_
      show Steps p.tables e below (s₁.setTop (mkF m 29 #[.val (.int p1), .val (.long q2), .second, .val (.long q3), .second, .val (.int p4), .val (.long q5), .second, .val (.long q6), .second, .val (.long q7), .second, .val (.long q8), .second] [])) _
      refine XS.iload X0.here hx rfl (hb hby d7_29) rfl ?_
      exact k
    by_cases hc31_1 : p4 = (0 : Int32)
    · refine own_step (T' := s₁) (f' := (mkF m 92 #[.val (.int p1), .val (.long q2), .second, .val (.long q3), .second, .val (.int p4), .val (.long q5), .second, .val (.long q6), .second, .val (.long q7), .second, .val (.long q8), .second] [(.int (lcmpW q2 (q7 - (1 : Int64))))])) (fun t k => ?_) ?_
      · show Steps p.tables e below (s₁.setTop (mkF m 31 #[.val (.int p1), .val (.long q2), .second, .val (.long q3), .second, .val (.int p4), .val (.long q5), .second, .val (.long q6), .second, .val (.long q7), .second, .val (.long q8), .second] [(.int p4)])) _
        refine XS.ifYes X0.here hx rfl (pc0 := 31) (pc' := 86) rfl (hb hby d7_31) rfl ((if0 _ _).trans (teq hc31_1).1) (by decide) (by decide) ?_
        show Steps p.tables e below (s₁.setTop (mkF m 86 #[.val (.int p1), .val (.long q2), .second, .val (.long q3), .second, .val (.int p4), .val (.long q5), .second, .val (.long q6), .second, .val (.long q7), .second, .val (.long q8), .second] [])) _
        refine XS.lloadN X0.here hx rfl (hb hby d7_86) rfl ?_
        show Steps p.tables e below (s₁.setTop (mkF m 87 #[.val (.int p1), .val (.long q2), .second, .val (.long q3), .second, .val (.int p4), .val (.long q5), .second, .val (.long q6), .second, .val (.long q7), .second, .val (.long q8), .second] [(.long q2)])) _
        refine XS.lload X0.here hx rfl (hb hby d7_87) rfl ?_
        show Steps p.tables e below (s₁.setTop (mkF m 89 #[.val (.int p1), .val (.long q2), .second, .val (.long q3), .second, .val (.int p4), .val (.long q5), .second, .val (.long q6), .second, .val (.long q7), .second, .val (.long q8), .second] [(.long q7), (.long q2)])) _
        refine XS.lconst X0.here hx rfl (hb hby d7_89) ?_
        show Steps p.tables e below (s₁.setTop (mkF m 90 #[.val (.int p1), .val (.long q2), .second, .val (.long q3), .second, .val (.int p4), .val (.long q5), .second, .val (.long q6), .second, .val (.long q7), .second, .val (.long q8), .second] [(.long (1 : Int64)), (.long q7), (.long q2)])) _
        refine XS.lsub X0.here hx rfl (hb hby d7_90) rfl ?_
        show Steps p.tables e below (s₁.setTop (mkF m 91 #[.val (.int p1), .val (.long q2), .second, .val (.long q3), .second, .val (.int p4), .val (.long q5), .second, .val (.long q6), .second, .val (.long q7), .second, .val (.long q8), .second] [(.long (q7 - (1 : Int64))), (.long q2)])) _
        refine XS.lcmp X0.here hx rfl (hb hby d7_91) rfl ?_
        exact k
      by_cases hc92_2 : q2 = (q7 - (1 : Int64))
      · refine own_step (T' := s₁) (f' := (mkF m 99 #[.val (.int p1), .val (.long q2), .second, .val (.long q3), .second, .val (.int p4), .val (.long q5), .second, .val (.long q6), .second, .val (.long q7), .second, .val (.long q8), .second] [(.int (lcmpW q5 q2))])) (fun t k => ?_) ?_
        · show Steps p.tables e below (s₁.setTop (mkF m 92 #[.val (.int p1), .val (.long q2), .second, .val (.long q3), .second, .val (.int p4), .val (.long q5), .second, .val (.long q6), .second, .val (.long q7), .second, .val (.long q8), .second] [(.int (lcmpW q2 (q7 - (1 : Int64))))])) _
          refine XS.ifNo X0.here hx rfl (hb hby d7_92) rfl ((if0 _ _).trans (teq ((lw_eq q2 (q7 - (1 : Int64))).mpr hc92_2)).2) ?_
          show Steps p.tables e below (s₁.setTop (mkF m 95 #[.val (.int p1), .val (.long q2), .second, .val (.long q3), .second, .val (.int p4), .val (.long q5), .second, .val (.long q6), .second, .val (.long q7), .second, .val (.long q8), .second] [])) _
          refine XS.lload X0.here hx rfl (hb hby d7_95) rfl ?_
          show Steps p.tables e below (s₁.setTop (mkF m 97 #[.val (.int p1), .val (.long q2), .second, .val (.long q3), .second, .val (.int p4), .val (.long q5), .second, .val (.long q6), .second, .val (.long q7), .second, .val (.long q8), .second] [(.long q5)])) _
          refine XS.lloadN X0.here hx rfl (hb hby d7_97) rfl ?_
          show Steps p.tables e below (s₁.setTop (mkF m 98 #[.val (.int p1), .val (.long q2), .second, .val (.long q3), .second, .val (.int p4), .val (.long q5), .second, .val (.long q6), .second, .val (.long q7), .second, .val (.long q8), .second] [(.long q2), (.long q5)])) _
          refine XS.lcmp X0.here hx rfl (hb hby d7_98) rfl ?_
          exact k
        by_cases hc99_3 : q5 = q2
        · refine own_step (T' := s₁) (f' := (mkF m 106 #[.val (.int p1), .val (.long q2), .second, .val (.long q3), .second, .val (.int p4), .val (.long q5), .second, .val (.long q6), .second, .val (.long q7), .second, .val (.long q8), .second] [(.int (lcmpW q6 q3))])) (fun t k => ?_) ?_
          · show Steps p.tables e below (s₁.setTop (mkF m 99 #[.val (.int p1), .val (.long q2), .second, .val (.long q3), .second, .val (.int p4), .val (.long q5), .second, .val (.long q6), .second, .val (.long q7), .second, .val (.long q8), .second] [(.int (lcmpW q5 q2))])) _
            refine XS.ifNo X0.here hx rfl (hb hby d7_99) rfl ((if0 _ _).trans (teq ((lw_eq q5 q2).mpr hc99_3)).2) ?_
            show Steps p.tables e below (s₁.setTop (mkF m 102 #[.val (.int p1), .val (.long q2), .second, .val (.long q3), .second, .val (.int p4), .val (.long q5), .second, .val (.long q6), .second, .val (.long q7), .second, .val (.long q8), .second] [])) _
            refine XS.lload X0.here hx rfl (hb hby d7_102) rfl ?_
            show Steps p.tables e below (s₁.setTop (mkF m 104 #[.val (.int p1), .val (.long q2), .second, .val (.long q3), .second, .val (.int p4), .val (.long q5), .second, .val (.long q6), .second, .val (.long q7), .second, .val (.long q8), .second] [(.long q6)])) _
            refine XS.lloadN X0.here hx rfl (hb hby d7_104) rfl ?_
            show Steps p.tables e below (s₁.setTop (mkF m 105 #[.val (.int p1), .val (.long q2), .second, .val (.long q3), .second, .val (.int p4), .val (.long q5), .second, .val (.long q6), .second, .val (.long q7), .second, .val (.long q8), .second] [(.long q3), (.long q6)])) _
            refine XS.lcmp X0.here hx rfl (hb hby d7_105) rfl ?_
            exact k
          by_cases hc106_4 : q6 = q3
          · refine own_step (T' := s₁) (f' := (mkF m 114 #[.val (.int p1), .val (.long q2), .second, .val (.long q3), .second, .val (.int p4), .val (.long q5), .second, .val (.long q6), .second, .val (.long q7), .second, .val (.long q8), .second] [(.int (1 : Int32))])) (fun t k => ?_) ?_
            · show Steps p.tables e below (s₁.setTop (mkF m 106 #[.val (.int p1), .val (.long q2), .second, .val (.long q3), .second, .val (.int p4), .val (.long q5), .second, .val (.long q6), .second, .val (.long q7), .second, .val (.long q8), .second] [(.int (lcmpW q6 q3))])) _
              refine XS.ifNo X0.here hx rfl (hb hby d7_106) rfl ((if0 _ _).trans (teq ((lw_eq q6 q3).mpr hc106_4)).2) ?_
              show Steps p.tables e below (s₁.setTop (mkF m 109 #[.val (.int p1), .val (.long q2), .second, .val (.long q3), .second, .val (.int p4), .val (.long q5), .second, .val (.long q6), .second, .val (.long q7), .second, .val (.long q8), .second] [])) _
              refine XS.iconst X0.here hx rfl (hb hby d7_109) ?_
              show Steps p.tables e below (s₁.setTop (mkF m 110 #[.val (.int p1), .val (.long q2), .second, .val (.long q3), .second, .val (.int p4), .val (.long q5), .second, .val (.long q6), .second, .val (.long q7), .second, .val (.long q8), .second] [(.int (1 : Int32))])) _
              refine XS.goto X0.here hx rfl (pc0 := 110) (pc' := 114) rfl (hb hby d7_110) (by decide) (by decide) ?_
              exact k
            exact own_retZ X0 hx hret hlk (hb hby d7_114) (by decide) (by decide) ⟨(congrArg (fun z => some (Value.int z)) ((show nar .boolean (1 : Int32) = (1 : Int32) from rfl).trans (show (1 : Int32) = own_f7 p1 q2 q3 p4 q5 q6 q7 q8 from (by rw [own_f7, if_neg hc1_0, if_pos hc31_1, if_pos hc92_2, if_pos hc99_3, if_pos hc106_4])))), N0, e0⟩
          · refine own_step (T' := s₁) (f' := (mkF m 114 #[.val (.int p1), .val (.long q2), .second, .val (.long q3), .second, .val (.int p4), .val (.long q5), .second, .val (.long q6), .second, .val (.long q7), .second, .val (.long q8), .second] [(.int (0 : Int32))])) (fun t k => ?_) ?_
            · show Steps p.tables e below (s₁.setTop (mkF m 106 #[.val (.int p1), .val (.long q2), .second, .val (.long q3), .second, .val (.int p4), .val (.long q5), .second, .val (.long q6), .second, .val (.long q7), .second, .val (.long q8), .second] [(.int (lcmpW q6 q3))])) _
              refine XS.ifYes X0.here hx rfl (pc0 := 106) (pc' := 113) rfl (hb hby d7_106) rfl ((if0 _ _).trans (feq (fun q => hc106_4 ((lw_eq q6 q3).mp q))).2) (by decide) (by decide) ?_
              show Steps p.tables e below (s₁.setTop (mkF m 113 #[.val (.int p1), .val (.long q2), .second, .val (.long q3), .second, .val (.int p4), .val (.long q5), .second, .val (.long q6), .second, .val (.long q7), .second, .val (.long q8), .second] [])) _
              refine XS.iconst X0.here hx rfl (hb hby d7_113) ?_
              exact k
            exact own_retZ X0 hx hret hlk (hb hby d7_114) (by decide) (by decide) ⟨(congrArg (fun z => some (Value.int z)) ((show nar .boolean (0 : Int32) = (0 : Int32) from rfl).trans (show (0 : Int32) = own_f7 p1 q2 q3 p4 q5 q6 q7 q8 from (by rw [own_f7, if_neg hc1_0, if_pos hc31_1, if_pos hc92_2, if_pos hc99_3, if_neg hc106_4])))), N0, e0⟩
        · refine own_step (T' := s₁) (f' := (mkF m 114 #[.val (.int p1), .val (.long q2), .second, .val (.long q3), .second, .val (.int p4), .val (.long q5), .second, .val (.long q6), .second, .val (.long q7), .second, .val (.long q8), .second] [(.int (0 : Int32))])) (fun t k => ?_) ?_
          · show Steps p.tables e below (s₁.setTop (mkF m 99 #[.val (.int p1), .val (.long q2), .second, .val (.long q3), .second, .val (.int p4), .val (.long q5), .second, .val (.long q6), .second, .val (.long q7), .second, .val (.long q8), .second] [(.int (lcmpW q5 q2))])) _
            refine XS.ifYes X0.here hx rfl (pc0 := 99) (pc' := 113) rfl (hb hby d7_99) rfl ((if0 _ _).trans (feq (fun q => hc99_3 ((lw_eq q5 q2).mp q))).2) (by decide) (by decide) ?_
            show Steps p.tables e below (s₁.setTop (mkF m 113 #[.val (.int p1), .val (.long q2), .second, .val (.long q3), .second, .val (.int p4), .val (.long q5), .second, .val (.long q6), .second, .val (.long q7), .second, .val (.long q8), .second] [])) _
            refine XS.iconst X0.here hx rfl (hb hby d7_113) ?_
            exact k
          exact own_retZ X0 hx hret hlk (hb hby d7_114) (by decide) (by decide) ⟨(congrArg (fun z => some (Value.int z)) ((show nar .boolean (0 : Int32) = (0 : Int32) from rfl).trans (show (0 : Int32) = own_f7 p1 q2 q3 p4 q5 q6 q7 q8 from (by rw [own_f7, if_neg hc1_0, if_pos hc31_1, if_pos hc92_2, if_neg hc99_3])))), N0, e0⟩
      · refine own_step (T' := s₁) (f' := (mkF m 114 #[.val (.int p1), .val (.long q2), .second, .val (.long q3), .second, .val (.int p4), .val (.long q5), .second, .val (.long q6), .second, .val (.long q7), .second, .val (.long q8), .second] [(.int (0 : Int32))])) (fun t k => ?_) ?_
        · show Steps p.tables e below (s₁.setTop (mkF m 92 #[.val (.int p1), .val (.long q2), .second, .val (.long q3), .second, .val (.int p4), .val (.long q5), .second, .val (.long q6), .second, .val (.long q7), .second, .val (.long q8), .second] [(.int (lcmpW q2 (q7 - (1 : Int64))))])) _
          refine XS.ifYes X0.here hx rfl (pc0 := 92) (pc' := 113) rfl (hb hby d7_92) rfl ((if0 _ _).trans (feq (fun q => hc92_2 ((lw_eq q2 (q7 - (1 : Int64))).mp q))).2) (by decide) (by decide) ?_
          show Steps p.tables e below (s₁.setTop (mkF m 113 #[.val (.int p1), .val (.long q2), .second, .val (.long q3), .second, .val (.int p4), .val (.long q5), .second, .val (.long q6), .second, .val (.long q7), .second, .val (.long q8), .second] [])) _
          refine XS.iconst X0.here hx rfl (hb hby d7_113) ?_
          exact k
        exact own_retZ X0 hx hret hlk (hb hby d7_114) (by decide) (by decide) ⟨(congrArg (fun z => some (Value.int z)) ((show nar .boolean (0 : Int32) = (0 : Int32) from rfl).trans (show (0 : Int32) = own_f7 p1 q2 q3 p4 q5 q6 q7 q8 from (by rw [own_f7, if_neg hc1_0, if_pos hc31_1, if_neg hc92_2])))), N0, e0⟩
    · refine own_step (T' := s₁) (f' := (mkF m 38 #[.val (.int p1), .val (.long q2), .second, .val (.long q3), .second, .val (.int p4), .val (.long q5), .second, .val (.long q6), .second, .val (.long q7), .second, .val (.long q8), .second] [(.int (lcmpW q5 q2))])) (fun t k => ?_) ?_
      · show Steps p.tables e below (s₁.setTop (mkF m 31 #[.val (.int p1), .val (.long q2), .second, .val (.long q3), .second, .val (.int p4), .val (.long q5), .second, .val (.long q6), .second, .val (.long q7), .second, .val (.long q8), .second] [(.int p4)])) _
        refine XS.ifNo X0.here hx rfl (hb hby d7_31) rfl ((if0 _ _).trans (feq hc31_1).1) ?_
        show Steps p.tables e below (s₁.setTop (mkF m 34 #[.val (.int p1), .val (.long q2), .second, .val (.long q3), .second, .val (.int p4), .val (.long q5), .second, .val (.long q6), .second, .val (.long q7), .second, .val (.long q8), .second] [])) _
        refine XS.lload X0.here hx rfl (hb hby d7_34) rfl ?_
        show Steps p.tables e below (s₁.setTop (mkF m 36 #[.val (.int p1), .val (.long q2), .second, .val (.long q3), .second, .val (.int p4), .val (.long q5), .second, .val (.long q6), .second, .val (.long q7), .second, .val (.long q8), .second] [(.long q5)])) _
        refine XS.lloadN X0.here hx rfl (hb hby d7_36) rfl ?_
        show Steps p.tables e below (s₁.setTop (mkF m 37 #[.val (.int p1), .val (.long q2), .second, .val (.long q3), .second, .val (.int p4), .val (.long q5), .second, .val (.long q6), .second, .val (.long q7), .second, .val (.long q8), .second] [(.long q2), (.long q5)])) _
        refine XS.lcmp X0.here hx rfl (hb hby d7_37) rfl ?_
        exact k
      by_cases hc38_2 : q5 = q2
      · refine own_step (T' := s₁) (f' := (mkF m 54 #[.val (.int p1), .val (.long q2), .second, .val (.long q3), .second, .val (.int p4), .val (.long q5), .second, .val (.long q6), .second, .val (.long q7), .second, .val (.long q8), .second] [(.int (lcmpW (0 : Int64) q5))])) (fun t k => ?_) ?_
        · show Steps p.tables e below (s₁.setTop (mkF m 38 #[.val (.int p1), .val (.long q2), .second, .val (.long q3), .second, .val (.int p4), .val (.long q5), .second, .val (.long q6), .second, .val (.long q7), .second, .val (.long q8), .second] [(.int (lcmpW q5 q2))])) _
          refine XS.ifYes X0.here hx rfl (pc0 := 38) (pc' := 50) rfl (hb hby d7_38) rfl ((if0 _ _).trans (teq ((lw_eq q5 q2).mpr hc38_2)).1) (by decide) (by decide) ?_
          show Steps p.tables e below (s₁.setTop (mkF m 50 #[.val (.int p1), .val (.long q2), .second, .val (.long q3), .second, .val (.int p4), .val (.long q5), .second, .val (.long q6), .second, .val (.long q7), .second, .val (.long q8), .second] [])) _
          refine XS.lconst X0.here hx rfl (hb hby d7_50) ?_
          show Steps p.tables e below (s₁.setTop (mkF m 51 #[.val (.int p1), .val (.long q2), .second, .val (.long q3), .second, .val (.int p4), .val (.long q5), .second, .val (.long q6), .second, .val (.long q7), .second, .val (.long q8), .second] [(.long (0 : Int64))])) _
          refine XS.lload X0.here hx rfl (hb hby d7_51) rfl ?_
          show Steps p.tables e below (s₁.setTop (mkF m 53 #[.val (.int p1), .val (.long q2), .second, .val (.long q3), .second, .val (.int p4), .val (.long q5), .second, .val (.long q6), .second, .val (.long q7), .second, .val (.long q8), .second] [(.long q5), (.long (0 : Int64))])) _
          refine XS.lcmp X0.here hx rfl (hb hby d7_53) rfl ?_
          exact k
        by_cases hc54_3 : q5 < (0 : Int64)
        · refine own_step (T' := s₁) (f' := (mkF m 85 #[.val (.int p1), .val (.long q2), .second, .val (.long q3), .second, .val (.int p4), .val (.long q5), .second, .val (.long q6), .second, .val (.long q7), .second, .val (.long q8), .second] [(.int (0 : Int32))])) (fun t k => ?_) ?_
          · show Steps p.tables e below (s₁.setTop (mkF m 54 #[.val (.int p1), .val (.long q2), .second, .val (.long q3), .second, .val (.int p4), .val (.long q5), .second, .val (.long q6), .second, .val (.long q7), .second, .val (.long q8), .second] [(.int (lcmpW (0 : Int64) q5))])) _
            refine XS.ifYes X0.here hx rfl (pc0 := 54) (pc' := 84) rfl (hb hby d7_54) rfl ((if0 _ _).trans (tlt ((lw_gt (0 : Int64) q5).mpr hc54_3)).2.2.1) (by decide) (by decide) ?_
            show Steps p.tables e below (s₁.setTop (mkF m 84 #[.val (.int p1), .val (.long q2), .second, .val (.long q3), .second, .val (.int p4), .val (.long q5), .second, .val (.long q6), .second, .val (.long q7), .second, .val (.long q8), .second] [])) _
            refine XS.iconst X0.here hx rfl (hb hby d7_84) ?_
            exact k
          exact own_retZ X0 hx hret hlk (hb hby d7_85) (by decide) (by decide) ⟨(congrArg (fun z => some (Value.int z)) ((show nar .boolean (0 : Int32) = (0 : Int32) from rfl).trans (show (0 : Int32) = own_f7 p1 q2 q3 p4 q5 q6 q7 q8 from (by rw [own_f7, if_neg hc1_0, if_neg hc31_1, if_pos hc38_2, if_pos hc54_3])))), N0, e0⟩
        · refine own_step (T' := s₁) (f' := (mkF m 62 #[.val (.int p1), .val (.long q2), .second, .val (.long q3), .second, .val (.int p4), .val (.long q5), .second, .val (.long q6), .second, .val (.long q7), .second, .val (.long q8), .second] [(.int (lcmpW q5 q7))])) (fun t k => ?_) ?_
          · show Steps p.tables e below (s₁.setTop (mkF m 54 #[.val (.int p1), .val (.long q2), .second, .val (.long q3), .second, .val (.int p4), .val (.long q5), .second, .val (.long q6), .second, .val (.long q7), .second, .val (.long q8), .second] [(.int (lcmpW (0 : Int64) q5))])) _
            refine XS.ifNo X0.here hx rfl (hb hby d7_54) rfl ((if0 _ _).trans (flt (fun q => hc54_3 ((lw_gt (0 : Int64) q5).mp q))).2.2.1) ?_
            show Steps p.tables e below (s₁.setTop (mkF m 57 #[.val (.int p1), .val (.long q2), .second, .val (.long q3), .second, .val (.int p4), .val (.long q5), .second, .val (.long q6), .second, .val (.long q7), .second, .val (.long q8), .second] [])) _
            refine XS.lload X0.here hx rfl (hb hby d7_57) rfl ?_
            show Steps p.tables e below (s₁.setTop (mkF m 59 #[.val (.int p1), .val (.long q2), .second, .val (.long q3), .second, .val (.int p4), .val (.long q5), .second, .val (.long q6), .second, .val (.long q7), .second, .val (.long q8), .second] [(.long q5)])) _
            refine XS.lload X0.here hx rfl (hb hby d7_59) rfl ?_
            show Steps p.tables e below (s₁.setTop (mkF m 61 #[.val (.int p1), .val (.long q2), .second, .val (.long q3), .second, .val (.int p4), .val (.long q5), .second, .val (.long q6), .second, .val (.long q7), .second, .val (.long q8), .second] [(.long q7), (.long q5)])) _
            refine XS.lcmp X0.here hx rfl (hb hby d7_61) rfl ?_
            exact k
          by_cases hc62_4 : q5 < q7
          · refine own_step (T' := s₁) (f' := (mkF m 69 #[.val (.int p1), .val (.long q2), .second, .val (.long q3), .second, .val (.int p4), .val (.long q5), .second, .val (.long q6), .second, .val (.long q7), .second, .val (.long q8), .second] [(.int (lcmpW (0 : Int64) q6))])) (fun t k => ?_) ?_
            · show Steps p.tables e below (s₁.setTop (mkF m 62 #[.val (.int p1), .val (.long q2), .second, .val (.long q3), .second, .val (.int p4), .val (.long q5), .second, .val (.long q6), .second, .val (.long q7), .second, .val (.long q8), .second] [(.int (lcmpW q5 q7))])) _
              refine XS.ifNo X0.here hx rfl (hb hby d7_62) rfl ((if0 _ _).trans (tlt ((lw_lt q5 q7).mpr hc62_4)).2.1) ?_
              show Steps p.tables e below (s₁.setTop (mkF m 65 #[.val (.int p1), .val (.long q2), .second, .val (.long q3), .second, .val (.int p4), .val (.long q5), .second, .val (.long q6), .second, .val (.long q7), .second, .val (.long q8), .second] [])) _
              refine XS.lconst X0.here hx rfl (hb hby d7_65) ?_
              show Steps p.tables e below (s₁.setTop (mkF m 66 #[.val (.int p1), .val (.long q2), .second, .val (.long q3), .second, .val (.int p4), .val (.long q5), .second, .val (.long q6), .second, .val (.long q7), .second, .val (.long q8), .second] [(.long (0 : Int64))])) _
              refine XS.lload X0.here hx rfl (hb hby d7_66) rfl ?_
              show Steps p.tables e below (s₁.setTop (mkF m 68 #[.val (.int p1), .val (.long q2), .second, .val (.long q3), .second, .val (.int p4), .val (.long q5), .second, .val (.long q6), .second, .val (.long q7), .second, .val (.long q8), .second] [(.long q6), (.long (0 : Int64))])) _
              refine XS.lcmp X0.here hx rfl (hb hby d7_68) rfl ?_
              exact k
            by_cases hc69_5 : q6 < (0 : Int64)
            · refine own_step (T' := s₁) (f' := (mkF m 85 #[.val (.int p1), .val (.long q2), .second, .val (.long q3), .second, .val (.int p4), .val (.long q5), .second, .val (.long q6), .second, .val (.long q7), .second, .val (.long q8), .second] [(.int (0 : Int32))])) (fun t k => ?_) ?_
              · show Steps p.tables e below (s₁.setTop (mkF m 69 #[.val (.int p1), .val (.long q2), .second, .val (.long q3), .second, .val (.int p4), .val (.long q5), .second, .val (.long q6), .second, .val (.long q7), .second, .val (.long q8), .second] [(.int (lcmpW (0 : Int64) q6))])) _
                refine XS.ifYes X0.here hx rfl (pc0 := 69) (pc' := 84) rfl (hb hby d7_69) rfl ((if0 _ _).trans (tlt ((lw_gt (0 : Int64) q6).mpr hc69_5)).2.2.1) (by decide) (by decide) ?_
                show Steps p.tables e below (s₁.setTop (mkF m 84 #[.val (.int p1), .val (.long q2), .second, .val (.long q3), .second, .val (.int p4), .val (.long q5), .second, .val (.long q6), .second, .val (.long q7), .second, .val (.long q8), .second] [])) _
                refine XS.iconst X0.here hx rfl (hb hby d7_84) ?_
                exact k
              exact own_retZ X0 hx hret hlk (hb hby d7_85) (by decide) (by decide) ⟨(congrArg (fun z => some (Value.int z)) ((show nar .boolean (0 : Int32) = (0 : Int32) from rfl).trans (show (0 : Int32) = own_f7 p1 q2 q3 p4 q5 q6 q7 q8 from (by rw [own_f7, if_neg hc1_0, if_neg hc31_1, if_pos hc38_2, if_neg hc54_3, if_pos hc62_4, if_pos hc69_5])))), N0, e0⟩
            · refine own_step (T' := s₁) (f' := (mkF m 77 #[.val (.int p1), .val (.long q2), .second, .val (.long q3), .second, .val (.int p4), .val (.long q5), .second, .val (.long q6), .second, .val (.long q7), .second, .val (.long q8), .second] [(.int (lcmpW q6 q8))])) (fun t k => ?_) ?_
              · show Steps p.tables e below (s₁.setTop (mkF m 69 #[.val (.int p1), .val (.long q2), .second, .val (.long q3), .second, .val (.int p4), .val (.long q5), .second, .val (.long q6), .second, .val (.long q7), .second, .val (.long q8), .second] [(.int (lcmpW (0 : Int64) q6))])) _
                refine XS.ifNo X0.here hx rfl (hb hby d7_69) rfl ((if0 _ _).trans (flt (fun q => hc69_5 ((lw_gt (0 : Int64) q6).mp q))).2.2.1) ?_
                show Steps p.tables e below (s₁.setTop (mkF m 72 #[.val (.int p1), .val (.long q2), .second, .val (.long q3), .second, .val (.int p4), .val (.long q5), .second, .val (.long q6), .second, .val (.long q7), .second, .val (.long q8), .second] [])) _
                refine XS.lload X0.here hx rfl (hb hby d7_72) rfl ?_
                show Steps p.tables e below (s₁.setTop (mkF m 74 #[.val (.int p1), .val (.long q2), .second, .val (.long q3), .second, .val (.int p4), .val (.long q5), .second, .val (.long q6), .second, .val (.long q7), .second, .val (.long q8), .second] [(.long q6)])) _
                refine XS.lload X0.here hx rfl (hb hby d7_74) rfl ?_
                show Steps p.tables e below (s₁.setTop (mkF m 76 #[.val (.int p1), .val (.long q2), .second, .val (.long q3), .second, .val (.int p4), .val (.long q5), .second, .val (.long q6), .second, .val (.long q7), .second, .val (.long q8), .second] [(.long q8), (.long q6)])) _
                refine XS.lcmp X0.here hx rfl (hb hby d7_76) rfl ?_
                exact k
              by_cases hc77_6 : q6 < q8
              · refine own_step (T' := s₁) (f' := (mkF m 85 #[.val (.int p1), .val (.long q2), .second, .val (.long q3), .second, .val (.int p4), .val (.long q5), .second, .val (.long q6), .second, .val (.long q7), .second, .val (.long q8), .second] [(.int (1 : Int32))])) (fun t k => ?_) ?_
                · show Steps p.tables e below (s₁.setTop (mkF m 77 #[.val (.int p1), .val (.long q2), .second, .val (.long q3), .second, .val (.int p4), .val (.long q5), .second, .val (.long q6), .second, .val (.long q7), .second, .val (.long q8), .second] [(.int (lcmpW q6 q8))])) _
                  refine XS.ifNo X0.here hx rfl (hb hby d7_77) rfl ((if0 _ _).trans (tlt ((lw_lt q6 q8).mpr hc77_6)).2.1) ?_
                  show Steps p.tables e below (s₁.setTop (mkF m 80 #[.val (.int p1), .val (.long q2), .second, .val (.long q3), .second, .val (.int p4), .val (.long q5), .second, .val (.long q6), .second, .val (.long q7), .second, .val (.long q8), .second] [])) _
                  refine XS.iconst X0.here hx rfl (hb hby d7_80) ?_
                  show Steps p.tables e below (s₁.setTop (mkF m 81 #[.val (.int p1), .val (.long q2), .second, .val (.long q3), .second, .val (.int p4), .val (.long q5), .second, .val (.long q6), .second, .val (.long q7), .second, .val (.long q8), .second] [(.int (1 : Int32))])) _
                  refine XS.goto X0.here hx rfl (pc0 := 81) (pc' := 85) rfl (hb hby d7_81) (by decide) (by decide) ?_
                  exact k
                exact own_retZ X0 hx hret hlk (hb hby d7_85) (by decide) (by decide) ⟨(congrArg (fun z => some (Value.int z)) ((show nar .boolean (1 : Int32) = (1 : Int32) from rfl).trans (show (1 : Int32) = own_f7 p1 q2 q3 p4 q5 q6 q7 q8 from (by rw [own_f7, if_neg hc1_0, if_neg hc31_1, if_pos hc38_2, if_neg hc54_3, if_pos hc62_4, if_neg hc69_5, if_pos hc77_6])))), N0, e0⟩
              · refine own_step (T' := s₁) (f' := (mkF m 85 #[.val (.int p1), .val (.long q2), .second, .val (.long q3), .second, .val (.int p4), .val (.long q5), .second, .val (.long q6), .second, .val (.long q7), .second, .val (.long q8), .second] [(.int (0 : Int32))])) (fun t k => ?_) ?_
                · show Steps p.tables e below (s₁.setTop (mkF m 77 #[.val (.int p1), .val (.long q2), .second, .val (.long q3), .second, .val (.int p4), .val (.long q5), .second, .val (.long q6), .second, .val (.long q7), .second, .val (.long q8), .second] [(.int (lcmpW q6 q8))])) _
                  refine XS.ifYes X0.here hx rfl (pc0 := 77) (pc' := 84) rfl (hb hby d7_77) rfl ((if0 _ _).trans (flt (fun q => hc77_6 ((lw_lt q6 q8).mp q))).2.1) (by decide) (by decide) ?_
                  show Steps p.tables e below (s₁.setTop (mkF m 84 #[.val (.int p1), .val (.long q2), .second, .val (.long q3), .second, .val (.int p4), .val (.long q5), .second, .val (.long q6), .second, .val (.long q7), .second, .val (.long q8), .second] [])) _
                  refine XS.iconst X0.here hx rfl (hb hby d7_84) ?_
                  exact k
                exact own_retZ X0 hx hret hlk (hb hby d7_85) (by decide) (by decide) ⟨(congrArg (fun z => some (Value.int z)) ((show nar .boolean (0 : Int32) = (0 : Int32) from rfl).trans (show (0 : Int32) = own_f7 p1 q2 q3 p4 q5 q6 q7 q8 from (by rw [own_f7, if_neg hc1_0, if_neg hc31_1, if_pos hc38_2, if_neg hc54_3, if_pos hc62_4, if_neg hc69_5, if_neg hc77_6])))), N0, e0⟩
          · refine own_step (T' := s₁) (f' := (mkF m 85 #[.val (.int p1), .val (.long q2), .second, .val (.long q3), .second, .val (.int p4), .val (.long q5), .second, .val (.long q6), .second, .val (.long q7), .second, .val (.long q8), .second] [(.int (0 : Int32))])) (fun t k => ?_) ?_
            · show Steps p.tables e below (s₁.setTop (mkF m 62 #[.val (.int p1), .val (.long q2), .second, .val (.long q3), .second, .val (.int p4), .val (.long q5), .second, .val (.long q6), .second, .val (.long q7), .second, .val (.long q8), .second] [(.int (lcmpW q5 q7))])) _
              refine XS.ifYes X0.here hx rfl (pc0 := 62) (pc' := 84) rfl (hb hby d7_62) rfl ((if0 _ _).trans (flt (fun q => hc62_4 ((lw_lt q5 q7).mp q))).2.1) (by decide) (by decide) ?_
              show Steps p.tables e below (s₁.setTop (mkF m 84 #[.val (.int p1), .val (.long q2), .second, .val (.long q3), .second, .val (.int p4), .val (.long q5), .second, .val (.long q6), .second, .val (.long q7), .second, .val (.long q8), .second] [])) _
              refine XS.iconst X0.here hx rfl (hb hby d7_84) ?_
              exact k
            exact own_retZ X0 hx hret hlk (hb hby d7_85) (by decide) (by decide) ⟨(congrArg (fun z => some (Value.int z)) ((show nar .boolean (0 : Int32) = (0 : Int32) from rfl).trans (show (0 : Int32) = own_f7 p1 q2 q3 p4 q5 q6 q7 q8 from (by rw [own_f7, if_neg hc1_0, if_neg hc31_1, if_pos hc38_2, if_neg hc54_3, if_neg hc62_4])))), N0, e0⟩
      · refine own_step (T' := s₁) (f' := (mkF m 47 #[.val (.int p1), .val (.long q2), .second, .val (.long q3), .second, .val (.int p4), .val (.long q5), .second, .val (.long q6), .second, .val (.long q7), .second, .val (.long q8), .second] [(.int (lcmpW q5 (q2 + (1 : Int64))))])) (fun t k => ?_) ?_
        · show Steps p.tables e below (s₁.setTop (mkF m 38 #[.val (.int p1), .val (.long q2), .second, .val (.long q3), .second, .val (.int p4), .val (.long q5), .second, .val (.long q6), .second, .val (.long q7), .second, .val (.long q8), .second] [(.int (lcmpW q5 q2))])) _
          refine XS.ifNo X0.here hx rfl (hb hby d7_38) rfl ((if0 _ _).trans (feq (fun q => hc38_2 ((lw_eq q5 q2).mp q))).1) ?_
          show Steps p.tables e below (s₁.setTop (mkF m 41 #[.val (.int p1), .val (.long q2), .second, .val (.long q3), .second, .val (.int p4), .val (.long q5), .second, .val (.long q6), .second, .val (.long q7), .second, .val (.long q8), .second] [])) _
          refine XS.lload X0.here hx rfl (hb hby d7_41) rfl ?_
          show Steps p.tables e below (s₁.setTop (mkF m 43 #[.val (.int p1), .val (.long q2), .second, .val (.long q3), .second, .val (.int p4), .val (.long q5), .second, .val (.long q6), .second, .val (.long q7), .second, .val (.long q8), .second] [(.long q5)])) _
          refine XS.lloadN X0.here hx rfl (hb hby d7_43) rfl ?_
          show Steps p.tables e below (s₁.setTop (mkF m 44 #[.val (.int p1), .val (.long q2), .second, .val (.long q3), .second, .val (.int p4), .val (.long q5), .second, .val (.long q6), .second, .val (.long q7), .second, .val (.long q8), .second] [(.long q2), (.long q5)])) _
          refine XS.lconst X0.here hx rfl (hb hby d7_44) ?_
          show Steps p.tables e below (s₁.setTop (mkF m 45 #[.val (.int p1), .val (.long q2), .second, .val (.long q3), .second, .val (.int p4), .val (.long q5), .second, .val (.long q6), .second, .val (.long q7), .second, .val (.long q8), .second] [(.long (1 : Int64)), (.long q2), (.long q5)])) _
          refine XS.ladd X0.here hx rfl (hb hby d7_45) rfl ?_
          show Steps p.tables e below (s₁.setTop (mkF m 46 #[.val (.int p1), .val (.long q2), .second, .val (.long q3), .second, .val (.int p4), .val (.long q5), .second, .val (.long q6), .second, .val (.long q7), .second, .val (.long q8), .second] [(.long (q2 + (1 : Int64))), (.long q5)])) _
          refine XS.lcmp X0.here hx rfl (hb hby d7_46) rfl ?_
          exact k
        by_cases hc47_3 : q5 = (q2 + (1 : Int64))
        · refine own_step (T' := s₁) (f' := (mkF m 54 #[.val (.int p1), .val (.long q2), .second, .val (.long q3), .second, .val (.int p4), .val (.long q5), .second, .val (.long q6), .second, .val (.long q7), .second, .val (.long q8), .second] [(.int (lcmpW (0 : Int64) q5))])) (fun t k => ?_) ?_
          · show Steps p.tables e below (s₁.setTop (mkF m 47 #[.val (.int p1), .val (.long q2), .second, .val (.long q3), .second, .val (.int p4), .val (.long q5), .second, .val (.long q6), .second, .val (.long q7), .second, .val (.long q8), .second] [(.int (lcmpW q5 (q2 + (1 : Int64))))])) _
            refine XS.ifNo X0.here hx rfl (hb hby d7_47) rfl ((if0 _ _).trans (teq ((lw_eq q5 (q2 + (1 : Int64))).mpr hc47_3)).2) ?_
            show Steps p.tables e below (s₁.setTop (mkF m 50 #[.val (.int p1), .val (.long q2), .second, .val (.long q3), .second, .val (.int p4), .val (.long q5), .second, .val (.long q6), .second, .val (.long q7), .second, .val (.long q8), .second] [])) _
            refine XS.lconst X0.here hx rfl (hb hby d7_50) ?_
            show Steps p.tables e below (s₁.setTop (mkF m 51 #[.val (.int p1), .val (.long q2), .second, .val (.long q3), .second, .val (.int p4), .val (.long q5), .second, .val (.long q6), .second, .val (.long q7), .second, .val (.long q8), .second] [(.long (0 : Int64))])) _
            refine XS.lload X0.here hx rfl (hb hby d7_51) rfl ?_
            show Steps p.tables e below (s₁.setTop (mkF m 53 #[.val (.int p1), .val (.long q2), .second, .val (.long q3), .second, .val (.int p4), .val (.long q5), .second, .val (.long q6), .second, .val (.long q7), .second, .val (.long q8), .second] [(.long q5), (.long (0 : Int64))])) _
            refine XS.lcmp X0.here hx rfl (hb hby d7_53) rfl ?_
            exact k
          by_cases hc54_4 : q5 < (0 : Int64)
          · refine own_step (T' := s₁) (f' := (mkF m 85 #[.val (.int p1), .val (.long q2), .second, .val (.long q3), .second, .val (.int p4), .val (.long q5), .second, .val (.long q6), .second, .val (.long q7), .second, .val (.long q8), .second] [(.int (0 : Int32))])) (fun t k => ?_) ?_
            · show Steps p.tables e below (s₁.setTop (mkF m 54 #[.val (.int p1), .val (.long q2), .second, .val (.long q3), .second, .val (.int p4), .val (.long q5), .second, .val (.long q6), .second, .val (.long q7), .second, .val (.long q8), .second] [(.int (lcmpW (0 : Int64) q5))])) _
              refine XS.ifYes X0.here hx rfl (pc0 := 54) (pc' := 84) rfl (hb hby d7_54) rfl ((if0 _ _).trans (tlt ((lw_gt (0 : Int64) q5).mpr hc54_4)).2.2.1) (by decide) (by decide) ?_
              show Steps p.tables e below (s₁.setTop (mkF m 84 #[.val (.int p1), .val (.long q2), .second, .val (.long q3), .second, .val (.int p4), .val (.long q5), .second, .val (.long q6), .second, .val (.long q7), .second, .val (.long q8), .second] [])) _
              refine XS.iconst X0.here hx rfl (hb hby d7_84) ?_
              exact k
            exact own_retZ X0 hx hret hlk (hb hby d7_85) (by decide) (by decide) ⟨(congrArg (fun z => some (Value.int z)) ((show nar .boolean (0 : Int32) = (0 : Int32) from rfl).trans (show (0 : Int32) = own_f7 p1 q2 q3 p4 q5 q6 q7 q8 from (by rw [own_f7, if_neg hc1_0, if_neg hc31_1, if_neg hc38_2, if_pos hc47_3, if_pos hc54_4])))), N0, e0⟩
          · refine own_step (T' := s₁) (f' := (mkF m 62 #[.val (.int p1), .val (.long q2), .second, .val (.long q3), .second, .val (.int p4), .val (.long q5), .second, .val (.long q6), .second, .val (.long q7), .second, .val (.long q8), .second] [(.int (lcmpW q5 q7))])) (fun t k => ?_) ?_
            · show Steps p.tables e below (s₁.setTop (mkF m 54 #[.val (.int p1), .val (.long q2), .second, .val (.long q3), .second, .val (.int p4), .val (.long q5), .second, .val (.long q6), .second, .val (.long q7), .second, .val (.long q8), .second] [(.int (lcmpW (0 : Int64) q5))])) _
              refine XS.ifNo X0.here hx rfl (hb hby d7_54) rfl ((if0 _ _).trans (flt (fun q => hc54_4 ((lw_gt (0 : Int64) q5).mp q))).2.2.1) ?_
              show Steps p.tables e below (s₁.setTop (mkF m 57 #[.val (.int p1), .val (.long q2), .second, .val (.long q3), .second, .val (.int p4), .val (.long q5), .second, .val (.long q6), .second, .val (.long q7), .second, .val (.long q8), .second] [])) _
              refine XS.lload X0.here hx rfl (hb hby d7_57) rfl ?_
              show Steps p.tables e below (s₁.setTop (mkF m 59 #[.val (.int p1), .val (.long q2), .second, .val (.long q3), .second, .val (.int p4), .val (.long q5), .second, .val (.long q6), .second, .val (.long q7), .second, .val (.long q8), .second] [(.long q5)])) _
              refine XS.lload X0.here hx rfl (hb hby d7_59) rfl ?_
              show Steps p.tables e below (s₁.setTop (mkF m 61 #[.val (.int p1), .val (.long q2), .second, .val (.long q3), .second, .val (.int p4), .val (.long q5), .second, .val (.long q6), .second, .val (.long q7), .second, .val (.long q8), .second] [(.long q7), (.long q5)])) _
              refine XS.lcmp X0.here hx rfl (hb hby d7_61) rfl ?_
              exact k
            by_cases hc62_5 : q5 < q7
            · refine own_step (T' := s₁) (f' := (mkF m 69 #[.val (.int p1), .val (.long q2), .second, .val (.long q3), .second, .val (.int p4), .val (.long q5), .second, .val (.long q6), .second, .val (.long q7), .second, .val (.long q8), .second] [(.int (lcmpW (0 : Int64) q6))])) (fun t k => ?_) ?_
              · show Steps p.tables e below (s₁.setTop (mkF m 62 #[.val (.int p1), .val (.long q2), .second, .val (.long q3), .second, .val (.int p4), .val (.long q5), .second, .val (.long q6), .second, .val (.long q7), .second, .val (.long q8), .second] [(.int (lcmpW q5 q7))])) _
                refine XS.ifNo X0.here hx rfl (hb hby d7_62) rfl ((if0 _ _).trans (tlt ((lw_lt q5 q7).mpr hc62_5)).2.1) ?_
                show Steps p.tables e below (s₁.setTop (mkF m 65 #[.val (.int p1), .val (.long q2), .second, .val (.long q3), .second, .val (.int p4), .val (.long q5), .second, .val (.long q6), .second, .val (.long q7), .second, .val (.long q8), .second] [])) _
                refine XS.lconst X0.here hx rfl (hb hby d7_65) ?_
                show Steps p.tables e below (s₁.setTop (mkF m 66 #[.val (.int p1), .val (.long q2), .second, .val (.long q3), .second, .val (.int p4), .val (.long q5), .second, .val (.long q6), .second, .val (.long q7), .second, .val (.long q8), .second] [(.long (0 : Int64))])) _
                refine XS.lload X0.here hx rfl (hb hby d7_66) rfl ?_
                show Steps p.tables e below (s₁.setTop (mkF m 68 #[.val (.int p1), .val (.long q2), .second, .val (.long q3), .second, .val (.int p4), .val (.long q5), .second, .val (.long q6), .second, .val (.long q7), .second, .val (.long q8), .second] [(.long q6), (.long (0 : Int64))])) _
                refine XS.lcmp X0.here hx rfl (hb hby d7_68) rfl ?_
                exact k
              by_cases hc69_6 : q6 < (0 : Int64)
              · refine own_step (T' := s₁) (f' := (mkF m 85 #[.val (.int p1), .val (.long q2), .second, .val (.long q3), .second, .val (.int p4), .val (.long q5), .second, .val (.long q6), .second, .val (.long q7), .second, .val (.long q8), .second] [(.int (0 : Int32))])) (fun t k => ?_) ?_
                · show Steps p.tables e below (s₁.setTop (mkF m 69 #[.val (.int p1), .val (.long q2), .second, .val (.long q3), .second, .val (.int p4), .val (.long q5), .second, .val (.long q6), .second, .val (.long q7), .second, .val (.long q8), .second] [(.int (lcmpW (0 : Int64) q6))])) _
                  refine XS.ifYes X0.here hx rfl (pc0 := 69) (pc' := 84) rfl (hb hby d7_69) rfl ((if0 _ _).trans (tlt ((lw_gt (0 : Int64) q6).mpr hc69_6)).2.2.1) (by decide) (by decide) ?_
                  show Steps p.tables e below (s₁.setTop (mkF m 84 #[.val (.int p1), .val (.long q2), .second, .val (.long q3), .second, .val (.int p4), .val (.long q5), .second, .val (.long q6), .second, .val (.long q7), .second, .val (.long q8), .second] [])) _
                  refine XS.iconst X0.here hx rfl (hb hby d7_84) ?_
                  exact k
                exact own_retZ X0 hx hret hlk (hb hby d7_85) (by decide) (by decide) ⟨(congrArg (fun z => some (Value.int z)) ((show nar .boolean (0 : Int32) = (0 : Int32) from rfl).trans (show (0 : Int32) = own_f7 p1 q2 q3 p4 q5 q6 q7 q8 from (by rw [own_f7, if_neg hc1_0, if_neg hc31_1, if_neg hc38_2, if_pos hc47_3, if_neg hc54_4, if_pos hc62_5, if_pos hc69_6])))), N0, e0⟩
              · refine own_step (T' := s₁) (f' := (mkF m 77 #[.val (.int p1), .val (.long q2), .second, .val (.long q3), .second, .val (.int p4), .val (.long q5), .second, .val (.long q6), .second, .val (.long q7), .second, .val (.long q8), .second] [(.int (lcmpW q6 q8))])) (fun t k => ?_) ?_
                · show Steps p.tables e below (s₁.setTop (mkF m 69 #[.val (.int p1), .val (.long q2), .second, .val (.long q3), .second, .val (.int p4), .val (.long q5), .second, .val (.long q6), .second, .val (.long q7), .second, .val (.long q8), .second] [(.int (lcmpW (0 : Int64) q6))])) _
                  refine XS.ifNo X0.here hx rfl (hb hby d7_69) rfl ((if0 _ _).trans (flt (fun q => hc69_6 ((lw_gt (0 : Int64) q6).mp q))).2.2.1) ?_
                  show Steps p.tables e below (s₁.setTop (mkF m 72 #[.val (.int p1), .val (.long q2), .second, .val (.long q3), .second, .val (.int p4), .val (.long q5), .second, .val (.long q6), .second, .val (.long q7), .second, .val (.long q8), .second] [])) _
                  refine XS.lload X0.here hx rfl (hb hby d7_72) rfl ?_
                  show Steps p.tables e below (s₁.setTop (mkF m 74 #[.val (.int p1), .val (.long q2), .second, .val (.long q3), .second, .val (.int p4), .val (.long q5), .second, .val (.long q6), .second, .val (.long q7), .second, .val (.long q8), .second] [(.long q6)])) _
                  refine XS.lload X0.here hx rfl (hb hby d7_74) rfl ?_
                  show Steps p.tables e below (s₁.setTop (mkF m 76 #[.val (.int p1), .val (.long q2), .second, .val (.long q3), .second, .val (.int p4), .val (.long q5), .second, .val (.long q6), .second, .val (.long q7), .second, .val (.long q8), .second] [(.long q8), (.long q6)])) _
                  refine XS.lcmp X0.here hx rfl (hb hby d7_76) rfl ?_
                  exact k
                by_cases hc77_7 : q6 < q8
                · refine own_step (T' := s₁) (f' := (mkF m 85 #[.val (.int p1), .val (.long q2), .second, .val (.long q3), .second, .val (.int p4), .val (.long q5), .second, .val (.long q6), .second, .val (.long q7), .second, .val (.long q8), .second] [(.int (1 : Int32))])) (fun t k => ?_) ?_
                  · show Steps p.tables e below (s₁.setTop (mkF m 77 #[.val (.int p1), .val (.long q2), .second, .val (.long q3), .second, .val (.int p4), .val (.long q5), .second, .val (.long q6), .second, .val (.long q7), .second, .val (.long q8), .second] [(.int (lcmpW q6 q8))])) _
                    refine XS.ifNo X0.here hx rfl (hb hby d7_77) rfl ((if0 _ _).trans (tlt ((lw_lt q6 q8).mpr hc77_7)).2.1) ?_
                    show Steps p.tables e below (s₁.setTop (mkF m 80 #[.val (.int p1), .val (.long q2), .second, .val (.long q3), .second, .val (.int p4), .val (.long q5), .second, .val (.long q6), .second, .val (.long q7), .second, .val (.long q8), .second] [])) _
                    refine XS.iconst X0.here hx rfl (hb hby d7_80) ?_
                    show Steps p.tables e below (s₁.setTop (mkF m 81 #[.val (.int p1), .val (.long q2), .second, .val (.long q3), .second, .val (.int p4), .val (.long q5), .second, .val (.long q6), .second, .val (.long q7), .second, .val (.long q8), .second] [(.int (1 : Int32))])) _
                    refine XS.goto X0.here hx rfl (pc0 := 81) (pc' := 85) rfl (hb hby d7_81) (by decide) (by decide) ?_
                    exact k
                  exact own_retZ X0 hx hret hlk (hb hby d7_85) (by decide) (by decide) ⟨(congrArg (fun z => some (Value.int z)) ((show nar .boolean (1 : Int32) = (1 : Int32) from rfl).trans (show (1 : Int32) = own_f7 p1 q2 q3 p4 q5 q6 q7 q8 from (by rw [own_f7, if_neg hc1_0, if_neg hc31_1, if_neg hc38_2, if_pos hc47_3, if_neg hc54_4, if_pos hc62_5, if_neg hc69_6, if_pos hc77_7])))), N0, e0⟩
                · refine own_step (T' := s₁) (f' := (mkF m 85 #[.val (.int p1), .val (.long q2), .second, .val (.long q3), .second, .val (.int p4), .val (.long q5), .second, .val (.long q6), .second, .val (.long q7), .second, .val (.long q8), .second] [(.int (0 : Int32))])) (fun t k => ?_) ?_
                  · show Steps p.tables e below (s₁.setTop (mkF m 77 #[.val (.int p1), .val (.long q2), .second, .val (.long q3), .second, .val (.int p4), .val (.long q5), .second, .val (.long q6), .second, .val (.long q7), .second, .val (.long q8), .second] [(.int (lcmpW q6 q8))])) _
                    refine XS.ifYes X0.here hx rfl (pc0 := 77) (pc' := 84) rfl (hb hby d7_77) rfl ((if0 _ _).trans (flt (fun q => hc77_7 ((lw_lt q6 q8).mp q))).2.1) (by decide) (by decide) ?_
                    show Steps p.tables e below (s₁.setTop (mkF m 84 #[.val (.int p1), .val (.long q2), .second, .val (.long q3), .second, .val (.int p4), .val (.long q5), .second, .val (.long q6), .second, .val (.long q7), .second, .val (.long q8), .second] [])) _
                    refine XS.iconst X0.here hx rfl (hb hby d7_84) ?_
                    exact k
                  exact own_retZ X0 hx hret hlk (hb hby d7_85) (by decide) (by decide) ⟨(congrArg (fun z => some (Value.int z)) ((show nar .boolean (0 : Int32) = (0 : Int32) from rfl).trans (show (0 : Int32) = own_f7 p1 q2 q3 p4 q5 q6 q7 q8 from (by rw [own_f7, if_neg hc1_0, if_neg hc31_1, if_neg hc38_2, if_pos hc47_3, if_neg hc54_4, if_pos hc62_5, if_neg hc69_6, if_neg hc77_7])))), N0, e0⟩
            · refine own_step (T' := s₁) (f' := (mkF m 85 #[.val (.int p1), .val (.long q2), .second, .val (.long q3), .second, .val (.int p4), .val (.long q5), .second, .val (.long q6), .second, .val (.long q7), .second, .val (.long q8), .second] [(.int (0 : Int32))])) (fun t k => ?_) ?_
              · show Steps p.tables e below (s₁.setTop (mkF m 62 #[.val (.int p1), .val (.long q2), .second, .val (.long q3), .second, .val (.int p4), .val (.long q5), .second, .val (.long q6), .second, .val (.long q7), .second, .val (.long q8), .second] [(.int (lcmpW q5 q7))])) _
                refine XS.ifYes X0.here hx rfl (pc0 := 62) (pc' := 84) rfl (hb hby d7_62) rfl ((if0 _ _).trans (flt (fun q => hc62_5 ((lw_lt q5 q7).mp q))).2.1) (by decide) (by decide) ?_
                show Steps p.tables e below (s₁.setTop (mkF m 84 #[.val (.int p1), .val (.long q2), .second, .val (.long q3), .second, .val (.int p4), .val (.long q5), .second, .val (.long q6), .second, .val (.long q7), .second, .val (.long q8), .second] [])) _
                refine XS.iconst X0.here hx rfl (hb hby d7_84) ?_
                exact k
              exact own_retZ X0 hx hret hlk (hb hby d7_85) (by decide) (by decide) ⟨(congrArg (fun z => some (Value.int z)) ((show nar .boolean (0 : Int32) = (0 : Int32) from rfl).trans (show (0 : Int32) = own_f7 p1 q2 q3 p4 q5 q6 q7 q8 from (by rw [own_f7, if_neg hc1_0, if_neg hc31_1, if_neg hc38_2, if_pos hc47_3, if_neg hc54_4, if_neg hc62_5])))), N0, e0⟩
        · refine own_step (T' := s₁) (f' := (mkF m 85 #[.val (.int p1), .val (.long q2), .second, .val (.long q3), .second, .val (.int p4), .val (.long q5), .second, .val (.long q6), .second, .val (.long q7), .second, .val (.long q8), .second] [(.int (0 : Int32))])) (fun t k => ?_) ?_
          · show Steps p.tables e below (s₁.setTop (mkF m 47 #[.val (.int p1), .val (.long q2), .second, .val (.long q3), .second, .val (.int p4), .val (.long q5), .second, .val (.long q6), .second, .val (.long q7), .second, .val (.long q8), .second] [(.int (lcmpW q5 (q2 + (1 : Int64))))])) _
            refine XS.ifYes X0.here hx rfl (pc0 := 47) (pc' := 84) rfl (hb hby d7_47) rfl ((if0 _ _).trans (feq (fun q => hc47_3 ((lw_eq q5 (q2 + (1 : Int64))).mp q))).2) (by decide) (by decide) ?_
            show Steps p.tables e below (s₁.setTop (mkF m 84 #[.val (.int p1), .val (.long q2), .second, .val (.long q3), .second, .val (.int p4), .val (.long q5), .second, .val (.long q6), .second, .val (.long q7), .second, .val (.long q8), .second] [])) _
            refine XS.iconst X0.here hx rfl (hb hby d7_84) ?_
            exact k
          exact own_retZ X0 hx hret hlk (hb hby d7_85) (by decide) (by decide) ⟨(congrArg (fun z => some (Value.int z)) ((show nar .boolean (0 : Int32) = (0 : Int32) from rfl).trans (show (0 : Int32) = own_f7 p1 q2 q3 p4 q5 q6 q7 q8 from (by rw [own_f7, if_neg hc1_0, if_neg hc31_1, if_neg hc38_2, if_neg hc47_3])))), N0, e0⟩
theorem own_F {f v : Int64} (h : v = (if (f &&& (1 : Int64)) = (0 : Int64) then ((1 : Int64) + (((f.toUInt64 >>> ((1 : Int32) &&& 0x3f).toInt64.toUInt64).toInt64) &&& (3 : Int64))) else ((9223372036854775807 : Int64) - (((f.toUInt64 >>> ((1 : Int32) &&& 0x3f).toInt64.toUInt64).toInt64) &&& (3 : Int64))))) : ¬ (v < (1 : Int64)) ∧ 1 ≤ v.toInt := by
  generalize (f.toUInt64 >>> ((1 : Int32) &&& 0x3f).toInt64.toUInt64).toInt64 = x at h
  have e := c_maskL x 3 2 (by decide) (by decide)
  have k1 : (1 : Int64).toInt = 1 := rfl
  have km : (9223372036854775807 : Int64).toInt = 9223372036854775807 := by decide
  have g : 1 ≤ v.toInt := by
    split at h
    · have a := c_ladd 1 (x &&& 3); have b := rng64 (1 + (x &&& 3)); rw [← h] at a b; rw [k1] at a; omega
    · have a := c_lsub 9223372036854775807 (x &&& 3); have b := rng64 (9223372036854775807 - (x &&& 3)); rw [← h] at a b; rw [km] at a; omega
  exact ⟨by rw [Int64.lt_iff_toInt_lt, k1]; omega, g⟩
theorem own_Pf {f v : Int64} (h : v = (if (f &&& (1 : Int64)) = (0 : Int64) then ((1 : Int64) + (((f.toUInt64 >>> ((1 : Int32) &&& 0x3f).toInt64.toUInt64).toInt64) &&& (7 : Int64))) else ((1 : Int64) + (((f.toUInt64 >>> ((1 : Int32) &&& 0x3f).toInt64.toUInt64).toInt64) - (((f.toUInt64 >>> ((1 : Int32) &&& 0x3f).toInt64.toUInt64).toInt64) / (3037000499 : Int64)) * (3037000499 : Int64))))) : ¬ (v < (1 : Int64)) ∧ ¬ ((3037000499 : Int64) < v) ∧ 0 < v.toInt ∧ v.toInt ≤ 3037000499 := by
  have hx := c_lushr f 1 1 rfl (by decide)
  generalize (f.toUInt64 >>> ((1 : Int32) &&& 0x3f).toInt64.toUInt64).toInt64 = x at h hx
  have e := c_maskL x 7 3 (by decide) (by decide)
  have k1 : (1 : Int64).toInt = 1 := rfl
  have km : (3037000499 : Int64).toInt = 3037000499 := by decide
  have r := (c_lrem x 3037000499 3037000499 km).1 (by omega)
  generalize x - x / 3037000499 * 3037000499 = y at h r
  have g : 1 ≤ v.toInt ∧ v.toInt ≤ 3037000499 := by
    split at h
    · have a := c_ladd 1 (x &&& 7); have b := rng64 (1 + (x &&& 7)); rw [← h] at a b; rw [k1] at a; omega
    · have a := c_ladd 1 y; have b := rng64 (1 + y); rw [← h] at a b; rw [k1] at a; omega
  refine ⟨by rw [Int64.lt_iff_toInt_lt, k1]; omega, by rw [Int64.lt_iff_toInt_lt, km]; omega, by omega, g.2⟩
/-- what holds behind a call of next -/
def own_inv (films perf film left who : Int64) (r : Int32) : Prop :=
  0 ≤ film.toInt ∧ film.toInt < films.toInt ∧ 0 ≤ left.toInt ∧ 0 ≤ who.toInt ∧ who.toInt < perf.toInt ∧ ((r = 0 ∧ left = 0 ∧ film = (films - (1 : Int64))) ∨ r = 1)
theorem own_first {films perf film' left' who' : Int64} {r : Int32} (hF : ¬ (films < (1 : Int64)) ∧ 1 ≤ films.toInt) (hP : ¬ (perf < (1 : Int64)) ∧ ¬ ((3037000499 : Int64) < perf) ∧ 0 < perf.toInt ∧ perf.toInt ≤ 3037000499)
    (h : own_nx (-1) films perf 0 0 film' left' who' r) : r = 1 ∧ film' = 0 ∧ own_inv films perf 0 left' who' 1 := by
  rcases h with ⟨-, -, h, -⟩ | ⟨h1, h2, h3, h4, h5⟩
  · exfalso
    have e := c_lsub films 1; have g := rng64 films
    rw [← h, show (-1 : Int64).toInt = -1 from by decide, show (1 : Int64).toInt = 1 from rfl] at e; omega
  · rcases h2 with ⟨h2, -⟩ | ⟨-, -, h2⟩
    · exact absurd rfl h2
    · refine ⟨h1, by rw [h2]; decide, by decide, by rw [show (0 : Int64).toInt = 0 from rfl]; omega, h3, h4, h5, Or.inr rfl⟩
theorem own_firstq {films perf film left who : Int64} {r : Int32} (h : own_inv films perf film left who r) : ¬ (who < (0 : Int64)) ∧ who < perf := by
  obtain ⟨-, -, -, h4, h5, -⟩ := h
  exact ⟨by rw [Int64.lt_iff_toInt_lt, show (0 : Int64).toInt = 0 from rfl]; omega, by rw [Int64.lt_iff_toInt_lt]; exact h5⟩
theorem own_again {films perf film left who film' left' who' : Int64} {r r' : Int32} (hF : ¬ (films < (1 : Int64)) ∧ 1 ≤ films.toInt) (hP : ¬ (perf < (1 : Int64)) ∧ ¬ ((3037000499 : Int64) < perf) ∧ 0 < perf.toInt ∧ perf.toInt ≤ 3037000499)
    (hi : own_inv films perf film left who r) (h : own_nx film films perf left who film' left' who' r') : ¬ (own_f7 r film who r' film' who' films perf = (0 : Int32)) ∧ own_inv films perf film' left' who' r' := by
  obtain ⟨i1, i2, i3, i4, i5, i6⟩ := hi
  have z0 : ¬ (1 : Int32) = 0 := by decide
  have k0 : (0 : Int64).toInt = 0 := rfl
  rcases h with ⟨rfl, h2, h3, rfl, rfl, rfl⟩ | ⟨rfl, h2, h3, h4, h5⟩
  · refine ⟨?_, i1, i2, i3, i4, i5, Or.inl ⟨rfl, h2, h3⟩⟩
    rcases i6 with ⟨rfl, -, -⟩ | rfl
    · simp [own_f7]
    · simp [own_f7, h3]
  · have hr : r = 1 := by
      rcases i6 with ⟨-, a, b⟩ | q
      · rcases h2 with ⟨h2, -⟩ | ⟨-, h2, -⟩
        · exact absurd a h2
        · exact absurd b h2
      · exact q
    have hf : (film' = film ∨ film' = film + 1) ∧ 0 ≤ film'.toInt ∧ film'.toInt < films.toInt := by
      rcases h2 with ⟨-, rfl⟩ | ⟨-, h2, rfl⟩
      · exact ⟨Or.inl rfl, i1, i2⟩
      · refine ⟨Or.inr rfl, ?_⟩
        have e := c_ladd film 1; have g := rng64 (film + 1); have e' := c_lsub films 1; have g' := rng64 (films - 1); have g2 := rng64 films
        have : film.toInt ≠ (films - 1).toInt := fun q => h2 (Int64.toInt_inj.mp q)
        rw [show (1 : Int64).toInt = 1 from rfl] at e e'; omega
    have a1 : ¬ film' < 0 := by rw [Int64.lt_iff_toInt_lt, k0]; omega
    have a2 : film' < films := by rw [Int64.lt_iff_toInt_lt]; exact hf.2.2
    have a3 : ¬ who' < 0 := by rw [Int64.lt_iff_toInt_lt, k0]; omega
    have a4 : who' < perf := by rw [Int64.lt_iff_toInt_lt]; exact h5
    refine ⟨?_, hf.2.1, hf.2.2, h3, h4, h5, Or.inr rfl⟩
    subst hr
    rw [own_f7, if_neg z0, if_neg z0]
    by_cases q : film' = film
    · rw [if_pos q, if_neg a1, if_pos a2, if_neg a3, if_pos a4]; exact z0
    · rw [if_neg q, if_pos (hf.1.resolve_left q), if_neg a1, if_pos a2, if_neg a3, if_pos a4]; exact z0

theorem own_ef_own_rm0 (m : MethodId) (x0 : Int64) (x1 : Int64) (x2 : Int64) : entryFrame m #[(.long x0), (.long x1), (.long x2)] maxLocals = mkF m 0 #[.val (.long x0), .second, .val (.long x1), .second, .val (.long x2), .second, .unset, .unset, .unset, .unset, .unset, .unset, .unset, .unset, .unset, .unset, .unset, .unset, .unset, .unset, .unset, .unset, .unset, .unset, .unset, .unset, .unset, .unset, .unset, .unset, .unset, .unset] [] := by first | (simp [entryFrame, mkF, argsToLocals, Value.category, maxLocals]; done) | rfl
theorem own_pd1 : parseMethodDescriptor "(JJJ)V" = some ⟨[.long, .long, .long], none⟩ := by decide +kernel
theorem own_pd2 : parseMethodDescriptor "()Z" = some ⟨[], some .boolean⟩ := by decide +kernel
theorem own_pd3 : parseMethodDescriptor "()J" = some ⟨[], some .long⟩ := by decide +kernel
theorem own_pd4 : parseMethodDescriptor "(ZJJZJJJJ)Z" = some ⟨[.boolean, .long, .long, .boolean, .long, .long, .long, .long], some .boolean⟩ := by decide +kernel
def own_Q_rm0 (Z : State) (q1 : Int64) (q2 : Int64) (q3 : Int64) (h0 : Heap) (n0 : Nat) (v : Option Value) (h : Heap) (L : List Loc) : Prop := v = some (.int 1) ∧ Fr n0 L
set_option maxRecDepth 65536 in
set_option maxHeartbeats 40000000 in
theorem own_rm0 (l : Launch) (Z : State) (a0 : Array Value) (hw : ∀ d ∈ tables_1, d.before a0 Z = true) (ws : List Jvm.Cond) (q1 : Int64) (q2 : Int64) (q3 : Int64) (h0 : Heap) (n0 : Nat) (Z0 : n0 ≤ h0.size) :
    MetFree l x (head1 (Jvm.Cond.code x code maxLocals ret :: ws) room_1) (fun a U => a = #[(.long q1), (.long q2), (.long q3)] ∧ Z.Warmed39 U.vm ∧ U.heap = h0) (fun _ _ _ _ _ => True) (fun _ U o U' => ∃ v L, o = .returned v ∧ own_Q_rm0 Z q1 q2 q3 h0 n0 v U'.heap L ∧ FrameEnd U o U' L 16 128) := by
  refine MetFree.of_bodySF (plainFor_of_name own_pn1) hisR ?_
  intro p e s m args below meth c s₁ Bd hml0 hP hK
  obtain ⟨rfl, hZ, hh⟩ := hP
  have hx := Bd.exec
  have hby := Bd.bytes
  have hret := Bd.returns
  have hlk := Bd.notSynchronized
  have hml : c.maxLocals = 32 := hml0
  have hown : s.vm.findClass "com/example/tablewalk/tablewalk/SyntheticCastNextPinLaw" = some m.cls := findClass_of_methodNamed Bd.named
  have hnm := (name_of_methodNamed Bd.named Bd.method).1
  have X0 : Stand p l e room_1 s m #[(.long q1), (.long q2), (.long q3)] below meth c s₁ [] 0 0 := Stand.of_body Bd
  have e0 : s₁.heap = h0 := by rw [← hh, Bd.state]; rfl
  have N0 := Fr.nil n0
  refine own_Go.cast (own_ef_own_rm0 m q1 q2 q3) ?_
  refine own_step (T' := s₁) (f' := (mkF m 5 #[.val (.long q1), .second, .val (.long q2), .second, .val (.long q3), .second, .unset, .unset, .unset, .unset, .unset, .unset, .unset, .unset, .unset, .unset, .unset, .unset, .unset, .unset, .unset, .unset, .unset, .unset, .unset, .unset, .unset, .unset, .unset, .unset, .unset, .unset] [(.int (lcmpW (q1 &&& (1 : Int64)) (0 : Int64)))])) (fun t k => ?_) ?_
  · show Steps p.tables e below (s₁.setTop (mkF m 0 #[.val (.long q1), .second, .val (.long q2), .second, .val (.long q3), .second, .unset, .unset, .unset, .unset, .unset, .unset, .unset, .unset, .unset, .unset, .unset, .unset, .unset, .unset, .unset, .unset, .unset, .unset, .unset, .unset, .unset, .unset, .unset, .unset, .unset, .unset] [])) _
    refine XS.lloadN X0.here hx rfl (hb hby at_0) rfl ?_
    show Steps p.tables e below (s₁.setTop (mkF m 1 #[.val (.long q1), .second, .val (.long q2), .second, .val (.long q3), .second, .unset, .unset, .unset, .unset, .unset, .unset, .unset, .unset, .unset, .unset, .unset, .unset, .unset, .unset, .unset, .unset, .unset, .unset, .unset, .unset, .unset, .unset, .unset, .unset, .unset, .unset] [(.long q1)])) _
    refine XS.lconst X0.here hx rfl (hb hby at_1) ?_
    show Steps p.tables e below (s₁.setTop (mkF m 2 #[.val (.long q1), .second, .val (.long q2), .second, .val (.long q3), .second, .unset, .unset, .unset, .unset, .unset, .unset, .unset, .unset, .unset, .unset, .unset, .unset, .unset, .unset, .unset, .unset, .unset, .unset, .unset, .unset, .unset, .unset, .unset, .unset, .unset, .unset] [(.long (1 : Int64)), (.long q1)])) _
    refine XS.land X0.here hx rfl (hb hby at_2) rfl ?_
    show Steps p.tables e below (s₁.setTop (mkF m 3 #[.val (.long q1), .second, .val (.long q2), .second, .val (.long q3), .second, .unset, .unset, .unset, .unset, .unset, .unset, .unset, .unset, .unset, .unset, .unset, .unset, .unset, .unset, .unset, .unset, .unset, .unset, .unset, .unset, .unset, .unset, .unset, .unset, .unset, .unset] [(.long (q1 &&& (1 : Int64)))])) _
    refine XS.lconst X0.here hx rfl (hb hby at_3) ?_
    show Steps p.tables e below (s₁.setTop (mkF m 4 #[.val (.long q1), .second, .val (.long q2), .second, .val (.long q3), .second, .unset, .unset, .unset, .unset, .unset, .unset, .unset, .unset, .unset, .unset, .unset, .unset, .unset, .unset, .unset, .unset, .unset, .unset, .unset, .unset, .unset, .unset, .unset, .unset, .unset, .unset] [(.long (0 : Int64)), (.long (q1 &&& (1 : Int64)))])) _
    refine XS.lcmp X0.here hx rfl (hb hby at_4) rfl ?_
    exact k
  obtain ⟨v101, hv101, st102⟩ : ∃ (v101 : Int64), v101 = (if (q1 &&& (1 : Int64)) = (0 : Int64) then ((1 : Int64) + (((q1.toUInt64 >>> ((1 : Int32) &&& 0x3f).toInt64.toUInt64).toInt64) &&& (3 : Int64))) else ((9223372036854775807 : Int64) - (((q1.toUInt64 >>> ((1 : Int32) &&& 0x3f).toInt64.toUInt64).toInt64) &&& (3 : Int64)))) ∧ ∀ t, Steps p.tables e below (s₁.setTop (mkF m 31 #[.val (.long q1), .second, .val (.long q2), .second, .val (.long q3), .second, .unset, .unset, .unset, .unset, .unset, .unset, .unset, .unset, .unset, .unset, .unset, .unset, .unset, .unset, .unset, .unset, .unset, .unset, .unset, .unset, .unset, .unset, .unset, .unset, .unset, .unset] [(.long v101)])) t → Steps p.tables e below (s₁.setTop (mkF m 5 #[.val (.long q1), .second, .val (.long q2), .second, .val (.long q3), .second, .unset, .unset, .unset, .unset, .unset, .unset, .unset, .unset, .unset, .unset, .unset, .unset, .unset, .unset, .unset, .unset, .unset, .unset, .unset, .unset, .unset, .unset, .unset, .unset, .unset, .unset] [(.int (lcmpW (q1 &&& (1 : Int64)) (0 : Int64)))])) t := by
    by_cases hc5_0 : (q1 &&& (1 : Int64)) = (0 : Int64)
    · refine ⟨((1 : Int64) + (((q1.toUInt64 >>> ((1 : Int32) &&& 0x3f).toInt64.toUInt64).toInt64) &&& (3 : Int64))), (by simp only [if_pos hc5_0]), fun t k => ?_⟩
      show Steps p.tables e below (s₁.setTop (mkF m 5 #[.val (.long q1), .second, .val (.long q2), .second, .val (.long q3), .second, .unset, .unset, .unset, .unset, .unset, .unset, .unset, .unset, .unset, .unset, .unset, .unset, .unset, .unset, .unset, .unset, .unset, .unset, .unset, .unset, .unset, .unset, .unset, .unset, .unset, .unset] [(.int (lcmpW (q1 &&& (1 : Int64)) (0 : Int64)))])) _
      refine XS.ifNo X0.here hx rfl (hb hby at_5) rfl ((if0 _ _).trans (teq ((lw_eq (q1 &&& (1 : Int64)) (0 : Int64)).mpr hc5_0)).2) ?_
      show Steps p.tables e below (s₁.setTop (mkF m 8 #[.val (.long q1), .second, .val (.long q2), .second, .val (.long q3), .second, .unset, .unset, .unset, .unset, .unset, .unset, .unset, .unset, .unset, .unset, .unset, .unset, .unset, .unset, .unset, .unset, .unset, .unset, .unset, .unset, .unset, .unset, .unset, .unset, .unset, .unset] [])) _
      refine XS.lconst X0.here hx rfl (hb hby at_8) ?_
      show Steps p.tables e below (s₁.setTop (mkF m 9 #[.val (.long q1), .second, .val (.long q2), .second, .val (.long q3), .second, .unset, .unset, .unset, .unset, .unset, .unset, .unset, .unset, .unset, .unset, .unset, .unset, .unset, .unset, .unset, .unset, .unset, .unset, .unset, .unset, .unset, .unset, .unset, .unset, .unset, .unset] [(.long (1 : Int64))])) _
      refine XS.lloadN X0.here hx rfl (hb hby at_9) rfl ?_
      show Steps p.tables e below (s₁.setTop (mkF m 10 #[.val (.long q1), .second, .val (.long q2), .second, .val (.long q3), .second, .unset, .unset, .unset, .unset, .unset, .unset, .unset, .unset, .unset, .unset, .unset, .unset, .unset, .unset, .unset, .unset, .unset, .unset, .unset, .unset, .unset, .unset, .unset, .unset, .unset, .unset] [(.long q1), (.long (1 : Int64))])) _
      refine XS.iconst X0.here hx rfl (hb hby at_10) ?_
      show Steps p.tables e below (s₁.setTop (mkF m 11 #[.val (.long q1), .second, .val (.long q2), .second, .val (.long q3), .second, .unset, .unset, .unset, .unset, .unset, .unset, .unset, .unset, .unset, .unset, .unset, .unset, .unset, .unset, .unset, .unset, .unset, .unset, .unset, .unset, .unset, .unset, .unset, .unset, .unset, .unset] [(.int (1 : Int32)), (.long q1), (.long (1 : Int64))])) _
      refine XS.lushr X0.here hx rfl (hb hby at_11) rfl ?_
      show Steps p.tables e below (s₁.setTop (mkF m 12 #[.val (.long q1), .second, .val (.long q2), .second, .val (.long q3), .second, .unset, .unset, .unset, .unset, .unset, .unset, .unset, .unset, .unset, .unset, .unset, .unset, .unset, .unset, .unset, .unset, .unset, .unset, .unset, .unset, .unset, .unset, .unset, .unset, .unset, .unset] [(.long ((q1.toUInt64 >>> ((1 : Int32) &&& 0x3f).toInt64.toUInt64).toInt64)), (.long (1 : Int64))])) _
      refine X0.ldc2Long hx hown (mvT hZ (hw _ (List.mem_of_getElem? (i := 1) rfl))) (g := (mkF m 12 #[.val (.long q1), .second, .val (.long q2), .second, .val (.long q3), .second, .unset, .unset, .unset, .unset, .unset, .unset, .unset, .unset, .unset, .unset, .unset, .unset, .unset, .unset, .unset, .unset, .unset, .unset, .unset, .unset, .unset, .unset, .unset, .unset, .unset, .unset] [(.long ((q1.toUInt64 >>> ((1 : Int32) &&& 0x3f).toInt64.toUInt64).toInt64)), (.long (1 : Int64))])) rfl (hb hby at_12) _ ?_
      show Steps p.tables e below (s₁.setTop (mkF m 15 #[.val (.long q1), .second, .val (.long q2), .second, .val (.long q3), .second, .unset, .unset, .unset, .unset, .unset, .unset, .unset, .unset, .unset, .unset, .unset, .unset, .unset, .unset, .unset, .unset, .unset, .unset, .unset, .unset, .unset, .unset, .unset, .unset, .unset, .unset] [(.long (3 : Int64)), (.long ((q1.toUInt64 >>> ((1 : Int32) &&& 0x3f).toInt64.toUInt64).toInt64)), (.long (1 : Int64))])) _
      refine XS.land X0.here hx rfl (hb hby at_15) rfl ?_
      show Steps p.tables e below (s₁.setTop (mkF m 16 #[.val (.long q1), .second, .val (.long q2), .second, .val (.long q3), .second, .unset, .unset, .unset, .unset, .unset, .unset, .unset, .unset, .unset, .unset, .unset, .unset, .unset, .unset, .unset, .unset, .unset, .unset, .unset, .unset, .unset, .unset, .unset, .unset, .unset, .unset] [(.long (((q1.toUInt64 >>> ((1 : Int32) &&& 0x3f).toInt64.toUInt64).toInt64) &&& (3 : Int64))), (.long (1 : Int64))])) _
      refine XS.ladd X0.here hx rfl (hb hby at_16) rfl ?_
      show Steps p.tables e below (s₁.setTop (mkF m 17 #[.val (.long q1), .second, .val (.long q2), .second, .val (.long q3), .second, .unset, .unset, .unset, .unset, .unset, .unset, .unset, .unset, .unset, .unset, .unset, .unset, .unset, .unset, .unset, .unset, .unset, .unset, .unset, .unset, .unset, .unset, .unset, .unset, .unset, .unset] [(.long ((1 : Int64) + (((q1.toUInt64 >>> ((1 : Int32) &&& 0x3f).toInt64.toUInt64).toInt64) &&& (3 : Int64))))])) _
      refine XS.goto X0.here hx rfl (pc0 := 17) (pc' := 31) rfl (hb hby at_17) (by decide) (by decide) ?_
      exact k
    · refine ⟨((9223372036854775807 : Int64) - (((q1.toUInt64 >>> ((1 : Int32) &&& 0x3f).toInt64.toUInt64).toInt64) &&& (3 : Int64))), (by simp only [if_neg hc5_0]), fun t k => ?_⟩
      show Steps p.tables e below (s₁.setTop (mkF m 5 #[.val (.long q1), .second, .val (.long q2), .second, .val (.long q3), .second, .unset, .unset, .unset, .unset, .unset, .unset, .unset, .unset, .unset, .unset, .unset, .unset, .unset, .unset, .unset, .unset, .unset, .unset, .unset, .unset, .unset, .unset, .unset, .unset, .unset, .unset] [(.int (lcmpW (q1 &&& (1 : Int64)) (0 : Int64)))])) _
      refine XS.ifYes X0.here hx rfl (pc0 := 5) (pc' := 20) rfl (hb hby at_5) rfl ((if0 _ _).trans (feq (fun q => hc5_0 ((lw_eq (q1 &&& (1 : Int64)) (0 : Int64)).mp q))).2) (by decide) (by decide) ?_
      show Steps p.tables e below (s₁.setTop (mkF m 20 #[.val (.long q1), .second, .val (.long q2), .second, .val (.long q3), .second, .unset, .unset, .unset, .unset, .unset, .unset, .unset, .unset, .unset, .unset, .unset, .unset, .unset, .unset, .unset, .unset, .unset, .unset, .unset, .unset, .unset, .unset, .unset, .unset, .unset, .unset] [])) _
      refine X0.ldc2Long hx hown (mvT hZ (hw _ (List.mem_of_getElem? (i := 0) rfl))) (g := (mkF m 20 #[.val (.long q1), .second, .val (.long q2), .second, .val (.long q3), .second, .unset, .unset, .unset, .unset, .unset, .unset, .unset, .unset, .unset, .unset, .unset, .unset, .unset, .unset, .unset, .unset, .unset, .unset, .unset, .unset, .unset, .unset, .unset, .unset, .unset, .unset] [])) rfl (hb hby at_20) _ ?_
      show Steps p.tables e below (s₁.setTop (mkF m 23 #[.val (.long q1), .second, .val (.long q2), .second, .val (.long q3), .second, .unset, .unset, .unset, .unset, .unset, .unset, .unset, .unset, .unset, .unset, .unset, .unset, .unset, .unset, .unset, .unset, .unset, .unset, .unset, .unset, .unset, .unset, .unset, .unset, .unset, .unset] [(.long (9223372036854775807 : Int64))])) _
      refine XS.lloadN X0.here hx rfl (hb hby at_23) rfl ?_
      show Steps p.tables e below (s₁.setTop (mkF m 24 #[.val (.long q1), .second, .val (.long q2), .second, .val (.long q3), .second, .unset, .unset, .unset, .unset, .unset, .unset, .unset, .unset, .unset, .unset, .unset, .unset, .unset, .unset, .unset, .unset, .unset, .unset, .unset, .unset, .unset, .unset, .unset, .unset, .unset, .unset] [(.long q1), (.long (9223372036854775807 : Int64))])) _
      refine XS.iconst X0.here hx rfl (hb hby at_24) ?_
      show Steps p.tables e below (s₁.setTop (mkF m 25 #[.val (.long q1), .second, .val (.long q2), .second, .val (.long q3), .second, .unset, .unset, .unset, .unset, .unset, .unset, .unset, .unset, .unset, .unset, .unset, .unset, .unset, .unset, .unset, .unset, .unset, .unset, .unset, .unset, .unset, .unset, .unset, .unset, .unset, .unset] [(.int (1 : Int32)), (.long q1), (.long (9223372036854775807 : Int64))])) _
      refine XS.lushr X0.here hx rfl (hb hby at_25) rfl ?_
      show Steps p.tables e below (s₁.setTop (mkF m 26 #[.val (.long q1), .second, .val (.long q2), .second, .val (.long q3), .second, .unset, .unset, .unset, .unset, .unset, .unset, .unset, .unset, .unset, .unset, .unset, .unset, .unset, .unset, .unset, .unset, .unset, .unset, .unset, .unset, .unset, .unset, .unset, .unset, .unset, .unset] [(.long ((q1.toUInt64 >>> ((1 : Int32) &&& 0x3f).toInt64.toUInt64).toInt64)), (.long (9223372036854775807 : Int64))])) _
      refine X0.ldc2Long hx hown (mvT hZ (hw _ (List.mem_of_getElem? (i := 1) rfl))) (g := (mkF m 26 #[.val (.long q1), .second, .val (.long q2), .second, .val (.long q3), .second, .unset, .unset, .unset, .unset, .unset, .unset, .unset, .unset, .unset, .unset, .unset, .unset, .unset, .unset, .unset, .unset, .unset, .unset, .unset, .unset, .unset, .unset, .unset, .unset, .unset, .unset] [(.long ((q1.toUInt64 >>> ((1 : Int32) &&& 0x3f).toInt64.toUInt64).toInt64)), (.long (9223372036854775807 : Int64))])) rfl (hb hby at_26) _ ?_
      show Steps p.tables e below (s₁.setTop (mkF m 29 #[.val (.long q1), .second, .val (.long q2), .second, .val (.long q3), .second, .unset, .unset, .unset, .unset, .unset, .unset, .unset, .unset, .unset, .unset, .unset, .unset, .unset, .unset, .unset, .unset, .unset, .unset, .unset, .unset, .unset, .unset, .unset, .unset, .unset, .unset] [(.long (3 : Int64)), (.long ((q1.toUInt64 >>> ((1 : Int32) &&& 0x3f).toInt64.toUInt64).toInt64)), (.long (9223372036854775807 : Int64))])) _
      refine XS.land X0.here hx rfl (hb hby at_29) rfl ?_
      show Steps p.tables e below (s₁.setTop (mkF m 30 #[.val (.long q1), .second, .val (.long q2), .second, .val (.long q3), .second, .unset, .unset, .unset, .unset, .unset, .unset, .unset, .unset, .unset, .unset, .unset, .unset, .unset, .unset, .unset, .unset, .unset, .unset, .unset, .unset, .unset, .unset, .unset, .unset, .unset, .unset] [(.long (((q1.toUInt64 >>> ((1 : Int32) &&& 0x3f).toInt64.toUInt64).toInt64) &&& (3 : Int64))), (.long (9223372036854775807 : Int64))])) _
      refine XS.lsub X0.here hx rfl (hb hby at_30) rfl ?_
      exact k
  refine own_step st102 ?_
  have hF := own_F hv101
  refine own_step (T' := s₁) (f' := (mkF m 38 #[.val (.long q1), .second, .val (.long q2), .second, .val (.long q3), .second, .val (.long v101), .second, .unset, .unset, .unset, .unset, .unset, .unset, .unset, .unset, .unset, .unset, .unset, .unset, .unset, .unset, .unset, .unset, .unset, .unset, .unset, .unset, .unset, .unset, .unset, .unset] [(.int (lcmpW (q2 &&& (1 : Int64)) (0 : Int64)))])) (fun t k => ?_) ?_
  · show Steps p.tables e below (s₁.setTop (mkF m 31 #[.val (.long q1), .second, .val (.long q2), .second, .val (.long q3), .second, .unset, .unset, .unset, .unset, .unset, .unset, .unset, .unset, .unset, .unset, .unset, .unset, .unset, .unset, .unset, .unset, .unset, .unset, .unset, .unset, .unset, .unset, .unset, .unset, .unset, .unset] [(.long v101)])) _
    refine XS.lstore X0.here hx rfl (hb hby at_31) rfl (l' := #[.val (.long q1), .second, .val (.long q2), .second, .val (.long q3), .second, .val (.long v101), .second, .unset, .unset, .unset, .unset, .unset, .unset, .unset, .unset, .unset, .unset, .unset, .unset, .unset, .unset, .unset, .unset, .unset, .unset, .unset, .unset, .unset, .unset, .unset, .unset]) rfl ?_
    show Steps p.tables e below (s₁.setTop (mkF m 33 #[.val (.long q1), .second, .val (.long q2), .second, .val (.long q3), .second, .val (.long v101), .second, .unset, .unset, .unset, .unset, .unset, .unset, .unset, .unset, .unset, .unset, .unset, .unset, .unset, .unset, .unset, .unset, .unset, .unset, .unset, .unset, .unset, .unset, .unset, .unset] [])) _
    refine XS.lloadN X0.here hx rfl (hb hby at_33) rfl ?_
    show Steps p.tables e below (s₁.setTop (mkF m 34 #[.val (.long q1), .second, .val (.long q2), .second, .val (.long q3), .second, .val (.long v101), .second, .unset, .unset, .unset, .unset, .unset, .unset, .unset, .unset, .unset, .unset, .unset, .unset, .unset, .unset, .unset, .unset, .unset, .unset, .unset, .unset, .unset, .unset, .unset, .unset] [(.long q2)])) _
    refine XS.lconst X0.here hx rfl (hb hby at_34) ?_
    show Steps p.tables e below (s₁.setTop (mkF m 35 #[.val (.long q1), .second, .val (.long q2), .second, .val (.long q3), .second, .val (.long v101), .second, .unset, .unset, .unset, .unset, .unset, .unset, .unset, .unset, .unset, .unset, .unset, .unset, .unset, .unset, .unset, .unset, .unset, .unset, .unset, .unset, .unset, .unset, .unset, .unset] [(.long (1 : Int64)), (.long q2)])) _
    refine XS.land X0.here hx rfl (hb hby at_35) rfl ?_
    show Steps p.tables e below (s₁.setTop (mkF m 36 #[.val (.long q1), .second, .val (.long q2), .second, .val (.long q3), .second, .val (.long v101), .second, .unset, .unset, .unset, .unset, .unset, .unset, .unset, .unset, .unset, .unset, .unset, .unset, .unset, .unset, .unset, .unset, .unset, .unset, .unset, .unset, .unset, .unset, .unset, .unset] [(.long (q2 &&& (1 : Int64)))])) _
    refine XS.lconst X0.here hx rfl (hb hby at_36) ?_
    show Steps p.tables e below (s₁.setTop (mkF m 37 #[.val (.long q1), .second, .val (.long q2), .second, .val (.long q3), .second, .val (.long v101), .second, .unset, .unset, .unset, .unset, .unset, .unset, .unset, .unset, .unset, .unset, .unset, .unset, .unset, .unset, .unset, .unset, .unset, .unset, .unset, .unset, .unset, .unset, .unset, .unset] [(.long (0 : Int64)), (.long (q2 &&& (1 : Int64)))])) _
    refine XS.lcmp X0.here hx rfl (hb hby at_37) rfl ?_
    exact k
  obtain ⟨v103, hv103, st104⟩ : ∃ (v103 : Int64), v103 = (if (q2 &&& (1 : Int64)) = (0 : Int64) then ((1 : Int64) + (((q2.toUInt64 >>> ((1 : Int32) &&& 0x3f).toInt64.toUInt64).toInt64) &&& (7 : Int64))) else ((1 : Int64) + (((q2.toUInt64 >>> ((1 : Int32) &&& 0x3f).toInt64.toUInt64).toInt64) - (((q2.toUInt64 >>> ((1 : Int32) &&& 0x3f).toInt64.toUInt64).toInt64) / (3037000499 : Int64)) * (3037000499 : Int64)))) ∧ ∀ t, Steps p.tables e below (s₁.setTop (mkF m 62 #[.val (.long q1), .second, .val (.long q2), .second, .val (.long q3), .second, .val (.long v101), .second, .unset, .unset, .unset, .unset, .unset, .unset, .unset, .unset, .unset, .unset, .unset, .unset, .unset, .unset, .unset, .unset, .unset, .unset, .unset, .unset, .unset, .unset, .unset, .unset] [(.long v103)])) t → Steps p.tables e below (s₁.setTop (mkF m 38 #[.val (.long q1), .second, .val (.long q2), .second, .val (.long q3), .second, .val (.long v101), .second, .unset, .unset, .unset, .unset, .unset, .unset, .unset, .unset, .unset, .unset, .unset, .unset, .unset, .unset, .unset, .unset, .unset, .unset, .unset, .unset, .unset, .unset, .unset, .unset] [(.int (lcmpW (q2 &&& (1 : Int64)) (0 : Int64)))])) t := by
    by_cases hc38_1 : (q2 &&& (1 : Int64)) = (0 : Int64)
    · refine ⟨((1 : Int64) + (((q2.toUInt64 >>> ((1 : Int32) &&& 0x3f).toInt64.toUInt64).toInt64) &&& (7 : Int64))), (by simp only [if_pos hc38_1]), fun t k => ?_⟩
      show Steps p.tables e below (s₁.setTop (mkF m 38 #[.val (.long q1), .second, .val (.long q2), .second, .val (.long q3), .second, .val (.long v101), .second, .unset, .unset, .unset, .unset, .unset, .unset, .unset, .unset, .unset, .unset, .unset, .unset, .unset, .unset, .unset, .unset, .unset, .unset, .unset, .unset, .unset, .unset, .unset, .unset] [(.int (lcmpW (q2 &&& (1 : Int64)) (0 : Int64)))])) _
      refine XS.ifNo X0.here hx rfl (hb hby at_38) rfl ((if0 _ _).trans (teq ((lw_eq (q2 &&& (1 : Int64)) (0 : Int64)).mpr hc38_1)).2) ?_
      show Steps p.tables e below (s₁.setTop (mkF m 41 #[.val (.long q1), .second, .val (.long q2), .second, .val (.long q3), .second, .val (.long v101), .second, .unset, .unset, .unset, .unset, .unset, .unset, .unset, .unset, .unset, .unset, .unset, .unset, .unset, .unset, .unset, .unset, .unset, .unset, .unset, .unset, .unset, .unset, .unset, .unset] [])) _
      refine XS.lconst X0.here hx rfl (hb hby at_41) ?_
      show Steps p.tables e below (s₁.setTop (mkF m 42 #[.val (.long q1), .second, .val (.long q2), .second, .val (.long q3), .second, .val (.long v101), .second, .unset, .unset, .unset, .unset, .unset, .unset, .unset, .unset, .unset, .unset, .unset, .unset, .unset, .unset, .unset, .unset, .unset, .unset, .unset, .unset, .unset, .unset, .unset, .unset] [(.long (1 : Int64))])) _
      refine XS.lloadN X0.here hx rfl (hb hby at_42) rfl ?_
      show Steps p.tables e below (s₁.setTop (mkF m 43 #[.val (.long q1), .second, .val (.long q2), .second, .val (.long q3), .second, .val (.long v101), .second, .unset, .unset, .unset, .unset, .unset, .unset, .unset, .unset, .unset, .unset, .unset, .unset, .unset, .unset, .unset, .unset, .unset, .unset, .unset, .unset, .unset, .unset, .unset, .unset] [(.long q2), (.long (1 : Int64))])) _
      refine XS.iconst X0.here hx rfl (hb hby at_43) ?_
      show Steps p.tables e below (s₁.setTop (mkF m 44 #[.val (.long q1), .second, .val (.long q2), .second, .val (.long q3), .second, .val (.long v101), .second, .unset, .unset, .unset, .unset, .unset, .unset, .unset, .unset, .unset, .unset, .unset, .unset, .unset, .unset, .unset, .unset, .unset, .unset, .unset, .unset, .unset, .unset, .unset, .unset] [(.int (1 : Int32)), (.long q2), (.long (1 : Int64))])) _
      refine XS.lushr X0.here hx rfl (hb hby at_44) rfl ?_
      show Steps p.tables e below (s₁.setTop (mkF m 45 #[.val (.long q1), .second, .val (.long q2), .second, .val (.long q3), .second, .val (.long v101), .second, .unset, .unset, .unset, .unset, .unset, .unset, .unset, .unset, .unset, .unset, .unset, .unset, .unset, .unset, .unset, .unset, .unset, .unset, .unset, .unset, .unset, .unset, .unset, .unset] [(.long ((q2.toUInt64 >>> ((1 : Int32) &&& 0x3f).toInt64.toUInt64).toInt64)), (.long (1 : Int64))])) _
      refine X0.ldc2Long hx hown (mvT hZ (hw _ (List.mem_of_getElem? (i := 56) rfl))) (g := (mkF m 45 #[.val (.long q1), .second, .val (.long q2), .second, .val (.long q3), .second, .val (.long v101), .second, .unset, .unset, .unset, .unset, .unset, .unset, .unset, .unset, .unset, .unset, .unset, .unset, .unset, .unset, .unset, .unset, .unset, .unset, .unset, .unset, .unset, .unset, .unset, .unset] [(.long ((q2.toUInt64 >>> ((1 : Int32) &&& 0x3f).toInt64.toUInt64).toInt64)), (.long (1 : Int64))])) rfl (hb hby at_45) _ ?_
      show Steps p.tables e below (s₁.setTop (mkF m 48 #[.val (.long q1), .second, .val (.long q2), .second, .val (.long q3), .second, .val (.long v101), .second, .unset, .unset, .unset, .unset, .unset, .unset, .unset, .unset, .unset, .unset, .unset, .unset, .unset, .unset, .unset, .unset, .unset, .unset, .unset, .unset, .unset, .unset, .unset, .unset] [(.long (7 : Int64)), (.long ((q2.toUInt64 >>> ((1 : Int32) &&& 0x3f).toInt64.toUInt64).toInt64)), (.long (1 : Int64))])) _
      refine XS.land X0.here hx rfl (hb hby at_48) rfl ?_
      show Steps p.tables e below (s₁.setTop (mkF m 49 #[.val (.long q1), .second, .val (.long q2), .second, .val (.long q3), .second, .val (.long v101), .second, .unset, .unset, .unset, .unset, .unset, .unset, .unset, .unset, .unset, .unset, .unset, .unset, .unset, .unset, .unset, .unset, .unset, .unset, .unset, .unset, .unset, .unset, .unset, .unset] [(.long (((q2.toUInt64 >>> ((1 : Int32) &&& 0x3f).toInt64.toUInt64).toInt64) &&& (7 : Int64))), (.long (1 : Int64))])) _
      refine XS.ladd X0.here hx rfl (hb hby at_49) rfl ?_
      show Steps p.tables e below (s₁.setTop (mkF m 50 #[.val (.long q1), .second, .val (.long q2), .second, .val (.long q3), .second, .val (.long v101), .second, .unset, .unset, .unset, .unset, .unset, .unset, .unset, .unset, .unset, .unset, .unset, .unset, .unset, .unset, .unset, .unset, .unset, .unset, .unset, .unset, .unset, .unset, .unset, .unset] [(.long ((1 : Int64) + (((q2.toUInt64 >>> ((1 : Int32) &&& 0x3f).toInt64.toUInt64).toInt64) &&& (7 : Int64))))])) _
      refine XS.goto X0.here hx rfl (pc0 := 50) (pc' := 62) rfl (hb hby at_50) (by decide) (by decide) ?_
      exact k
    · refine ⟨((1 : Int64) + (((q2.toUInt64 >>> ((1 : Int32) &&& 0x3f).toInt64.toUInt64).toInt64) - (((q2.toUInt64 >>> ((1 : Int32) &&& 0x3f).toInt64.toUInt64).toInt64) / (3037000499 : Int64)) * (3037000499 : Int64))), (by simp only [if_neg hc38_1]), fun t k => ?_⟩
      show Steps p.tables e below (s₁.setTop (mkF m 38 #[.val (.long q1), .second, .val (.long q2), .second, .val (.long q3), .second, .val (.long v101), .second, .unset, .unset, .unset, .unset, .unset, .unset, .unset, .unset, .unset, .unset, .unset, .unset, .unset, .unset, .unset, .unset, .unset, .unset, .unset, .unset, .unset, .unset, .unset, .unset] [(.int (lcmpW (q2 &&& (1 : Int64)) (0 : Int64)))])) _
      refine XS.ifYes X0.here hx rfl (pc0 := 38) (pc' := 53) rfl (hb hby at_38) rfl ((if0 _ _).trans (feq (fun q => hc38_1 ((lw_eq (q2 &&& (1 : Int64)) (0 : Int64)).mp q))).2) (by decide) (by decide) ?_
      show Steps p.tables e below (s₁.setTop (mkF m 53 #[.val (.long q1), .second, .val (.long q2), .second, .val (.long q3), .second, .val (.long v101), .second, .unset, .unset, .unset, .unset, .unset, .unset, .unset, .unset, .unset, .unset, .unset, .unset, .unset, .unset, .unset, .unset, .unset, .unset, .unset, .unset, .unset, .unset, .unset, .unset] [])) _
      refine XS.lconst X0.here hx rfl (hb hby at_53) ?_
      show Steps p.tables e below (s₁.setTop (mkF m 54 #[.val (.long q1), .second, .val (.long q2), .second, .val (.long q3), .second, .val (.long v101), .second, .unset, .unset, .unset, .unset, .unset, .unset, .unset, .unset, .unset, .unset, .unset, .unset, .unset, .unset, .unset, .unset, .unset, .unset, .unset, .unset, .unset, .unset, .unset, .unset] [(.long (1 : Int64))])) _
      refine XS.lloadN X0.here hx rfl (hb hby at_54) rfl ?_
      show Steps p.tables e below (s₁.setTop (mkF m 55 #[.val (.long q1), .second, .val (.long q2), .second, .val (.long q3), .second, .val (.long v101), .second, .unset, .unset, .unset, .unset, .unset, .unset, .unset, .unset, .unset, .unset, .unset, .unset, .unset, .unset, .unset, .unset, .unset, .unset, .unset, .unset, .unset, .unset, .unset, .unset] [(.long q2), (.long (1 : Int64))])) _
      refine XS.iconst X0.here hx rfl (hb hby at_55) ?_
      show Steps p.tables e below (s₁.setTop (mkF m 56 #[.val (.long q1), .second, .val (.long q2), .second, .val (.long q3), .second, .val (.long v101), .second, .unset, .unset, .unset, .unset, .unset, .unset, .unset, .unset, .unset, .unset, .unset, .unset, .unset, .unset, .unset, .unset, .unset, .unset, .unset, .unset, .unset, .unset, .unset, .unset] [(.int (1 : Int32)), (.long q2), (.long (1 : Int64))])) _
      refine XS.lushr X0.here hx rfl (hb hby at_56) rfl ?_
      show Steps p.tables e below (s₁.setTop (mkF m 57 #[.val (.long q1), .second, .val (.long q2), .second, .val (.long q3), .second, .val (.long v101), .second, .unset, .unset, .unset, .unset, .unset, .unset, .unset, .unset, .unset, .unset, .unset, .unset, .unset, .unset, .unset, .unset, .unset, .unset, .unset, .unset, .unset, .unset, .unset, .unset] [(.long ((q2.toUInt64 >>> ((1 : Int32) &&& 0x3f).toInt64.toUInt64).toInt64)), (.long (1 : Int64))])) _
      refine X0.ldc2Long hx hown (mvT hZ (hw _ (List.mem_of_getElem? (i := 2) rfl))) (g := (mkF m 57 #[.val (.long q1), .second, .val (.long q2), .second, .val (.long q3), .second, .val (.long v101), .second, .unset, .unset, .unset, .unset, .unset, .unset, .unset, .unset, .unset, .unset, .unset, .unset, .unset, .unset, .unset, .unset, .unset, .unset, .unset, .unset, .unset, .unset, .unset, .unset] [(.long ((q2.toUInt64 >>> ((1 : Int32) &&& 0x3f).toInt64.toUInt64).toInt64)), (.long (1 : Int64))])) rfl (hb hby at_57) _ ?_
      show Steps p.tables e below (s₁.setTop (mkF m 60 #[.val (.long q1), .second, .val (.long q2), .second, .val (.long q3), .second, .val (.long v101), .second, .unset, .unset, .unset, .unset, .unset, .unset, .unset, .unset, .unset, .unset, .unset, .unset, .unset, .unset, .unset, .unset, .unset, .unset, .unset, .unset, .unset, .unset, .unset, .unset] [(.long (3037000499 : Int64)), (.long ((q2.toUInt64 >>> ((1 : Int32) &&& 0x3f).toInt64.toUInt64).toInt64)), (.long (1 : Int64))])) _
      refine XS.lrem X0.here hx rfl (hb hby at_60) rfl (by decide) ?_
      show Steps p.tables e below (s₁.setTop (mkF m 61 #[.val (.long q1), .second, .val (.long q2), .second, .val (.long q3), .second, .val (.long v101), .second, .unset, .unset, .unset, .unset, .unset, .unset, .unset, .unset, .unset, .unset, .unset, .unset, .unset, .unset, .unset, .unset, .unset, .unset, .unset, .unset, .unset, .unset, .unset, .unset] [(.long (((q2.toUInt64 >>> ((1 : Int32) &&& 0x3f).toInt64.toUInt64).toInt64) - (((q2.toUInt64 >>> ((1 : Int32) &&& 0x3f).toInt64.toUInt64).toInt64) / (3037000499 : Int64)) * (3037000499 : Int64))), (.long (1 : Int64))])) _
      refine XS.ladd X0.here hx rfl (hb hby at_61) rfl ?_
      exact k
  refine own_step st104 ?_
  have hP := own_Pf hv103
  refine own_step (T' := s₁) (f' := (mkF m 64 #[.val (.long q1), .second, .val (.long q2), .second, .val (.long q3), .second, .val (.long v101), .second, .val (.long v103), .second, .unset, .unset, .unset, .unset, .unset, .unset, .unset, .unset, .unset, .unset, .unset, .unset, .unset, .unset, .unset, .unset, .unset, .unset, .unset, .unset, .unset, .unset] [])) (fun t k => ?_) ?_
  · show Steps p.tables e below (s₁.setTop (mkF m 62 #[.val (.long q1), .second, .val (.long q2), .second, .val (.long q3), .second, .val (.long v101), .second, .unset, .unset, .unset, .unset, .unset, .unset, .unset, .unset, .unset, .unset, .unset, .unset, .unset, .unset, .unset, .unset, .unset, .unset, .unset, .unset, .unset, .unset, .unset, .unset] [(.long v103)])) _
    refine XS.lstore X0.here hx rfl (hb hby at_62) rfl (l' := #[.val (.long q1), .second, .val (.long q2), .second, .val (.long q3), .second, .val (.long v101), .second, .val (.long v103), .second, .unset, .unset, .unset, .unset, .unset, .unset, .unset, .unset, .unset, .unset, .unset, .unset, .unset, .unset, .unset, .unset, .unset, .unset, .unset, .unset, .unset, .unset]) rfl ?_
    exact k
  obtain ⟨T105, h105, X105, e105, E105, A105, D105, -, st105⟩ := newO X0 hx hZ hown (hw _ (List.mem_of_getElem? (i := 3) rfl)) (hw _ (List.mem_of_getElem? (i := 4) rfl)) (hw _ (List.mem_of_getElem? (i := 5) rfl)) e0 (g := (mkF m 64 #[.val (.long q1), .second, .val (.long q2), .second, .val (.long q3), .second, .val (.long v101), .second, .val (.long v103), .second, .unset, .unset, .unset, .unset, .unset, .unset, .unset, .unset, .unset, .unset, .unset, .unset, .unset, .unset, .unset, .unset, .unset, .unset, .unset, .unset, .unset, .unset] [])) rfl (hb hby at_64) (by decide) (by decide)
  obtain ⟨ob, g105⟩ : ∃ z, z = h0.size := ⟨_, rfl⟩
  have g_ob : n0 ≤ ob := Nat.le_trans Z0 (Nat.le_of_eq g105.symm)
  have Z105 : n0 ≤ h105.size := Nat.le_trans Z0 E105.1
  rw [← g105] at A105 D105 st105
  have F_ob_film_105 : Fld Z h105 ob "com/example/tablewalk/tablewalk/SyntheticCast" "film" "J" (.long (0 : Int64)) := D105 (Or.inl (hw _ (List.mem_of_getElem? (i := 14) rfl))) (ty := .long) (by decide)
  have F_ob_films_105 : Fld Z h105 ob "com/example/tablewalk/tablewalk/SyntheticCast" "films" "J" (.long (0 : Int64)) := D105 (Or.inr (hw _ (List.mem_of_getElem? (i := 17) rfl))) (ty := .long) (by decide)
  have F_ob_performers_105 : Fld Z h105 ob "com/example/tablewalk/tablewalk/SyntheticCast" "performers" "J" (.long (0 : Int64)) := D105 (Or.inr (hw _ (List.mem_of_getElem? (i := 19) rfl))) (ty := .long) (by decide)
  have F_ob_state_105 : Fld Z h105 ob "com/example/tablewalk/tablewalk/SyntheticCast" "state" "J" (.long (0 : Int64)) := D105 (Or.inl (hw _ (List.mem_of_getElem? (i := 21) rfl))) (ty := .long) (by decide)
  have F_ob_left_105 : Fld Z h105 ob "com/example/tablewalk/tablewalk/SyntheticCast" "left" "J" (.long (0 : Int64)) := D105 (Or.inl (hw _ (List.mem_of_getElem? (i := 28) rfl))) (ty := .long) (by decide)
  have F_ob_small_105 : Fld Z h105 ob "com/example/tablewalk/tablewalk/SyntheticCast" "small" "Z" (.int (0 : Int32)) := D105 (Or.inl (hw _ (List.mem_of_getElem? (i := 38) rfl))) (ty := .boolean) (by decide)
  have F_ob_performer_105 : Fld Z h105 ob "com/example/tablewalk/tablewalk/SyntheticCast" "performer" "J" (.long (0 : Int64)) := D105 (Or.inl (hw _ (List.mem_of_getElem? (i := 41) rfl))) (ty := .long) (by decide)
  refine own_step st105 ?_
  refine own_step (T' := T105) (f' := (mkF m 74 #[.val (.long q1), .second, .val (.long q2), .second, .val (.long q3), .second, .val (.long v101), .second, .val (.long v103), .second, .unset, .unset, .unset, .unset, .unset, .unset, .unset, .unset, .unset, .unset, .unset, .unset, .unset, .unset, .unset, .unset, .unset, .unset, .unset, .unset, .unset, .unset] [(.long q3), (.long v103), (.long v101), (.ref ob), (.ref ob)])) (fun t k => ?_) ?_
  · show Steps p.tables e below (T105.setTop (mkF m 67 #[.val (.long q1), .second, .val (.long q2), .second, .val (.long q3), .second, .val (.long v101), .second, .val (.long v103), .second, .unset, .unset, .unset, .unset, .unset, .unset, .unset, .unset, .unset, .unset, .unset, .unset, .unset, .unset, .unset, .unset, .unset, .unset, .unset, .unset, .unset, .unset] [(.ref ob)])) _
    refine XS.dup X105.here hx rfl (hb hby at_67) rfl rfl ?_
    show Steps p.tables e below (T105.setTop (mkF m 68 #[.val (.long q1), .second, .val (.long q2), .second, .val (.long q3), .second, .val (.long v101), .second, .val (.long v103), .second, .unset, .unset, .unset, .unset, .unset, .unset, .unset, .unset, .unset, .unset, .unset, .unset, .unset, .unset, .unset, .unset, .unset, .unset, .unset, .unset, .unset, .unset] [(.ref ob), (.ref ob)])) _
    refine XS.lload X105.here hx rfl (hb hby at_68) rfl ?_
    show Steps p.tables e below (T105.setTop (mkF m 70 #[.val (.long q1), .second, .val (.long q2), .second, .val (.long q3), .second, .val (.long v101), .second, .val (.long v103), .second, .unset, .unset, .unset, .unset, .unset, .unset, .unset, .unset, .unset, .unset, .unset, .unset, .unset, .unset, .unset, .unset, .unset, .unset, .unset, .unset, .unset, .unset] [(.long v101), (.ref ob), (.ref ob)])) _
    refine XS.lload X105.here hx rfl (hb hby at_70) rfl ?_
    show Steps p.tables e below (T105.setTop (mkF m 72 #[.val (.long q1), .second, .val (.long q2), .second, .val (.long q3), .second, .val (.long v101), .second, .val (.long v103), .second, .unset, .unset, .unset, .unset, .unset, .unset, .unset, .unset, .unset, .unset, .unset, .unset, .unset, .unset, .unset, .unset, .unset, .unset, .unset, .unset, .unset, .unset] [(.long v103), (.long v101), (.ref ob), (.ref ob)])) _
    refine XS.lload X105.here hx rfl (hb hby at_72) rfl ?_
    exact k
  obtain ⟨_, _, ⟨T106, L106, k106, n106⟩, -, X106, ⟨Lc106, hQ106, l106, y106, z106⟩, st106⟩ := X105.specialBack hx (y := (⟨"com/example/tablewalk/tablewalk/SyntheticCast", "<init>", "(JJJ)V"⟩ : MethodName)) rfl hown (mvT hZ (hw _ (List.mem_of_getElem? (i := 6) rfl))) (mvT hZ (hw _ (List.mem_of_getElem? (i := 7) rfl))) (mvT hZ (hw _ (List.mem_of_getElem? (i := 8) rfl))) (by decide) (backOf (W := 1) (own_rm1 l Z a0 hw ob v101 v103 q3 h105 n0 Z105 g_ob ⟨A105, F_ob_film_105, F_ob_films_105, F_ob_performers_105, F_ob_state_105, F_ob_left_105, F_ob_small_105, F_ob_performer_105⟩ hF.1 hP.1 hP.2.1) hZ (hw _ (List.mem_of_getElem? (i := 8) rfl)) (hw _ (List.mem_of_getElem? (i := 5) rfl)) (by decide) (by decide)) (g := (mkF m 74 #[.val (.long q1), .second, .val (.long q2), .second, .val (.long q3), .second, .val (.long v101), .second, .val (.long v103), .second, .unset, .unset, .unset, .unset, .unset, .unset, .unset, .unset, .unset, .unset, .unset, .unset, .unset, .unset, .unset, .unset, .unset, .unset, .unset, .unset, .unset, .unset] [(.long q3), (.long v103), (.long v101), (.ref ob), (.ref ob)])) rfl (by rw [hml]; rfl) (Steps.refl _) (a := ob) (argsL := [(.long v101), (.long v103), (.long q3)]) (rest := [(.ref ob)]) (lenOf own_pd1 rfl) rfl (by show 2 * 0 + _ ≤ _; exact Nat.le_of_eq rfl) (hb hby at_74) (fun _ _ => ⟨rfl, e105, (by decide : 1 + 0 ≤ _), (by decide : 7 + 0 ≤ _)⟩)
  dsimp only [Pt.U, Pt.locs, Pt.cells, Pt.slots] at X106 l106 y106 z106 st106 hQ106
  subst l106 y106 z106
  obtain ⟨rfl, N106q, K106, OB106⟩ := hQ106
  have N106 := Fr.app N0 N106q
  refine own_step (fun t k => st106.trans k) ?_
  have Z106 := Nat.le_trans Z105 K106.1
  refine own_step (T' := T106) (f' := (mkF m 81 #[.val (.long q1), .second, .val (.long q2), .second, .val (.long q3), .second, .val (.long v101), .second, .val (.long v103), .second, .val (.ref ob), .unset, .unset, .unset, .unset, .unset, .unset, .unset, .unset, .unset, .unset, .unset, .unset, .unset, .unset, .unset, .unset, .unset, .unset, .unset, .unset, .unset] [(.ref ob)])) (fun t k => ?_) ?_
  · show Steps p.tables e below (T106.setTop (mkF m 77 #[.val (.long q1), .second, .val (.long q2), .second, .val (.long q3), .second, .val (.long v101), .second, .val (.long v103), .second, .unset, .unset, .unset, .unset, .unset, .unset, .unset, .unset, .unset, .unset, .unset, .unset, .unset, .unset, .unset, .unset, .unset, .unset, .unset, .unset, .unset, .unset] [(.ref ob)])) _
    refine XS.astore X106.here hx rfl (hb hby at_77) rfl rfl (l' := #[.val (.long q1), .second, .val (.long q2), .second, .val (.long q3), .second, .val (.long v101), .second, .val (.long v103), .second, .val (.ref ob), .unset, .unset, .unset, .unset, .unset, .unset, .unset, .unset, .unset, .unset, .unset, .unset, .unset, .unset, .unset, .unset, .unset, .unset, .unset, .unset, .unset]) rfl ?_
    show Steps p.tables e below (T106.setTop (mkF m 79 #[.val (.long q1), .second, .val (.long q2), .second, .val (.long q3), .second, .val (.long v101), .second, .val (.long v103), .second, .val (.ref ob), .unset, .unset, .unset, .unset, .unset, .unset, .unset, .unset, .unset, .unset, .unset, .unset, .unset, .unset, .unset, .unset, .unset, .unset, .unset, .unset, .unset] [])) _
    refine XS.aload X106.here hx rfl (hb hby at_79) rfl rfl ?_
    exact k
  obtain ⟨cq107, kq107, q107a, q107b, q107c⟩ := isOf hZ rfl OB106.1
  obtain ⟨_, _, ⟨T107, L107, k107, n107⟩, -, X107, ⟨Lc107, hQ107, l107, y107, z107⟩, st107⟩ := X106.virtualBack hx (y := (⟨"com/example/tablewalk/tablewalk/SyntheticCast", "next", "()Z"⟩ : MethodName)) (z := (⟨"com/example/tablewalk/tablewalk/SyntheticCast", "next", "()Z"⟩ : MethodName)) hown (mvT hZ (hw _ (List.mem_of_getElem? (i := 22) rfl))) (mvT hZ (hw _ (List.mem_of_getElem? (i := 23) rfl))) (notFace_of_selects (args := #[]) (mvT hZ (hw _ (List.mem_of_getElem? (i := 25) rfl)))) (mvT hZ (hw _ (List.mem_of_getElem? (i := 25) rfl))) (mvT hZ (hw _ (List.mem_of_getElem? (i := 24) rfl))) (by decide) (backOf (W := 0) (own_rm3 l Z a0 hw ob (-1 : Int64) v101 v103 q3 (0 : Int64) (0 : Int32) (0 : Int64) T106.heap n0 Z106 g_ob ⟨OB106.1, OB106.2.1, OB106.2.2.1, OB106.2.2.2.1, OB106.2.2.2.2.1, OB106.2.2.2.2.2.1, OB106.2.2.2.2.2.2.1, OB106.2.2.2.2.2.2.2⟩ hP.2.2.1 hP.2.2.2 (by decide)) hZ (hw _ (List.mem_of_getElem? (i := 26) rfl)) (hw _ (List.mem_of_getElem? (i := 5) rfl)) (by decide) (by decide)) q107a q107c (g := (mkF m 81 #[.val (.long q1), .second, .val (.long q2), .second, .val (.long q3), .second, .val (.long v101), .second, .val (.long v103), .second, .val (.ref ob), .unset, .unset, .unset, .unset, .unset, .unset, .unset, .unset, .unset, .unset, .unset, .unset, .unset, .unset, .unset, .unset, .unset, .unset, .unset, .unset, .unset] [(.ref ob)])) rfl (by rw [hml]; rfl) (Steps.refl _) (argsL := []) (rest := []) (lenOf own_pd2 rfl) rfl (by show 2 * 0 + _ ≤ _; exact Nat.le_of_eq rfl) (hb hby at_81) (fun _ _ => ⟨rfl, rfl, (by decide : 1 + 0 ≤ _), (by decide : 7 + 0 ≤ _)⟩)
  dsimp only [Pt.U, Pt.locs, Pt.cells, Pt.slots] at X107 l107 y107 z107 st107 hQ107
  subst l107 y107 z107
  obtain ⟨fi1, sa1, le1, wh1, sm1, re1, rfl, N107q, K107, OB107, nx1⟩ := hQ107
  have N107 := Fr.app N106 N107q
  refine own_step (fun t k => st107.trans k) ?_
  have Z107 := Nat.le_trans Z106 K107.1
  obtain ⟨hr1, hf1, hi1⟩ := own_first hF hP nx1
  subst hr1 hf1
  have hq1 := own_firstq hi1
  refine own_step (T' := T107) (f' := (mkF m 88 #[.val (.long q1), .second, .val (.long q2), .second, .val (.long q3), .second, .val (.long v101), .second, .val (.long v103), .second, .val (.ref ob), .val (.int (1 : Int32)), .unset, .unset, .unset, .unset, .unset, .unset, .unset, .unset, .unset, .unset, .unset, .unset, .unset, .unset, .unset, .unset, .unset, .unset, .unset, .unset] [(.ref ob)])) (fun t k => ?_) ?_
  · show Steps p.tables e below (T107.setTop (mkF m 84 #[.val (.long q1), .second, .val (.long q2), .second, .val (.long q3), .second, .val (.long v101), .second, .val (.long v103), .second, .val (.ref ob), .unset, .unset, .unset, .unset, .unset, .unset, .unset, .unset, .unset, .unset, .unset, .unset, .unset, .unset, .unset, .unset, .unset, .unset, .unset, .unset, .unset] [(.int (1 : Int32))])) _
    refine XS.istore X107.here hx rfl (hb hby at_84) rfl (l' := #[.val (.long q1), .second, .val (.long q2), .second, .val (.long q3), .second, .val (.long v101), .second, .val (.long v103), .second, .val (.ref ob), .val (.int (1 : Int32)), .unset, .unset, .unset, .unset, .unset, .unset, .unset, .unset, .unset, .unset, .unset, .unset, .unset, .unset, .unset, .unset, .unset, .unset, .unset, .unset]) rfl ?_
    show Steps p.tables e below (T107.setTop (mkF m 86 #[.val (.long q1), .second, .val (.long q2), .second, .val (.long q3), .second, .val (.long v101), .second, .val (.long v103), .second, .val (.ref ob), .val (.int (1 : Int32)), .unset, .unset, .unset, .unset, .unset, .unset, .unset, .unset, .unset, .unset, .unset, .unset, .unset, .unset, .unset, .unset, .unset, .unset, .unset, .unset] [])) _
    refine XS.aload X107.here hx rfl (hb hby at_86) rfl rfl ?_
    exact k
  obtain ⟨cq108, kq108, q108a, q108b, q108c⟩ := isOf hZ rfl OB107.1
  obtain ⟨_, _, ⟨T108, L108, k108, n108⟩, -, X108, ⟨Lc108, hQ108, l108, y108, z108⟩, st108⟩ := X107.virtualBack hx (y := (⟨"com/example/tablewalk/tablewalk/SyntheticCast", "film", "()J"⟩ : MethodName)) (z := (⟨"com/example/tablewalk/tablewalk/SyntheticCast", "film", "()J"⟩ : MethodName)) hown (mvT hZ (hw _ (List.mem_of_getElem? (i := 42) rfl))) (mvT hZ (hw _ (List.mem_of_getElem? (i := 43) rfl))) (notFace_of_selects (args := #[]) (mvT hZ (hw _ (List.mem_of_getElem? (i := 45) rfl)))) (mvT hZ (hw _ (List.mem_of_getElem? (i := 45) rfl))) (mvT hZ (hw _ (List.mem_of_getElem? (i := 44) rfl))) (by decide) (backOf (W := 0) (own_rm5 l Z a0 hw ob (0 : Int64) v101 v103 sa1 le1 sm1 wh1 T107.heap n0 ⟨OB107.1, OB107.2.1, OB107.2.2.1, OB107.2.2.2.1, OB107.2.2.2.2.1, OB107.2.2.2.2.2.1, OB107.2.2.2.2.2.2.1, OB107.2.2.2.2.2.2.2⟩) hZ (hw _ (List.mem_of_getElem? (i := 46) rfl)) (hw _ (List.mem_of_getElem? (i := 5) rfl)) (by decide) (by decide)) q108a q108c (g := (mkF m 88 #[.val (.long q1), .second, .val (.long q2), .second, .val (.long q3), .second, .val (.long v101), .second, .val (.long v103), .second, .val (.ref ob), .val (.int (1 : Int32)), .unset, .unset, .unset, .unset, .unset, .unset, .unset, .unset, .unset, .unset, .unset, .unset, .unset, .unset, .unset, .unset, .unset, .unset, .unset, .unset] [(.ref ob)])) rfl (by rw [hml]; rfl) (Steps.refl _) (argsL := []) (rest := []) (lenOf own_pd3 rfl) rfl (by show 2 * 0 + _ ≤ _; exact Nat.le_of_eq rfl) (hb hby at_88) (fun _ _ => ⟨rfl, rfl, (by decide : 1 + 0 ≤ _), (by decide : 7 + 0 ≤ _)⟩)
  dsimp only [Pt.U, Pt.locs, Pt.cells, Pt.slots] at X108 l108 y108 z108 st108 hQ108
  subst l108 y108 z108
  obtain ⟨rfl, N108q, e108⟩ := hQ108
  have N108 := Fr.app N107 N108q
  refine own_step (fun t k => st108.trans k) ?_
  refine own_step (T' := T108) (f' := (mkF m 95 #[.val (.long q1), .second, .val (.long q2), .second, .val (.long q3), .second, .val (.long v101), .second, .val (.long v103), .second, .val (.ref ob), .val (.int (1 : Int32)), .val (.long (0 : Int64)), .second, .unset, .unset, .unset, .unset, .unset, .unset, .unset, .unset, .unset, .unset, .unset, .unset, .unset, .unset, .unset, .unset, .unset, .unset] [(.ref ob)])) (fun t k => ?_) ?_
  · show Steps p.tables e below (T108.setTop (mkF m 91 #[.val (.long q1), .second, .val (.long q2), .second, .val (.long q3), .second, .val (.long v101), .second, .val (.long v103), .second, .val (.ref ob), .val (.int (1 : Int32)), .unset, .unset, .unset, .unset, .unset, .unset, .unset, .unset, .unset, .unset, .unset, .unset, .unset, .unset, .unset, .unset, .unset, .unset, .unset, .unset] [(.long (0 : Int64))])) _
    refine XS.lstore X108.here hx rfl (hb hby at_91) rfl (l' := #[.val (.long q1), .second, .val (.long q2), .second, .val (.long q3), .second, .val (.long v101), .second, .val (.long v103), .second, .val (.ref ob), .val (.int (1 : Int32)), .val (.long (0 : Int64)), .second, .unset, .unset, .unset, .unset, .unset, .unset, .unset, .unset, .unset, .unset, .unset, .unset, .unset, .unset, .unset, .unset, .unset, .unset]) rfl ?_
    show Steps p.tables e below (T108.setTop (mkF m 93 #[.val (.long q1), .second, .val (.long q2), .second, .val (.long q3), .second, .val (.long v101), .second, .val (.long v103), .second, .val (.ref ob), .val (.int (1 : Int32)), .val (.long (0 : Int64)), .second, .unset, .unset, .unset, .unset, .unset, .unset, .unset, .unset, .unset, .unset, .unset, .unset, .unset, .unset, .unset, .unset, .unset, .unset] [])) _
    refine XS.aload X108.here hx rfl (hb hby at_93) rfl rfl ?_
    exact k
  obtain ⟨cq109, kq109, q109a, q109b, q109c⟩ := isOf hZ e108 OB107.1
  obtain ⟨_, _, ⟨T109, L109, k109, n109⟩, -, X109, ⟨Lc109, hQ109, l109, y109, z109⟩, st109⟩ := X108.virtualBack hx (y := (⟨"com/example/tablewalk/tablewalk/SyntheticCast", "performer", "()J"⟩ : MethodName)) (z := (⟨"com/example/tablewalk/tablewalk/SyntheticCast", "performer", "()J"⟩ : MethodName)) hown (mvT hZ (hw _ (List.mem_of_getElem? (i := 47) rfl))) (mvT hZ (hw _ (List.mem_of_getElem? (i := 48) rfl))) (notFace_of_selects (args := #[]) (mvT hZ (hw _ (List.mem_of_getElem? (i := 50) rfl)))) (mvT hZ (hw _ (List.mem_of_getElem? (i := 50) rfl))) (mvT hZ (hw _ (List.mem_of_getElem? (i := 49) rfl))) (by decide) (backOf (W := 0) (own_rm6 l Z a0 hw ob (0 : Int64) v101 v103 sa1 le1 sm1 wh1 T107.heap n0 ⟨OB107.1, OB107.2.1, OB107.2.2.1, OB107.2.2.2.1, OB107.2.2.2.2.1, OB107.2.2.2.2.2.1, OB107.2.2.2.2.2.2.1, OB107.2.2.2.2.2.2.2⟩) hZ (hw _ (List.mem_of_getElem? (i := 51) rfl)) (hw _ (List.mem_of_getElem? (i := 5) rfl)) (by decide) (by decide)) q109a q109c (g := (mkF m 95 #[.val (.long q1), .second, .val (.long q2), .second, .val (.long q3), .second, .val (.long v101), .second, .val (.long v103), .second, .val (.ref ob), .val (.int (1 : Int32)), .val (.long (0 : Int64)), .second, .unset, .unset, .unset, .unset, .unset, .unset, .unset, .unset, .unset, .unset, .unset, .unset, .unset, .unset, .unset, .unset, .unset, .unset] [(.ref ob)])) rfl (by rw [hml]; rfl) (Steps.refl _) (argsL := []) (rest := []) (lenOf own_pd3 rfl) rfl (by show 2 * 0 + _ ≤ _; exact Nat.le_of_eq rfl) (hb hby at_95) (fun _ _ => ⟨rfl, e108, (by decide : 1 + 0 ≤ _), (by decide : 7 + 0 ≤ _)⟩)
  dsimp only [Pt.U, Pt.locs, Pt.cells, Pt.slots] at X109 l109 y109 z109 st109 hQ109
  subst l109 y109 z109
  obtain ⟨rfl, N109q, e109⟩ := hQ109
  have N109 := Fr.app N108 N109q
  refine own_step (fun t k => st109.trans k) ?_
  refine own_step (T' := T109) (f' := (mkF m 136 #[.val (.long q1), .second, .val (.long q2), .second, .val (.long q3), .second, .val (.long v101), .second, .val (.long v103), .second, .val (.ref ob), .val (.int (1 : Int32)), .val (.long (0 : Int64)), .second, .val (.long wh1), .second, .val (.int (1 : Int32)), .unset, .unset, .unset, .unset, .unset, .unset, .unset, .unset, .unset, .unset, .unset, .unset, .unset, .unset, .unset] [(.ref ob)])) (fun t k => ?_) ?_
  · show Steps p.tables e below (T109.setTop (mkF m 98 #[.val (.long q1), .second, .val (.long q2), .second, .val (.long q3), .second, .val (.long v101), .second, .val (.long v103), .second, .val (.ref ob), .val (.int (1 : Int32)), .val (.long (0 : Int64)), .second, .unset, .unset, .unset, .unset, .unset, .unset, .unset, .unset, .unset, .unset, .unset, .unset, .unset, .unset, .unset, .unset, .unset, .unset] [(.long wh1)])) _
    refine XS.lstore X109.here hx rfl (hb hby at_98) rfl (l' := #[.val (.long q1), .second, .val (.long q2), .second, .val (.long q3), .second, .val (.long v101), .second, .val (.long v103), .second, .val (.ref ob), .val (.int (1 : Int32)), .val (.long (0 : Int64)), .second, .val (.long wh1), .second, .unset, .unset, .unset, .unset, .unset, .unset, .unset, .unset, .unset, .unset, .unset, .unset, .unset, .unset, .unset, .unset]) rfl ?_
    show Steps p.tables e below (T109.setTop (mkF m 100 #[.val (.long q1), .second, .val (.long q2), .second, .val (.long q3), .second, .val (.long v101), .second, .val (.long v103), .second, .val (.ref ob), .val (.int (1 : Int32)), .val (.long (0 : Int64)), .second, .val (.long wh1), .second, .unset, .unset, .unset, .unset, .unset, .unset, .unset, .unset, .unset, .unset, .unset, .unset, .unset, .unset, .unset, .unset] [])) _
    refine XS.iload X109.here hx rfl (hb hby at_100) rfl ?_
    show Steps p.tables e below (T109.setTop (mkF m 102 #[.val (.long q1), .second, .val (.long q2), .second, .val (.long q3), .second, .val (.long v101), .second, .val (.long v103), .second, .val (.ref ob), .val (.int (1 : Int32)), .val (.long (0 : Int64)), .second, .val (.long wh1), .second, .unset, .unset, .unset, .unset, .unset, .unset, .unset, .unset, .unset, .unset, .unset, .unset, .unset, .unset, .unset, .unset] [(.int (1 : Int32))])) _
    refine XS.ifNo X109.here hx rfl (hb hby at_102) rfl ((if0 _ _).trans (feq (by decide : ¬ ((1 : Int32) = (0 : Int32)))).1) ?_
    show Steps p.tables e below (T109.setTop (mkF m 105 #[.val (.long q1), .second, .val (.long q2), .second, .val (.long q3), .second, .val (.long v101), .second, .val (.long v103), .second, .val (.ref ob), .val (.int (1 : Int32)), .val (.long (0 : Int64)), .second, .val (.long wh1), .second, .unset, .unset, .unset, .unset, .unset, .unset, .unset, .unset, .unset, .unset, .unset, .unset, .unset, .unset, .unset, .unset] [])) _
    refine XS.lload X109.here hx rfl (hb hby at_105) rfl ?_
    show Steps p.tables e below (T109.setTop (mkF m 107 #[.val (.long q1), .second, .val (.long q2), .second, .val (.long q3), .second, .val (.long v101), .second, .val (.long v103), .second, .val (.ref ob), .val (.int (1 : Int32)), .val (.long (0 : Int64)), .second, .val (.long wh1), .second, .unset, .unset, .unset, .unset, .unset, .unset, .unset, .unset, .unset, .unset, .unset, .unset, .unset, .unset, .unset, .unset] [(.long (0 : Int64))])) _
    refine XS.lconst X109.here hx rfl (hb hby at_107) ?_
    show Steps p.tables e below (T109.setTop (mkF m 108 #[.val (.long q1), .second, .val (.long q2), .second, .val (.long q3), .second, .val (.long v101), .second, .val (.long v103), .second, .val (.ref ob), .val (.int (1 : Int32)), .val (.long (0 : Int64)), .second, .val (.long wh1), .second, .unset, .unset, .unset, .unset, .unset, .unset, .unset, .unset, .unset, .unset, .unset, .unset, .unset, .unset, .unset, .unset] [(.long (0 : Int64)), (.long (0 : Int64))])) _
    refine XS.lcmp X109.here hx rfl (hb hby at_108) rfl ?_
    show Steps p.tables e below (T109.setTop (mkF m 109 #[.val (.long q1), .second, .val (.long q2), .second, .val (.long q3), .second, .val (.long v101), .second, .val (.long v103), .second, .val (.ref ob), .val (.int (1 : Int32)), .val (.long (0 : Int64)), .second, .val (.long wh1), .second, .unset, .unset, .unset, .unset, .unset, .unset, .unset, .unset, .unset, .unset, .unset, .unset, .unset, .unset, .unset, .unset] [(.int (lcmpW (0 : Int64) (0 : Int64)))])) _
    refine XS.ifNo X109.here hx rfl (hb hby at_109) rfl ((if0 _ _).trans (teq ((lw_eq (0 : Int64) (0 : Int64)).mpr (by decide : (0 : Int64) = (0 : Int64)))).2) ?_
    show Steps p.tables e below (T109.setTop (mkF m 112 #[.val (.long q1), .second, .val (.long q2), .second, .val (.long q3), .second, .val (.long v101), .second, .val (.long v103), .second, .val (.ref ob), .val (.int (1 : Int32)), .val (.long (0 : Int64)), .second, .val (.long wh1), .second, .unset, .unset, .unset, .unset, .unset, .unset, .unset, .unset, .unset, .unset, .unset, .unset, .unset, .unset, .unset, .unset] [])) _
    refine XS.lconst X109.here hx rfl (hb hby at_112) ?_
    show Steps p.tables e below (T109.setTop (mkF m 113 #[.val (.long q1), .second, .val (.long q2), .second, .val (.long q3), .second, .val (.long v101), .second, .val (.long v103), .second, .val (.ref ob), .val (.int (1 : Int32)), .val (.long (0 : Int64)), .second, .val (.long wh1), .second, .unset, .unset, .unset, .unset, .unset, .unset, .unset, .unset, .unset, .unset, .unset, .unset, .unset, .unset, .unset, .unset] [(.long (0 : Int64))])) _
    refine XS.lload X109.here hx rfl (hb hby at_113) rfl ?_
    show Steps p.tables e below (T109.setTop (mkF m 115 #[.val (.long q1), .second, .val (.long q2), .second, .val (.long q3), .second, .val (.long v101), .second, .val (.long v103), .second, .val (.ref ob), .val (.int (1 : Int32)), .val (.long (0 : Int64)), .second, .val (.long wh1), .second, .unset, .unset, .unset, .unset, .unset, .unset, .unset, .unset, .unset, .unset, .unset, .unset, .unset, .unset, .unset, .unset] [(.long wh1), (.long (0 : Int64))])) _
    refine XS.lcmp X109.here hx rfl (hb hby at_115) rfl ?_
    show Steps p.tables e below (T109.setTop (mkF m 116 #[.val (.long q1), .second, .val (.long q2), .second, .val (.long q3), .second, .val (.long v101), .second, .val (.long v103), .second, .val (.ref ob), .val (.int (1 : Int32)), .val (.long (0 : Int64)), .second, .val (.long wh1), .second, .unset, .unset, .unset, .unset, .unset, .unset, .unset, .unset, .unset, .unset, .unset, .unset, .unset, .unset, .unset, .unset] [(.int (lcmpW (0 : Int64) wh1))])) _
    refine XS.ifNo X109.here hx rfl (hb hby at_116) rfl ((if0 _ _).trans (flt (fun q => hq1.1 ((lw_gt (0 : Int64) wh1).mp q))).2.2.1) ?_
    show Steps p.tables e below (T109.setTop (mkF m 119 #[.val (.long q1), .second, .val (.long q2), .second, .val (.long q3), .second, .val (.long v101), .second, .val (.long v103), .second, .val (.ref ob), .val (.int (1 : Int32)), .val (.long (0 : Int64)), .second, .val (.long wh1), .second, .unset, .unset, .unset, .unset, .unset, .unset, .unset, .unset, .unset, .unset, .unset, .unset, .unset, .unset, .unset, .unset] [])) _
    refine XS.lload X109.here hx rfl (hb hby at_119) rfl ?_
    show Steps p.tables e below (T109.setTop (mkF m 121 #[.val (.long q1), .second, .val (.long q2), .second, .val (.long q3), .second, .val (.long v101), .second, .val (.long v103), .second, .val (.ref ob), .val (.int (1 : Int32)), .val (.long (0 : Int64)), .second, .val (.long wh1), .second, .unset, .unset, .unset, .unset, .unset, .unset, .unset, .unset, .unset, .unset, .unset, .unset, .unset, .unset, .unset, .unset] [(.long wh1)])) _
    refine XS.lload X109.here hx rfl (hb hby at_121) rfl ?_
    show Steps p.tables e below (T109.setTop (mkF m 123 #[.val (.long q1), .second, .val (.long q2), .second, .val (.long q3), .second, .val (.long v101), .second, .val (.long v103), .second, .val (.ref ob), .val (.int (1 : Int32)), .val (.long (0 : Int64)), .second, .val (.long wh1), .second, .unset, .unset, .unset, .unset, .unset, .unset, .unset, .unset, .unset, .unset, .unset, .unset, .unset, .unset, .unset, .unset] [(.long v103), (.long wh1)])) _
    refine XS.lcmp X109.here hx rfl (hb hby at_123) rfl ?_
    show Steps p.tables e below (T109.setTop (mkF m 124 #[.val (.long q1), .second, .val (.long q2), .second, .val (.long q3), .second, .val (.long v101), .second, .val (.long v103), .second, .val (.ref ob), .val (.int (1 : Int32)), .val (.long (0 : Int64)), .second, .val (.long wh1), .second, .unset, .unset, .unset, .unset, .unset, .unset, .unset, .unset, .unset, .unset, .unset, .unset, .unset, .unset, .unset, .unset] [(.int (lcmpW wh1 v103))])) _
    refine XS.ifNo X109.here hx rfl (hb hby at_124) rfl ((if0 _ _).trans (tlt ((lw_lt wh1 v103).mpr hq1.2)).2.1) ?_
    show Steps p.tables e below (T109.setTop (mkF m 127 #[.val (.long q1), .second, .val (.long q2), .second, .val (.long q3), .second, .val (.long v101), .second, .val (.long v103), .second, .val (.ref ob), .val (.int (1 : Int32)), .val (.long (0 : Int64)), .second, .val (.long wh1), .second, .unset, .unset, .unset, .unset, .unset, .unset, .unset, .unset, .unset, .unset, .unset, .unset, .unset, .unset, .unset, .unset] [])) _
    refine XS.iconst X109.here hx rfl (hb hby at_127) ?_
    show Steps p.tables e below (T109.setTop (mkF m 128 #[.val (.long q1), .second, .val (.long q2), .second, .val (.long q3), .second, .val (.long v101), .second, .val (.long v103), .second, .val (.ref ob), .val (.int (1 : Int32)), .val (.long (0 : Int64)), .second, .val (.long wh1), .second, .unset, .unset, .unset, .unset, .unset, .unset, .unset, .unset, .unset, .unset, .unset, .unset, .unset, .unset, .unset, .unset] [(.int (1 : Int32))])) _
    refine XS.goto X109.here hx rfl (pc0 := 128) (pc' := 132) rfl (hb hby at_128) (by decide) (by decide) ?_
    show Steps p.tables e below (T109.setTop (mkF m 132 #[.val (.long q1), .second, .val (.long q2), .second, .val (.long q3), .second, .val (.long v101), .second, .val (.long v103), .second, .val (.ref ob), .val (.int (1 : Int32)), .val (.long (0 : Int64)), .second, .val (.long wh1), .second, .unset, .unset, .unset, .unset, .unset, .unset, .unset, .unset, .unset, .unset, .unset, .unset, .unset, .unset, .unset, .unset] [(.int (1 : Int32))])) _
    refine XS.istore X109.here hx rfl (hb hby at_132) rfl (l' := #[.val (.long q1), .second, .val (.long q2), .second, .val (.long q3), .second, .val (.long v101), .second, .val (.long v103), .second, .val (.ref ob), .val (.int (1 : Int32)), .val (.long (0 : Int64)), .second, .val (.long wh1), .second, .val (.int (1 : Int32)), .unset, .unset, .unset, .unset, .unset, .unset, .unset, .unset, .unset, .unset, .unset, .unset, .unset, .unset, .unset]) rfl ?_
    show Steps p.tables e below (T109.setTop (mkF m 134 #[.val (.long q1), .second, .val (.long q2), .second, .val (.long q3), .second, .val (.long v101), .second, .val (.long v103), .second, .val (.ref ob), .val (.int (1 : Int32)), .val (.long (0 : Int64)), .second, .val (.long wh1), .second, .val (.int (1 : Int32)), .unset, .unset, .unset, .unset, .unset, .unset, .unset, .unset, .unset, .unset, .unset, .unset, .unset, .unset, .unset] [])) _
    refine XS.aload X109.here hx rfl (hb hby at_134) rfl rfl ?_
    exact k
  obtain ⟨cq110, kq110, q110a, q110b, q110c⟩ := isOf hZ e109 OB107.1
  obtain ⟨_, _, ⟨T110, L110, k110, n110⟩, -, X110, ⟨Lc110, hQ110, l110, y110, z110⟩, st110⟩ := X109.virtualBack hx (y := (⟨"com/example/tablewalk/tablewalk/SyntheticCast", "next", "()Z"⟩ : MethodName)) (z := (⟨"com/example/tablewalk/tablewalk/SyntheticCast", "next", "()Z"⟩ : MethodName)) hown (mvT hZ (hw _ (List.mem_of_getElem? (i := 22) rfl))) (mvT hZ (hw _ (List.mem_of_getElem? (i := 23) rfl))) (notFace_of_selects (args := #[]) (mvT hZ (hw _ (List.mem_of_getElem? (i := 25) rfl)))) (mvT hZ (hw _ (List.mem_of_getElem? (i := 25) rfl))) (mvT hZ (hw _ (List.mem_of_getElem? (i := 24) rfl))) (by decide) (backOf (W := 0) (own_rm3 l Z a0 hw ob (0 : Int64) v101 v103 sa1 le1 sm1 wh1 T107.heap n0 Z107 g_ob ⟨OB107.1, OB107.2.1, OB107.2.2.1, OB107.2.2.2.1, OB107.2.2.2.2.1, OB107.2.2.2.2.2.1, OB107.2.2.2.2.2.2.1, OB107.2.2.2.2.2.2.2⟩ hP.2.2.1 hP.2.2.2 hi1.2.2.1) hZ (hw _ (List.mem_of_getElem? (i := 26) rfl)) (hw _ (List.mem_of_getElem? (i := 5) rfl)) (by decide) (by decide)) q110a q110c (g := (mkF m 136 #[.val (.long q1), .second, .val (.long q2), .second, .val (.long q3), .second, .val (.long v101), .second, .val (.long v103), .second, .val (.ref ob), .val (.int (1 : Int32)), .val (.long (0 : Int64)), .second, .val (.long wh1), .second, .val (.int (1 : Int32)), .unset, .unset, .unset, .unset, .unset, .unset, .unset, .unset, .unset, .unset, .unset, .unset, .unset, .unset, .unset] [(.ref ob)])) rfl (by rw [hml]; rfl) (Steps.refl _) (argsL := []) (rest := []) (lenOf own_pd2 rfl) rfl (by show 2 * 0 + _ ≤ _; exact Nat.le_of_eq rfl) (hb hby at_136) (fun _ _ => ⟨rfl, e109, (by decide : 1 + 0 ≤ _), (by decide : 7 + 0 ≤ _)⟩)
  dsimp only [Pt.U, Pt.locs, Pt.cells, Pt.slots] at X110 l110 y110 z110 st110 hQ110
  subst l110 y110 z110
  obtain ⟨fi2, sa2, le2, wh2, sm2, re2, rfl, N110q, K110, OB110, nx2⟩ := hQ110
  have N110 := Fr.app N109 N110q
  refine own_step (fun t k => st110.trans k) ?_
  have Z110 := Nat.le_trans Z107 K110.1
  obtain ⟨hs2, hi2⟩ := own_again hF hP hi1 nx2
  refine own_step (T' := T110) (f' := (mkF m 143 #[.val (.long q1), .second, .val (.long q2), .second, .val (.long q3), .second, .val (.long v101), .second, .val (.long v103), .second, .val (.ref ob), .val (.int (1 : Int32)), .val (.long (0 : Int64)), .second, .val (.long wh1), .second, .val (.int (1 : Int32)), .val (.int re2), .unset, .unset, .unset, .unset, .unset, .unset, .unset, .unset, .unset, .unset, .unset, .unset, .unset, .unset] [(.ref ob)])) (fun t k => ?_) ?_
  · show Steps p.tables e below (T110.setTop (mkF m 139 #[.val (.long q1), .second, .val (.long q2), .second, .val (.long q3), .second, .val (.long v101), .second, .val (.long v103), .second, .val (.ref ob), .val (.int (1 : Int32)), .val (.long (0 : Int64)), .second, .val (.long wh1), .second, .val (.int (1 : Int32)), .unset, .unset, .unset, .unset, .unset, .unset, .unset, .unset, .unset, .unset, .unset, .unset, .unset, .unset, .unset] [(.int re2)])) _
    refine XS.istore X110.here hx rfl (hb hby at_139) rfl (l' := #[.val (.long q1), .second, .val (.long q2), .second, .val (.long q3), .second, .val (.long v101), .second, .val (.long v103), .second, .val (.ref ob), .val (.int (1 : Int32)), .val (.long (0 : Int64)), .second, .val (.long wh1), .second, .val (.int (1 : Int32)), .val (.int re2), .unset, .unset, .unset, .unset, .unset, .unset, .unset, .unset, .unset, .unset, .unset, .unset, .unset, .unset]) rfl ?_
    show Steps p.tables e below (T110.setTop (mkF m 141 #[.val (.long q1), .second, .val (.long q2), .second, .val (.long q3), .second, .val (.long v101), .second, .val (.long v103), .second, .val (.ref ob), .val (.int (1 : Int32)), .val (.long (0 : Int64)), .second, .val (.long wh1), .second, .val (.int (1 : Int32)), .val (.int re2), .unset, .unset, .unset, .unset, .unset, .unset, .unset, .unset, .unset, .unset, .unset, .unset, .unset, .unset] [])) _
    refine XS.aload X110.here hx rfl (hb hby at_141) rfl rfl ?_
    exact k
  obtain ⟨cq111, kq111, q111a, q111b, q111c⟩ := isOf hZ rfl OB110.1
  obtain ⟨_, _, ⟨T111, L111, k111, n111⟩, -, X111, ⟨Lc111, hQ111, l111, y111, z111⟩, st111⟩ := X110.virtualBack hx (y := (⟨"com/example/tablewalk/tablewalk/SyntheticCast", "film", "()J"⟩ : MethodName)) (z := (⟨"com/example/tablewalk/tablewalk/SyntheticCast", "film", "()J"⟩ : MethodName)) hown (mvT hZ (hw _ (List.mem_of_getElem? (i := 42) rfl))) (mvT hZ (hw _ (List.mem_of_getElem? (i := 43) rfl))) (notFace_of_selects (args := #[]) (mvT hZ (hw _ (List.mem_of_getElem? (i := 45) rfl)))) (mvT hZ (hw _ (List.mem_of_getElem? (i := 45) rfl))) (mvT hZ (hw _ (List.mem_of_getElem? (i := 44) rfl))) (by decide) (backOf (W := 0) (own_rm5 l Z a0 hw ob fi2 v101 v103 sa2 le2 sm2 wh2 T110.heap n0 ⟨OB110.1, OB110.2.1, OB110.2.2.1, OB110.2.2.2.1, OB110.2.2.2.2.1, OB110.2.2.2.2.2.1, OB110.2.2.2.2.2.2.1, OB110.2.2.2.2.2.2.2⟩) hZ (hw _ (List.mem_of_getElem? (i := 46) rfl)) (hw _ (List.mem_of_getElem? (i := 5) rfl)) (by decide) (by decide)) q111a q111c (g := (mkF m 143 #[.val (.long q1), .second, .val (.long q2), .second, .val (.long q3), .second, .val (.long v101), .second, .val (.long v103), .second, .val (.ref ob), .val (.int (1 : Int32)), .val (.long (0 : Int64)), .second, .val (.long wh1), .second, .val (.int (1 : Int32)), .val (.int re2), .unset, .unset, .unset, .unset, .unset, .unset, .unset, .unset, .unset, .unset, .unset, .unset, .unset, .unset] [(.ref ob)])) rfl (by rw [hml]; rfl) (Steps.refl _) (argsL := []) (rest := []) (lenOf own_pd3 rfl) rfl (by show 2 * 0 + _ ≤ _; exact Nat.le_of_eq rfl) (hb hby at_143) (fun _ _ => ⟨rfl, rfl, (by decide : 1 + 0 ≤ _), (by decide : 7 + 0 ≤ _)⟩)
  dsimp only [Pt.U, Pt.locs, Pt.cells, Pt.slots] at X111 l111 y111 z111 st111 hQ111
  subst l111 y111 z111
  obtain ⟨rfl, N111q, e111⟩ := hQ111
  have N111 := Fr.app N110 N111q
  refine own_step (fun t k => st111.trans k) ?_
  refine own_step (T' := T111) (f' := (mkF m 150 #[.val (.long q1), .second, .val (.long q2), .second, .val (.long q3), .second, .val (.long v101), .second, .val (.long v103), .second, .val (.ref ob), .val (.int (1 : Int32)), .val (.long (0 : Int64)), .second, .val (.long wh1), .second, .val (.int (1 : Int32)), .val (.int re2), .val (.long fi2), .second, .unset, .unset, .unset, .unset, .unset, .unset, .unset, .unset, .unset, .unset, .unset, .unset] [(.ref ob)])) (fun t k => ?_) ?_
  · show Steps p.tables e below (T111.setTop (mkF m 146 #[.val (.long q1), .second, .val (.long q2), .second, .val (.long q3), .second, .val (.long v101), .second, .val (.long v103), .second, .val (.ref ob), .val (.int (1 : Int32)), .val (.long (0 : Int64)), .second, .val (.long wh1), .second, .val (.int (1 : Int32)), .val (.int re2), .unset, .unset, .unset, .unset, .unset, .unset, .unset, .unset, .unset, .unset, .unset, .unset, .unset, .unset] [(.long fi2)])) _
    refine XS.lstore X111.here hx rfl (hb hby at_146) rfl (l' := #[.val (.long q1), .second, .val (.long q2), .second, .val (.long q3), .second, .val (.long v101), .second, .val (.long v103), .second, .val (.ref ob), .val (.int (1 : Int32)), .val (.long (0 : Int64)), .second, .val (.long wh1), .second, .val (.int (1 : Int32)), .val (.int re2), .val (.long fi2), .second, .unset, .unset, .unset, .unset, .unset, .unset, .unset, .unset, .unset, .unset, .unset, .unset]) rfl ?_
    show Steps p.tables e below (T111.setTop (mkF m 148 #[.val (.long q1), .second, .val (.long q2), .second, .val (.long q3), .second, .val (.long v101), .second, .val (.long v103), .second, .val (.ref ob), .val (.int (1 : Int32)), .val (.long (0 : Int64)), .second, .val (.long wh1), .second, .val (.int (1 : Int32)), .val (.int re2), .val (.long fi2), .second, .unset, .unset, .unset, .unset, .unset, .unset, .unset, .unset, .unset, .unset, .unset, .unset] [])) _
    refine XS.aload X111.here hx rfl (hb hby at_148) rfl rfl ?_
    exact k
  obtain ⟨cq112, kq112, q112a, q112b, q112c⟩ := isOf hZ e111 OB110.1
  obtain ⟨_, _, ⟨T112, L112, k112, n112⟩, -, X112, ⟨Lc112, hQ112, l112, y112, z112⟩, st112⟩ := X111.virtualBack hx (y := (⟨"com/example/tablewalk/tablewalk/SyntheticCast", "performer", "()J"⟩ : MethodName)) (z := (⟨"com/example/tablewalk/tablewalk/SyntheticCast", "performer", "()J"⟩ : MethodName)) hown (mvT hZ (hw _ (List.mem_of_getElem? (i := 47) rfl))) (mvT hZ (hw _ (List.mem_of_getElem? (i := 48) rfl))) (notFace_of_selects (args := #[]) (mvT hZ (hw _ (List.mem_of_getElem? (i := 50) rfl)))) (mvT hZ (hw _ (List.mem_of_getElem? (i := 50) rfl))) (mvT hZ (hw _ (List.mem_of_getElem? (i := 49) rfl))) (by decide) (backOf (W := 0) (own_rm6 l Z a0 hw ob fi2 v101 v103 sa2 le2 sm2 wh2 T110.heap n0 ⟨OB110.1, OB110.2.1, OB110.2.2.1, OB110.2.2.2.1, OB110.2.2.2.2.1, OB110.2.2.2.2.2.1, OB110.2.2.2.2.2.2.1, OB110.2.2.2.2.2.2.2⟩) hZ (hw _ (List.mem_of_getElem? (i := 51) rfl)) (hw _ (List.mem_of_getElem? (i := 5) rfl)) (by decide) (by decide)) q112a q112c (g := (mkF m 150 #[.val (.long q1), .second, .val (.long q2), .second, .val (.long q3), .second, .val (.long v101), .second, .val (.long v103), .second, .val (.ref ob), .val (.int (1 : Int32)), .val (.long (0 : Int64)), .second, .val (.long wh1), .second, .val (.int (1 : Int32)), .val (.int re2), .val (.long fi2), .second, .unset, .unset, .unset, .unset, .unset, .unset, .unset, .unset, .unset, .unset, .unset, .unset] [(.ref ob)])) rfl (by rw [hml]; rfl) (Steps.refl _) (argsL := []) (rest := []) (lenOf own_pd3 rfl) rfl (by show 2 * 0 + _ ≤ _; exact Nat.le_of_eq rfl) (hb hby at_150) (fun _ _ => ⟨rfl, e111, (by decide : 1 + 0 ≤ _), (by decide : 7 + 0 ≤ _)⟩)
  dsimp only [Pt.U, Pt.locs, Pt.cells, Pt.slots] at X112 l112 y112 z112 st112 hQ112
  subst l112 y112 z112
  obtain ⟨rfl, N112q, e112⟩ := hQ112
  have N112 := Fr.app N111 N112q
  refine own_step (fun t k => st112.trans k) ?_
  refine own_step (T' := T112) (f' := (mkF m 176 #[.val (.long q1), .second, .val (.long q2), .second, .val (.long q3), .second, .val (.long v101), .second, .val (.long v103), .second, .val (.ref ob), .val (.int (1 : Int32)), .val (.long (0 : Int64)), .second, .val (.long wh1), .second, .val (.int (1 : Int32)), .val (.int re2), .val (.long fi2), .second, .val (.long wh2), .second, .unset, .unset, .unset, .unset, .unset, .unset, .unset, .unset, .unset, .unset] [(.long v103), (.long v101), (.long wh2), (.long fi2), (.int re2), (.long wh1), (.long (0 : Int64)), (.int (1 : Int32))])) (fun t k => ?_) ?_
  · show Steps p.tables e below (T112.setTop (mkF m 153 #[.val (.long q1), .second, .val (.long q2), .second, .val (.long q3), .second, .val (.long v101), .second, .val (.long v103), .second, .val (.ref ob), .val (.int (1 : Int32)), .val (.long (0 : Int64)), .second, .val (.long wh1), .second, .val (.int (1 : Int32)), .val (.int re2), .val (.long fi2), .second, .unset, .unset, .unset, .unset, .unset, .unset, .unset, .unset, .unset, .unset, .unset, .unset] [(.long wh2)])) _
    refine XS.lstore X112.here hx rfl (hb hby at_153) rfl (l' := #[.val (.long q1), .second, .val (.long q2), .second, .val (.long q3), .second, .val (.long v101), .second, .val (.long v103), .second, .val (.ref ob), .val (.int (1 : Int32)), .val (.long (0 : Int64)), .second, .val (.long wh1), .second, .val (.int (1 : Int32)), .val (.int re2), .val (.long fi2), .second, .val (.long wh2), .second, .unset, .unset, .unset, .unset, .unset, .unset, .unset, .unset, .unset, .unset]) rfl ?_
    show Steps p.tables e below (T112.setTop (mkF m 155 #[.val (.long q1), .second, .val (.long q2), .second, .val (.long q3), .second, .val (.long v101), .second, .val (.long v103), .second, .val (.ref ob), .val (.int (1 : Int32)), .val (.long (0 : Int64)), .second, .val (.long wh1), .second, .val (.int (1 : Int32)), .val (.int re2), .val (.long fi2), .second, .val (.long wh2), .second, .unset, .unset, .unset, .unset, .unset, .unset, .unset, .unset, .unset, .unset] [])) _
    refine XS.iload X112.here hx rfl (hb hby at_155) rfl ?_
    show Steps p.tables e below (T112.setTop (mkF m 157 #[.val (.long q1), .second, .val (.long q2), .second, .val (.long q3), .second, .val (.long v101), .second, .val (.long v103), .second, .val (.ref ob), .val (.int (1 : Int32)), .val (.long (0 : Int64)), .second, .val (.long wh1), .second, .val (.int (1 : Int32)), .val (.int re2), .val (.long fi2), .second, .val (.long wh2), .second, .unset, .unset, .unset, .unset, .unset, .unset, .unset, .unset, .unset, .unset] [(.int (1 : Int32))])) _
    refine XS.ifNo X112.here hx rfl (hb hby at_157) rfl ((if0 _ _).trans (feq (by decide : ¬ ((1 : Int32) = (0 : Int32)))).1) ?_
    show Steps p.tables e below (T112.setTop (mkF m 160 #[.val (.long q1), .second, .val (.long q2), .second, .val (.long q3), .second, .val (.long v101), .second, .val (.long v103), .second, .val (.ref ob), .val (.int (1 : Int32)), .val (.long (0 : Int64)), .second, .val (.long wh1), .second, .val (.int (1 : Int32)), .val (.int re2), .val (.long fi2), .second, .val (.long wh2), .second, .unset, .unset, .unset, .unset, .unset, .unset, .unset, .unset, .unset, .unset] [])) _
    refine XS.iload X112.here hx rfl (hb hby at_160) rfl ?_
    show Steps p.tables e below (T112.setTop (mkF m 162 #[.val (.long q1), .second, .val (.long q2), .second, .val (.long q3), .second, .val (.long v101), .second, .val (.long v103), .second, .val (.ref ob), .val (.int (1 : Int32)), .val (.long (0 : Int64)), .second, .val (.long wh1), .second, .val (.int (1 : Int32)), .val (.int re2), .val (.long fi2), .second, .val (.long wh2), .second, .unset, .unset, .unset, .unset, .unset, .unset, .unset, .unset, .unset, .unset] [(.int (1 : Int32))])) _
    refine XS.lload X112.here hx rfl (hb hby at_162) rfl ?_
    show Steps p.tables e below (T112.setTop (mkF m 164 #[.val (.long q1), .second, .val (.long q2), .second, .val (.long q3), .second, .val (.long v101), .second, .val (.long v103), .second, .val (.ref ob), .val (.int (1 : Int32)), .val (.long (0 : Int64)), .second, .val (.long wh1), .second, .val (.int (1 : Int32)), .val (.int re2), .val (.long fi2), .second, .val (.long wh2), .second, .unset, .unset, .unset, .unset, .unset, .unset, .unset, .unset, .unset, .unset] [(.long (0 : Int64)), (.int (1 : Int32))])) _
    refine XS.lload X112.here hx rfl (hb hby at_164) rfl ?_
    show Steps p.tables e below (T112.setTop (mkF m 166 #[.val (.long q1), .second, .val (.long q2), .second, .val (.long q3), .second, .val (.long v101), .second, .val (.long v103), .second, .val (.ref ob), .val (.int (1 : Int32)), .val (.long (0 : Int64)), .second, .val (.long wh1), .second, .val (.int (1 : Int32)), .val (.int re2), .val (.long fi2), .second, .val (.long wh2), .second, .unset, .unset, .unset, .unset, .unset, .unset, .unset, .unset, .unset, .unset] [(.long wh1), (.long (0 : Int64)), (.int (1 : Int32))])) _
    refine XS.iload X112.here hx rfl (hb hby at_166) rfl ?_
    show Steps p.tables e below (T112.setTop (mkF m 168 #[.val (.long q1), .second, .val (.long q2), .second, .val (.long q3), .second, .val (.long v101), .second, .val (.long v103), .second, .val (.ref ob), .val (.int (1 : Int32)), .val (.long (0 : Int64)), .second, .val (.long wh1), .second, .val (.int (1 : Int32)), .val (.int re2), .val (.long fi2), .second, .val (.long wh2), .second, .unset, .unset, .unset, .unset, .unset, .unset, .unset, .unset, .unset, .unset] [(.int re2), (.long wh1), (.long (0 : Int64)), (.int (1 : Int32))])) _
    refine XS.lload X112.here hx rfl (hb hby at_168) rfl ?_
    show Steps p.tables e below (T112.setTop (mkF m 170 #[.val (.long q1), .second, .val (.long q2), .second, .val (.long q3), .second, .val (.long v101), .second, .val (.long v103), .second, .val (.ref ob), .val (.int (1 : Int32)), .val (.long (0 : Int64)), .second, .val (.long wh1), .second, .val (.int (1 : Int32)), .val (.int re2), .val (.long fi2), .second, .val (.long wh2), .second, .unset, .unset, .unset, .unset, .unset, .unset, .unset, .unset, .unset, .unset] [(.long fi2), (.int re2), (.long wh1), (.long (0 : Int64)), (.int (1 : Int32))])) _
    refine XS.lload X112.here hx rfl (hb hby at_170) rfl ?_
    show Steps p.tables e below (T112.setTop (mkF m 172 #[.val (.long q1), .second, .val (.long q2), .second, .val (.long q3), .second, .val (.long v101), .second, .val (.long v103), .second, .val (.ref ob), .val (.int (1 : Int32)), .val (.long (0 : Int64)), .second, .val (.long wh1), .second, .val (.int (1 : Int32)), .val (.int re2), .val (.long fi2), .second, .val (.long wh2), .second, .unset, .unset, .unset, .unset, .unset, .unset, .unset, .unset, .unset, .unset] [(.long wh2), (.long fi2), (.int re2), (.long wh1), (.long (0 : Int64)), (.int (1 : Int32))])) _
    refine XS.lload X112.here hx rfl (hb hby at_172) rfl ?_
    show Steps p.tables e below (T112.setTop (mkF m 174 #[.val (.long q1), .second, .val (.long q2), .second, .val (.long q3), .second, .val (.long v101), .second, .val (.long v103), .second, .val (.ref ob), .val (.int (1 : Int32)), .val (.long (0 : Int64)), .second, .val (.long wh1), .second, .val (.int (1 : Int32)), .val (.int re2), .val (.long fi2), .second, .val (.long wh2), .second, .unset, .unset, .unset, .unset, .unset, .unset, .unset, .unset, .unset, .unset] [(.long v101), (.long wh2), (.long fi2), (.int re2), (.long wh1), (.long (0 : Int64)), (.int (1 : Int32))])) _
    refine XS.lload X112.here hx rfl (hb hby at_174) rfl ?_
    exact k
  obtain ⟨_, _, ⟨T113, L113, k113, n113⟩, -, X113, ⟨Lc113, hQ113, l113, y113, z113⟩, st113⟩ := Jvm.LawKit.callS X112 hx (y := (⟨"com/example/tablewalk/tablewalk/SyntheticCastNextPinLaw", "step", "(ZJJZJJJJ)Z"⟩ : MethodName)) hown (mvT hZ (hw _ (List.mem_of_getElem? (i := 52) rfl))) (mvT hZ (hw _ (List.mem_of_getElem? (i := 53) rfl))) (mvT hZ (hw _ (List.mem_of_getElem? (i := 54) rfl))) (mvT hZ (hw _ (List.mem_of_getElem? (i := 55) rfl))) (by decide) (backOf (W := 0) (own_rm7 l Z a0 hw (1 : Int32) (0 : Int64) wh1 re2 fi2 wh2 v101 v103 T110.heap n0) hZ (hw _ (List.mem_of_getElem? (i := 55) rfl)) (hw _ (List.mem_of_getElem? (i := 54) rfl)) (by decide) (by decide)) (g := (mkF m 176 #[.val (.long q1), .second, .val (.long q2), .second, .val (.long q3), .second, .val (.long v101), .second, .val (.long v103), .second, .val (.ref ob), .val (.int (1 : Int32)), .val (.long (0 : Int64)), .second, .val (.long wh1), .second, .val (.int (1 : Int32)), .val (.int re2), .val (.long fi2), .second, .val (.long wh2), .second, .unset, .unset, .unset, .unset, .unset, .unset, .unset, .unset, .unset, .unset] [(.long v103), (.long v101), (.long wh2), (.long fi2), (.int re2), (.long wh1), (.long (0 : Int64)), (.int (1 : Int32))])) rfl (by rw [hml]; rfl) (argsL := [(.int (1 : Int32)), (.long (0 : Int64)), (.long wh1), (.int re2), (.long fi2), (.long wh2), (.long v101), (.long v103)]) (rest := []) (lenOf own_pd4 rfl) rfl (by show 2 * 0 + _ ≤ _; exact Nat.le_of_eq rfl) (hb hby at_176) (fun _ _ => ⟨rfl, e112, (by decide : 1 + 0 ≤ _), (by decide : 7 + 0 ≤ _)⟩)
  dsimp only [Pt.U, Pt.locs, Pt.cells, Pt.slots] at X113 l113 y113 z113 st113 hQ113
  subst l113 y113 z113
  obtain ⟨rfl, N113q, e113⟩ := hQ113
  have N113 := Fr.app N112 N113q
  refine own_step (fun t k => st113 _ k) ?_
  refine own_step (T' := T113) (f' := (mkF m 191 #[.val (.long q1), .second, .val (.long q2), .second, .val (.long q3), .second, .val (.long v101), .second, .val (.long v103), .second, .val (.ref ob), .val (.int (1 : Int32)), .val (.long (0 : Int64)), .second, .val (.long wh1), .second, .val (.int (1 : Int32)), .val (.int re2), .val (.long fi2), .second, .val (.long wh2), .second, .unset, .unset, .unset, .unset, .unset, .unset, .unset, .unset, .unset, .unset] [(.ref ob)])) (fun t k => ?_) ?_
  · show Steps p.tables e below (T113.setTop (mkF m 179 #[.val (.long q1), .second, .val (.long q2), .second, .val (.long q3), .second, .val (.long v101), .second, .val (.long v103), .second, .val (.ref ob), .val (.int (1 : Int32)), .val (.long (0 : Int64)), .second, .val (.long wh1), .second, .val (.int (1 : Int32)), .val (.int re2), .val (.long fi2), .second, .val (.long wh2), .second, .unset, .unset, .unset, .unset, .unset, .unset, .unset, .unset, .unset, .unset] [(.int (own_f7 (1 : Int32) (0 : Int64) wh1 re2 fi2 wh2 v101 v103))])) _
    refine XS.ifNo X113.here hx rfl (hb hby at_179) rfl ((if0 _ _).trans (feq hs2).1) ?_
    show Steps p.tables e below (T113.setTop (mkF m 182 #[.val (.long q1), .second, .val (.long q2), .second, .val (.long q3), .second, .val (.long v101), .second, .val (.long v103), .second, .val (.ref ob), .val (.int (1 : Int32)), .val (.long (0 : Int64)), .second, .val (.long wh1), .second, .val (.int (1 : Int32)), .val (.int re2), .val (.long fi2), .second, .val (.long wh2), .second, .unset, .unset, .unset, .unset, .unset, .unset, .unset, .unset, .unset, .unset] [])) _
    refine XS.iconst X113.here hx rfl (hb hby at_182) ?_
    show Steps p.tables e below (T113.setTop (mkF m 183 #[.val (.long q1), .second, .val (.long q2), .second, .val (.long q3), .second, .val (.long v101), .second, .val (.long v103), .second, .val (.ref ob), .val (.int (1 : Int32)), .val (.long (0 : Int64)), .second, .val (.long wh1), .second, .val (.int (1 : Int32)), .val (.int re2), .val (.long fi2), .second, .val (.long wh2), .second, .unset, .unset, .unset, .unset, .unset, .unset, .unset, .unset, .unset, .unset] [(.int (1 : Int32))])) _
    refine XS.goto X113.here hx rfl (pc0 := 183) (pc' := 187) rfl (hb hby at_183) (by decide) (by decide) ?_
    show Steps p.tables e below (T113.setTop (mkF m 187 #[.val (.long q1), .second, .val (.long q2), .second, .val (.long q3), .second, .val (.long v101), .second, .val (.long v103), .second, .val (.ref ob), .val (.int (1 : Int32)), .val (.long (0 : Int64)), .second, .val (.long wh1), .second, .val (.int (1 : Int32)), .val (.int re2), .val (.long fi2), .second, .val (.long wh2), .second, .unset, .unset, .unset, .unset, .unset, .unset, .unset, .unset, .unset, .unset] [(.int (1 : Int32))])) _
    refine XS.istore X113.here hx rfl (hb hby at_187) rfl (l' := #[.val (.long q1), .second, .val (.long q2), .second, .val (.long q3), .second, .val (.long v101), .second, .val (.long v103), .second, .val (.ref ob), .val (.int (1 : Int32)), .val (.long (0 : Int64)), .second, .val (.long wh1), .second, .val (.int (1 : Int32)), .val (.int re2), .val (.long fi2), .second, .val (.long wh2), .second, .unset, .unset, .unset, .unset, .unset, .unset, .unset, .unset, .unset, .unset]) rfl ?_
    show Steps p.tables e below (T113.setTop (mkF m 189 #[.val (.long q1), .second, .val (.long q2), .second, .val (.long q3), .second, .val (.long v101), .second, .val (.long v103), .second, .val (.ref ob), .val (.int (1 : Int32)), .val (.long (0 : Int64)), .second, .val (.long wh1), .second, .val (.int (1 : Int32)), .val (.int re2), .val (.long fi2), .second, .val (.long wh2), .second, .unset, .unset, .unset, .unset, .unset, .unset, .unset, .unset, .unset, .unset] [])) _
    refine XS.aload X113.here hx rfl (hb hby at_189) rfl rfl ?_
    exact k
  obtain ⟨cq114, kq114, q114a, q114b, q114c⟩ := isOf hZ e113 OB110.1
  obtain ⟨_, _, ⟨T114, L114, k114, n114⟩, -, X114, ⟨Lc114, hQ114, l114, y114, z114⟩, st114⟩ := X113.virtualBack hx (y := (⟨"com/example/tablewalk/tablewalk/SyntheticCast", "next", "()Z"⟩ : MethodName)) (z := (⟨"com/example/tablewalk/tablewalk/SyntheticCast", "next", "()Z"⟩ : MethodName)) hown (mvT hZ (hw _ (List.mem_of_getElem? (i := 22) rfl))) (mvT hZ (hw _ (List.mem_of_getElem? (i := 23) rfl))) (notFace_of_selects (args := #[]) (mvT hZ (hw _ (List.mem_of_getElem? (i := 25) rfl)))) (mvT hZ (hw _ (List.mem_of_getElem? (i := 25) rfl))) (mvT hZ (hw _ (List.mem_of_getElem? (i := 24) rfl))) (by decide) (backOf (W := 0) (own_rm3 l Z a0 hw ob fi2 v101 v103 sa2 le2 sm2 wh2 T110.heap n0 Z110 g_ob ⟨OB110.1, OB110.2.1, OB110.2.2.1, OB110.2.2.2.1, OB110.2.2.2.2.1, OB110.2.2.2.2.2.1, OB110.2.2.2.2.2.2.1, OB110.2.2.2.2.2.2.2⟩ hP.2.2.1 hP.2.2.2 hi2.2.2.1) hZ (hw _ (List.mem_of_getElem? (i := 26) rfl)) (hw _ (List.mem_of_getElem? (i := 5) rfl)) (by decide) (by decide)) q114a q114c (g := (mkF m 191 #[.val (.long q1), .second, .val (.long q2), .second, .val (.long q3), .second, .val (.long v101), .second, .val (.long v103), .second, .val (.ref ob), .val (.int (1 : Int32)), .val (.long (0 : Int64)), .second, .val (.long wh1), .second, .val (.int (1 : Int32)), .val (.int re2), .val (.long fi2), .second, .val (.long wh2), .second, .unset, .unset, .unset, .unset, .unset, .unset, .unset, .unset, .unset, .unset] [(.ref ob)])) rfl (by rw [hml]; rfl) (Steps.refl _) (argsL := []) (rest := []) (lenOf own_pd2 rfl) rfl (by show 2 * 0 + _ ≤ _; exact Nat.le_of_eq rfl) (hb hby at_191) (fun _ _ => ⟨rfl, e113, (by decide : 1 + 0 ≤ _), (by decide : 7 + 0 ≤ _)⟩)
  dsimp only [Pt.U, Pt.locs, Pt.cells, Pt.slots] at X114 l114 y114 z114 st114 hQ114
  subst l114 y114 z114
  obtain ⟨fi3, sa3, le3, wh3, sm3, re3, rfl, N114q, K114, OB114, nx3⟩ := hQ114
  have N114 := Fr.app N113 N114q
  refine own_step (fun t k => st114.trans k) ?_
  have Z114 := Nat.le_trans Z110 K114.1
  obtain ⟨hs3, hi3⟩ := own_again hF hP hi2 nx3
  refine own_step (T' := T114) (f' := (mkF m 198 #[.val (.long q1), .second, .val (.long q2), .second, .val (.long q3), .second, .val (.long v101), .second, .val (.long v103), .second, .val (.ref ob), .val (.int (1 : Int32)), .val (.long (0 : Int64)), .second, .val (.long wh1), .second, .val (.int (1 : Int32)), .val (.int re2), .val (.long fi2), .second, .val (.long wh2), .second, .val (.int re3), .unset, .unset, .unset, .unset, .unset, .unset, .unset, .unset, .unset] [(.ref ob)])) (fun t k => ?_) ?_
  · show Steps p.tables e below (T114.setTop (mkF m 194 #[.val (.long q1), .second, .val (.long q2), .second, .val (.long q3), .second, .val (.long v101), .second, .val (.long v103), .second, .val (.ref ob), .val (.int (1 : Int32)), .val (.long (0 : Int64)), .second, .val (.long wh1), .second, .val (.int (1 : Int32)), .val (.int re2), .val (.long fi2), .second, .val (.long wh2), .second, .unset, .unset, .unset, .unset, .unset, .unset, .unset, .unset, .unset, .unset] [(.int re3)])) _
    refine XS.istore X114.here hx rfl (hb hby at_194) rfl (l' := #[.val (.long q1), .second, .val (.long q2), .second, .val (.long q3), .second, .val (.long v101), .second, .val (.long v103), .second, .val (.ref ob), .val (.int (1 : Int32)), .val (.long (0 : Int64)), .second, .val (.long wh1), .second, .val (.int (1 : Int32)), .val (.int re2), .val (.long fi2), .second, .val (.long wh2), .second, .val (.int re3), .unset, .unset, .unset, .unset, .unset, .unset, .unset, .unset, .unset]) rfl ?_
    show Steps p.tables e below (T114.setTop (mkF m 196 #[.val (.long q1), .second, .val (.long q2), .second, .val (.long q3), .second, .val (.long v101), .second, .val (.long v103), .second, .val (.ref ob), .val (.int (1 : Int32)), .val (.long (0 : Int64)), .second, .val (.long wh1), .second, .val (.int (1 : Int32)), .val (.int re2), .val (.long fi2), .second, .val (.long wh2), .second, .val (.int re3), .unset, .unset, .unset, .unset, .unset, .unset, .unset, .unset, .unset] [])) _
    refine XS.aload X114.here hx rfl (hb hby at_196) rfl rfl ?_
    exact k
  obtain ⟨cq115, kq115, q115a, q115b, q115c⟩ := isOf hZ rfl OB114.1
  obtain ⟨_, _, ⟨T115, L115, k115, n115⟩, -, X115, ⟨Lc115, hQ115, l115, y115, z115⟩, st115⟩ := X114.virtualBack hx (y := (⟨"com/example/tablewalk/tablewalk/SyntheticCast", "film", "()J"⟩ : MethodName)) (z := (⟨"com/example/tablewalk/tablewalk/SyntheticCast", "film", "()J"⟩ : MethodName)) hown (mvT hZ (hw _ (List.mem_of_getElem? (i := 42) rfl))) (mvT hZ (hw _ (List.mem_of_getElem? (i := 43) rfl))) (notFace_of_selects (args := #[]) (mvT hZ (hw _ (List.mem_of_getElem? (i := 45) rfl)))) (mvT hZ (hw _ (List.mem_of_getElem? (i := 45) rfl))) (mvT hZ (hw _ (List.mem_of_getElem? (i := 44) rfl))) (by decide) (backOf (W := 0) (own_rm5 l Z a0 hw ob fi3 v101 v103 sa3 le3 sm3 wh3 T114.heap n0 ⟨OB114.1, OB114.2.1, OB114.2.2.1, OB114.2.2.2.1, OB114.2.2.2.2.1, OB114.2.2.2.2.2.1, OB114.2.2.2.2.2.2.1, OB114.2.2.2.2.2.2.2⟩) hZ (hw _ (List.mem_of_getElem? (i := 46) rfl)) (hw _ (List.mem_of_getElem? (i := 5) rfl)) (by decide) (by decide)) q115a q115c (g := (mkF m 198 #[.val (.long q1), .second, .val (.long q2), .second, .val (.long q3), .second, .val (.long v101), .second, .val (.long v103), .second, .val (.ref ob), .val (.int (1 : Int32)), .val (.long (0 : Int64)), .second, .val (.long wh1), .second, .val (.int (1 : Int32)), .val (.int re2), .val (.long fi2), .second, .val (.long wh2), .second, .val (.int re3), .unset, .unset, .unset, .unset, .unset, .unset, .unset, .unset, .unset] [(.ref ob)])) rfl (by rw [hml]; rfl) (Steps.refl _) (argsL := []) (rest := []) (lenOf own_pd3 rfl) rfl (by show 2 * 0 + _ ≤ _; exact Nat.le_of_eq rfl) (hb hby at_198) (fun _ _ => ⟨rfl, rfl, (by decide : 1 + 0 ≤ _), (by decide : 7 + 0 ≤ _)⟩)
  dsimp only [Pt.U, Pt.locs, Pt.cells, Pt.slots] at X115 l115 y115 z115 st115 hQ115
  subst l115 y115 z115
  obtain ⟨rfl, N115q, e115⟩ := hQ115
  have N115 := Fr.app N114 N115q
  refine own_step (fun t k => st115.trans k) ?_
  refine own_step (T' := T115) (f' := (mkF m 205 #[.val (.long q1), .second, .val (.long q2), .second, .val (.long q3), .second, .val (.long v101), .second, .val (.long v103), .second, .val (.ref ob), .val (.int (1 : Int32)), .val (.long (0 : Int64)), .second, .val (.long wh1), .second, .val (.int (1 : Int32)), .val (.int re2), .val (.long fi2), .second, .val (.long wh2), .second, .val (.int re3), .val (.long fi3), .second, .unset, .unset, .unset, .unset, .unset, .unset, .unset] [(.ref ob)])) (fun t k => ?_) ?_
  · show Steps p.tables e below (T115.setTop (mkF m 201 #[.val (.long q1), .second, .val (.long q2), .second, .val (.long q3), .second, .val (.long v101), .second, .val (.long v103), .second, .val (.ref ob), .val (.int (1 : Int32)), .val (.long (0 : Int64)), .second, .val (.long wh1), .second, .val (.int (1 : Int32)), .val (.int re2), .val (.long fi2), .second, .val (.long wh2), .second, .val (.int re3), .unset, .unset, .unset, .unset, .unset, .unset, .unset, .unset, .unset] [(.long fi3)])) _
    refine XS.lstore X115.here hx rfl (hb hby at_201) rfl (l' := #[.val (.long q1), .second, .val (.long q2), .second, .val (.long q3), .second, .val (.long v101), .second, .val (.long v103), .second, .val (.ref ob), .val (.int (1 : Int32)), .val (.long (0 : Int64)), .second, .val (.long wh1), .second, .val (.int (1 : Int32)), .val (.int re2), .val (.long fi2), .second, .val (.long wh2), .second, .val (.int re3), .val (.long fi3), .second, .unset, .unset, .unset, .unset, .unset, .unset, .unset]) rfl ?_
    show Steps p.tables e below (T115.setTop (mkF m 203 #[.val (.long q1), .second, .val (.long q2), .second, .val (.long q3), .second, .val (.long v101), .second, .val (.long v103), .second, .val (.ref ob), .val (.int (1 : Int32)), .val (.long (0 : Int64)), .second, .val (.long wh1), .second, .val (.int (1 : Int32)), .val (.int re2), .val (.long fi2), .second, .val (.long wh2), .second, .val (.int re3), .val (.long fi3), .second, .unset, .unset, .unset, .unset, .unset, .unset, .unset] [])) _
    refine XS.aload X115.here hx rfl (hb hby at_203) rfl rfl ?_
    exact k
  obtain ⟨cq116, kq116, q116a, q116b, q116c⟩ := isOf hZ e115 OB114.1
  obtain ⟨_, _, ⟨T116, L116, k116, n116⟩, -, X116, ⟨Lc116, hQ116, l116, y116, z116⟩, st116⟩ := X115.virtualBack hx (y := (⟨"com/example/tablewalk/tablewalk/SyntheticCast", "performer", "()J"⟩ : MethodName)) (z := (⟨"com/example/tablewalk/tablewalk/SyntheticCast", "performer", "()J"⟩ : MethodName)) hown (mvT hZ (hw _ (List.mem_of_getElem? (i := 47) rfl))) (mvT hZ (hw _ (List.mem_of_getElem? (i := 48) rfl))) (notFace_of_selects (args := #[]) (mvT hZ (hw _ (List.mem_of_getElem? (i := 50) rfl)))) (mvT hZ (hw _ (List.mem_of_getElem? (i := 50) rfl))) (mvT hZ (hw _ (List.mem_of_getElem? (i := 49) rfl))) (by decide) (backOf (W := 0) (own_rm6 l Z a0 hw ob fi3 v101 v103 sa3 le3 sm3 wh3 T114.heap n0 ⟨OB114.1, OB114.2.1, OB114.2.2.1, OB114.2.2.2.1, OB114.2.2.2.2.1, OB114.2.2.2.2.2.1, OB114.2.2.2.2.2.2.1, OB114.2.2.2.2.2.2.2⟩) hZ (hw _ (List.mem_of_getElem? (i := 51) rfl)) (hw _ (List.mem_of_getElem? (i := 5) rfl)) (by decide) (by decide)) q116a q116c (g := (mkF m 205 #[.val (.long q1), .second, .val (.long q2), .second, .val (.long q3), .second, .val (.long v101), .second, .val (.long v103), .second, .val (.ref ob), .val (.int (1 : Int32)), .val (.long (0 : Int64)), .second, .val (.long wh1), .second, .val (.int (1 : Int32)), .val (.int re2), .val (.long fi2), .second, .val (.long wh2), .second, .val (.int re3), .val (.long fi3), .second, .unset, .unset, .unset, .unset, .unset, .unset, .unset] [(.ref ob)])) rfl (by rw [hml]; rfl) (Steps.refl _) (argsL := []) (rest := []) (lenOf own_pd3 rfl) rfl (by show 2 * 0 + _ ≤ _; exact Nat.le_of_eq rfl) (hb hby at_205) (fun _ _ => ⟨rfl, e115, (by decide : 1 + 0 ≤ _), (by decide : 7 + 0 ≤ _)⟩)
  dsimp only [Pt.U, Pt.locs, Pt.cells, Pt.slots] at X116 l116 y116 z116 st116 hQ116
  subst l116 y116 z116
  obtain ⟨rfl, N116q, e116⟩ := hQ116
  have N116 := Fr.app N115 N116q
  refine own_step (fun t k => st116.trans k) ?_
  refine own_step (T' := T116) (f' := (mkF m 231 #[.val (.long q1), .second, .val (.long q2), .second, .val (.long q3), .second, .val (.long v101), .second, .val (.long v103), .second, .val (.ref ob), .val (.int (1 : Int32)), .val (.long (0 : Int64)), .second, .val (.long wh1), .second, .val (.int (1 : Int32)), .val (.int re2), .val (.long fi2), .second, .val (.long wh2), .second, .val (.int re3), .val (.long fi3), .second, .val (.long wh3), .second, .unset, .unset, .unset, .unset, .unset] [(.long v103), (.long v101), (.long wh3), (.long fi3), (.int re3), (.long wh2), (.long fi2), (.int re2)])) (fun t k => ?_) ?_
  · show Steps p.tables e below (T116.setTop (mkF m 208 #[.val (.long q1), .second, .val (.long q2), .second, .val (.long q3), .second, .val (.long v101), .second, .val (.long v103), .second, .val (.ref ob), .val (.int (1 : Int32)), .val (.long (0 : Int64)), .second, .val (.long wh1), .second, .val (.int (1 : Int32)), .val (.int re2), .val (.long fi2), .second, .val (.long wh2), .second, .val (.int re3), .val (.long fi3), .second, .unset, .unset, .unset, .unset, .unset, .unset, .unset] [(.long wh3)])) _
    refine XS.lstore X116.here hx rfl (hb hby at_208) rfl (l' := #[.val (.long q1), .second, .val (.long q2), .second, .val (.long q3), .second, .val (.long v101), .second, .val (.long v103), .second, .val (.ref ob), .val (.int (1 : Int32)), .val (.long (0 : Int64)), .second, .val (.long wh1), .second, .val (.int (1 : Int32)), .val (.int re2), .val (.long fi2), .second, .val (.long wh2), .second, .val (.int re3), .val (.long fi3), .second, .val (.long wh3), .second, .unset, .unset, .unset, .unset, .unset]) rfl ?_
    show Steps p.tables e below (T116.setTop (mkF m 210 #[.val (.long q1), .second, .val (.long q2), .second, .val (.long q3), .second, .val (.long v101), .second, .val (.long v103), .second, .val (.ref ob), .val (.int (1 : Int32)), .val (.long (0 : Int64)), .second, .val (.long wh1), .second, .val (.int (1 : Int32)), .val (.int re2), .val (.long fi2), .second, .val (.long wh2), .second, .val (.int re3), .val (.long fi3), .second, .val (.long wh3), .second, .unset, .unset, .unset, .unset, .unset] [])) _
    refine XS.iload X116.here hx rfl (hb hby at_210) rfl ?_
    show Steps p.tables e below (T116.setTop (mkF m 212 #[.val (.long q1), .second, .val (.long q2), .second, .val (.long q3), .second, .val (.long v101), .second, .val (.long v103), .second, .val (.ref ob), .val (.int (1 : Int32)), .val (.long (0 : Int64)), .second, .val (.long wh1), .second, .val (.int (1 : Int32)), .val (.int re2), .val (.long fi2), .second, .val (.long wh2), .second, .val (.int re3), .val (.long fi3), .second, .val (.long wh3), .second, .unset, .unset, .unset, .unset, .unset] [(.int (1 : Int32))])) _
    refine XS.ifNo X116.here hx rfl (hb hby at_212) rfl ((if0 _ _).trans (feq (by decide : ¬ ((1 : Int32) = (0 : Int32)))).1) ?_
    show Steps p.tables e below (T116.setTop (mkF m 215 #[.val (.long q1), .second, .val (.long q2), .second, .val (.long q3), .second, .val (.long v101), .second, .val (.long v103), .second, .val (.ref ob), .val (.int (1 : Int32)), .val (.long (0 : Int64)), .second, .val (.long wh1), .second, .val (.int (1 : Int32)), .val (.int re2), .val (.long fi2), .second, .val (.long wh2), .second, .val (.int re3), .val (.long fi3), .second, .val (.long wh3), .second, .unset, .unset, .unset, .unset, .unset] [])) _
    refine XS.iload X116.here hx rfl (hb hby at_215) rfl ?_
    show Steps p.tables e below (T116.setTop (mkF m 217 #[.val (.long q1), .second, .val (.long q2), .second, .val (.long q3), .second, .val (.long v101), .second, .val (.long v103), .second, .val (.ref ob), .val (.int (1 : Int32)), .val (.long (0 : Int64)), .second, .val (.long wh1), .second, .val (.int (1 : Int32)), .val (.int re2), .val (.long fi2), .second, .val (.long wh2), .second, .val (.int re3), .val (.long fi3), .second, .val (.long wh3), .second, .unset, .unset, .unset, .unset, .unset] [(.int re2)])) _
    refine XS.lload X116.here hx rfl (hb hby at_217) rfl ?_
    show Steps p.tables e below (T116.setTop (mkF m 219 #[.val (.long q1), .second, .val (.long q2), .second, .val (.long q3), .second, .val (.long v101), .second, .val (.long v103), .second, .val (.ref ob), .val (.int (1 : Int32)), .val (.long (0 : Int64)), .second, .val (.long wh1), .second, .val (.int (1 : Int32)), .val (.int re2), .val (.long fi2), .second, .val (.long wh2), .second, .val (.int re3), .val (.long fi3), .second, .val (.long wh3), .second, .unset, .unset, .unset, .unset, .unset] [(.long fi2), (.int re2)])) _
    refine XS.lload X116.here hx rfl (hb hby at_219) rfl ?_
    show Steps p.tables e below (T116.setTop (mkF m 221 #[.val (.long q1), .second, .val (.long q2), .second, .val (.long q3), .second, .val (.long v101), .second, .val (.long v103), .second, .val (.ref ob), .val (.int (1 : Int32)), .val (.long (0 : Int64)), .second, .val (.long wh1), .second, .val (.int (1 : Int32)), .val (.int re2), .val (.long fi2), .second, .val (.long wh2), .second, .val (.int re3), .val (.long fi3), .second, .val (.long wh3), .second, .unset, .unset, .unset, .unset, .unset] [(.long wh2), (.long fi2), (.int re2)])) _
    refine XS.iload X116.here hx rfl (hb hby at_221) rfl ?_
    show Steps p.tables e below (T116.setTop (mkF m 223 #[.val (.long q1), .second, .val (.long q2), .second, .val (.long q3), .second, .val (.long v101), .second, .val (.long v103), .second, .val (.ref ob), .val (.int (1 : Int32)), .val (.long (0 : Int64)), .second, .val (.long wh1), .second, .val (.int (1 : Int32)), .val (.int re2), .val (.long fi2), .second, .val (.long wh2), .second, .val (.int re3), .val (.long fi3), .second, .val (.long wh3), .second, .unset, .unset, .unset, .unset, .unset] [(.int re3), (.long wh2), (.long fi2), (.int re2)])) _
    refine XS.lload X116.here hx rfl (hb hby at_223) rfl ?_
    show Steps p.tables e below (T116.setTop (mkF m 225 #[.val (.long q1), .second, .val (.long q2), .second, .val (.long q3), .second, .val (.long v101), .second, .val (.long v103), .second, .val (.ref ob), .val (.int (1 : Int32)), .val (.long (0 : Int64)), .second, .val (.long wh1), .second, .val (.int (1 : Int32)), .val (.int re2), .val (.long fi2), .second, .val (.long wh2), .second, .val (.int re3), .val (.long fi3), .second, .val (.long wh3), .second, .unset, .unset, .unset, .unset, .unset] [(.long fi3), (.int re3), (.long wh2), (.long fi2), (.int re2)])) _
    refine XS.lload X116.here hx rfl (hb hby at_225) rfl ?_
    show Steps p.tables e below (T116.setTop (mkF m 227 #[.val (.long q1), .second, .val (.long q2), .second, .val (.long q3), .second, .val (.long v101), .second, .val (.long v103), .second, .val (.ref ob), .val (.int (1 : Int32)), .val (.long (0 : Int64)), .second, .val (.long wh1), .second, .val (.int (1 : Int32)), .val (.int re2), .val (.long fi2), .second, .val (.long wh2), .second, .val (.int re3), .val (.long fi3), .second, .val (.long wh3), .second, .unset, .unset, .unset, .unset, .unset] [(.long wh3), (.long fi3), (.int re3), (.long wh2), (.long fi2), (.int re2)])) _
    refine XS.lload X116.here hx rfl (hb hby at_227) rfl ?_
    show Steps p.tables e below (T116.setTop (mkF m 229 #[.val (.long q1), .second, .val (.long q2), .second, .val (.long q3), .second, .val (.long v101), .second, .val (.long v103), .second, .val (.ref ob), .val (.int (1 : Int32)), .val (.long (0 : Int64)), .second, .val (.long wh1), .second, .val (.int (1 : Int32)), .val (.int re2), .val (.long fi2), .second, .val (.long wh2), .second, .val (.int re3), .val (.long fi3), .second, .val (.long wh3), .second, .unset, .unset, .unset, .unset, .unset] [(.long v101), (.long wh3), (.long fi3), (.int re3), (.long wh2), (.long fi2), (.int re2)])) _
    refine XS.lload X116.here hx rfl (hb hby at_229) rfl ?_
    exact k
  obtain ⟨_, _, ⟨T117, L117, k117, n117⟩, -, X117, ⟨Lc117, hQ117, l117, y117, z117⟩, st117⟩ := Jvm.LawKit.callS X116 hx (y := (⟨"com/example/tablewalk/tablewalk/SyntheticCastNextPinLaw", "step", "(ZJJZJJJJ)Z"⟩ : MethodName)) hown (mvT hZ (hw _ (List.mem_of_getElem? (i := 52) rfl))) (mvT hZ (hw _ (List.mem_of_getElem? (i := 53) rfl))) (mvT hZ (hw _ (List.mem_of_getElem? (i := 54) rfl))) (mvT hZ (hw _ (List.mem_of_getElem? (i := 55) rfl))) (by decide) (backOf (W := 0) (own_rm7 l Z a0 hw re2 fi2 wh2 re3 fi3 wh3 v101 v103 T114.heap n0) hZ (hw _ (List.mem_of_getElem? (i := 55) rfl)) (hw _ (List.mem_of_getElem? (i := 54) rfl)) (by decide) (by decide)) (g := (mkF m 231 #[.val (.long q1), .second, .val (.long q2), .second, .val (.long q3), .second, .val (.long v101), .second, .val (.long v103), .second, .val (.ref ob), .val (.int (1 : Int32)), .val (.long (0 : Int64)), .second, .val (.long wh1), .second, .val (.int (1 : Int32)), .val (.int re2), .val (.long fi2), .second, .val (.long wh2), .second, .val (.int re3), .val (.long fi3), .second, .val (.long wh3), .second, .unset, .unset, .unset, .unset, .unset] [(.long v103), (.long v101), (.long wh3), (.long fi3), (.int re3), (.long wh2), (.long fi2), (.int re2)])) rfl (by rw [hml]; rfl) (argsL := [(.int re2), (.long fi2), (.long wh2), (.int re3), (.long fi3), (.long wh3), (.long v101), (.long v103)]) (rest := []) (lenOf own_pd4 rfl) rfl (by show 2 * 0 + _ ≤ _; exact Nat.le_of_eq rfl) (hb hby at_231) (fun _ _ => ⟨rfl, e116, (by decide : 1 + 0 ≤ _), (by decide : 7 + 0 ≤ _)⟩)
  dsimp only [Pt.U, Pt.locs, Pt.cells, Pt.slots] at X117 l117 y117 z117 st117 hQ117
  subst l117 y117 z117
  obtain ⟨rfl, N117q, e117⟩ := hQ117
  have N117 := Fr.app N116 N117q
  refine own_step (fun t k => st117 _ k) ?_
  refine own_step (T' := T117) (f' := (mkF m 246 #[.val (.long q1), .second, .val (.long q2), .second, .val (.long q3), .second, .val (.long v101), .second, .val (.long v103), .second, .val (.ref ob), .val (.int (1 : Int32)), .val (.long (0 : Int64)), .second, .val (.long wh1), .second, .val (.int (1 : Int32)), .val (.int re2), .val (.long fi2), .second, .val (.long wh2), .second, .val (.int re3), .val (.long fi3), .second, .val (.long wh3), .second, .unset, .unset, .unset, .unset, .unset] [(.ref ob)])) (fun t k => ?_) ?_
  · show Steps p.tables e below (T117.setTop (mkF m 234 #[.val (.long q1), .second, .val (.long q2), .second, .val (.long q3), .second, .val (.long v101), .second, .val (.long v103), .second, .val (.ref ob), .val (.int (1 : Int32)), .val (.long (0 : Int64)), .second, .val (.long wh1), .second, .val (.int (1 : Int32)), .val (.int re2), .val (.long fi2), .second, .val (.long wh2), .second, .val (.int re3), .val (.long fi3), .second, .val (.long wh3), .second, .unset, .unset, .unset, .unset, .unset] [(.int (own_f7 re2 fi2 wh2 re3 fi3 wh3 v101 v103))])) _
    refine XS.ifNo X117.here hx rfl (hb hby at_234) rfl ((if0 _ _).trans (feq hs3).1) ?_
    show Steps p.tables e below (T117.setTop (mkF m 237 #[.val (.long q1), .second, .val (.long q2), .second, .val (.long q3), .second, .val (.long v101), .second, .val (.long v103), .second, .val (.ref ob), .val (.int (1 : Int32)), .val (.long (0 : Int64)), .second, .val (.long wh1), .second, .val (.int (1 : Int32)), .val (.int re2), .val (.long fi2), .second, .val (.long wh2), .second, .val (.int re3), .val (.long fi3), .second, .val (.long wh3), .second, .unset, .unset, .unset, .unset, .unset] [])) _
    refine XS.iconst X117.here hx rfl (hb hby at_237) ?_
    show Steps p.tables e below (T117.setTop (mkF m 238 #[.val (.long q1), .second, .val (.long q2), .second, .val (.long q3), .second, .val (.long v101), .second, .val (.long v103), .second, .val (.ref ob), .val (.int (1 : Int32)), .val (.long (0 : Int64)), .second, .val (.long wh1), .second, .val (.int (1 : Int32)), .val (.int re2), .val (.long fi2), .second, .val (.long wh2), .second, .val (.int re3), .val (.long fi3), .second, .val (.long wh3), .second, .unset, .unset, .unset, .unset, .unset] [(.int (1 : Int32))])) _
    refine XS.goto X117.here hx rfl (pc0 := 238) (pc' := 242) rfl (hb hby at_238) (by decide) (by decide) ?_
    show Steps p.tables e below (T117.setTop (mkF m 242 #[.val (.long q1), .second, .val (.long q2), .second, .val (.long q3), .second, .val (.long v101), .second, .val (.long v103), .second, .val (.ref ob), .val (.int (1 : Int32)), .val (.long (0 : Int64)), .second, .val (.long wh1), .second, .val (.int (1 : Int32)), .val (.int re2), .val (.long fi2), .second, .val (.long wh2), .second, .val (.int re3), .val (.long fi3), .second, .val (.long wh3), .second, .unset, .unset, .unset, .unset, .unset] [(.int (1 : Int32))])) _
    refine XS.istore X117.here hx rfl (hb hby at_242) rfl (l' := #[.val (.long q1), .second, .val (.long q2), .second, .val (.long q3), .second, .val (.long v101), .second, .val (.long v103), .second, .val (.ref ob), .val (.int (1 : Int32)), .val (.long (0 : Int64)), .second, .val (.long wh1), .second, .val (.int (1 : Int32)), .val (.int re2), .val (.long fi2), .second, .val (.long wh2), .second, .val (.int re3), .val (.long fi3), .second, .val (.long wh3), .second, .unset, .unset, .unset, .unset, .unset]) rfl ?_
    show Steps p.tables e below (T117.setTop (mkF m 244 #[.val (.long q1), .second, .val (.long q2), .second, .val (.long q3), .second, .val (.long v101), .second, .val (.long v103), .second, .val (.ref ob), .val (.int (1 : Int32)), .val (.long (0 : Int64)), .second, .val (.long wh1), .second, .val (.int (1 : Int32)), .val (.int re2), .val (.long fi2), .second, .val (.long wh2), .second, .val (.int re3), .val (.long fi3), .second, .val (.long wh3), .second, .unset, .unset, .unset, .unset, .unset] [])) _
    refine XS.aload X117.here hx rfl (hb hby at_244) rfl rfl ?_
    exact k
  obtain ⟨cq118, kq118, q118a, q118b, q118c⟩ := isOf hZ e117 OB114.1
  obtain ⟨_, _, ⟨T118, L118, k118, n118⟩, -, X118, ⟨Lc118, hQ118, l118, y118, z118⟩, st118⟩ := X117.virtualBack hx (y := (⟨"com/example/tablewalk/tablewalk/SyntheticCast", "next", "()Z"⟩ : MethodName)) (z := (⟨"com/example/tablewalk/tablewalk/SyntheticCast", "next", "()Z"⟩ : MethodName)) hown (mvT hZ (hw _ (List.mem_of_getElem? (i := 22) rfl))) (mvT hZ (hw _ (List.mem_of_getElem? (i := 23) rfl))) (notFace_of_selects (args := #[]) (mvT hZ (hw _ (List.mem_of_getElem? (i := 25) rfl)))) (mvT hZ (hw _ (List.mem_of_getElem? (i := 25) rfl))) (mvT hZ (hw _ (List.mem_of_getElem? (i := 24) rfl))) (by decide) (backOf (W := 0) (own_rm3 l Z a0 hw ob fi3 v101 v103 sa3 le3 sm3 wh3 T114.heap n0 Z114 g_ob ⟨OB114.1, OB114.2.1, OB114.2.2.1, OB114.2.2.2.1, OB114.2.2.2.2.1, OB114.2.2.2.2.2.1, OB114.2.2.2.2.2.2.1, OB114.2.2.2.2.2.2.2⟩ hP.2.2.1 hP.2.2.2 hi3.2.2.1) hZ (hw _ (List.mem_of_getElem? (i := 26) rfl)) (hw _ (List.mem_of_getElem? (i := 5) rfl)) (by decide) (by decide)) q118a q118c (g := (mkF m 246 #[.val (.long q1), .second, .val (.long q2), .second, .val (.long q3), .second, .val (.long v101), .second, .val (.long v103), .second, .val (.ref ob), .val (.int (1 : Int32)), .val (.long (0 : Int64)), .second, .val (.long wh1), .second, .val (.int (1 : Int32)), .val (.int re2), .val (.long fi2), .second, .val (.long wh2), .second, .val (.int re3), .val (.long fi3), .second, .val (.long wh3), .second, .unset, .unset, .unset, .unset, .unset] [(.ref ob)])) rfl (by rw [hml]; rfl) (Steps.refl _) (argsL := []) (rest := []) (lenOf own_pd2 rfl) rfl (by show 2 * 0 + _ ≤ _; exact Nat.le_of_eq rfl) (hb hby at_246) (fun _ _ => ⟨rfl, e117, (by decide : 1 + 0 ≤ _), (by decide : 7 + 0 ≤ _)⟩)
  dsimp only [Pt.U, Pt.locs, Pt.cells, Pt.slots] at X118 l118 y118 z118 st118 hQ118
  subst l118 y118 z118
  obtain ⟨fi4, sa4, le4, wh4, sm4, re4, rfl, N118q, K118, OB118, nx4⟩ := hQ118
  have N118 := Fr.app N117 N118q
  refine own_step (fun t k => st118.trans k) ?_
  have Z118 := Nat.le_trans Z114 K118.1
  obtain ⟨hs4, hi4⟩ := own_again hF hP hi3 nx4
  refine own_step (T' := T118) (f' := (mkF m 253 #[.val (.long q1), .second, .val (.long q2), .second, .val (.long q3), .second, .val (.long v101), .second, .val (.long v103), .second, .val (.ref ob), .val (.int (1 : Int32)), .val (.long (0 : Int64)), .second, .val (.long wh1), .second, .val (.int (1 : Int32)), .val (.int re2), .val (.long fi2), .second, .val (.long wh2), .second, .val (.int re3), .val (.long fi3), .second, .val (.long wh3), .second, .val (.int re4), .unset, .unset, .unset, .unset] [(.ref ob)])) (fun t k => ?_) ?_
  · show Steps p.tables e below (T118.setTop (mkF m 249 #[.val (.long q1), .second, .val (.long q2), .second, .val (.long q3), .second, .val (.long v101), .second, .val (.long v103), .second, .val (.ref ob), .val (.int (1 : Int32)), .val (.long (0 : Int64)), .second, .val (.long wh1), .second, .val (.int (1 : Int32)), .val (.int re2), .val (.long fi2), .second, .val (.long wh2), .second, .val (.int re3), .val (.long fi3), .second, .val (.long wh3), .second, .unset, .unset, .unset, .unset, .unset] [(.int re4)])) _
    refine XS.istore X118.here hx rfl (hb hby at_249) rfl (l' := #[.val (.long q1), .second, .val (.long q2), .second, .val (.long q3), .second, .val (.long v101), .second, .val (.long v103), .second, .val (.ref ob), .val (.int (1 : Int32)), .val (.long (0 : Int64)), .second, .val (.long wh1), .second, .val (.int (1 : Int32)), .val (.int re2), .val (.long fi2), .second, .val (.long wh2), .second, .val (.int re3), .val (.long fi3), .second, .val (.long wh3), .second, .val (.int re4), .unset, .unset, .unset, .unset]) rfl ?_
    show Steps p.tables e below (T118.setTop (mkF m 251 #[.val (.long q1), .second, .val (.long q2), .second, .val (.long q3), .second, .val (.long v101), .second, .val (.long v103), .second, .val (.ref ob), .val (.int (1 : Int32)), .val (.long (0 : Int64)), .second, .val (.long wh1), .second, .val (.int (1 : Int32)), .val (.int re2), .val (.long fi2), .second, .val (.long wh2), .second, .val (.int re3), .val (.long fi3), .second, .val (.long wh3), .second, .val (.int re4), .unset, .unset, .unset, .unset] [])) _
    refine XS.aload X118.here hx rfl (hb hby at_251) rfl rfl ?_
    exact k
  obtain ⟨cq119, kq119, q119a, q119b, q119c⟩ := isOf hZ rfl OB118.1
  obtain ⟨_, _, ⟨T119, L119, k119, n119⟩, -, X119, ⟨Lc119, hQ119, l119, y119, z119⟩, st119⟩ := X118.virtualBack hx (y := (⟨"com/example/tablewalk/tablewalk/SyntheticCast", "film", "()J"⟩ : MethodName)) (z := (⟨"com/example/tablewalk/tablewalk/SyntheticCast", "film", "()J"⟩ : MethodName)) hown (mvT hZ (hw _ (List.mem_of_getElem? (i := 42) rfl))) (mvT hZ (hw _ (List.mem_of_getElem? (i := 43) rfl))) (notFace_of_selects (args := #[]) (mvT hZ (hw _ (List.mem_of_getElem? (i := 45) rfl)))) (mvT hZ (hw _ (List.mem_of_getElem? (i := 45) rfl))) (mvT hZ (hw _ (List.mem_of_getElem? (i := 44) rfl))) (by decide) (backOf (W := 0) (own_rm5 l Z a0 hw ob fi4 v101 v103 sa4 le4 sm4 wh4 T118.heap n0 ⟨OB118.1, OB118.2.1, OB118.2.2.1, OB118.2.2.2.1, OB118.2.2.2.2.1, OB118.2.2.2.2.2.1, OB118.2.2.2.2.2.2.1, OB118.2.2.2.2.2.2.2⟩) hZ (hw _ (List.mem_of_getElem? (i := 46) rfl)) (hw _ (List.mem_of_getElem? (i := 5) rfl)) (by decide) (by decide)) q119a q119c (g := (mkF m 253 #[.val (.long q1), .second, .val (.long q2), .second, .val (.long q3), .second, .val (.long v101), .second, .val (.long v103), .second, .val (.ref ob), .val (.int (1 : Int32)), .val (.long (0 : Int64)), .second, .val (.long wh1), .second, .val (.int (1 : Int32)), .val (.int re2), .val (.long fi2), .second, .val (.long wh2), .second, .val (.int re3), .val (.long fi3), .second, .val (.long wh3), .second, .val (.int re4), .unset, .unset, .unset, .unset] [(.ref ob)])) rfl (by rw [hml]; rfl) (Steps.refl _) (argsL := []) (rest := []) (lenOf own_pd3 rfl) rfl (by show 2 * 0 + _ ≤ _; exact Nat.le_of_eq rfl) (hb hby at_253) (fun _ _ => ⟨rfl, rfl, (by decide : 1 + 0 ≤ _), (by decide : 7 + 0 ≤ _)⟩)
  dsimp only [Pt.U, Pt.locs, Pt.cells, Pt.slots] at X119 l119 y119 z119 st119 hQ119
  subst l119 y119 z119
  obtain ⟨rfl, N119q, e119⟩ := hQ119
  have N119 := Fr.app N118 N119q
  refine own_step (fun t k => st119.trans k) ?_
  refine own_step (T' := T119) (f' := (mkF m 260 #[.val (.long q1), .second, .val (.long q2), .second, .val (.long q3), .second, .val (.long v101), .second, .val (.long v103), .second, .val (.ref ob), .val (.int (1 : Int32)), .val (.long (0 : Int64)), .second, .val (.long wh1), .second, .val (.int (1 : Int32)), .val (.int re2), .val (.long fi2), .second, .val (.long wh2), .second, .val (.int re3), .val (.long fi3), .second, .val (.long wh3), .second, .val (.int re4), .val (.long fi4), .second, .unset, .unset] [(.ref ob)])) (fun t k => ?_) ?_
  · show Steps p.tables e below (T119.setTop (mkF m 256 #[.val (.long q1), .second, .val (.long q2), .second, .val (.long q3), .second, .val (.long v101), .second, .val (.long v103), .second, .val (.ref ob), .val (.int (1 : Int32)), .val (.long (0 : Int64)), .second, .val (.long wh1), .second, .val (.int (1 : Int32)), .val (.int re2), .val (.long fi2), .second, .val (.long wh2), .second, .val (.int re3), .val (.long fi3), .second, .val (.long wh3), .second, .val (.int re4), .unset, .unset, .unset, .unset] [(.long fi4)])) _
    refine XS.lstore X119.here hx rfl (hb hby at_256) rfl (l' := #[.val (.long q1), .second, .val (.long q2), .second, .val (.long q3), .second, .val (.long v101), .second, .val (.long v103), .second, .val (.ref ob), .val (.int (1 : Int32)), .val (.long (0 : Int64)), .second, .val (.long wh1), .second, .val (.int (1 : Int32)), .val (.int re2), .val (.long fi2), .second, .val (.long wh2), .second, .val (.int re3), .val (.long fi3), .second, .val (.long wh3), .second, .val (.int re4), .val (.long fi4), .second, .unset, .unset]) rfl ?_
    show Steps p.tables e below (T119.setTop (mkF m 258 #[.val (.long q1), .second, .val (.long q2), .second, .val (.long q3), .second, .val (.long v101), .second, .val (.long v103), .second, .val (.ref ob), .val (.int (1 : Int32)), .val (.long (0 : Int64)), .second, .val (.long wh1), .second, .val (.int (1 : Int32)), .val (.int re2), .val (.long fi2), .second, .val (.long wh2), .second, .val (.int re3), .val (.long fi3), .second, .val (.long wh3), .second, .val (.int re4), .val (.long fi4), .second, .unset, .unset] [])) _
    refine XS.aload X119.here hx rfl (hb hby at_258) rfl rfl ?_
    exact k
  obtain ⟨cq120, kq120, q120a, q120b, q120c⟩ := isOf hZ e119 OB118.1
  obtain ⟨_, _, ⟨T120, L120, k120, n120⟩, -, X120, ⟨Lc120, hQ120, l120, y120, z120⟩, st120⟩ := X119.virtualBack hx (y := (⟨"com/example/tablewalk/tablewalk/SyntheticCast", "performer", "()J"⟩ : MethodName)) (z := (⟨"com/example/tablewalk/tablewalk/SyntheticCast", "performer", "()J"⟩ : MethodName)) hown (mvT hZ (hw _ (List.mem_of_getElem? (i := 47) rfl))) (mvT hZ (hw _ (List.mem_of_getElem? (i := 48) rfl))) (notFace_of_selects (args := #[]) (mvT hZ (hw _ (List.mem_of_getElem? (i := 50) rfl)))) (mvT hZ (hw _ (List.mem_of_getElem? (i := 50) rfl))) (mvT hZ (hw _ (List.mem_of_getElem? (i := 49) rfl))) (by decide) (backOf (W := 0) (own_rm6 l Z a0 hw ob fi4 v101 v103 sa4 le4 sm4 wh4 T118.heap n0 ⟨OB118.1, OB118.2.1, OB118.2.2.1, OB118.2.2.2.1, OB118.2.2.2.2.1, OB118.2.2.2.2.2.1, OB118.2.2.2.2.2.2.1, OB118.2.2.2.2.2.2.2⟩) hZ (hw _ (List.mem_of_getElem? (i := 51) rfl)) (hw _ (List.mem_of_getElem? (i := 5) rfl)) (by decide) (by decide)) q120a q120c (g := (mkF m 260 #[.val (.long q1), .second, .val (.long q2), .second, .val (.long q3), .second, .val (.long v101), .second, .val (.long v103), .second, .val (.ref ob), .val (.int (1 : Int32)), .val (.long (0 : Int64)), .second, .val (.long wh1), .second, .val (.int (1 : Int32)), .val (.int re2), .val (.long fi2), .second, .val (.long wh2), .second, .val (.int re3), .val (.long fi3), .second, .val (.long wh3), .second, .val (.int re4), .val (.long fi4), .second, .unset, .unset] [(.ref ob)])) rfl (by rw [hml]; rfl) (Steps.refl _) (argsL := []) (rest := []) (lenOf own_pd3 rfl) rfl (by show 2 * 0 + _ ≤ _; exact Nat.le_of_eq rfl) (hb hby at_260) (fun _ _ => ⟨rfl, e119, (by decide : 1 + 0 ≤ _), (by decide : 7 + 0 ≤ _)⟩)
  dsimp only [Pt.U, Pt.locs, Pt.cells, Pt.slots] at X120 l120 y120 z120 st120 hQ120
  subst l120 y120 z120
  obtain ⟨rfl, N120q, e120⟩ := hQ120
  have N120 := Fr.app N119 N120q
  refine own_step (fun t k => st120.trans k) ?_
  refine own_step (T' := T120) (f' := (mkF m 286 #[.val (.long q1), .second, .val (.long q2), .second, .val (.long q3), .second, .val (.long v101), .second, .val (.long v103), .second, .val (.ref ob), .val (.int (1 : Int32)), .val (.long (0 : Int64)), .second, .val (.long wh1), .second, .val (.int (1 : Int32)), .val (.int re2), .val (.long fi2), .second, .val (.long wh2), .second, .val (.int re3), .val (.long fi3), .second, .val (.long wh3), .second, .val (.int re4), .val (.long fi4), .second, .val (.long wh4), .second] [(.long v103), (.long v101), (.long wh4), (.long fi4), (.int re4), (.long wh3), (.long fi3), (.int re3)])) (fun t k => ?_) ?_
  · show Steps p.tables e below (T120.setTop (mkF m 263 #[.val (.long q1), .second, .val (.long q2), .second, .val (.long q3), .second, .val (.long v101), .second, .val (.long v103), .second, .val (.ref ob), .val (.int (1 : Int32)), .val (.long (0 : Int64)), .second, .val (.long wh1), .second, .val (.int (1 : Int32)), .val (.int re2), .val (.long fi2), .second, .val (.long wh2), .second, .val (.int re3), .val (.long fi3), .second, .val (.long wh3), .second, .val (.int re4), .val (.long fi4), .second, .unset, .unset] [(.long wh4)])) _
    refine XS.lstore X120.here hx rfl (hb hby at_263) rfl (l' := #[.val (.long q1), .second, .val (.long q2), .second, .val (.long q3), .second, .val (.long v101), .second, .val (.long v103), .second, .val (.ref ob), .val (.int (1 : Int32)), .val (.long (0 : Int64)), .second, .val (.long wh1), .second, .val (.int (1 : Int32)), .val (.int re2), .val (.long fi2), .second, .val (.long wh2), .second, .val (.int re3), .val (.long fi3), .second, .val (.long wh3), .second, .val (.int re4), .val (.long fi4), .second, .val (.long wh4), .second]) rfl ?_
    show Steps p.tables e below (T120.setTop (mkF m 265 #[.val (.long q1), .second, .val (.long q2), .second, .val (.long q3), .second, .val (.long v101), .second, .val (.long v103), .second, .val (.ref ob), .val (.int (1 : Int32)), .val (.long (0 : Int64)), .second, .val (.long wh1), .second, .val (.int (1 : Int32)), .val (.int re2), .val (.long fi2), .second, .val (.long wh2), .second, .val (.int re3), .val (.long fi3), .second, .val (.long wh3), .second, .val (.int re4), .val (.long fi4), .second, .val (.long wh4), .second] [])) _
    refine XS.iload X120.here hx rfl (hb hby at_265) rfl ?_
    show Steps p.tables e below (T120.setTop (mkF m 267 #[.val (.long q1), .second, .val (.long q2), .second, .val (.long q3), .second, .val (.long v101), .second, .val (.long v103), .second, .val (.ref ob), .val (.int (1 : Int32)), .val (.long (0 : Int64)), .second, .val (.long wh1), .second, .val (.int (1 : Int32)), .val (.int re2), .val (.long fi2), .second, .val (.long wh2), .second, .val (.int re3), .val (.long fi3), .second, .val (.long wh3), .second, .val (.int re4), .val (.long fi4), .second, .val (.long wh4), .second] [(.int (1 : Int32))])) _
    refine XS.ifNo X120.here hx rfl (hb hby at_267) rfl ((if0 _ _).trans (feq (by decide : ¬ ((1 : Int32) = (0 : Int32)))).1) ?_
    show Steps p.tables e below (T120.setTop (mkF m 270 #[.val (.long q1), .second, .val (.long q2), .second, .val (.long q3), .second, .val (.long v101), .second, .val (.long v103), .second, .val (.ref ob), .val (.int (1 : Int32)), .val (.long (0 : Int64)), .second, .val (.long wh1), .second, .val (.int (1 : Int32)), .val (.int re2), .val (.long fi2), .second, .val (.long wh2), .second, .val (.int re3), .val (.long fi3), .second, .val (.long wh3), .second, .val (.int re4), .val (.long fi4), .second, .val (.long wh4), .second] [])) _
    refine XS.iload X120.here hx rfl (hb hby at_270) rfl ?_
    show Steps p.tables e below (T120.setTop (mkF m 272 #[.val (.long q1), .second, .val (.long q2), .second, .val (.long q3), .second, .val (.long v101), .second, .val (.long v103), .second, .val (.ref ob), .val (.int (1 : Int32)), .val (.long (0 : Int64)), .second, .val (.long wh1), .second, .val (.int (1 : Int32)), .val (.int re2), .val (.long fi2), .second, .val (.long wh2), .second, .val (.int re3), .val (.long fi3), .second, .val (.long wh3), .second, .val (.int re4), .val (.long fi4), .second, .val (.long wh4), .second] [(.int re3)])) _
    refine XS.lload X120.here hx rfl (hb hby at_272) rfl ?_
    show Steps p.tables e below (T120.setTop (mkF m 274 #[.val (.long q1), .second, .val (.long q2), .second, .val (.long q3), .second, .val (.long v101), .second, .val (.long v103), .second, .val (.ref ob), .val (.int (1 : Int32)), .val (.long (0 : Int64)), .second, .val (.long wh1), .second, .val (.int (1 : Int32)), .val (.int re2), .val (.long fi2), .second, .val (.long wh2), .second, .val (.int re3), .val (.long fi3), .second, .val (.long wh3), .second, .val (.int re4), .val (.long fi4), .second, .val (.long wh4), .second] [(.long fi3), (.int re3)])) _
    refine XS.lload X120.here hx rfl (hb hby at_274) rfl ?_
    show Steps p.tables e below (T120.setTop (mkF m 276 #[.val (.long q1), .second, .val (.long q2), .second, .val (.long q3), .second, .val (.long v101), .second, .val (.long v103), .second, .val (.ref ob), .val (.int (1 : Int32)), .val (.long (0 : Int64)), .second, .val (.long wh1), .second, .val (.int (1 : Int32)), .val (.int re2), .val (.long fi2), .second, .val (.long wh2), .second, .val (.int re3), .val (.long fi3), .second, .val (.long wh3), .second, .val (.int re4), .val (.long fi4), .second, .val (.long wh4), .second] [(.long wh3), (.long fi3), (.int re3)])) _
    refine XS.iload X120.here hx rfl (hb hby at_276) rfl ?_
    show Steps p.tables e below (T120.setTop (mkF m 278 #[.val (.long q1), .second, .val (.long q2), .second, .val (.long q3), .second, .val (.long v101), .second, .val (.long v103), .second, .val (.ref ob), .val (.int (1 : Int32)), .val (.long (0 : Int64)), .second, .val (.long wh1), .second, .val (.int (1 : Int32)), .val (.int re2), .val (.long fi2), .second, .val (.long wh2), .second, .val (.int re3), .val (.long fi3), .second, .val (.long wh3), .second, .val (.int re4), .val (.long fi4), .second, .val (.long wh4), .second] [(.int re4), (.long wh3), (.long fi3), (.int re3)])) _
    refine XS.lload X120.here hx rfl (hb hby at_278) rfl ?_
    show Steps p.tables e below (T120.setTop (mkF m 280 #[.val (.long q1), .second, .val (.long q2), .second, .val (.long q3), .second, .val (.long v101), .second, .val (.long v103), .second, .val (.ref ob), .val (.int (1 : Int32)), .val (.long (0 : Int64)), .second, .val (.long wh1), .second, .val (.int (1 : Int32)), .val (.int re2), .val (.long fi2), .second, .val (.long wh2), .second, .val (.int re3), .val (.long fi3), .second, .val (.long wh3), .second, .val (.int re4), .val (.long fi4), .second, .val (.long wh4), .second] [(.long fi4), (.int re4), (.long wh3), (.long fi3), (.int re3)])) _
    refine XS.lload X120.here hx rfl (hb hby at_280) rfl ?_
    show Steps p.tables e below (T120.setTop (mkF m 282 #[.val (.long q1), .second, .val (.long q2), .second, .val (.long q3), .second, .val (.long v101), .second, .val (.long v103), .second, .val (.ref ob), .val (.int (1 : Int32)), .val (.long (0 : Int64)), .second, .val (.long wh1), .second, .val (.int (1 : Int32)), .val (.int re2), .val (.long fi2), .second, .val (.long wh2), .second, .val (.int re3), .val (.long fi3), .second, .val (.long wh3), .second, .val (.int re4), .val (.long fi4), .second, .val (.long wh4), .second] [(.long wh4), (.long fi4), (.int re4), (.long wh3), (.long fi3), (.int re3)])) _
    refine XS.lload X120.here hx rfl (hb hby at_282) rfl ?_
    show Steps p.tables e below (T120.setTop (mkF m 284 #[.val (.long q1), .second, .val (.long q2), .second, .val (.long q3), .second, .val (.long v101), .second, .val (.long v103), .second, .val (.ref ob), .val (.int (1 : Int32)), .val (.long (0 : Int64)), .second, .val (.long wh1), .second, .val (.int (1 : Int32)), .val (.int re2), .val (.long fi2), .second, .val (.long wh2), .second, .val (.int re3), .val (.long fi3), .second, .val (.long wh3), .second, .val (.int re4), .val (.long fi4), .second, .val (.long wh4), .second] [(.long v101), (.long wh4), (.long fi4), (.int re4), (.long wh3), (.long fi3), (.int re3)])) _
    refine XS.lload X120.here hx rfl (hb hby at_284) rfl ?_
    exact k
  obtain ⟨_, _, ⟨T121, L121, k121, n121⟩, -, X121, ⟨Lc121, hQ121, l121, y121, z121⟩, st121⟩ := Jvm.LawKit.callS X120 hx (y := (⟨"com/example/tablewalk/tablewalk/SyntheticCastNextPinLaw", "step", "(ZJJZJJJJ)Z"⟩ : MethodName)) hown (mvT hZ (hw _ (List.mem_of_getElem? (i := 52) rfl))) (mvT hZ (hw _ (List.mem_of_getElem? (i := 53) rfl))) (mvT hZ (hw _ (List.mem_of_getElem? (i := 54) rfl))) (mvT hZ (hw _ (List.mem_of_getElem? (i := 55) rfl))) (by decide) (backOf (W := 0) (own_rm7 l Z a0 hw re3 fi3 wh3 re4 fi4 wh4 v101 v103 T118.heap n0) hZ (hw _ (List.mem_of_getElem? (i := 55) rfl)) (hw _ (List.mem_of_getElem? (i := 54) rfl)) (by decide) (by decide)) (g := (mkF m 286 #[.val (.long q1), .second, .val (.long q2), .second, .val (.long q3), .second, .val (.long v101), .second, .val (.long v103), .second, .val (.ref ob), .val (.int (1 : Int32)), .val (.long (0 : Int64)), .second, .val (.long wh1), .second, .val (.int (1 : Int32)), .val (.int re2), .val (.long fi2), .second, .val (.long wh2), .second, .val (.int re3), .val (.long fi3), .second, .val (.long wh3), .second, .val (.int re4), .val (.long fi4), .second, .val (.long wh4), .second] [(.long v103), (.long v101), (.long wh4), (.long fi4), (.int re4), (.long wh3), (.long fi3), (.int re3)])) rfl (by rw [hml]; rfl) (argsL := [(.int re3), (.long fi3), (.long wh3), (.int re4), (.long fi4), (.long wh4), (.long v101), (.long v103)]) (rest := []) (lenOf own_pd4 rfl) rfl (by show 2 * 0 + _ ≤ _; exact Nat.le_of_eq rfl) (hb hby at_286) (fun _ _ => ⟨rfl, e120, (by decide : 1 + 0 ≤ _), (by decide : 7 + 0 ≤ _)⟩)
  dsimp only [Pt.U, Pt.locs, Pt.cells, Pt.slots] at X121 l121 y121 z121 st121 hQ121
  subst l121 y121 z121
  obtain ⟨rfl, N121q, e121⟩ := hQ121
  have N121 := Fr.app N120 N121q
  refine own_step (fun t k => st121 _ k) ?_
  refine own_step (T' := T121) (f' := (mkF m 301 #[.val (.long q1), .second, .val (.long q2), .second, .val (.long q3), .second, .val (.long v101), .second, .val (.long v103), .second, .val (.ref ob), .val (.int (1 : Int32)), .val (.long (0 : Int64)), .second, .val (.long wh1), .second, .val (.int (1 : Int32)), .val (.int re2), .val (.long fi2), .second, .val (.long wh2), .second, .val (.int re3), .val (.long fi3), .second, .val (.long wh3), .second, .val (.int re4), .val (.long fi4), .second, .val (.long wh4), .second] [(.int (1 : Int32))])) (fun t k => ?_) ?_
  · show Steps p.tables e below (T121.setTop (mkF m 289 #[.val (.long q1), .second, .val (.long q2), .second, .val (.long q3), .second, .val (.long v101), .second, .val (.long v103), .second, .val (.ref ob), .val (.int (1 : Int32)), .val (.long (0 : Int64)), .second, .val (.long wh1), .second, .val (.int (1 : Int32)), .val (.int re2), .val (.long fi2), .second, .val (.long wh2), .second, .val (.int re3), .val (.long fi3), .second, .val (.long wh3), .second, .val (.int re4), .val (.long fi4), .second, .val (.long wh4), .second] [(.int (own_f7 re3 fi3 wh3 re4 fi4 wh4 v101 v103))])) _
    refine XS.ifNo X121.here hx rfl (hb hby at_289) rfl ((if0 _ _).trans (feq hs4).1) ?_
    show Steps p.tables e below (T121.setTop (mkF m 292 #[.val (.long q1), .second, .val (.long q2), .second, .val (.long q3), .second, .val (.long v101), .second, .val (.long v103), .second, .val (.ref ob), .val (.int (1 : Int32)), .val (.long (0 : Int64)), .second, .val (.long wh1), .second, .val (.int (1 : Int32)), .val (.int re2), .val (.long fi2), .second, .val (.long wh2), .second, .val (.int re3), .val (.long fi3), .second, .val (.long wh3), .second, .val (.int re4), .val (.long fi4), .second, .val (.long wh4), .second] [])) _
    refine XS.iconst X121.here hx rfl (hb hby at_292) ?_
    show Steps p.tables e below (T121.setTop (mkF m 293 #[.val (.long q1), .second, .val (.long q2), .second, .val (.long q3), .second, .val (.long v101), .second, .val (.long v103), .second, .val (.ref ob), .val (.int (1 : Int32)), .val (.long (0 : Int64)), .second, .val (.long wh1), .second, .val (.int (1 : Int32)), .val (.int re2), .val (.long fi2), .second, .val (.long wh2), .second, .val (.int re3), .val (.long fi3), .second, .val (.long wh3), .second, .val (.int re4), .val (.long fi4), .second, .val (.long wh4), .second] [(.int (1 : Int32))])) _
    refine XS.goto X121.here hx rfl (pc0 := 293) (pc' := 297) rfl (hb hby at_293) (by decide) (by decide) ?_
    show Steps p.tables e below (T121.setTop (mkF m 297 #[.val (.long q1), .second, .val (.long q2), .second, .val (.long q3), .second, .val (.long v101), .second, .val (.long v103), .second, .val (.ref ob), .val (.int (1 : Int32)), .val (.long (0 : Int64)), .second, .val (.long wh1), .second, .val (.int (1 : Int32)), .val (.int re2), .val (.long fi2), .second, .val (.long wh2), .second, .val (.int re3), .val (.long fi3), .second, .val (.long wh3), .second, .val (.int re4), .val (.long fi4), .second, .val (.long wh4), .second] [(.int (1 : Int32))])) _
    refine XS.istore X121.here hx rfl (hb hby at_297) rfl (l' := #[.val (.long q1), .second, .val (.long q2), .second, .val (.long q3), .second, .val (.long v101), .second, .val (.long v103), .second, .val (.ref ob), .val (.int (1 : Int32)), .val (.long (0 : Int64)), .second, .val (.long wh1), .second, .val (.int (1 : Int32)), .val (.int re2), .val (.long fi2), .second, .val (.long wh2), .second, .val (.int re3), .val (.long fi3), .second, .val (.long wh3), .second, .val (.int re4), .val (.long fi4), .second, .val (.long wh4), .second]) rfl ?_
    show Steps p.tables e below (T121.setTop (mkF m 299 #[.val (.long q1), .second, .val (.long q2), .second, .val (.long q3), .second, .val (.long v101), .second, .val (.long v103), .second, .val (.ref ob), .val (.int (1 : Int32)), .val (.long (0 : Int64)), .second, .val (.long wh1), .second, .val (.int (1 : Int32)), .val (.int re2), .val (.long fi2), .second, .val (.long wh2), .second, .val (.int re3), .val (.long fi3), .second, .val (.long wh3), .second, .val (.int re4), .val (.long fi4), .second, .val (.long wh4), .second] [])) _
    refine XS.iload X121.here hx rfl (hb hby at_299) rfl ?_
    exact k
  exact own_retZ X121 hx hret hlk (hb hby at_301) (by decide) (by decide) ⟨rfl, N121⟩
set_option maxRecDepth 65536 in
set_option maxHeartbeats 40000000 in
theorem comes_1 {Post : Tables → Env → Array Value → State → Outcome → State → Prop} (hpost : ∀ tb e args s v u, (limb_1_1.after args s (.returned v) u = true ∧ limb_1_2.after args s (.returned v) u = true ∧ True) → FrameEnd s (.returned v) u (Jvm.fieldLocs frame_1_writes args s ++ Jvm.arrayLocs frame_1_arrays args s ++ Jvm.staticLocs frame_1_statics s) 16 128 → Post tb e args s (.returned v) u) :
    ArmFor flags0 classFile x code maxLocals ret World_1 tables_1 room_1 Calls_1 rest_1 Pre_1 Post := by
  intro l hfl _ _ p e ha hc hk s m args below hf hA hF happ hP
  obtain ⟨hcalls, hrest, hpre⟩ := hP
  obtain ⟨-, -, -, hnamed, -, -, -, hat⟩ := (Spec.applies_iff hf).mp happ
  obtain ⟨hg, hn⟩ := and_e (Cond.before_iff.mp (show (Jvm.Cond.and given_1 narrow_1).before args s = true from hpre))
  obtain ⟨g1, g2⟩ := and_e hg
  obtain ⟨ga0, gb0⟩ := and_e g2
  obtain ⟨ga1, gb1⟩ := and_e gb0
  obtain ⟨w0, w1, w2, rfl⟩ : ∃ w0 w1 w2 : Value, args = #[w0, w1, w2] := by
    have hs : args.size = 3 := by simpa [Cond.value, given_1] using g1
    obtain ⟨L⟩ := args
    match L, hs with
    | [w0, w1, w2], _ => exact ⟨w0, w1, w2, rfl⟩
  have hw := fun d (hd : d ∈ tables_1) => atoms_spec (ws := Jvm.Cond.code x code maxLocals ret :: tables_1) hat d (List.mem_cons_of_mem _ hd)
  obtain ⟨i0, ei0⟩ := isL_v ga0
  obtain rfl : w0 = (.long i0) := Option.some.inj ei0
  obtain ⟨i1, ei1⟩ := isL_v ga1
  obtain rfl : w1 = (.long i1) := Option.some.inj ei1
  obtain ⟨i2, ei2⟩ := isL_v gb1
  obtain rfl : w2 = (.long i2) := Option.some.inj ei2
  obtain ⟨n, o, h1, h2, h3, _, L, rfl, ⟨rfl, N⟩, hq⟩ := own_rm0 l s _ hw tables_1 i0 i1 i2 s.heap s.heap.size (Nat.le_refl _) p e ha hc hk s m _ below hf ((Spec.applies_iff_loose hf).mp happ).1 ⟨rfl, State.Warmed39.refl s, rfl⟩ trivial
  refine ⟨n, _, h1, h2, h3, hpost _ _ _ _ _ _ ⟨Cond.after_iff.mpr rfl, Cond.after_iff.mpr (eq_i res_at (Term.int_eval (1)) rfl), trivial⟩ ⟨hq.1, hq.2.1, (hq.2.2.sift fun y hy => Or.inr (N y hy)).mono (by decide) (by decide)⟩⟩
theorem main_1_1 : Claimed_1_1 := comes_1 fun _ _ _ _ _ _ h hF => ⟨h.1, hF⟩
theorem main_1_2 : Claimed_1_2 := comes_1 fun _ _ _ _ _ _ h hF => ⟨h.2.1, hF⟩
end Jvm.Pilot.@@N@@
namespace Jvm.Pilot.@@N@@
open Jvm Jvm.ClassFile Sem Op Lib Jvm.Free Jvm.Stand Jvm.Pilot.@@N@@.Jvm.D
/-! MADE BY PROGRAM (witnessworld.py) out of the Statement's table words and the real class files: 9 classes; the members and pool entries that the words name. The judged class is class 1, her method 1. -/
namespace start1
open Jvm.ClassFile
def u (s : String) : CpInfo := .utf8 (stringToUtf16 s)
/-- a pool by its gaps: so many unusable entries, then the entry; so many at the end -/
def gap : Nat → List CpInfo → List CpInfo
  | 0, r => r
  | n + 1, r => .unusable :: gap n r
def poolList (es : List (Nat × CpInfo)) (last : Nat) : List CpInfo := es.foldr (fun e r => gap e.1 (e.2 :: r)) (gap last [])
def pool (es : List (Nat × CpInfo)) (last : Nat) : Array CpInfo := ⟨poolList es last⟩
def fileOf (pool : Array CpInfo) (this : Nat) (attrs : Array Attribute := #[]) (ms : Array MethodInfo := #[]) (fl : Nat := 33) (sup : Nat := 0) (ifs : Array Nat := #[]) (fds : Array FieldInfo := #[]) : ClassFile where
  minorVersion := 0
  majorVersion := 65
  constantPool := pool
  accessFlags := fl
  thisClass := this
  superClass := sup
  interfaces := ifs
  fields := fds
  methods := ms
  attributes := attrs
def plain (name : String) (sup : Option ClassId) : Class where
  name := name
  kind := .ordinary
  loader := none
  accessFlags := 33
  super := sup
  interfaces := #[]
  cf := none
  fields := #[]
  methods := #[]
  instanceTypes := #[]
  staticTypes := #[]
  resolved := #[]
  callSites := []
  init := .initialized
  statics := none
  mirror := none

def pool0 : Array CpInfo := pool [(5, u "<init>"), (0, u "()V"), (1, .class_ 10), (1, u "java/lang/Object")] 113

def k0c0 : Code := { maxStack := 0, maxLocals := 1, code := object_method_1_code, exceptionTable := #[], attributes := #[] }
def k0m0 : Method := { name := "<init>", desc := "()V", sig := { parameters := [], returnType := none }, accessFlags := 1, code := some k0c0 }
/-- java/lang/Object -/
def k0 : Class := { plain "java/lang/Object" none with
  accessFlags := 33
  interfaces := #[]
  cf := some (fileOf pool0 8 #[] #[{ accessFlags := 1, nameIndex := 5, descriptorIndex := 6, attributes := #[] }] 33 0 #[] #[])
  fields := #[]
  methods := #[k0m0]
  instanceTypes := #[]
  staticTypes := #[]
  resolved := Array.replicate 124 none
  statics := none }

def pool1 : Array CpInfo := pool [(2, .class_ 4), (1, u "java/lang/Object"), (0, u "<init>"), (0, u "()V"), (0, .long 3), (3, .long 9223372036854775807), (1, .long 7), (1, .class_ 16), (0, u "com/example/tablewalk/tablewalk/SyntheticCast"), (0, .long 3037000499), (1, .methodref 15 20), (0, .nameAndType 5 21), (0, u "(JJJ)V"), (0, .methodref 15 23), (0, .nameAndType 24 25), (0, u "next"), (0, u "()Z"), (0, .methodref 15 27), (0, .nameAndType 28 29), (0, u "film"), (0, u "()J"), (0, .methodref 15 31), (0, .nameAndType 32 29), (0, u "performer"), (0, .methodref 34 35), (0, .class_ 36), (0, .nameAndType 37 38), (0, u "com/example/tablewalk/tablewalk/SyntheticCastNextPinLaw"), (0, u "step"), (0, u "(ZJJZJJJJ)Z"), (2, u "law"), (0, u "(JJJ)Z")] 3

def k1m0 : Method := { name := "<init>", desc := "()V", sig := { parameters := [], returnType := none }, accessFlags := 1, code := none }
def k1c1 : Code := { maxStack := 14, maxLocals := 32, code := code, exceptionTable := #[], attributes := #[] }
def k1m1 : Method := { name := "law", desc := "(JJJ)Z", sig := { parameters := [.long, .long, .long], returnType := some .boolean }, accessFlags := 9, code := some k1c1 }
def k1c2 : Code := { maxStack := 6, maxLocals := 14, code := method_3_code, exceptionTable := #[], attributes := #[] }
def k1m2 : Method := { name := "step", desc := "(ZJJZJJJJ)Z", sig := { parameters := [.boolean, .long, .long, .boolean, .long, .long, .long, .long], returnType := some .boolean }, accessFlags := 10, code := some k1c2 }
/-- com/example/tablewalk/tablewalk/SyntheticCastNextPinLaw -/
def k1 : Class := { plain "com/example/tablewalk/tablewalk/SyntheticCastNextPinLaw" (some 0) with
  accessFlags := 49
  interfaces := #[]
  cf := some (fileOf pool1 34 #[] #[{ accessFlags := 1, nameIndex := 5, descriptorIndex := 6, attributes := #[] }, { accessFlags := 9, nameIndex := 41, descriptorIndex := 42, attributes := #[] }, { accessFlags := 10, nameIndex := 37, descriptorIndex := 38, attributes := #[] }] 49 2 #[] #[])
  fields := #[]
  methods := #[k1m0, k1m1, k1m2]
  instanceTypes := #[]
  staticTypes := #[]
  resolved := Array.replicate 46 none
  statics := none }

def pool2 : Array CpInfo := pool [(1, .methodref 2 3), (0, .class_ 4), (0, .nameAndType 5 6), (0, u "java/lang/Object"), (0, u "<init>"), (0, u "()V"), (0, .long 18446744073709551615), (1, .fieldref 10 11), (0, .class_ 12), (0, .nameAndType 13 14), (0, u "com/example/tablewalk/tablewalk/SyntheticCast"), (0, u "film"), (0, u "J"), (9, .long 3037000499), (2, .fieldref 10 28), (0, .nameAndType 29 14), (0, u "films"), (0, .fieldref 10 31), (0, .nameAndType 32 14), (0, u "performers"), (0, .fieldref 10 34), (0, .nameAndType 35 14), (0, u "state"), (0, .fieldref 10 37), (0, .nameAndType 38 14), (0, u "left"), (0, .long 4), (1, .methodref 10 42), (0, .nameAndType 43 44), (0, u "draw"), (0, u "(J)J"), (0, .fieldref 10 46), (0, .nameAndType 47 48), (0, u "small"), (0, u "Z"), (0, .long 2), (1, .long 60), (1, .fieldref 10 54), (0, .nameAndType 55 14), (0, u "performer"), (0, .long 11400714819323198485), (1, .long 13787848793156543929), (1, .long 10723151780598845931), (1, u "MAX_PERFORMERS"), (1, u "GAMMA"), (0, u "SMALL_ONE_IN"), (0, u "I"), (1, u "SMALL_SIZES"), (1, u "LARGE_SIZE_MIN"), (0, u "LARGE_SIZES"), (1, u "(JJJ)V"), (3, u "next"), (0, u "()Z"), (0, u "()J")] 19

def k2c0 : Code := { maxStack := 4, maxLocals := 7, code := prog_24_method_1_code, exceptionTable := #[], attributes := #[] }
def k2m0 : Method := { name := "<init>", desc := "(JJJ)V", sig := { parameters := [.long, .long, .long], returnType := none }, accessFlags := 1, code := some k2c0 }
def k2c1 : Code := { maxStack := 6, maxLocals := 3, code := prog_24_method_2_code, exceptionTable := #[], attributes := #[] }
def k2m1 : Method := { name := "next", desc := "()Z", sig := { parameters := [], returnType := some .boolean }, accessFlags := 1, code := some k2c1 }
def k2c2 : Code := { maxStack := 2, maxLocals := 1, code := prog_24_method_3_code, exceptionTable := #[], attributes := #[] }
def k2m2 : Method := { name := "performer", desc := "()J", sig := { parameters := [], returnType := some .long }, accessFlags := 1, code := some k2c2 }
def k2c3 : Code := { maxStack := 2, maxLocals := 1, code := prog_24_method_4_code, exceptionTable := #[], attributes := #[] }
def k2m3 : Method := { name := "film", desc := "()J", sig := { parameters := [], returnType := some .long }, accessFlags := 1, code := some k2c3 }
def k2c4 : Code := { maxStack := 5, maxLocals := 5, code := prog_24_method_5_code, exceptionTable := #[], attributes := #[] }
def k2m4 : Method := { name := "draw", desc := "(J)J", sig := { parameters := [.long], returnType := some .long }, accessFlags := 2, code := some k2c4 }
/-- com/example/tablewalk/tablewalk/SyntheticCast -/
def k2 : Class := { plain "com/example/tablewalk/tablewalk/SyntheticCast" (some 0) with
  accessFlags := 49
  interfaces := #[]
  cf := some (fileOf pool2 10 #[] #[{ accessFlags := 1, nameIndex := 5, descriptorIndex := 73, attributes := #[] }, { accessFlags := 1, nameIndex := 77, descriptorIndex := 78, attributes := #[] }, { accessFlags := 1, nameIndex := 55, descriptorIndex := 79, attributes := #[] }, { accessFlags := 1, nameIndex := 13, descriptorIndex := 79, attributes := #[] }, { accessFlags := 2, nameIndex := 43, descriptorIndex := 44, attributes := #[] }] 49 2 #[] #[{ accessFlags := 25, nameIndex := 62, descriptorIndex := 14, attributes := #[] }, { accessFlags := 26, nameIndex := 64, descriptorIndex := 14, attributes := #[] }, { accessFlags := 26, nameIndex := 65, descriptorIndex := 66, attributes := #[] }, { accessFlags := 26, nameIndex := 68, descriptorIndex := 66, attributes := #[] }, { accessFlags := 26, nameIndex := 70, descriptorIndex := 66, attributes := #[] }, { accessFlags := 26, nameIndex := 71, descriptorIndex := 66, attributes := #[] }, { accessFlags := 18, nameIndex := 29, descriptorIndex := 14, attributes := #[] }, { accessFlags := 18, nameIndex := 32, descriptorIndex := 14, attributes := #[] }, { accessFlags := 2, nameIndex := 35, descriptorIndex := 14, attributes := #[] }, { accessFlags := 2, nameIndex := 13, descriptorIndex := 14, attributes := #[] }, { accessFlags := 2, nameIndex := 47, descriptorIndex := 48, attributes := #[] }, { accessFlags := 2, nameIndex := 38, descriptorIndex := 14, attributes := #[] }, { accessFlags := 2, nameIndex := 55, descriptorIndex := 14, attributes := #[] }])
  fields := #[{ name := "MAX_PERFORMERS", type := .long, accessFlags := 25, slot := 0, constantValue := 0 }, { name := "GAMMA", type := .long, accessFlags := 26, slot := 1, constantValue := 0 }, { name := "SMALL_ONE_IN", type := .int, accessFlags := 26, slot := 2, constantValue := 0 }, { name := "SMALL_SIZES", type := .int, accessFlags := 26, slot := 3, constantValue := 0 }, { name := "LARGE_SIZE_MIN", type := .int, accessFlags := 26, slot := 4, constantValue := 0 }, { name := "LARGE_SIZES", type := .int, accessFlags := 26, slot := 5, constantValue := 0 }, { name := "films", type := .long, accessFlags := 18, slot := 0, constantValue := 0 }, { name := "performers", type := .long, accessFlags := 18, slot := 1, constantValue := 0 }, { name := "state", type := .long, accessFlags := 2, slot := 2, constantValue := 0 }, { name := "film", type := .long, accessFlags := 2, slot := 3, constantValue := 0 }, { name := "small", type := .boolean, accessFlags := 2, slot := 4, constantValue := 0 }, { name := "left", type := .long, accessFlags := 2, slot := 5, constantValue := 0 }, { name := "performer", type := .long, accessFlags := 2, slot := 6, constantValue := 0 }]
  methods := #[k2m0, k2m1, k2m2, k2m3, k2m4]
  instanceTypes := #[.long, .long, .long, .long, .boolean, .long, .long]
  staticTypes := #[.long, .long, .int, .int, .int, .int]
  resolved := Array.replicate 99 none
  statics := none }

def pool3 : Array CpInfo := pool [(1, u "java/lang/Cloneable"), (0, .class_ 1), (0, u "java/lang/Object"), (0, .class_ 3)] 3

/-- java/lang/Cloneable -/
def k3 : Class := { plain "java/lang/Cloneable" (some 0) with
  accessFlags := 1537
  interfaces := #[]
  cf := some (fileOf pool3 2 #[] #[] 1537 4 #[] #[])
  fields := #[]
  methods := #[]
  instanceTypes := #[]
  staticTypes := #[]
  resolved := Array.replicate 8 none
  statics := none }

def pool4 : Array CpInfo := pool [(1, u "java/io/Serializable"), (0, .class_ 1), (0, u "java/lang/Object"), (0, .class_ 3)] 3

/-- java/io/Serializable -/
def k4 : Class := { plain "java/io/Serializable" (some 0) with
  accessFlags := 1537
  interfaces := #[]
  cf := some (fileOf pool4 2 #[] #[] 1537 4 #[] #[])
  fields := #[]
  methods := #[]
  instanceTypes := #[]
  staticTypes := #[]
  resolved := Array.replicate 8 none
  statics := none }

/-- the primitive byte -/
def k5 : Class := { plain "byte" none with kind := .primitive 'B', accessFlags := 0x411 }
/-- [B -/
def k6 : Class := { plain "[B" (some 0) with kind := .array 5 .byte, interfaces := #[3, 4], accessFlags := 1041 }

/-- the primitive int -/
def k7 : Class := { plain "int" none with kind := .primitive 'I', accessFlags := 0x411 }
/-- [I -/
def k8 : Class := { plain "[I" (some 0) with kind := .array 7 .int, interfaces := #[3, 4], accessFlags := 1041 }

def heap : Heap := #[]
def classes : Array Class := #[k0, k1, k2, k3, k4, k5, k6, k7, k8]
def interned : List (Array UInt16 × Addr) := []
def slotsUsed : Nat := 0
def theMethod : MethodId := ⟨1, 1⟩
def args0 : Array Value := #[.long 5, .long 300, .long 77]
def aboutOver (below : List Frame) : State where
  vm := { classes := classes, interned := interned.toArray }
  heap := heap
  slotsUsed := slotsUsed
  threads := #[{ frames := .invoking theMethod args0 :: below }]
def below0 : List Frame := [.native { method := ⟨0, 0⟩, args := #[] }]
def about1 : State := aboutOver below0
def p0 : Program := .bare "" "" ""
def e0 : Env := launch0.env 0 0 0
theorem w_frames : about1.frames = Frame.invoking theMethod args0 :: below0 := rfl
set_option maxRecDepth 65536 in
theorem w_args : argsFit about1.vm theMethod args0 = true := by decide +kernel
set_option maxRecDepth 65536 in
theorem w_heap : heapFits about1 = true := by decide +kernel
set_option maxRecDepth 65536 in
theorem w_runnable : about1.curStatus? = some .runnable := by decide +kernel
set_option maxRecDepth 65536 in
theorem w_alone : about1.alone = true := by decide +kernel
set_option maxRecDepth 65536 in
theorem w_named : about1.methodNamed? x = some theMethod := by decide +kernel
set_option maxRecDepth 65536 in
theorem w_hears : about1.hears theMethod below0 = true := by decide +kernel
set_option maxRecDepth 65536 in
theorem w_ripe : about1.ripe theMethod args0 below0 = true := by decide +kernel
theorem w_running : about1.status = .running := rfl
set_option maxRecDepth 65536 in
theorem w_room : about1.hasRoom e0.platform room_1 = true :=
  launch0.hasRoom_least _ room_1 (by decide +kernel) (by decide +kernel) (by decide +kernel) (by decide +kernel) (by decide +kernel) (by decide +kernel)
theorem allAtoms_all (ts : List Jvm.Cond) (a : Array Jvm.Value) (st : Jvm.State) : (allAtoms ts).before a st = ts.all (fun c => c.before a st) := by
  induction ts with
  | nil => rfl
  | cons c t ih =>
    show (Jvm.Cond.and c (allAtoms t)).before a st = _
    rw [Jvm.Cond.before_and, ih, List.all_cons]
def words1 : List Jvm.Cond := Jvm.Cond.code x code maxLocals ret :: tables_1
/-- a 'code' word, met by the world's own term for the bytes: nothing is compared byte by byte -/
theorem code_word {y : MethodName} {bytes : ByteArray} {mx : Nat} {rt : Option FieldType} {a : Array Value} {s : State} {m : MethodId} {meth : Method} {c : Code} (h1 : s.methodNamed? y = some m) (h2 : s.vm.method? m = some meth) (h3 : meth.code = some c) (h4 : c.code = bytes)
    (h5 : (c.maxLocals == mx && c.exceptionTable.isEmpty && decide (c.maxStack ≤ mostOperands) && decide (meth.sig.returnType = rt) && !meth.locks && decide (parseMethodDescriptor y.desc = some meth.sig)) = true) : (Jvm.Cond.code y bytes mx rt).before a s = true := by
  simp only [Bool.and_eq_true, beq_iff_eq, Bool.not_eq_true', decide_eq_true_eq] at h5
  obtain ⟨⟨⟨⟨⟨g1, g2⟩, g3⟩, g4⟩, g5⟩, g6⟩ := h5
  simp [Cond.before, Cond.holds, Cond.value, h1, h2, h3, h4, g1, g2, g3, g4, g5, g6]
def isCode : Jvm.Cond → Bool
  | .code _ _ _ _ => true
  | _ => false
theorem all_split {L : List Jvm.Cond} {P : Jvm.Cond → Bool} (h1 : L.all (fun c => isCode c || P c) = true) (h2 : ∀ c ∈ L.filter isCode, P c = true) : L.all P = true := by
  refine List.all_eq_true.mpr fun c hc => ?_
  have h := List.all_eq_true.mp h1 c hc
  rcases Bool.eq_false_or_eq_true (isCode c) with hi | hi
  · exact h2 c (List.mem_filter.mpr ⟨hc, hi⟩)
  · simpa [hi] using h
set_option maxRecDepth 65536 in
theorem w_c0 : (Jvm.Cond.code x code maxLocals ret).before args0 about1 = true := code_word (m := ⟨1, 1⟩) (meth := k1m1) (c := k1c1) (by decide +kernel) rfl rfl rfl (by decide +kernel)
set_option maxRecDepth 65536 in
theorem w_c1 : (Jvm.Cond.code ({ cls := "com/example/tablewalk/tablewalk/SyntheticCast", name := "<init>", desc := "(JJJ)V" } : Jvm.MethodName) prog_24_method_1_code (7 : Nat) (Option.none : Option Jvm.ClassFile.FieldType)).before args0 about1 = true := code_word (m := ⟨2, 0⟩) (meth := k2m0) (c := k2c0) (by decide +kernel) rfl rfl rfl (by decide +kernel)
set_option maxRecDepth 65536 in
theorem w_c2 : (Jvm.Cond.code ({ cls := "java/lang/Object", name := "<init>", desc := "()V" } : Jvm.MethodName) object_method_1_code (1 : Nat) (Option.none : Option Jvm.ClassFile.FieldType)).before args0 about1 = true := code_word (m := ⟨0, 0⟩) (meth := k0m0) (c := k0c0) (by decide +kernel) rfl rfl rfl (by decide +kernel)
set_option maxRecDepth 65536 in
theorem w_c3 : (Jvm.Cond.code ({ cls := "com/example/tablewalk/tablewalk/SyntheticCast", name := "next", desc := "()Z" } : Jvm.MethodName) prog_24_method_2_code (3 : Nat) (Option.some Jvm.ClassFile.FieldType.boolean)).before args0 about1 = true := code_word (m := ⟨2, 1⟩) (meth := k2m1) (c := k2c1) (by decide +kernel) rfl rfl rfl (by decide +kernel)
set_option maxRecDepth 65536 in
theorem w_c4 : (Jvm.Cond.code ({ cls := "com/example/tablewalk/tablewalk/SyntheticCast", name := "draw", desc := "(J)J" } : Jvm.MethodName) prog_24_method_5_code (5 : Nat) (Option.some Jvm.ClassFile.FieldType.long)).before args0 about1 = true := code_word (m := ⟨2, 4⟩) (meth := k2m4) (c := k2c4) (by decide +kernel) rfl rfl rfl (by decide +kernel)
set_option maxRecDepth 65536 in
theorem w_c5 : (Jvm.Cond.code ({ cls := "com/example/tablewalk/tablewalk/SyntheticCast", name := "film", desc := "()J" } : Jvm.MethodName) prog_24_method_4_code (1 : Nat) (Option.some Jvm.ClassFile.FieldType.long)).before args0 about1 = true := code_word (m := ⟨2, 3⟩) (meth := k2m3) (c := k2c3) (by decide +kernel) rfl rfl rfl (by decide +kernel)
set_option maxRecDepth 65536 in
theorem w_c6 : (Jvm.Cond.code ({ cls := "com/example/tablewalk/tablewalk/SyntheticCast", name := "performer", desc := "()J" } : Jvm.MethodName) prog_24_method_3_code (1 : Nat) (Option.some Jvm.ClassFile.FieldType.long)).before args0 about1 = true := code_word (m := ⟨2, 2⟩) (meth := k2m2) (c := k2c2) (by decide +kernel) rfl rfl rfl (by decide +kernel)
set_option maxRecDepth 65536 in
theorem w_c7 : (Jvm.Cond.code ({ cls := "com/example/tablewalk/tablewalk/SyntheticCastNextPinLaw", name := "step", desc := "(ZJJZJJJJ)Z" } : Jvm.MethodName) method_3_code (14 : Nat) (Option.some Jvm.ClassFile.FieldType.boolean)).before args0 about1 = true := code_word (m := ⟨1, 2⟩) (meth := k1m2) (c := k1c2) (by decide +kernel) rfl rfl rfl (by decide +kernel)
def codes1 : List Jvm.Cond := [Jvm.Cond.code x code maxLocals ret, Jvm.Cond.code ({ cls := "com/example/tablewalk/tablewalk/SyntheticCast", name := "<init>", desc := "(JJJ)V" } : Jvm.MethodName) prog_24_method_1_code (7 : Nat) (Option.none : Option Jvm.ClassFile.FieldType), Jvm.Cond.code ({ cls := "java/lang/Object", name := "<init>", desc := "()V" } : Jvm.MethodName) object_method_1_code (1 : Nat) (Option.none : Option Jvm.ClassFile.FieldType), Jvm.Cond.code ({ cls := "com/example/tablewalk/tablewalk/SyntheticCast", name := "next", desc := "()Z" } : Jvm.MethodName) prog_24_method_2_code (3 : Nat) (Option.some Jvm.ClassFile.FieldType.boolean), Jvm.Cond.code ({ cls := "com/example/tablewalk/tablewalk/SyntheticCast", name := "draw", desc := "(J)J" } : Jvm.MethodName) prog_24_method_5_code (5 : Nat) (Option.some Jvm.ClassFile.FieldType.long), Jvm.Cond.code ({ cls := "com/example/tablewalk/tablewalk/SyntheticCast", name := "film", desc := "()J" } : Jvm.MethodName) prog_24_method_4_code (1 : Nat) (Option.some Jvm.ClassFile.FieldType.long), Jvm.Cond.code ({ cls := "com/example/tablewalk/tablewalk/SyntheticCast", name := "performer", desc := "()J" } : Jvm.MethodName) prog_24_method_3_code (1 : Nat) (Option.some Jvm.ClassFile.FieldType.long), Jvm.Cond.code ({ cls := "com/example/tablewalk/tablewalk/SyntheticCastNextPinLaw", name := "step", desc := "(ZJJZJJJJ)Z" } : Jvm.MethodName) method_3_code (14 : Nat) (Option.some Jvm.ClassFile.FieldType.boolean)]
set_option maxRecDepth 65536 in
theorem codes_eq : words1.filter isCode = codes1 := rfl
theorem w_codes : ∀ c ∈ words1.filter isCode, c.before args0 about1 = true := by
  rw [codes_eq]
  intro c hc
  simp only [codes1, List.mem_cons, List.not_mem_nil, or_false] at hc
  rcases hc with rfl | rfl | rfl | rfl | rfl | rfl | rfl | rfl
  · exact w_c0
  · exact w_c1
  · exact w_c2
  · exact w_c3
  · exact w_c4
  · exact w_c5
  · exact w_c6
  · exact w_c7
set_option maxRecDepth 65536 in
theorem w_t1 : (words1.take 24).all (fun c => isCode c || c.before args0 about1) = true := by decide +kernel
set_option maxRecDepth 65536 in
theorem w_t2 : ((words1.drop 24).take 24).all (fun c => isCode c || c.before args0 about1) = true := by decide +kernel
set_option maxRecDepth 65536 in
theorem w_t3 : ((words1.drop 24).drop 24).all (fun c => isCode c || c.before args0 about1) = true := by decide +kernel
theorem w_tables : (allAtoms (Jvm.Cond.code x code maxLocals ret :: tables_1)).before args0 about1 = true := by
  rw [allAtoms_all]
  show words1.all (fun c => c.before args0 about1) = true
  refine all_split ?_ w_codes
  rw [← List.take_append_drop 24 words1, List.all_append, w_t1, ← List.take_append_drop 24 (words1.drop 24), List.all_append, w_t2, w_t3]
  rfl
set_option maxRecDepth 65536 in
theorem w_case : (Jvm.Cond.and given_1 narrow_1).before args0 about1 = true := by decide +kernel
theorem w_applies : (headSpec (Jvm.Cond.code x code maxLocals ret :: tables_1) room_1).applies x e0.platform about1 = true :=
  (Spec.applies_iff w_frames).mpr ⟨w_running, w_runnable, w_alone, w_named, w_hears, w_ripe, w_room, w_tables⟩
theorem atStart : AtStart classFile x code maxLocals ret World_1 tables_1 room_1 Calls_1 rest_1 Pre_1 launch0 p0 e0 about1 theMethod args0 below0 :=
  ⟨lists_1, trivial, launch0.admits_env _ _ _, launch0.least_env, fairChoices_fair.cas, fairChoices_fair.clock, w_frames, w_args, w_heap, w_applies, trivial, trivial, w_case⟩
end start1
theorem witness_1 : WitnessClaimed_1 := ⟨start1.p0, start1.e0, start1.about1, start1.theMethod, start1.args0, start1.below0, start1.atStart⟩
end Jvm.Pilot.@@N@@
