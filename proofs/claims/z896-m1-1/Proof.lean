import JvmDerived
import JvmDerived.Pilot.@@N@@Statement
import JvmDerived.Pilot.@@N@@Code
set_option linter.unusedVariables false
set_option linter.unusedSimpArgs false
namespace Jvm.Pilot.@@N@@
open Jvm Jvm.ClassFile Sem Op Lib Jvm.Free Jvm.Stand Jvm.LawKit Jvm.RoadKit Bundle Jvm.Pilot.@@N@@.Jvm.D
section OwnGo
variable {p : Program} {l : Launch} {e : Env} {R : Room} {s : State} {m : MethodId} {args : Array Value} {below : List Frame} {meth : Method} {c : Code} {T T' : State} {locs : List Loc} {cells slots : Nat} {f f' : JFrame} {P : Outcome → State → Prop}
/-- what is left of a body's run: from the state T with the frame f on top it ends, and P holds of the end -/
def own_Go (p : Program) (e : Env) (below : List Frame) (T : State) (f : JFrame) (P : Outcome → State → Prop) : Prop :=
  ∃ s₂ o, Steps p.tables e below (T.setTop f) s₂ ∧ s₂.status = .running ∧ Ended s₂ below o ∧ P o s₂
theorem own_step (h : ∀ t, Steps p.tables e below (T'.setTop f') t → Steps p.tables e below (T.setTop f) t) (k : own_Go p e below T' f' P) : own_Go p e below T f P := by
  obtain ⟨s₂, o, a, b, c, d⟩ := k
  exact ⟨s₂, o, h _ a, b, c, d⟩
theorem own_Go.cast (q : f = f') (k : own_Go p e below T f' P) : own_Go p e below T f P := q ▸ k
theorem own_done (X : Stand p l e R s m args below meth c T locs cells slots) {v : Option Value} {Q : Option Value → Heap → List Loc → Prop} {C S : Nat} (hlk : meth.locks = false) (hv : meth.sig.returnType = none → v = none)
    (hs : ∀ fs, (∀ (f : JFrame) (acts : List Action), f.method = m → f.locked = none → f.entered = [] → (doReturn e (T.setTop f) acts v).1 = T.setFrames fs) → Steps p.tables e below (T.setTop f) (T.setFrames fs))
    (hC : cells ≤ C) (hS : slots ≤ S) (hQ : Q v T.heap locs) : own_Go p e below T f (fun o U' => ∃ v L, o = .returned v ∧ Q v U'.heap L ∧ FrameEnd s o U' L C S) := by
  obtain ⟨fs, hr, hrun, hended, hW, hsame⟩ := X.leave (v := v) hv hlk
  exact ⟨_, _, hs fs hr, hrun, hended, _, _, rfl, hQ, ⟨_, rfl⟩, hW, hsame.mono hC hS⟩
theorem own_retZ (X : Stand p l e R s m args below meth c T locs cells slots) (hx : p.tables.exec = Jvm.exec) {pc : Nat} {Ls : Array Slot} {z : Int32} {rest : List Value} {Q : Option Value → Heap → List Loc → Prop} {C S : Nat}
    (hret : meth.sig.returnType = some .boolean) (hlk : meth.locks = false) (hd : decode c.code pc = .ok (.ireturn, 1)) (hC : cells ≤ C) (hS : slots ≤ S) (hQ : Q (some (.int (nar .boolean z))) T.heap locs) :
    own_Go p e below T (mkF m pc Ls (.int z :: rest)) (fun o U' => ∃ v L, o = .returned v ∧ Q v U'.heap L ∧ FrameEnd s o U' L C S) :=
  own_done X hlk (fun h => by rw [hret] at h; cases h) (fun fs hr => retN X hx (t := .boolean) hret (by simp) hd hr) hC hS hQ
theorem own_retI (X : Stand p l e R s m args below meth c T locs cells slots) (hx : p.tables.exec = Jvm.exec) {pc : Nat} {Ls : Array Slot} {z : Int32} {rest : List Value} {Q : Option Value → Heap → List Loc → Prop} {C S : Nat}
    (hret : meth.sig.returnType = some .int) (hlk : meth.locks = false) (hd : decode c.code pc = .ok (.ireturn, 1)) (hC : cells ≤ C) (hS : slots ≤ S) (hQ : Q (some (.int z)) T.heap locs) :
    own_Go p e below T (mkF m pc Ls (.int z :: rest)) (fun o U' => ∃ v L, o = .returned v ∧ Q v U'.heap L ∧ FrameEnd s o U' L C S) :=
  own_done X hlk (fun h => by rw [hret] at h; cases h) (fun fs hr => retOut X hx hret rfl (Or.inl ⟨rfl, Or.inl rfl, _, rfl⟩) hd hr) hC hS hQ
theorem own_retJ (X : Stand p l e R s m args below meth c T locs cells slots) (hx : p.tables.exec = Jvm.exec) {pc : Nat} {Ls : Array Slot} {z : Int64} {rest : List Value} {Q : Option Value → Heap → List Loc → Prop} {C S : Nat}
    (hret : meth.sig.returnType = some .long) (hlk : meth.locks = false) (hd : decode c.code pc = .ok (.lreturn, 1)) (hC : cells ≤ C) (hS : slots ≤ S) (hQ : Q (some (.long z)) T.heap locs) :
    own_Go p e below T (mkF m pc Ls (.long z :: rest)) (fun o U' => ∃ v L, o = .returned v ∧ Q v U'.heap L ∧ FrameEnd s o U' L C S) :=
  own_done X hlk (fun h => by rw [hret] at h; cases h) (fun fs hr => retOut X hx hret rfl (Or.inr (Or.inl ⟨rfl, rfl, _, rfl⟩)) hd hr) hC hS hQ
theorem own_retA (X : Stand p l e R s m args below meth c T locs cells slots) (hx : p.tables.exec = Jvm.exec) {pc : Nat} {Ls : Array Slot} {a : Addr} {ty : FieldType} {rest : List Value} {Q : Option Value → Heap → List Loc → Prop} {C S : Nat}
    (hret : meth.sig.returnType = some (.array ty)) (hlk : meth.locks = false) (hd : decode c.code pc = .ok (.areturn, 1)) (hC : cells ≤ C) (hS : slots ≤ S) (hQ : Q (some (.ref a)) T.heap locs) :
    own_Go p e below T (mkF m pc Ls (.ref a :: rest)) (fun o U' => ∃ v L, o = .returned v ∧ Q v U'.heap L ∧ FrameEnd s o U' L C S) :=
  own_done X hlk (fun h => by rw [hret] at h; cases h) (fun fs hr => retOut X hx hret rfl (Or.inr (Or.inr (Or.inr (Or.inr ⟨rfl, rfl, rfl⟩)))) hd hr) hC hS hQ
theorem own_retV (X : Stand p l e R s m args below meth c T locs cells slots) (hx : p.tables.exec = Jvm.exec) {pc : Nat} {Ls : Array Slot} {Q : Option Value → Heap → List Loc → Prop} {C S : Nat}
    (hret : meth.sig.returnType = none) (hlk : meth.locks = false) (hd : decode c.code pc = .ok (.return_, 1)) (hC : cells ≤ C) (hS : slots ≤ S) (hQ : Q none T.heap locs) :
    own_Go p e below T (mkF m pc Ls []) (fun o U' => ∃ v L, o = .returned v ∧ Q v U'.heap L ∧ FrameEnd s o U' L C S) :=
  own_done X hlk (fun _ => rfl) (fun fs hr => X.returnOut hx hret hd hr) hC hS hQ
end OwnGo
/-- what the law leaves -/
def own_QL (n0 : Nat) (v : Option Value) (h : Heap) (L : List Loc) : Prop := v = some (.int 1) ∧ Fr n0 L
section OwnArr
variable {p : Program} {l : Launch} {e : Env} {R : Room} {s : State} {m : MethodId} {args : Array Value} {below : List Frame} {meth : Method} {c : Code} {T : State} {locs : List Loc} {cells slots : Nat} {Z : State} {h h' : Heap} {a b : Addr} {ty : FieldType} {n i sl : Nat} {f : Nat → Value} {v w : Value} {ws : List Addr} {j x z : Int32}
def own_upd (f : Nat → Value) (i : Nat) (v : Value) : Nat → Value := fun k => if k = i then v else f k
theorem own_upd_hit (f : Nat → Value) (i : Nat) (v : Value) : own_upd f i v i = v := if_pos rfl
theorem own_upd_miss (f : Nat → Value) {i k : Nat} (v : Value) (q : k ≠ i) : own_upd f i v k = f k := if_neg q
/-- an array of n places, place i holding f i -/
def own_A (Z : State) (h : Heap) (a : Addr) (ty : FieldType) (n : Nat) (f : Nat → Value) : Prop := ∃ c : Cell, Arr Z h a c ty ∧ c.slots.size = n ∧ ∀ i, i < n → c.slots[i]? = some (f i)
theorem own_A.lt (F : own_A Z h a ty n f) : a < h.size := by obtain ⟨c, A, -⟩ := F; exact A.lt
theorem own_A.ext (F : own_A Z h a ty n f) (E : Ext h h') : own_A Z h' a ty n f := by obtain ⟨c, A, r⟩ := F; exact ⟨c, A.ext E, r⟩
theorem own_A.other (F : own_A Z h b ty n f) (W : Wr h h' a sl v) (q : b ≠ a) : own_A Z h' b ty n f := by obtain ⟨c, A, r⟩ := F; exact ⟨c, A.other W q, r⟩
theorem own_A.keep (F : own_A Z h a ty n f) (K : Keep h h' ws) (q : a ∉ ws) : own_A Z h' a ty n f := by obtain ⟨c, A, r⟩ := F; exact ⟨c, ⟨K.2.1 a c A.1 q, A.2⟩, r⟩
theorem own_A.new {k : ClassId} {z : Int32} (A : Arr Z h a (newA k ty z) ty) (q : z.toNatClampNeg = n) : own_A Z h a ty n (fun _ => defaultValue ty) := ⟨_, A, by rw [sz_new]; exact q, fun i hi => by
  have hi' : i < z.toNatClampNeg := by rw [q]; exact hi
  simp [newA, hi']⟩
theorem own_A.put (F : own_A Z h a ty n f) (W : Wr h h' a i v) (hi : i < n) : own_A Z h' a ty n (own_upd f i v) := by
  obtain ⟨c, A, S, H⟩ := F
  refine ⟨_, A.same W, by rw [sz_set]; exact S, fun k hk => ?_⟩
  by_cases u : k = i
  · subst u; rw [own_upd_hit]; simp [Cell.setSlot, S, hi]
  · rw [own_upd_miss _ _ u, ← H k hk]; simp only [Cell.setSlot]; exact Array.getElem?_setIfInBounds_ne (Ne.symm u)
theorem own_A.cong {g : Nat → Value} (F : own_A Z h a ty n f) (q : ∀ i, i < n → f i = g i) : own_A Z h a ty n g := by
  obtain ⟨c, A, S, H⟩ := F; exact ⟨c, A, S, fun i hi => by rw [H i hi, q i hi]⟩
def own_at (j : Int32) (i : Nat) : Prop := ¬ j < 0 ∧ j.toNatClampNeg = i
theorem own_at_lit (q : j.toNatClampNeg = i) (r : ¬ j < 0) : own_at j i := ⟨r, q⟩
theorem own_at_int (q : j.toInt = (i : Int)) : own_at j i := by
  refine ⟨?_, ?_⟩
  · rw [Int32.lt_iff_toInt_lt, q, show (0 : Int32).toInt = 0 from rfl]; omega
  · simp only [Int32.toNatClampNeg, q]; rfl
theorem own_in {c : Cell} (hj : own_at j i) (S : c.slots.size = n) (hi : i < n) : ¬ (j < 0 ∨ c.slots.size ≤ j.toNatClampNeg) := by
  rintro (q | q)
  · exact hj.1 q
  · rw [hj.2, S] at q; omega
theorem own_ldI (X : Stand p l e R s m args below meth c T locs cells slots) (hx : p.tables.exec = Jvm.exec) (hZ : Z.Warmed39 s.vm) (eT : T.heap = h) (A : own_A Z h a .int n f) (hj : own_at j i) (hi : i < n) {v : Int32} (hv : f i = .int v) {g : JFrame} (hg : g.method = m) {rest : List Value} (hs : g.stack = .int j :: .ref a :: rest) (hd : decode c.code g.pc = .ok (.iaload, 1)) :
    ∀ target, Steps p.tables e below (T.setTop { g with pc := g.pc + 1, stack := .int v :: rest }) target → Steps p.tables e below (T.setTop g) target := by
  obtain ⟨cl, Ar, S, H⟩ := A
  exact X.iaload hx (j := j) (v := .int v) (by rw [eT]; exact Ar.1) (State.isArrayOf_alike hZ.alike Ar.2.1) Ar.2.2 (own_in hj S hi) (by rw [hj.2, H i hi, hv]) (g := g) hg hs hd
theorem own_ldJ (X : Stand p l e R s m args below meth c T locs cells slots) (hx : p.tables.exec = Jvm.exec) (hZ : Z.Warmed39 s.vm) (eT : T.heap = h) (A : own_A Z h a .long n f) (hj : own_at j i) (hi : i < n) {v : Int64} (hv : f i = .long v) {g : JFrame} (hg : g.method = m) {rest : List Value} (hs : g.stack = .int j :: .ref a :: rest) (hd : decode c.code g.pc = .ok (.laload, 1)) :
    ∀ target, Steps p.tables e below (T.setTop { g with pc := g.pc + 1, stack := .long v :: rest }) target → Steps p.tables e below (T.setTop g) target := by
  obtain ⟨cl, Ar, S, H⟩ := A
  exact X.laload hx (j := j) (v := .long v) (by rw [eT]; exact Ar.1) (State.isArrayOf_alike hZ.alike Ar.2.1) Ar.2.2 (own_in hj S hi) (by rw [hj.2, H i hi, hv]) (g := g) hg hs hd
theorem own_ldB (X : Stand p l e R s m args below meth c T locs cells slots) (hx : p.tables.exec = Jvm.exec) (hZ : Z.Warmed39 s.vm) (eT : T.heap = h) (A : own_A Z h a .byte n f) (hj : own_at j i) (hi : i < n) {v : Int32} (hv : f i = .int v) {g : JFrame} (hg : g.method = m) {rest : List Value} (hs : g.stack = .int j :: .ref a :: rest) (hd : decode c.code g.pc = .ok (.baload, 1)) :
    ∀ target, Steps p.tables e below (T.setTop { g with pc := g.pc + 1, stack := .int v :: rest }) target → Steps p.tables e below (T.setTop g) target := by
  obtain ⟨cl, Ar, S, H⟩ := A
  exact X.baloadBytes hx (j := j) (v := .int v) (by rw [eT]; exact Ar.1) (State.isArrayOf_alike hZ.alike Ar.2.1) Ar.2.2 (own_in hj S hi) (by rw [hj.2, H i hi, hv]) (g := g) hg hs hd
theorem own_alen (X : Stand p l e R s m args below meth c T locs cells slots) (hx : p.tables.exec = Jvm.exec) (hZ : Z.Warmed39 s.vm) (eT : T.heap = h) (A : own_A Z h a ty n f) (hz : n.toInt32 = z) {g : JFrame} (hg : g.method = m) {rest : List Value} (hs : g.stack = .ref a :: rest) (hd : decode c.code g.pc = .ok (.arraylength, 1)) :
    ∀ target, Steps p.tables e below (T.setTop { g with pc := g.pc + 1, stack := .int z :: rest }) target → Steps p.tables e below (T.setTop g) target := by
  obtain ⟨cl, Ar, S, H⟩ := A
  subst hz
  rw [← S]
  exact X.arraylength hx (by rw [eT]; exact Ar.1) (State.isArrayOf_alike hZ.alike Ar.2.1) (g := g) hg hs hd
theorem own_stI (X : Stand p l e R s m args below meth c T locs cells slots) (hx : p.tables.exec = Jvm.exec) (hZ : Z.Warmed39 s.vm) (eT : T.heap = h) (A : own_A Z h a .int n f) (hj : own_at j i) (hi : i < n) {g : JFrame} (hg : g.method = m) {rest : List Value} (hs : g.stack = .int x :: .int j :: .ref a :: rest) (hd : decode c.code g.pc = .ok (.iastore, 1)) :
    ∃ T' h', Stand p l e R s m args below meth c T' (locs ++ [⟨a, i⟩]) cells slots ∧ T'.heap = h' ∧ Wr h h' a i (.int x) ∧ own_A Z h' a .int n (own_upd f i (.int x)) ∧ ∀ target, Steps p.tables e below (T'.setTop { g with pc := g.pc + 1, stack := rest }) target → Steps p.tables e below (T.setTop g) target := by
  obtain ⟨cl, Ar, S, H⟩ := A
  obtain ⟨T', h', X', e', W, st⟩ := stI X hx hZ eT Ar (j := j) (own_in hj S hi) hg hs hd
  rw [hj.2] at X' W
  exact ⟨T', h', X', e', W, own_A.put ⟨cl, Ar, S, H⟩ W hi, st⟩
theorem own_stJ {x : Int64} (X : Stand p l e R s m args below meth c T locs cells slots) (hx : p.tables.exec = Jvm.exec) (hZ : Z.Warmed39 s.vm) (eT : T.heap = h) (A : own_A Z h a .long n f) (hj : own_at j i) (hi : i < n) {g : JFrame} (hg : g.method = m) {rest : List Value} (hs : g.stack = .long x :: .int j :: .ref a :: rest) (hd : decode c.code g.pc = .ok (.lastore, 1)) :
    ∃ T' h', Stand p l e R s m args below meth c T' (locs ++ [⟨a, i⟩]) cells slots ∧ T'.heap = h' ∧ Wr h h' a i (.long x) ∧ own_A Z h' a .long n (own_upd f i (.long x)) ∧ ∀ target, Steps p.tables e below (T'.setTop { g with pc := g.pc + 1, stack := rest }) target → Steps p.tables e below (T.setTop g) target := by
  obtain ⟨cl, Ar, S, H⟩ := A
  obtain ⟨T', h', X', e', W, st⟩ := stJ X hx hZ eT Ar (j := j) (own_in hj S hi) hg hs hd
  rw [hj.2] at X' W
  exact ⟨T', h', X', e', W, own_A.put ⟨cl, Ar, S, H⟩ W hi, st⟩
theorem own_stB (X : Stand p l e R s m args below meth c T locs cells slots) (hx : p.tables.exec = Jvm.exec) (hZ : Z.Warmed39 s.vm) (eT : T.heap = h) (A : own_A Z h a .byte n f) (hj : own_at j i) (hi : i < n) {g : JFrame} (hg : g.method = m) {rest : List Value} (hs : g.stack = .int x :: .int j :: .ref a :: rest) (hd : decode c.code g.pc = .ok (.bastore, 1)) :
    ∃ T' h', Stand p l e R s m args below meth c T' (locs ++ [⟨a, i⟩]) cells slots ∧ T'.heap = h' ∧ Wr h h' a i (.int (nar .byte x)) ∧ own_A Z h' a .byte n (own_upd f i (.int (nar .byte x))) ∧ ∀ target, Steps p.tables e below (T'.setTop { g with pc := g.pc + 1, stack := rest }) target → Steps p.tables e below (T.setTop g) target := by
  obtain ⟨cl, Ar, S, H⟩ := A
  obtain ⟨T', h', X', e', W, st⟩ := stB X hx hZ eT Ar (j := j) (own_in hj S hi) hg hs hd
  rw [hj.2] at X' W
  exact ⟨T', h', X', e', W, own_A.put ⟨cl, Ar, S, H⟩ W hi, st⟩
/-- a private method is selected by itself -/
theorem own_selp {a0 args' : Array Value} {y : MethodName} {kk : Nat} (hZ : Z.Warmed39 s.vm) (wp : (Cond.privateMethod y).before a0 Z = true) (wi : (Cond.instanceMethod y).before a0 Z = true) (wk : (Cond.instantiable y.cls kk).before a0 Z = true) (hy : y.cls ≠ "java/lang/invoke/MethodHandle" ∧ y.cls ≠ "java/lang/invoke/VarHandle") : (Cond.selects y.cls y y).before args' s = true := by
  obtain ⟨c2, k2, i1, i2, i3, i4, -⟩ := Cond.instantiable_spec (mvT hZ wk (args := args'))
  have hni : k2.isInterface = false := by simp only [Bool.or_eq_false_iff] at i4; exact i4.1
  exact Stand.selects_self_of_private i1 i2 hni (Cond.privateMethod_at (mvP hZ wp (args := args'))) (mvT hZ wi) hy
end OwnArr
def own_updI (F : Nat → Int32) (i : Nat) (x : Int32) : Nat → Int32 := fun k => if k = i then x else F k
theorem own_toI {Z : State} {h : Heap} {a : Addr} {n i : Nat} {F : Nat → Int32} {x : Int32} (A : own_A Z h a .int n (own_upd (fun i => .int (F i)) i (.int x))) : own_A Z h a .int n (fun k => .int (own_updI F i x k)) :=
  A.cong fun k _ => by simp only [own_upd, own_updI]; split <;> rfl
theorem own_len_of {z : Int32} {n : Nat} (h : own_at z n) : n.toInt32 = z := by rw [← h.2]; exact (back32 h.1).1
theorem own_at_toInt {z : Int32} {n : Nat} (h : own_at z n) : z.toInt = (n : Int) := by
  have h1 := h.1; rw [Int32.lt_iff_toInt_lt, show (0 : Int32).toInt = 0 from rfl] at h1
  have h2 := h.2; simp only [Int32.toNatClampNeg] at h2; omega
theorem own_at_eq {z z' : Int32} {n : Nat} (h : own_at z n) (h' : own_at z' n) : z = z' := Int32.toInt_inj.mp (by rw [own_at_toInt h, own_at_toInt h'])
theorem own_at_succ {z : Int32} {n : Nat} (h : own_at z n) (q : n ≤ 1000) : own_at (z + (1 : Int32)) (n + 1) := by
  have a := own_at_toInt h; have e := c_iadd z 1; have r := rng32 (z + 1)
  rw [show (1 : Int32).toInt = 1 from rfl] at e
  exact own_at_int (by omega)
/-- a PathTree by its fields and arrays, all made since the law began -/
def own_PX (Z : State) (h : Heap) (n0 : Nat) (a ni pv ln : Addr) (sz : Int32) (N P Q : Nat → Int32) : Prop :=
  Exa Z h a "com/example/tapir/tapir/sampling/PathTree" ∧ Fld Z h a "com/example/tapir/tapir/sampling/PathTree" "nodeId" "[I" (.ref ni) ∧ Fld Z h a "com/example/tapir/tapir/sampling/PathTree" "previous" "[I" (.ref pv) ∧ Fld Z h a "com/example/tapir/tapir/sampling/PathTree" "length" "[I" (.ref ln) ∧ Fld Z h a "com/example/tapir/tapir/sampling/PathTree" "size" "I" (.int sz) ∧
  own_A Z h ni .int 64 (fun i => .int (N i)) ∧ own_A Z h pv .int 64 (fun i => .int (P i)) ∧ own_A Z h ln .int 64 (fun i => .int (Q i)) ∧
  a ≠ ni ∧ a ≠ pv ∧ a ≠ ln ∧ ni ≠ pv ∧ ni ≠ ln ∧ pv ≠ ln ∧ n0 ≤ a ∧ n0 ≤ ni ∧ n0 ≤ pv ∧ n0 ≤ ln
section
variable {Z : State} {h h' : Heap} {n0 : Nat} {a ni pv ln : Addr} {sz : Int32} {N P Q : Nat → Int32}
theorem own_PX.keep {ws : List Addr} (X : own_PX Z h n0 a ni pv ln sz N P Q) (K : Keep h h' ws) (qa : a ∉ ws) (q1 : ni ∉ ws) (q2 : pv ∉ ws) (q3 : ln ∉ ws) : own_PX Z h' n0 a ni pv ln sz N P Q := by
  obtain ⟨x1, x2, x3, x4, x5, x6, x7, x8, r⟩ := X
  exact ⟨x1.keep K, x2.keep K qa, x3.keep K qa, x4.keep K qa, x5.keep K qa, x6.keep K q1, x7.keep K q2, x8.keep K q3, r⟩
/-- from place at on, going back, the ids are the list's -/
def own_ch (N P : Nat → Int32) (k : Nat) : List Int32 → Int32 → Prop
  | [], _ => True
  | x :: r, at' => ∃ e, e < k ∧ own_at at' e ∧ N e = x ∧ own_ch N P k r (P e)
def own_inv (k : Nat) (N P Q : Nat → Int32) (pth : Nat → List Int32) : Prop := ∀ e, e < k → own_at (Q e) (pth e).length ∧ ∀ at', own_at at' e → own_ch N P k (pth e).reverse at'
def own_PT (Z : State) (h : Heap) (n0 : Nat) (a : Addr) (k : Nat) (pth : Nat → List Int32) : Prop := ∃ (ni pv ln : Addr) (sz : Int32) (N P Q : Nat → Int32), own_PX Z h n0 a ni pv ln sz N P Q ∧ own_at sz k ∧ own_inv k N P Q pth
theorem own_PT.keep {k : Nat} {pth : Nat → List Int32} (X : own_PT Z h n0 a k pth) (K : Keep h h' []) : own_PT Z h' n0 a k pth := by
  obtain ⟨ni, pv, ln, sz, N, P, Q, x, r⟩ := X
  exact ⟨ni, pv, ln, sz, N, P, Q, x.keep K nin0 nin0 nin0 nin0, r⟩
theorem own_PT.exa {k : Nat} {pth : Nat → List Int32} (X : own_PT Z h n0 a k pth) : Exa Z h a "com/example/tapir/tapir/sampling/PathTree" := by
  obtain ⟨ni, pv, ln, sz, N, P, Q, x, r⟩ := X
  exact x.1
theorem own_PT.ge {k : Nat} {pth : Nat → List Int32} (X : own_PT Z h n0 a k pth) : n0 ≤ a := by
  obtain ⟨ni, pv, ln, sz, N, P, Q, x, r⟩ := X
  exact x.2.2.2.2.2.2.2.2.2.2.2.2.2.2.1
def own_updL (f : Nat → List Int32) (k : Nat) (l : List Int32) : Nat → List Int32 := fun j => if j = k then l else f j
theorem own_ch.mono {N' P' : Nat → Int32} {k k' : Nat} (hk : k ≤ k') (hN : ∀ e, e < k → N' e = N e ∧ P' e = P e) : ∀ (r : List Int32) (z : Int32), own_ch N P k r z → own_ch N' P' k' r z
  | [], _, _ => trivial
  | x :: r, z, ⟨e, h1, h2, h3, h4⟩ => ⟨e, by omega, h2, by rw [(hN e h1).1]; exact h3, by rw [(hN e h1).2]; exact own_ch.mono hk hN r _ h4⟩
theorem own_inv.add {k : Nat} {pth : Nat → List Int32} {v p w : Int32} {l : List Int32} (X : own_inv k N P Q pth) (hw : own_at w l.length) (hc : own_ch N P k l.reverse.tail p) (hl : l.reverse.head? = some v) :
    own_inv (k + 1) (own_updI N k v) (own_updI P k p) (own_updI Q k w) (own_updL pth k l) := by
  have hN : ∀ e, e < k → own_updI N k v e = N e ∧ own_updI P k p e = P e := fun e he => ⟨if_neg (by omega), if_neg (by omega)⟩
  intro e he
  by_cases q : e = k
  · subst q
    simp only [own_updL, own_updI, if_true]
    refine ⟨hw, fun z hz => ?_⟩
    cases hr : l.reverse with
    | nil => rw [hr] at hl; cases hl
    | cons x r =>
      rw [hr] at hl hc
      cases hl
      exact ⟨e, by omega, hz, if_pos rfl, by rw [show own_updI P e p e = p from if_pos rfl]; exact own_ch.mono (by omega) hN r _ hc⟩
  · obtain ⟨a1, a2⟩ := X e (by omega)
    simp only [own_updL, own_updI, if_neg q]
    exact ⟨a1, fun z hz => own_ch.mono (by omega) hN _ _ (a2 z hz)⟩
theorem own_inv.root {k : Nat} {pth : Nat → List Int32} {v : Int32} (X : own_inv k N P Q pth) : own_inv (k + 1) (own_updI N k v) (own_updI P k (-1 : Int32)) (own_updI Q k (1 : Int32)) (own_updL pth k [v]) :=
  X.add (own_at_lit rfl (by decide)) trivial rfl
theorem own_inv.after {k i : Nat} {pth : Nat → List Int32} {v p : Int32} (X : own_inv k N P Q pth) (hp : own_at p i) (hi : i < k) (hl : (pth i).length ≤ 1000) : own_inv (k + 1) (own_updI N k v) (own_updI P k p) (own_updI Q k ((Q i) + (1 : Int32))) (own_updL pth k (pth i ++ [v])) := by
  obtain ⟨a1, a2⟩ := X i hi
  refine X.add ?_ ?_ ?_
  · rw [List.length_append]; exact own_at_succ a1 hl
  · rw [List.reverse_append]; exact a2 p hp
  · rw [List.reverse_append]; rfl
end

theorem own_dec1 {i : Int32} {n : Nat} (h : i.toInt = ((n + 1 : Nat) : Int) - 1) : (i + (-1 : Int32)).toInt = (n : Int) - 1 := by
  have a := c_iadd i (-1); have b := rng32 (i + (-1)); have c := rng32 i
  have k : (-1 : Int32).toInt = -1 := by decide
  rw [k] at a
  omega
theorem own_lp {f : Nat → Value} {x : Int32} {r : List Int32} {n : Nat} : ∀ j, j < n → (if j < r.length then Value.int (r.reverse.getD j 0) else own_upd f r.length (.int x) j) = (if j < (x :: r).length then Value.int ((x :: r).reverse.getD j 0) else f j) := fun j _ => by
  rw [List.reverse_cons, List.length_cons]
  by_cases q : j < r.length
  · rw [if_pos q, if_pos (by omega)]
    congr 1
    simp only [List.getD_eq_getElem?_getD]
    rw [List.getElem?_append_left (by rw [List.length_reverse]; exact q)]
  · rw [if_neg q]
    by_cases u : j = r.length
    · subst u
      rw [own_upd_hit, if_pos (by omega)]
      congr 1
      simp only [List.getD_eq_getElem?_getD]
      rw [List.getElem?_append_right (by rw [List.length_reverse]; exact Nat.le_refl _), List.length_reverse]
      simp
    · rw [own_upd_miss _ _ u, if_neg (by omega)]
theorem own_pathf {l : List Int32} {f : Nat → Value} : ∀ j, j < l.length → (if j < l.reverse.length then Value.int (l.reverse.reverse.getD j 0) else f j) = Value.int (l.getD j 0) := fun j hj => by
  rw [List.reverse_reverse, List.length_reverse, if_pos hj]
theorem own_extf {l : List Int32} {v : Int32} (h : l.length ≤ 3) : ∀ i, i < 4 → own_upd (own_upd (own_upd (own_upd (own_upd (fun _ => (.int (0 : Int32))) 0 (.int (l.getD 0 0))) 1 (.int (l.getD 1 0))) 2 (.int (l.getD 2 0))) 3 (.int (l.getD 3 0))) l.length (.int v) i = Value.int ((l ++ [v]).getD i 0) := fun i hi => by
  have key : ∀ i, i < 4 → own_upd (own_upd (own_upd (own_upd (fun _ => (.int (0 : Int32))) 0 (.int (l.getD 0 0))) 1 (.int (l.getD 1 0))) 2 (.int (l.getD 2 0))) 3 (.int (l.getD 3 0)) i = Value.int (l.getD i 0) := fun i hi => by
    match i, hi with
    | 0, _ => rfl
    | 1, _ => rfl
    | 2, _ => rfl
    | 3, _ => rfl
  by_cases q : i = l.length
  · subst q
    rw [own_upd_hit]
    congr 1
    simp [List.getD_eq_getElem?_getD]
  · rw [own_upd_miss _ _ q, key i hi]
    congr 1
    simp only [List.getD_eq_getElem?_getD]
    by_cases u : i < l.length
    · rw [List.getElem?_append_left u]
    · rw [List.getElem?_append_right (by omega), List.getElem?_eq_none (by omega), List.getElem?_eq_none (by simp; omega)]
theorem own_lt_of {p z : Int32} {n j : Nat} (h : own_at p n) (hz : z.toInt = (j : Int)) (q : z < p) : j < n := by
  rw [Int32.lt_iff_toInt_lt, own_at_toInt h, hz] at q; omega

theorem d1_0 : decode prog_49_method_1_code 0 = .ok (.aload_n 0, 1) := by decide +kernel
theorem d1_1 : decode prog_49_method_1_code 1 = .ok (.invokespecial 1, 3) := by decide +kernel
theorem d1_4 : decode prog_49_method_1_code 4 = .ok (.aload_n 0, 1) := by decide +kernel
theorem d1_5 : decode prog_49_method_1_code 5 = .ok (.bipush 64, 2) := by decide +kernel
theorem d1_7 : decode prog_49_method_1_code 7 = .ok (.newarray .int, 2) := by decide +kernel
theorem d1_9 : decode prog_49_method_1_code 9 = .ok (.putfield 7, 3) := by decide +kernel
theorem d1_12 : decode prog_49_method_1_code 12 = .ok (.aload_n 0, 1) := by decide +kernel
theorem d1_13 : decode prog_49_method_1_code 13 = .ok (.bipush 64, 2) := by decide +kernel
theorem d1_15 : decode prog_49_method_1_code 15 = .ok (.newarray .int, 2) := by decide +kernel
theorem d1_17 : decode prog_49_method_1_code 17 = .ok (.putfield 13, 3) := by decide +kernel
theorem d1_20 : decode prog_49_method_1_code 20 = .ok (.aload_n 0, 1) := by decide +kernel
theorem d1_21 : decode prog_49_method_1_code 21 = .ok (.bipush 64, 2) := by decide +kernel
theorem d1_23 : decode prog_49_method_1_code 23 = .ok (.newarray .int, 2) := by decide +kernel
theorem d1_25 : decode prog_49_method_1_code 25 = .ok (.putfield 16, 3) := by decide +kernel
theorem d1_28 : decode prog_49_method_1_code 28 = .ok (.return_, 1) := by decide +kernel
theorem own_pn0 : plainName "com/example/tapir/tapir/sampling/PathTree" = true := by first | (simp [plainName, overriddenIn]; done) | decide +kernel
theorem own_ef_own_rmI (m : MethodId) (x0 : Addr) : entryFrame m #[(.ref x0)] 1 = mkF m 0 #[.val (.ref x0)] [] := by first | (simp [entryFrame, mkF, argsToLocals, Value.category]; done) | rfl
def own_Q_rmI (Z : State) (a1 : Addr) (h0 : Heap) (n0 : Nat) (v : Option Value) (h : Heap) (L : List Loc) : Prop := v = none ∧ Fr n0 L ∧ n0 ≤ h.size ∧ own_PT Z h n0 a1 0 (fun _ => [])
set_option maxRecDepth 65536 in
set_option maxHeartbeats 40000000 in
theorem own_rmI (l : Launch) (Z : State) (a0 : Array Value) (hw : ∀ d ∈ tables_1, d.before a0 Z = true) (a1 : Addr) (h0 : Heap) (n0 : Nat) (Z0 : n0 ≤ h0.size) (ga1 : n0 ≤ a1) (Ea1 : Exa Z h0 a1 "com/example/tapir/tapir/sampling/PathTree") (F_nodeId : Fld Z h0 a1 "com/example/tapir/tapir/sampling/PathTree" "nodeId" "[I" .null) (F_previous : Fld Z h0 a1 "com/example/tapir/tapir/sampling/PathTree" "previous" "[I" .null) (F_length : Fld Z h0 a1 "com/example/tapir/tapir/sampling/PathTree" "length" "[I" .null) (F_size : Fld Z h0 a1 "com/example/tapir/tapir/sampling/PathTree" "size" "I" (.int (0 : Int32))) :
    MetFree l (⟨"com/example/tapir/tapir/sampling/PathTree", "<init>", "()V"⟩ : MethodName) (head1 [Jvm.Cond.code (⟨"com/example/tapir/tapir/sampling/PathTree", "<init>", "()V"⟩ : MethodName) prog_49_method_1_code 1 none] ({ frames := 1, cells := 3, slots := 192, locals := 12 } : Room)) (fun a U => a = #[(.ref a1)] ∧ Z.Warmed39 U.vm ∧ U.heap = h0) (fun _ _ _ _ _ => True) (fun _ U o U' => ∃ v L, o = .returned v ∧ own_Q_rmI Z a1 h0 n0 v U'.heap L ∧ FrameEnd U o U' L ({ frames := 1, cells := 3, slots := 192, locals := 12 } : Room).cells ({ frames := 1, cells := 3, slots := 192, locals := 12 } : Room).slots) := by
  refine MetFree.of_bodySF (plainFor_of_name own_pn0) hisR ?_
  intro p e s m args below meth c s₁ Bd hml0 hP hK
  obtain ⟨rfl, hZ, hh⟩ := hP
  have hx := Bd.exec
  have hby := Bd.bytes
  have hret := Bd.returns
  have hlk := Bd.notSynchronized
  have hml : c.maxLocals = 1 := hml0
  have hown : s.vm.findClass "com/example/tapir/tapir/sampling/PathTree" = some m.cls := findClass_of_methodNamed Bd.named
  have hnm := (name_of_methodNamed Bd.named Bd.method).1
  have X0 : Stand p l e ({ frames := 1, cells := 3, slots := 192, locals := 12 } : Room) s m #[(.ref a1)] below meth c s₁ [] 0 0 := Stand.of_body Bd
  have e0 : s₁.heap = h0 := by rw [← hh, Bd.state]; rfl
  have N0 := Fr.nil n0
  refine own_Go.cast (own_ef_own_rmI m a1) ?_
  refine own_step (T' := s₁) (f' := (mkF m 1 #[.val (.ref a1)] [(.ref a1)])) (fun tt kont => ?_) ?_
  · show Steps p.tables e below (s₁.setTop (mkF m 0 #[.val (.ref a1)] [])) _
    refine XS.aloadN X0.here hx rfl (hb hby d1_0) rfl rfl ?_
    exact kont
  obtain ⟨T101, X101, e101, st101⟩ := initO X0 hx hZ hown (hw _ (List.mem_of_getElem? (i := 6) rfl)) (hw _ (List.mem_of_getElem? (i := 7) rfl)) (hw _ (List.mem_of_getElem? (i := 8) rfl)) e0 (g := (mkF m 1 #[.val (.ref a1)] [(.ref a1)])) rfl (by rw [hml]; rfl) rfl (hb hby d1_1) (by decide) (W := 0) (by show 2 * 0 + _ ≤ _; exact Nat.le_of_eq rfl) (by decide)
  refine own_step st101 ?_
  refine own_step (T' := T101) (f' := (mkF m 7 #[.val (.ref a1)] [(.int (64 : Int32)), (.ref a1)])) (fun tt kont => ?_) ?_
  · show Steps p.tables e below (T101.setTop (mkF m 4 #[.val (.ref a1)] [])) _
    refine XS.aloadN X101.here hx rfl (hb hby d1_4) rfl rfl ?_
    show Steps p.tables e below (T101.setTop (mkF m 5 #[.val (.ref a1)] [(.ref a1)])) _
    refine XS.bipush X101.here hx rfl (hb hby d1_5) ?_
    exact kont
  obtain ⟨T102, h102, k102, X102, e102, E102, A102, st102⟩ := newP X101 hx hZ (hw _ (List.mem_of_getElem? (i := 9) rfl)) e101 (g := (mkF m 7 #[.val (.ref a1)] [(.int (64 : Int32)), (.ref a1)])) rfl (hb hby d1_7) rfl (by decide) (cap := 64) (by decide) (by decide) (by decide) (by decide)
  obtain ⟨ni, g102⟩ : ∃ z, z = h0.size := ⟨_, rfl⟩
  have g_ni : n0 ≤ ni := Nat.le_trans Z0 (Nat.le_of_eq g102.symm)
  have Z102 : n0 ≤ h102.size := Nat.le_trans Z0 E102.1
  have ne_a1_ni : a1 ≠ ni := Nat.ne_of_lt (Nat.lt_of_lt_of_le Ea1.lt (Nat.le_of_eq g102.symm))
  rw [← g102] at A102 st102
  have E_a1_102 : Exa Z h102 a1 "com/example/tapir/tapir/sampling/PathTree" := Ea1.ext E102
  have F_a1_nodeId_102 : Fld Z h102 a1 "com/example/tapir/tapir/sampling/PathTree" "nodeId" "[I" .null := F_nodeId.ext E102
  have F_a1_previous_102 : Fld Z h102 a1 "com/example/tapir/tapir/sampling/PathTree" "previous" "[I" .null := F_previous.ext E102
  have F_a1_length_102 : Fld Z h102 a1 "com/example/tapir/tapir/sampling/PathTree" "length" "[I" .null := F_length.ext E102
  have F_a1_size_102 : Fld Z h102 a1 "com/example/tapir/tapir/sampling/PathTree" "size" "I" (.int (0 : Int32)) := F_size.ext E102
  have V_ni_102 : own_A Z h102 ni .int 64 (fun _ => (.int (0 : Int32))) := own_A.new A102 rfl
  refine own_step st102 ?_
  obtain ⟨T103, h103, X103, e103, W103, st103⟩ := putF X102 hx hZ hown (host := "") (Or.inl (hw _ (List.mem_of_getElem? (i := 10) rfl))) Via.refl e102 F_a1_nodeId_102 E_a1_102 (Or.inl (hw _ (List.mem_of_getElem? (i := 11) rfl))) (hw _ (List.mem_of_getElem? (i := 1) rfl)) (ty := (.array .int)) (by decide) rfl rfl (g := (mkF m 9 #[.val (.ref a1)] [(.ref ni), (.ref a1)])) rfl rfl (hb hby d1_9)
  have N103 := Fr.snoc X103 N0 ga1
  have Z103 : n0 ≤ h103.size := Nat.le_trans Z102 (Keep.of_wr W103).1
  have E_a1_103 : Exa Z h103 a1 "com/example/tapir/tapir/sampling/PathTree" := E_a1_102.wr W103
  have F_a1_previous_103 : Fld Z h103 a1 "com/example/tapir/tapir/sampling/PathTree" "previous" "[I" .null := F_a1_previous_102.other W103 (Or.inr (slot_ne (Or.inl (hw _ (List.mem_of_getElem? (i := 13) rfl))) (Or.inl (hw _ (List.mem_of_getElem? (i := 11) rfl))) (by decide) (t := (.array .int)) (t' := (.array .int)) (by decide) (by decide)))
  have F_a1_length_103 : Fld Z h103 a1 "com/example/tapir/tapir/sampling/PathTree" "length" "[I" .null := F_a1_length_102.other W103 (Or.inr (slot_ne (Or.inl (hw _ (List.mem_of_getElem? (i := 15) rfl))) (Or.inl (hw _ (List.mem_of_getElem? (i := 11) rfl))) (by decide) (t := (.array .int)) (t' := (.array .int)) (by decide) (by decide)))
  have F_a1_size_103 : Fld Z h103 a1 "com/example/tapir/tapir/sampling/PathTree" "size" "I" (.int (0 : Int32)) := F_a1_size_102.other W103 (Or.inr (slot_ne (Or.inl (hw _ (List.mem_of_getElem? (i := 26) rfl))) (Or.inl (hw _ (List.mem_of_getElem? (i := 11) rfl))) (by decide) (t := .int) (t' := (.array .int)) (by decide) (by decide)))
  have V_ni_103 : own_A Z h103 ni .int 64 (fun _ => (.int (0 : Int32))) := V_ni_102.other W103 (Ne.symm ne_a1_ni)
  have F_a1_nodeId_103 : Fld Z h103 a1 "com/example/tapir/tapir/sampling/PathTree" "nodeId" "[I" (.ref ni) := F_a1_nodeId_102.same W103
  refine own_step st103 ?_
  refine own_step (T' := T103) (f' := (mkF m 15 #[.val (.ref a1)] [(.int (64 : Int32)), (.ref a1)])) (fun tt kont => ?_) ?_
  · show Steps p.tables e below (T103.setTop (mkF m 12 #[.val (.ref a1)] [])) _
    refine XS.aloadN X103.here hx rfl (hb hby d1_12) rfl rfl ?_
    show Steps p.tables e below (T103.setTop (mkF m 13 #[.val (.ref a1)] [(.ref a1)])) _
    refine XS.bipush X103.here hx rfl (hb hby d1_13) ?_
    exact kont
  obtain ⟨T104, h104, k104, X104, e104, E104, A104, st104⟩ := newP X103 hx hZ (hw _ (List.mem_of_getElem? (i := 9) rfl)) e103 (g := (mkF m 15 #[.val (.ref a1)] [(.int (64 : Int32)), (.ref a1)])) rfl (hb hby d1_15) rfl (by decide) (cap := 64) (by decide) (by decide) (by decide) (by decide)
  obtain ⟨pv, g104⟩ : ∃ z, z = h103.size := ⟨_, rfl⟩
  have g_pv : n0 ≤ pv := Nat.le_trans Z103 (Nat.le_of_eq g104.symm)
  have Z104 : n0 ≤ h104.size := Nat.le_trans Z103 E104.1
  have ne_a1_pv : a1 ≠ pv := Nat.ne_of_lt (Nat.lt_of_lt_of_le E_a1_103.lt (Nat.le_of_eq g104.symm))
  have ne_ni_pv : ni ≠ pv := Nat.ne_of_lt (Nat.lt_of_lt_of_le V_ni_103.lt (Nat.le_of_eq g104.symm))
  rw [← g104] at A104 st104
  have E_a1_104 : Exa Z h104 a1 "com/example/tapir/tapir/sampling/PathTree" := E_a1_103.ext E104
  have F_a1_nodeId_104 : Fld Z h104 a1 "com/example/tapir/tapir/sampling/PathTree" "nodeId" "[I" (.ref ni) := F_a1_nodeId_103.ext E104
  have F_a1_previous_104 : Fld Z h104 a1 "com/example/tapir/tapir/sampling/PathTree" "previous" "[I" .null := F_a1_previous_103.ext E104
  have F_a1_length_104 : Fld Z h104 a1 "com/example/tapir/tapir/sampling/PathTree" "length" "[I" .null := F_a1_length_103.ext E104
  have F_a1_size_104 : Fld Z h104 a1 "com/example/tapir/tapir/sampling/PathTree" "size" "I" (.int (0 : Int32)) := F_a1_size_103.ext E104
  have V_ni_104 : own_A Z h104 ni .int 64 (fun _ => (.int (0 : Int32))) := V_ni_103.ext E104
  have V_pv_104 : own_A Z h104 pv .int 64 (fun _ => (.int (0 : Int32))) := own_A.new A104 rfl
  refine own_step st104 ?_
  obtain ⟨T105, h105, X105, e105, W105, st105⟩ := putF X104 hx hZ hown (host := "") (Or.inl (hw _ (List.mem_of_getElem? (i := 12) rfl))) Via.refl e104 F_a1_previous_104 E_a1_104 (Or.inl (hw _ (List.mem_of_getElem? (i := 13) rfl))) (hw _ (List.mem_of_getElem? (i := 1) rfl)) (ty := (.array .int)) (by decide) rfl rfl (g := (mkF m 17 #[.val (.ref a1)] [(.ref pv), (.ref a1)])) rfl rfl (hb hby d1_17)
  have N105 := Fr.snoc X105 N103 ga1
  have Z105 : n0 ≤ h105.size := Nat.le_trans Z104 (Keep.of_wr W105).1
  have E_a1_105 : Exa Z h105 a1 "com/example/tapir/tapir/sampling/PathTree" := E_a1_104.wr W105
  have F_a1_nodeId_105 : Fld Z h105 a1 "com/example/tapir/tapir/sampling/PathTree" "nodeId" "[I" (.ref ni) := F_a1_nodeId_104.other W105 (Or.inr (slot_ne (Or.inl (hw _ (List.mem_of_getElem? (i := 11) rfl))) (Or.inl (hw _ (List.mem_of_getElem? (i := 13) rfl))) (by decide) (t := (.array .int)) (t' := (.array .int)) (by decide) (by decide)))
  have F_a1_length_105 : Fld Z h105 a1 "com/example/tapir/tapir/sampling/PathTree" "length" "[I" .null := F_a1_length_104.other W105 (Or.inr (slot_ne (Or.inl (hw _ (List.mem_of_getElem? (i := 15) rfl))) (Or.inl (hw _ (List.mem_of_getElem? (i := 13) rfl))) (by decide) (t := (.array .int)) (t' := (.array .int)) (by decide) (by decide)))
  have F_a1_size_105 : Fld Z h105 a1 "com/example/tapir/tapir/sampling/PathTree" "size" "I" (.int (0 : Int32)) := F_a1_size_104.other W105 (Or.inr (slot_ne (Or.inl (hw _ (List.mem_of_getElem? (i := 26) rfl))) (Or.inl (hw _ (List.mem_of_getElem? (i := 13) rfl))) (by decide) (t := .int) (t' := (.array .int)) (by decide) (by decide)))
  have V_ni_105 : own_A Z h105 ni .int 64 (fun _ => (.int (0 : Int32))) := V_ni_104.other W105 (Ne.symm ne_a1_ni)
  have V_pv_105 : own_A Z h105 pv .int 64 (fun _ => (.int (0 : Int32))) := V_pv_104.other W105 (Ne.symm ne_a1_pv)
  have F_a1_previous_105 : Fld Z h105 a1 "com/example/tapir/tapir/sampling/PathTree" "previous" "[I" (.ref pv) := F_a1_previous_104.same W105
  refine own_step st105 ?_
  refine own_step (T' := T105) (f' := (mkF m 23 #[.val (.ref a1)] [(.int (64 : Int32)), (.ref a1)])) (fun tt kont => ?_) ?_
  · show Steps p.tables e below (T105.setTop (mkF m 20 #[.val (.ref a1)] [])) _
    refine XS.aloadN X105.here hx rfl (hb hby d1_20) rfl rfl ?_
    show Steps p.tables e below (T105.setTop (mkF m 21 #[.val (.ref a1)] [(.ref a1)])) _
    refine XS.bipush X105.here hx rfl (hb hby d1_21) ?_
    exact kont
  obtain ⟨T106, h106, k106, X106, e106, E106, A106, st106⟩ := newP X105 hx hZ (hw _ (List.mem_of_getElem? (i := 9) rfl)) e105 (g := (mkF m 23 #[.val (.ref a1)] [(.int (64 : Int32)), (.ref a1)])) rfl (hb hby d1_23) rfl (by decide) (cap := 64) (by decide) (by decide) (by decide) (by decide)
  obtain ⟨ln, g106⟩ : ∃ z, z = h105.size := ⟨_, rfl⟩
  have g_ln : n0 ≤ ln := Nat.le_trans Z105 (Nat.le_of_eq g106.symm)
  have Z106 : n0 ≤ h106.size := Nat.le_trans Z105 E106.1
  have ne_a1_ln : a1 ≠ ln := Nat.ne_of_lt (Nat.lt_of_lt_of_le E_a1_105.lt (Nat.le_of_eq g106.symm))
  have ne_ni_ln : ni ≠ ln := Nat.ne_of_lt (Nat.lt_of_lt_of_le V_ni_105.lt (Nat.le_of_eq g106.symm))
  have ne_pv_ln : pv ≠ ln := Nat.ne_of_lt (Nat.lt_of_lt_of_le V_pv_105.lt (Nat.le_of_eq g106.symm))
  rw [← g106] at A106 st106
  have E_a1_106 : Exa Z h106 a1 "com/example/tapir/tapir/sampling/PathTree" := E_a1_105.ext E106
  have F_a1_nodeId_106 : Fld Z h106 a1 "com/example/tapir/tapir/sampling/PathTree" "nodeId" "[I" (.ref ni) := F_a1_nodeId_105.ext E106
  have F_a1_previous_106 : Fld Z h106 a1 "com/example/tapir/tapir/sampling/PathTree" "previous" "[I" (.ref pv) := F_a1_previous_105.ext E106
  have F_a1_length_106 : Fld Z h106 a1 "com/example/tapir/tapir/sampling/PathTree" "length" "[I" .null := F_a1_length_105.ext E106
  have F_a1_size_106 : Fld Z h106 a1 "com/example/tapir/tapir/sampling/PathTree" "size" "I" (.int (0 : Int32)) := F_a1_size_105.ext E106
  have V_ni_106 : own_A Z h106 ni .int 64 (fun _ => (.int (0 : Int32))) := V_ni_105.ext E106
  have V_pv_106 : own_A Z h106 pv .int 64 (fun _ => (.int (0 : Int32))) := V_pv_105.ext E106
  have V_ln_106 : own_A Z h106 ln .int 64 (fun _ => (.int (0 : Int32))) := own_A.new A106 rfl
  refine own_step st106 ?_
  obtain ⟨T107, h107, X107, e107, W107, st107⟩ := putF X106 hx hZ hown (host := "") (Or.inl (hw _ (List.mem_of_getElem? (i := 14) rfl))) Via.refl e106 F_a1_length_106 E_a1_106 (Or.inl (hw _ (List.mem_of_getElem? (i := 15) rfl))) (hw _ (List.mem_of_getElem? (i := 1) rfl)) (ty := (.array .int)) (by decide) rfl rfl (g := (mkF m 25 #[.val (.ref a1)] [(.ref ln), (.ref a1)])) rfl rfl (hb hby d1_25)
  have N107 := Fr.snoc X107 N105 ga1
  have Z107 : n0 ≤ h107.size := Nat.le_trans Z106 (Keep.of_wr W107).1
  have E_a1_107 : Exa Z h107 a1 "com/example/tapir/tapir/sampling/PathTree" := E_a1_106.wr W107
  have F_a1_nodeId_107 : Fld Z h107 a1 "com/example/tapir/tapir/sampling/PathTree" "nodeId" "[I" (.ref ni) := F_a1_nodeId_106.other W107 (Or.inr (slot_ne (Or.inl (hw _ (List.mem_of_getElem? (i := 11) rfl))) (Or.inl (hw _ (List.mem_of_getElem? (i := 15) rfl))) (by decide) (t := (.array .int)) (t' := (.array .int)) (by decide) (by decide)))
  have F_a1_previous_107 : Fld Z h107 a1 "com/example/tapir/tapir/sampling/PathTree" "previous" "[I" (.ref pv) := F_a1_previous_106.other W107 (Or.inr (slot_ne (Or.inl (hw _ (List.mem_of_getElem? (i := 13) rfl))) (Or.inl (hw _ (List.mem_of_getElem? (i := 15) rfl))) (by decide) (t := (.array .int)) (t' := (.array .int)) (by decide) (by decide)))
  have F_a1_size_107 : Fld Z h107 a1 "com/example/tapir/tapir/sampling/PathTree" "size" "I" (.int (0 : Int32)) := F_a1_size_106.other W107 (Or.inr (slot_ne (Or.inl (hw _ (List.mem_of_getElem? (i := 26) rfl))) (Or.inl (hw _ (List.mem_of_getElem? (i := 15) rfl))) (by decide) (t := .int) (t' := (.array .int)) (by decide) (by decide)))
  have V_ni_107 : own_A Z h107 ni .int 64 (fun _ => (.int (0 : Int32))) := V_ni_106.other W107 (Ne.symm ne_a1_ni)
  have V_pv_107 : own_A Z h107 pv .int 64 (fun _ => (.int (0 : Int32))) := V_pv_106.other W107 (Ne.symm ne_a1_pv)
  have V_ln_107 : own_A Z h107 ln .int 64 (fun _ => (.int (0 : Int32))) := V_ln_106.other W107 (Ne.symm ne_a1_ln)
  have F_a1_length_107 : Fld Z h107 a1 "com/example/tapir/tapir/sampling/PathTree" "length" "[I" (.ref ln) := F_a1_length_106.same W107
  refine own_step st107 ?_
  exact own_retV X107 hx hret hlk (hb hby d1_28) (by decide) (by decide) (by rw [e107]; exact ⟨rfl, N107, Z107, ni, pv, ln, 0, fun _ => 0, fun _ => 0, fun _ => 0, ⟨E_a1_107, F_a1_nodeId_107, F_a1_previous_107, F_a1_length_107, F_a1_size_107, V_ni_107, V_pv_107, V_ln_107, ne_a1_ni, ne_a1_pv, ne_a1_ln, ne_ni_pv, ne_ni_ln, ne_pv_ln, ga1, g_ni, g_pv, g_ln⟩, own_at_lit rfl (by decide), fun e he => absurd he (Nat.not_lt_zero e)⟩)
theorem d4_0 : decode prog_49_method_6_code 0 = .ok (.aload_n 0, 1) := by decide +kernel
theorem d4_1 : decode prog_49_method_6_code 1 = .ok (.getfield 23, 3) := by decide +kernel
theorem d4_4 : decode prog_49_method_6_code 4 = .ok (.aload_n 0, 1) := by decide +kernel
theorem d4_5 : decode prog_49_method_6_code 5 = .ok (.getfield 7, 3) := by decide +kernel
theorem d4_8 : decode prog_49_method_6_code 8 = .ok (.arraylength, 1) := by decide +kernel
theorem d4_9 : decode prog_49_method_6_code 9 = .ok (.if_icmp .ne 57, 3) := by decide +kernel
theorem d4_12 : decode prog_49_method_6_code 12 = .ok (.aload_n 0, 1) := by decide +kernel
theorem d4_13 : decode prog_49_method_6_code 13 = .ok (.getfield 23, 3) := by decide +kernel
theorem d4_16 : decode prog_49_method_6_code 16 = .ok (.aload_n 0, 1) := by decide +kernel
theorem d4_17 : decode prog_49_method_6_code 17 = .ok (.getfield 23, 3) := by decide +kernel
theorem d4_20 : decode prog_49_method_6_code 20 = .ok (.iconst 2, 1) := by decide +kernel
theorem d4_21 : decode prog_49_method_6_code 21 = .ok (.idiv, 1) := by decide +kernel
theorem d4_22 : decode prog_49_method_6_code 22 = .ok (.invokestatic 27, 3) := by decide +kernel
theorem d4_25 : decode prog_49_method_6_code 25 = .ok (.istore 4, 2) := by decide +kernel
theorem d4_27 : decode prog_49_method_6_code 27 = .ok (.aload_n 0, 1) := by decide +kernel
theorem d4_28 : decode prog_49_method_6_code 28 = .ok (.aload_n 0, 1) := by decide +kernel
theorem d4_29 : decode prog_49_method_6_code 29 = .ok (.getfield 7, 3) := by decide +kernel
theorem d4_32 : decode prog_49_method_6_code 32 = .ok (.iload 4, 2) := by decide +kernel
theorem d4_34 : decode prog_49_method_6_code 34 = .ok (.invokestatic 33, 3) := by decide +kernel
theorem d4_37 : decode prog_49_method_6_code 37 = .ok (.putfield 7, 3) := by decide +kernel
theorem d4_40 : decode prog_49_method_6_code 40 = .ok (.aload_n 0, 1) := by decide +kernel
theorem d4_41 : decode prog_49_method_6_code 41 = .ok (.aload_n 0, 1) := by decide +kernel
theorem d4_42 : decode prog_49_method_6_code 42 = .ok (.getfield 13, 3) := by decide +kernel
theorem d4_45 : decode prog_49_method_6_code 45 = .ok (.iload 4, 2) := by decide +kernel
theorem d4_47 : decode prog_49_method_6_code 47 = .ok (.invokestatic 33, 3) := by decide +kernel
theorem d4_50 : decode prog_49_method_6_code 50 = .ok (.putfield 13, 3) := by decide +kernel
theorem d4_53 : decode prog_49_method_6_code 53 = .ok (.aload_n 0, 1) := by decide +kernel
theorem d4_54 : decode prog_49_method_6_code 54 = .ok (.aload_n 0, 1) := by decide +kernel
theorem d4_55 : decode prog_49_method_6_code 55 = .ok (.getfield 16, 3) := by decide +kernel
theorem d4_58 : decode prog_49_method_6_code 58 = .ok (.iload 4, 2) := by decide +kernel
theorem d4_60 : decode prog_49_method_6_code 60 = .ok (.invokestatic 33, 3) := by decide +kernel
theorem d4_63 : decode prog_49_method_6_code 63 = .ok (.putfield 16, 3) := by decide +kernel
theorem d4_66 : decode prog_49_method_6_code 66 = .ok (.aload_n 0, 1) := by decide +kernel
theorem d4_67 : decode prog_49_method_6_code 67 = .ok (.getfield 7, 3) := by decide +kernel
theorem d4_70 : decode prog_49_method_6_code 70 = .ok (.aload_n 0, 1) := by decide +kernel
theorem d4_71 : decode prog_49_method_6_code 71 = .ok (.getfield 23, 3) := by decide +kernel
theorem d4_74 : decode prog_49_method_6_code 74 = .ok (.iload_n 1, 1) := by decide +kernel
theorem d4_75 : decode prog_49_method_6_code 75 = .ok (.iastore, 1) := by decide +kernel
theorem d4_76 : decode prog_49_method_6_code 76 = .ok (.aload_n 0, 1) := by decide +kernel
theorem d4_77 : decode prog_49_method_6_code 77 = .ok (.getfield 13, 3) := by decide +kernel
theorem d4_80 : decode prog_49_method_6_code 80 = .ok (.aload_n 0, 1) := by decide +kernel
theorem d4_81 : decode prog_49_method_6_code 81 = .ok (.getfield 23, 3) := by decide +kernel
theorem d4_84 : decode prog_49_method_6_code 84 = .ok (.iload_n 2, 1) := by decide +kernel
theorem d4_85 : decode prog_49_method_6_code 85 = .ok (.iastore, 1) := by decide +kernel
theorem d4_86 : decode prog_49_method_6_code 86 = .ok (.aload_n 0, 1) := by decide +kernel
theorem d4_87 : decode prog_49_method_6_code 87 = .ok (.getfield 16, 3) := by decide +kernel
theorem d4_90 : decode prog_49_method_6_code 90 = .ok (.aload_n 0, 1) := by decide +kernel
theorem d4_91 : decode prog_49_method_6_code 91 = .ok (.getfield 23, 3) := by decide +kernel
theorem d4_94 : decode prog_49_method_6_code 94 = .ok (.iload_n 3, 1) := by decide +kernel
theorem d4_95 : decode prog_49_method_6_code 95 = .ok (.iastore, 1) := by decide +kernel
theorem d4_96 : decode prog_49_method_6_code 96 = .ok (.aload_n 0, 1) := by decide +kernel
theorem d4_97 : decode prog_49_method_6_code 97 = .ok (.dup, 1) := by decide +kernel
theorem d4_98 : decode prog_49_method_6_code 98 = .ok (.getfield 23, 3) := by decide +kernel
theorem d4_101 : decode prog_49_method_6_code 101 = .ok (.dup_x1, 1) := by decide +kernel
theorem d4_102 : decode prog_49_method_6_code 102 = .ok (.iconst 1, 1) := by decide +kernel
theorem d4_103 : decode prog_49_method_6_code 103 = .ok (.iadd, 1) := by decide +kernel
theorem d4_104 : decode prog_49_method_6_code 104 = .ok (.putfield 23, 3) := by decide +kernel
theorem d4_107 : decode prog_49_method_6_code 107 = .ok (.ireturn, 1) := by decide +kernel
theorem own_ef_own_rmA (m : MethodId) (x0 : Addr) (x1 : Int32) (x2 : Int32) (x3 : Int32) : entryFrame m #[(.ref x0), (.int x1), (.int x2), (.int x3)] 5 = mkF m 0 #[.val (.ref x0), .val (.int x1), .val (.int x2), .val (.int x3), .unset] [] := by first | (simp [entryFrame, mkF, argsToLocals, Value.category]; done) | rfl
def own_Q_rmA (Z : State) (a1 : Addr) (p2 : Int32) (p3 : Int32) (p4 : Int32) (ni pv ln : Addr) (sz : Int32) (N P Q : Nat → Int32) (k : Nat) (h0 : Heap) (n0 : Nat) (v : Option Value) (h : Heap) (L : List Loc) : Prop := v = some (.int sz) ∧ Fr n0 L ∧ n0 ≤ h.size ∧ own_PX Z h n0 a1 ni pv ln (sz + (1 : Int32)) (own_updI N k p2) (own_updI P k p3) (own_updI Q k p4)
set_option maxRecDepth 65536 in
set_option maxHeartbeats 40000000 in
theorem own_rmA (l : Launch) (Z : State) (a0 : Array Value) (hw : ∀ d ∈ tables_1, d.before a0 Z = true) (a1 : Addr) (p2 : Int32) (p3 : Int32) (p4 : Int32) (ni pv ln : Addr) (sz : Int32) (N P Q : Nat → Int32) (k : Nat) (h0 : Heap) (n0 : Nat) (Z0 : n0 ≤ h0.size) (PX : own_PX Z h0 n0 a1 ni pv ln sz N P Q) (hk : own_at sz k) (hk64 : k < 64) (hn64 : ¬ (sz = (64 : Int32))) :
    MetFree l (⟨"com/example/tapir/tapir/sampling/PathTree", "add", "(III)I"⟩ : MethodName) (head1 [Jvm.Cond.code (⟨"com/example/tapir/tapir/sampling/PathTree", "add", "(III)I"⟩ : MethodName) prog_49_method_6_code 5 (some .int)] ({ frames := 0, cells := 0, slots := 0, locals := 0 } : Room)) (fun a U => a = #[(.ref a1), (.int p2), (.int p3), (.int p4)] ∧ Z.Warmed39 U.vm ∧ U.heap = h0) (fun _ _ _ _ _ => True) (fun _ U o U' => ∃ v L, o = .returned v ∧ own_Q_rmA Z a1 p2 p3 p4 ni pv ln sz N P Q k h0 n0 v U'.heap L ∧ FrameEnd U o U' L ({ frames := 0, cells := 0, slots := 0, locals := 0 } : Room).cells ({ frames := 0, cells := 0, slots := 0, locals := 0 } : Room).slots) := by
  refine MetFree.of_bodySF (plainFor_of_name own_pn0) hisR ?_
  intro p e s m args below meth c s₁ Bd hml0 hP hK
  obtain ⟨rfl, hZ, hh⟩ := hP
  have hx := Bd.exec
  have hby := Bd.bytes
  have hret := Bd.returns
  have hlk := Bd.notSynchronized
  have hml : c.maxLocals = 5 := hml0
  have hown : s.vm.findClass "com/example/tapir/tapir/sampling/PathTree" = some m.cls := findClass_of_methodNamed Bd.named
  have hnm := (name_of_methodNamed Bd.named Bd.method).1
  have X0 : Stand p l e ({ frames := 0, cells := 0, slots := 0, locals := 0 } : Room) s m #[(.ref a1), (.int p2), (.int p3), (.int p4)] below meth c s₁ [] 0 0 := Stand.of_body Bd
  have e0 : s₁.heap = h0 := by rw [← hh, Bd.state]; rfl
  have N0 := Fr.nil n0
  refine own_Go.cast (own_ef_own_rmA m a1 p2 p3 p4) ?_
  refine own_step (T' := s₁) (f' := (mkF m 1 #[.val (.ref a1), .val (.int p2), .val (.int p3), .val (.int p4), .unset] [(.ref a1)])) (fun tt kont => ?_) ?_
  · show Steps p.tables e below (s₁.setTop (mkF m 0 #[.val (.ref a1), .val (.int p2), .val (.int p3), .val (.int p4), .unset] [])) _
    refine XS.aloadN X0.here hx rfl (hb hby d4_0) rfl rfl ?_
    exact kont
  obtain ⟨T101, X101, e101, st101⟩ := getF X0 hx hZ hown (host := "") (Or.inl (hw _ (List.mem_of_getElem? (i := 25) rfl))) Via.refl e0 PX.2.2.2.2.1 (g := (mkF m 1 #[.val (.ref a1), .val (.int p2), .val (.int p3), .val (.int p4), .unset] [(.ref a1)])) rfl rfl (hb hby d4_1)
  refine own_step st101 ?_
  refine own_step (T' := T101) (f' := (mkF m 5 #[.val (.ref a1), .val (.int p2), .val (.int p3), .val (.int p4), .unset] [(.ref a1), (.int sz)])) (fun tt kont => ?_) ?_
  · show Steps p.tables e below (T101.setTop (mkF m 4 #[.val (.ref a1), .val (.int p2), .val (.int p3), .val (.int p4), .unset] [(.int sz)])) _
    refine XS.aloadN X101.here hx rfl (hb hby d4_4) rfl rfl ?_
    exact kont
  obtain ⟨T102, X102, e102, st102⟩ := getF X101 hx hZ hown (host := "") (Or.inl (hw _ (List.mem_of_getElem? (i := 10) rfl))) Via.refl e101 PX.2.1 (g := (mkF m 5 #[.val (.ref a1), .val (.int p2), .val (.int p3), .val (.int p4), .unset] [(.ref a1), (.int sz)])) rfl rfl (hb hby d4_5)
  refine own_step st102 ?_
  refine own_step (T' := T102) (f' := (mkF m 67 #[.val (.ref a1), .val (.int p2), .val (.int p3), .val (.int p4), .unset] [(.ref a1)])) (fun tt kont => ?_) ?_
  · show Steps p.tables e below (T102.setTop (mkF m 8 #[.val (.ref a1), .val (.int p2), .val (.int p3), .val (.int p4), .unset] [(.ref ni), (.int sz)])) _
    refine own_alen X102 hx hZ e102 PX.2.2.2.2.2.1 (z := (64 : Int32)) rfl (g := (mkF m 8 #[.val (.ref a1), .val (.int p2), .val (.int p3), .val (.int p4), .unset] [(.ref ni), (.int sz)])) rfl rfl (hb hby d4_8) _ ?_
    show Steps p.tables e below (T102.setTop (mkF m 9 #[.val (.ref a1), .val (.int p2), .val (.int p3), .val (.int p4), .unset] [(.int (64 : Int32)), (.int sz)])) _
    refine XS.icmpYes X102.here hx rfl (pc0 := 9) (pc' := 66) rfl (hb hby d4_9) rfl (feq hn64).2 (by decide) (by decide) ?_
    show Steps p.tables e below (T102.setTop (mkF m 66 #[.val (.ref a1), .val (.int p2), .val (.int p3), .val (.int p4), .unset] [])) _
    refine XS.aloadN X102.here hx rfl (hb hby d4_66) rfl rfl ?_
    exact kont
  obtain ⟨T103, X103, e103, st103⟩ := getF X102 hx hZ hown (host := "") (Or.inl (hw _ (List.mem_of_getElem? (i := 10) rfl))) Via.refl e102 PX.2.1 (g := (mkF m 67 #[.val (.ref a1), .val (.int p2), .val (.int p3), .val (.int p4), .unset] [(.ref a1)])) rfl rfl (hb hby d4_67)
  refine own_step st103 ?_
  refine own_step (T' := T103) (f' := (mkF m 71 #[.val (.ref a1), .val (.int p2), .val (.int p3), .val (.int p4), .unset] [(.ref a1), (.ref ni)])) (fun tt kont => ?_) ?_
  · show Steps p.tables e below (T103.setTop (mkF m 70 #[.val (.ref a1), .val (.int p2), .val (.int p3), .val (.int p4), .unset] [(.ref ni)])) _
    refine XS.aloadN X103.here hx rfl (hb hby d4_70) rfl rfl ?_
    exact kont
  obtain ⟨T104, X104, e104, st104⟩ := getF X103 hx hZ hown (host := "") (Or.inl (hw _ (List.mem_of_getElem? (i := 25) rfl))) Via.refl e103 PX.2.2.2.2.1 (g := (mkF m 71 #[.val (.ref a1), .val (.int p2), .val (.int p3), .val (.int p4), .unset] [(.ref a1), (.ref ni)])) rfl rfl (hb hby d4_71)
  refine own_step st104 ?_
  refine own_step (T' := T104) (f' := (mkF m 75 #[.val (.ref a1), .val (.int p2), .val (.int p3), .val (.int p4), .unset] [(.int p2), (.int sz), (.ref ni)])) (fun tt kont => ?_) ?_
  · show Steps p.tables e below (T104.setTop (mkF m 74 #[.val (.ref a1), .val (.int p2), .val (.int p3), .val (.int p4), .unset] [(.int sz), (.ref ni)])) _
    refine XS.iloadN X104.here hx rfl (hb hby d4_74) rfl ?_
    exact kont
  obtain ⟨T105, h105, X105, e105, W105, V_ni_105, st105⟩ := own_stI X104 hx hZ e104 PX.2.2.2.2.2.1 (j := sz) (i := k) hk hk64 (g := (mkF m 75 #[.val (.ref a1), .val (.int p2), .val (.int p3), .val (.int p4), .unset] [(.int p2), (.int sz), (.ref ni)])) rfl rfl (hb hby d4_75)
  have N105 := Fr.snoc X105 N0 PX.2.2.2.2.2.2.2.2.2.2.2.2.2.2.2.1
  have Z105 : n0 ≤ h105.size := Nat.le_trans Z0 (Keep.of_wr W105).1
  have E_a1_105 : Exa Z h105 a1 "com/example/tapir/tapir/sampling/PathTree" := PX.1.wr W105
  have F_a1_nodeId_105 : Fld Z h105 a1 "com/example/tapir/tapir/sampling/PathTree" "nodeId" "[I" (.ref ni) := PX.2.1.other W105 (Or.inl PX.2.2.2.2.2.2.2.2.1)
  have F_a1_previous_105 : Fld Z h105 a1 "com/example/tapir/tapir/sampling/PathTree" "previous" "[I" (.ref pv) := PX.2.2.1.other W105 (Or.inl PX.2.2.2.2.2.2.2.2.1)
  have V_pv_105 : own_A Z h105 pv .int 64 (fun i => .int (P i)) := PX.2.2.2.2.2.2.1.other W105 (Ne.symm PX.2.2.2.2.2.2.2.2.2.2.2.1)
  have F_a1_length_105 : Fld Z h105 a1 "com/example/tapir/tapir/sampling/PathTree" "length" "[I" (.ref ln) := PX.2.2.2.1.other W105 (Or.inl PX.2.2.2.2.2.2.2.2.1)
  have V_ln_105 : own_A Z h105 ln .int 64 (fun i => .int (Q i)) := PX.2.2.2.2.2.2.2.1.other W105 (Ne.symm PX.2.2.2.2.2.2.2.2.2.2.2.2.1)
  have F_a1_size_105 : Fld Z h105 a1 "com/example/tapir/tapir/sampling/PathTree" "size" "I" (.int sz) := PX.2.2.2.2.1.other W105 (Or.inl PX.2.2.2.2.2.2.2.2.1)
  refine own_step st105 ?_
  refine own_step (T' := T105) (f' := (mkF m 77 #[.val (.ref a1), .val (.int p2), .val (.int p3), .val (.int p4), .unset] [(.ref a1)])) (fun tt kont => ?_) ?_
  · show Steps p.tables e below (T105.setTop (mkF m 76 #[.val (.ref a1), .val (.int p2), .val (.int p3), .val (.int p4), .unset] [])) _
    refine XS.aloadN X105.here hx rfl (hb hby d4_76) rfl rfl ?_
    exact kont
  obtain ⟨T106, X106, e106, st106⟩ := getF X105 hx hZ hown (host := "") (Or.inl (hw _ (List.mem_of_getElem? (i := 12) rfl))) Via.refl e105 F_a1_previous_105 (g := (mkF m 77 #[.val (.ref a1), .val (.int p2), .val (.int p3), .val (.int p4), .unset] [(.ref a1)])) rfl rfl (hb hby d4_77)
  refine own_step st106 ?_
  refine own_step (T' := T106) (f' := (mkF m 81 #[.val (.ref a1), .val (.int p2), .val (.int p3), .val (.int p4), .unset] [(.ref a1), (.ref pv)])) (fun tt kont => ?_) ?_
  · show Steps p.tables e below (T106.setTop (mkF m 80 #[.val (.ref a1), .val (.int p2), .val (.int p3), .val (.int p4), .unset] [(.ref pv)])) _
    refine XS.aloadN X106.here hx rfl (hb hby d4_80) rfl rfl ?_
    exact kont
  obtain ⟨T107, X107, e107, st107⟩ := getF X106 hx hZ hown (host := "") (Or.inl (hw _ (List.mem_of_getElem? (i := 25) rfl))) Via.refl e106 F_a1_size_105 (g := (mkF m 81 #[.val (.ref a1), .val (.int p2), .val (.int p3), .val (.int p4), .unset] [(.ref a1), (.ref pv)])) rfl rfl (hb hby d4_81)
  refine own_step st107 ?_
  refine own_step (T' := T107) (f' := (mkF m 85 #[.val (.ref a1), .val (.int p2), .val (.int p3), .val (.int p4), .unset] [(.int p3), (.int sz), (.ref pv)])) (fun tt kont => ?_) ?_
  · show Steps p.tables e below (T107.setTop (mkF m 84 #[.val (.ref a1), .val (.int p2), .val (.int p3), .val (.int p4), .unset] [(.int sz), (.ref pv)])) _
    refine XS.iloadN X107.here hx rfl (hb hby d4_84) rfl ?_
    exact kont
  obtain ⟨T108, h108, X108, e108, W108, V_pv_108, st108⟩ := own_stI X107 hx hZ e107 V_pv_105 (j := sz) (i := k) hk hk64 (g := (mkF m 85 #[.val (.ref a1), .val (.int p2), .val (.int p3), .val (.int p4), .unset] [(.int p3), (.int sz), (.ref pv)])) rfl rfl (hb hby d4_85)
  have N108 := Fr.snoc X108 N105 PX.2.2.2.2.2.2.2.2.2.2.2.2.2.2.2.2.1
  have Z108 : n0 ≤ h108.size := Nat.le_trans Z105 (Keep.of_wr W108).1
  have E_a1_108 : Exa Z h108 a1 "com/example/tapir/tapir/sampling/PathTree" := E_a1_105.wr W108
  have F_a1_nodeId_108 : Fld Z h108 a1 "com/example/tapir/tapir/sampling/PathTree" "nodeId" "[I" (.ref ni) := F_a1_nodeId_105.other W108 (Or.inl PX.2.2.2.2.2.2.2.2.2.1)
  have V_ni_108 : own_A Z h108 ni .int 64 (own_upd (fun i => .int (N i)) k (.int p2)) := V_ni_105.other W108 PX.2.2.2.2.2.2.2.2.2.2.2.1
  have F_a1_previous_108 : Fld Z h108 a1 "com/example/tapir/tapir/sampling/PathTree" "previous" "[I" (.ref pv) := F_a1_previous_105.other W108 (Or.inl PX.2.2.2.2.2.2.2.2.2.1)
  have F_a1_length_108 : Fld Z h108 a1 "com/example/tapir/tapir/sampling/PathTree" "length" "[I" (.ref ln) := F_a1_length_105.other W108 (Or.inl PX.2.2.2.2.2.2.2.2.2.1)
  have V_ln_108 : own_A Z h108 ln .int 64 (fun i => .int (Q i)) := V_ln_105.other W108 (Ne.symm PX.2.2.2.2.2.2.2.2.2.2.2.2.2.1)
  have F_a1_size_108 : Fld Z h108 a1 "com/example/tapir/tapir/sampling/PathTree" "size" "I" (.int sz) := F_a1_size_105.other W108 (Or.inl PX.2.2.2.2.2.2.2.2.2.1)
  refine own_step st108 ?_
  refine own_step (T' := T108) (f' := (mkF m 87 #[.val (.ref a1), .val (.int p2), .val (.int p3), .val (.int p4), .unset] [(.ref a1)])) (fun tt kont => ?_) ?_
  · show Steps p.tables e below (T108.setTop (mkF m 86 #[.val (.ref a1), .val (.int p2), .val (.int p3), .val (.int p4), .unset] [])) _
    refine XS.aloadN X108.here hx rfl (hb hby d4_86) rfl rfl ?_
    exact kont
  obtain ⟨T109, X109, e109, st109⟩ := getF X108 hx hZ hown (host := "") (Or.inl (hw _ (List.mem_of_getElem? (i := 14) rfl))) Via.refl e108 F_a1_length_108 (g := (mkF m 87 #[.val (.ref a1), .val (.int p2), .val (.int p3), .val (.int p4), .unset] [(.ref a1)])) rfl rfl (hb hby d4_87)
  refine own_step st109 ?_
  refine own_step (T' := T109) (f' := (mkF m 91 #[.val (.ref a1), .val (.int p2), .val (.int p3), .val (.int p4), .unset] [(.ref a1), (.ref ln)])) (fun tt kont => ?_) ?_
  · show Steps p.tables e below (T109.setTop (mkF m 90 #[.val (.ref a1), .val (.int p2), .val (.int p3), .val (.int p4), .unset] [(.ref ln)])) _
    refine XS.aloadN X109.here hx rfl (hb hby d4_90) rfl rfl ?_
    exact kont
  obtain ⟨T110, X110, e110, st110⟩ := getF X109 hx hZ hown (host := "") (Or.inl (hw _ (List.mem_of_getElem? (i := 25) rfl))) Via.refl e109 F_a1_size_108 (g := (mkF m 91 #[.val (.ref a1), .val (.int p2), .val (.int p3), .val (.int p4), .unset] [(.ref a1), (.ref ln)])) rfl rfl (hb hby d4_91)
  refine own_step st110 ?_
  refine own_step (T' := T110) (f' := (mkF m 95 #[.val (.ref a1), .val (.int p2), .val (.int p3), .val (.int p4), .unset] [(.int p4), (.int sz), (.ref ln)])) (fun tt kont => ?_) ?_
  · show Steps p.tables e below (T110.setTop (mkF m 94 #[.val (.ref a1), .val (.int p2), .val (.int p3), .val (.int p4), .unset] [(.int sz), (.ref ln)])) _
    refine XS.iloadN X110.here hx rfl (hb hby d4_94) rfl ?_
    exact kont
  obtain ⟨T111, h111, X111, e111, W111, V_ln_111, st111⟩ := own_stI X110 hx hZ e110 V_ln_108 (j := sz) (i := k) hk hk64 (g := (mkF m 95 #[.val (.ref a1), .val (.int p2), .val (.int p3), .val (.int p4), .unset] [(.int p4), (.int sz), (.ref ln)])) rfl rfl (hb hby d4_95)
  have N111 := Fr.snoc X111 N108 PX.2.2.2.2.2.2.2.2.2.2.2.2.2.2.2.2.2
  have Z111 : n0 ≤ h111.size := Nat.le_trans Z108 (Keep.of_wr W111).1
  have E_a1_111 : Exa Z h111 a1 "com/example/tapir/tapir/sampling/PathTree" := E_a1_108.wr W111
  have F_a1_nodeId_111 : Fld Z h111 a1 "com/example/tapir/tapir/sampling/PathTree" "nodeId" "[I" (.ref ni) := F_a1_nodeId_108.other W111 (Or.inl PX.2.2.2.2.2.2.2.2.2.2.1)
  have V_ni_111 : own_A Z h111 ni .int 64 (own_upd (fun i => .int (N i)) k (.int p2)) := V_ni_108.other W111 PX.2.2.2.2.2.2.2.2.2.2.2.2.1
  have F_a1_previous_111 : Fld Z h111 a1 "com/example/tapir/tapir/sampling/PathTree" "previous" "[I" (.ref pv) := F_a1_previous_108.other W111 (Or.inl PX.2.2.2.2.2.2.2.2.2.2.1)
  have V_pv_111 : own_A Z h111 pv .int 64 (own_upd (fun i => .int (P i)) k (.int p3)) := V_pv_108.other W111 PX.2.2.2.2.2.2.2.2.2.2.2.2.2.1
  have F_a1_length_111 : Fld Z h111 a1 "com/example/tapir/tapir/sampling/PathTree" "length" "[I" (.ref ln) := F_a1_length_108.other W111 (Or.inl PX.2.2.2.2.2.2.2.2.2.2.1)
  have F_a1_size_111 : Fld Z h111 a1 "com/example/tapir/tapir/sampling/PathTree" "size" "I" (.int sz) := F_a1_size_108.other W111 (Or.inl PX.2.2.2.2.2.2.2.2.2.2.1)
  refine own_step st111 ?_
  refine own_step (T' := T111) (f' := (mkF m 98 #[.val (.ref a1), .val (.int p2), .val (.int p3), .val (.int p4), .unset] [(.ref a1), (.ref a1)])) (fun tt kont => ?_) ?_
  · show Steps p.tables e below (T111.setTop (mkF m 96 #[.val (.ref a1), .val (.int p2), .val (.int p3), .val (.int p4), .unset] [])) _
    refine XS.aloadN X111.here hx rfl (hb hby d4_96) rfl rfl ?_
    show Steps p.tables e below (T111.setTop (mkF m 97 #[.val (.ref a1), .val (.int p2), .val (.int p3), .val (.int p4), .unset] [(.ref a1)])) _
    refine XS.dup X111.here hx rfl (hb hby d4_97) rfl rfl ?_
    exact kont
  obtain ⟨T112, X112, e112, st112⟩ := getF X111 hx hZ hown (host := "") (Or.inl (hw _ (List.mem_of_getElem? (i := 25) rfl))) Via.refl e111 F_a1_size_111 (g := (mkF m 98 #[.val (.ref a1), .val (.int p2), .val (.int p3), .val (.int p4), .unset] [(.ref a1), (.ref a1)])) rfl rfl (hb hby d4_98)
  refine own_step st112 ?_
  refine own_step (T' := T112) (f' := (mkF m 104 #[.val (.ref a1), .val (.int p2), .val (.int p3), .val (.int p4), .unset] [(.int (sz + (1 : Int32))), (.ref a1), (.int sz)])) (fun tt kont => ?_) ?_
  · show Steps p.tables e below (T112.setTop (mkF m 101 #[.val (.ref a1), .val (.int p2), .val (.int p3), .val (.int p4), .unset] [(.int sz), (.ref a1)])) _
    refine XS.dupX1 X112.here hx rfl (hb hby d4_101) rfl rfl rfl ?_
    show Steps p.tables e below (T112.setTop (mkF m 102 #[.val (.ref a1), .val (.int p2), .val (.int p3), .val (.int p4), .unset] [(.int sz), (.ref a1), (.int sz)])) _
    refine XS.iconst X112.here hx rfl (hb hby d4_102) ?_
    show Steps p.tables e below (T112.setTop (mkF m 103 #[.val (.ref a1), .val (.int p2), .val (.int p3), .val (.int p4), .unset] [(.int (1 : Int32)), (.int sz), (.ref a1), (.int sz)])) _
    refine XS.iadd X112.here hx rfl (hb hby d4_103) rfl ?_
    exact kont
  obtain ⟨T113, h113, X113, e113, W113, st113⟩ := putF X112 hx hZ hown (host := "") (Or.inl (hw _ (List.mem_of_getElem? (i := 25) rfl))) Via.refl e112 F_a1_size_111 E_a1_111 (Or.inl (hw _ (List.mem_of_getElem? (i := 26) rfl))) (hw _ (List.mem_of_getElem? (i := 1) rfl)) (ty := .int) (by decide) rfl rfl (g := (mkF m 104 #[.val (.ref a1), .val (.int p2), .val (.int p3), .val (.int p4), .unset] [(.int (sz + (1 : Int32))), (.ref a1), (.int sz)])) rfl rfl (hb hby d4_104)
  have N113 := Fr.snoc X113 N111 PX.2.2.2.2.2.2.2.2.2.2.2.2.2.2.1
  have Z113 : n0 ≤ h113.size := Nat.le_trans Z111 (Keep.of_wr W113).1
  have E_a1_113 : Exa Z h113 a1 "com/example/tapir/tapir/sampling/PathTree" := E_a1_111.wr W113
  have F_a1_nodeId_113 : Fld Z h113 a1 "com/example/tapir/tapir/sampling/PathTree" "nodeId" "[I" (.ref ni) := F_a1_nodeId_111.other W113 (Or.inr (slot_ne (Or.inl (hw _ (List.mem_of_getElem? (i := 11) rfl))) (Or.inl (hw _ (List.mem_of_getElem? (i := 26) rfl))) (by decide) (t := (.array .int)) (t' := .int) (by decide) (by decide)))
  have V_ni_113 : own_A Z h113 ni .int 64 (own_upd (fun i => .int (N i)) k (.int p2)) := V_ni_111.other W113 (Ne.symm PX.2.2.2.2.2.2.2.2.1)
  have F_a1_previous_113 : Fld Z h113 a1 "com/example/tapir/tapir/sampling/PathTree" "previous" "[I" (.ref pv) := F_a1_previous_111.other W113 (Or.inr (slot_ne (Or.inl (hw _ (List.mem_of_getElem? (i := 13) rfl))) (Or.inl (hw _ (List.mem_of_getElem? (i := 26) rfl))) (by decide) (t := (.array .int)) (t' := .int) (by decide) (by decide)))
  have V_pv_113 : own_A Z h113 pv .int 64 (own_upd (fun i => .int (P i)) k (.int p3)) := V_pv_111.other W113 (Ne.symm PX.2.2.2.2.2.2.2.2.2.1)
  have F_a1_length_113 : Fld Z h113 a1 "com/example/tapir/tapir/sampling/PathTree" "length" "[I" (.ref ln) := F_a1_length_111.other W113 (Or.inr (slot_ne (Or.inl (hw _ (List.mem_of_getElem? (i := 15) rfl))) (Or.inl (hw _ (List.mem_of_getElem? (i := 26) rfl))) (by decide) (t := (.array .int)) (t' := .int) (by decide) (by decide)))
  have V_ln_113 : own_A Z h113 ln .int 64 (own_upd (fun i => .int (Q i)) k (.int p4)) := V_ln_111.other W113 (Ne.symm PX.2.2.2.2.2.2.2.2.2.2.1)
  have F_a1_size_113 : Fld Z h113 a1 "com/example/tapir/tapir/sampling/PathTree" "size" "I" (.int (sz + (1 : Int32))) := F_a1_size_111.same W113
  refine own_step st113 ?_
  exact own_retI X113 hx hret hlk (hb hby d4_107) (by decide) (by decide) (by rw [e113]; exact ⟨rfl, N113, Z113, E_a1_113, F_a1_nodeId_113, F_a1_previous_113, F_a1_length_113, F_a1_size_113, own_toI V_ni_113, own_toI V_pv_113, own_toI V_ln_113, PX.2.2.2.2.2.2.2.2⟩)
theorem d3_0 : decode prog_49_method_2_code 0 = .ok (.aload_n 0, 1) := by decide +kernel
theorem d3_1 : decode prog_49_method_2_code 1 = .ok (.iload_n 1, 1) := by decide +kernel
theorem d3_2 : decode prog_49_method_2_code 2 = .ok (.iconst (-1), 1) := by decide +kernel
theorem d3_3 : decode prog_49_method_2_code 3 = .ok (.iconst 1, 1) := by decide +kernel
theorem d3_4 : decode prog_49_method_2_code 4 = .ok (.invokevirtual 19, 3) := by decide +kernel
theorem d3_7 : decode prog_49_method_2_code 7 = .ok (.ireturn, 1) := by decide +kernel
theorem own_ef_own_rmR (m : MethodId) (x0 : Addr) (x1 : Int32) : entryFrame m #[(.ref x0), (.int x1)] 2 = mkF m 0 #[.val (.ref x0), .val (.int x1)] [] := by first | (simp [entryFrame, mkF, argsToLocals, Value.category]; done) | rfl
theorem own_pd0 : parseMethodDescriptor "(III)I" = some ⟨[.int, .int, .int], some .int⟩ := by decide +kernel
def own_Q_rmR (Z : State) (a1 : Addr) (p2 : Int32) (k : Nat) (pth : Nat → List Int32) (h0 : Heap) (n0 : Nat) (v : Option Value) (h : Heap) (L : List Loc) : Prop := ∃ r : Int32, v = some (.int r) ∧ own_at r k ∧ Fr n0 L ∧ n0 ≤ h.size ∧ own_PT Z h n0 a1 (k + 1) (own_updL pth k [p2])
set_option maxRecDepth 65536 in
set_option maxHeartbeats 40000000 in
theorem own_rmR (l : Launch) (Z : State) (a0 : Array Value) (hw : ∀ d ∈ tables_1, d.before a0 Z = true) (a1 : Addr) (p2 : Int32) (k : Nat) (pth : Nat → List Int32) (h0 : Heap) (n0 : Nat) (Z0 : n0 ≤ h0.size) (PT : own_PT Z h0 n0 a1 k pth) (hk4 : k ≤ 3) :
    MetFree l (⟨"com/example/tapir/tapir/sampling/PathTree", "addRoot", "(I)I"⟩ : MethodName) (head1 [Jvm.Cond.code (⟨"com/example/tapir/tapir/sampling/PathTree", "addRoot", "(I)I"⟩ : MethodName) prog_49_method_2_code 2 (some .int)] ({ frames := 1, cells := 0, slots := 0, locals := 16 } : Room)) (fun a U => a = #[(.ref a1), (.int p2)] ∧ Z.Warmed39 U.vm ∧ U.heap = h0) (fun _ _ _ _ _ => True) (fun _ U o U' => ∃ v L, o = .returned v ∧ own_Q_rmR Z a1 p2 k pth h0 n0 v U'.heap L ∧ FrameEnd U o U' L ({ frames := 1, cells := 0, slots := 0, locals := 16 } : Room).cells ({ frames := 1, cells := 0, slots := 0, locals := 16 } : Room).slots) := by
  refine MetFree.of_bodySF (plainFor_of_name own_pn0) hisR ?_
  intro p e s m args below meth c s₁ Bd hml0 hP hK
  obtain ⟨rfl, hZ, hh⟩ := hP
  have hx := Bd.exec
  have hby := Bd.bytes
  have hret := Bd.returns
  have hlk := Bd.notSynchronized
  have hml : c.maxLocals = 2 := hml0
  have hown : s.vm.findClass "com/example/tapir/tapir/sampling/PathTree" = some m.cls := findClass_of_methodNamed Bd.named
  have hnm := (name_of_methodNamed Bd.named Bd.method).1
  have X0 : Stand p l e ({ frames := 1, cells := 0, slots := 0, locals := 16 } : Room) s m #[(.ref a1), (.int p2)] below meth c s₁ [] 0 0 := Stand.of_body Bd
  have e0 : s₁.heap = h0 := by rw [← hh, Bd.state]; rfl
  have N0 := Fr.nil n0
  refine own_Go.cast (own_ef_own_rmR m a1 p2) ?_
  obtain ⟨ni, pv, ln, sz, N, P, Q, PX, hsz, inv⟩ := PT
  have hn64 : ¬ (sz = (64 : Int32)) := by
    intro q; have := own_at_toInt hsz; rw [q, show (64 : Int32).toInt = 64 from rfl] at this; omega
  refine own_step (T' := s₁) (f' := (mkF m 4 #[.val (.ref a1), .val (.int p2)] [(.int (1 : Int32)), (.int (-1 : Int32)), (.int p2), (.ref a1)])) (fun tt kont => ?_) ?_
  · show Steps p.tables e below (s₁.setTop (mkF m 0 #[.val (.ref a1), .val (.int p2)] [])) _
    refine XS.aloadN X0.here hx rfl (hb hby d3_0) rfl rfl ?_
    show Steps p.tables e below (s₁.setTop (mkF m 1 #[.val (.ref a1), .val (.int p2)] [(.ref a1)])) _
    refine XS.iloadN X0.here hx rfl (hb hby d3_1) rfl ?_
    show Steps p.tables e below (s₁.setTop (mkF m 2 #[.val (.ref a1), .val (.int p2)] [(.int p2), (.ref a1)])) _
    refine XS.iconst X0.here hx rfl (hb hby d3_2) ?_
    show Steps p.tables e below (s₁.setTop (mkF m 3 #[.val (.ref a1), .val (.int p2)] [(.int (-1 : Int32)), (.int p2), (.ref a1)])) _
    refine XS.iconst X0.here hx rfl (hb hby d3_3) ?_
    exact kont
  obtain ⟨cq101, q101, q101'⟩ := PX.1.cell
  obtain ⟨_, _, ⟨T101, L101, k101, n101⟩, -, X101, ⟨Lc101, hQ101, l101, y101, z101⟩, st101⟩ := X0.privateBack hx (y := (⟨"com/example/tapir/tapir/sampling/PathTree", "add", "(III)I"⟩ : MethodName)) hown (mvT hZ (hw _ (List.mem_of_getElem? (i := 21) rfl))) (mvT hZ (hw _ (List.mem_of_getElem? (i := 22) rfl))) (own_selp hZ (hw _ (List.mem_of_getElem? (i := 23) rfl)) (hw _ (List.mem_of_getElem? (i := 22) rfl)) (hw _ (List.mem_of_getElem? (i := 1) rfl)) (by decide)) (Cond.privateMethod_at (mvP hZ (hw _ (List.mem_of_getElem? (i := 23) rfl)) (args := #[]))) (mvT hZ (hw _ (List.mem_of_getElem? (i := 24) rfl))) (by decide) (backOf (W := 0) (own_rmA l Z a0 hw a1 p2 (-1 : Int32) (1 : Int32) ni pv ln sz N P Q k h0 n0 Z0 PX hsz (by omega) hn64) hZ (hw _ (List.mem_of_getElem? (i := 24) rfl)) (hw _ (List.mem_of_getElem? (i := 2) rfl)) (by decide) (by decide)) (g := (mkF m 4 #[.val (.ref a1), .val (.int p2)] [(.int (1 : Int32)), (.int (-1 : Int32)), (.int p2), (.ref a1)])) rfl (by rw [hml]; rfl) (Steps.refl _) (a := a1) (by rw [e0]; exact q101) q101' (argsL := [(.int p2), (.int (-1 : Int32)), (.int (1 : Int32))]) (rest := []) (lenOf own_pd0 rfl) rfl (by show 2 * 0 + _ ≤ _; exact Nat.le_of_eq rfl) (hb hby d3_4) (fun _ _ => ⟨rfl, e0, (by decide : 0 + 0 ≤ _), (by decide : 0 + 0 ≤ _)⟩)
  dsimp only [Pt.U, Pt.locs, Pt.cells, Pt.slots] at X101 l101 y101 z101 st101 hQ101
  subst l101 y101 z101
  obtain ⟨rfl, N101q, SZ101, PX101⟩ := hQ101
  have N101 := Fr.app N0 N101q
  refine own_step (fun tt kont => st101.trans kont) ?_
  exact own_retI X101 hx hret hlk (hb hby d3_7) (by decide) (by decide) ⟨sz, rfl, hsz, N101, SZ101, ni, pv, ln, _, _, _, _, PX101, own_at_succ hsz (by omega), inv.root⟩
theorem d5_0 : decode prog_49_method_3_code 0 = .ok (.aload_n 0, 1) := by decide +kernel
theorem d5_1 : decode prog_49_method_3_code 1 = .ok (.iload_n 2, 1) := by decide +kernel
theorem d5_2 : decode prog_49_method_3_code 2 = .ok (.iload_n 1, 1) := by decide +kernel
theorem d5_3 : decode prog_49_method_3_code 3 = .ok (.aload_n 0, 1) := by decide +kernel
theorem d5_4 : decode prog_49_method_3_code 4 = .ok (.getfield 16, 3) := by decide +kernel
theorem d5_7 : decode prog_49_method_3_code 7 = .ok (.iload_n 1, 1) := by decide +kernel
theorem d5_8 : decode prog_49_method_3_code 8 = .ok (.iaload, 1) := by decide +kernel
theorem d5_9 : decode prog_49_method_3_code 9 = .ok (.iconst 1, 1) := by decide +kernel
theorem d5_10 : decode prog_49_method_3_code 10 = .ok (.iadd, 1) := by decide +kernel
theorem d5_11 : decode prog_49_method_3_code 11 = .ok (.invokevirtual 19, 3) := by decide +kernel
theorem d5_14 : decode prog_49_method_3_code 14 = .ok (.ireturn, 1) := by decide +kernel
theorem own_ef_own_rmF (m : MethodId) (x0 : Addr) (x1 : Int32) (x2 : Int32) : entryFrame m #[(.ref x0), (.int x1), (.int x2)] 3 = mkF m 0 #[.val (.ref x0), .val (.int x1), .val (.int x2)] [] := by first | (simp [entryFrame, mkF, argsToLocals, Value.category]; done) | rfl
def own_Q_rmF (Z : State) (a1 : Addr) (p2 : Int32) (p3 : Int32) (k i : Nat) (pth : Nat → List Int32) (h0 : Heap) (n0 : Nat) (v : Option Value) (h : Heap) (L : List Loc) : Prop := ∃ r : Int32, v = some (.int r) ∧ own_at r k ∧ Fr n0 L ∧ n0 ≤ h.size ∧ own_PT Z h n0 a1 (k + 1) (own_updL pth k (pth i ++ [p3]))
set_option maxRecDepth 65536 in
set_option maxHeartbeats 40000000 in
theorem own_rmF (l : Launch) (Z : State) (a0 : Array Value) (hw : ∀ d ∈ tables_1, d.before a0 Z = true) (a1 : Addr) (p2 : Int32) (p3 : Int32) (k i : Nat) (pth : Nat → List Int32) (h0 : Heap) (n0 : Nat) (Z0 : n0 ≤ h0.size) (PT : own_PT Z h0 n0 a1 k pth) (hk4 : k ≤ 3) (hi : own_at p2 i) (hik : i < k) (hil : (pth i).length ≤ 1000) :
    MetFree l (⟨"com/example/tapir/tapir/sampling/PathTree", "addAfter", "(II)I"⟩ : MethodName) (head1 [Jvm.Cond.code (⟨"com/example/tapir/tapir/sampling/PathTree", "addAfter", "(II)I"⟩ : MethodName) prog_49_method_3_code 3 (some .int)] ({ frames := 1, cells := 0, slots := 0, locals := 16 } : Room)) (fun a U => a = #[(.ref a1), (.int p2), (.int p3)] ∧ Z.Warmed39 U.vm ∧ U.heap = h0) (fun _ _ _ _ _ => True) (fun _ U o U' => ∃ v L, o = .returned v ∧ own_Q_rmF Z a1 p2 p3 k i pth h0 n0 v U'.heap L ∧ FrameEnd U o U' L ({ frames := 1, cells := 0, slots := 0, locals := 16 } : Room).cells ({ frames := 1, cells := 0, slots := 0, locals := 16 } : Room).slots) := by
  refine MetFree.of_bodySF (plainFor_of_name own_pn0) hisR ?_
  intro p e s m args below meth c s₁ Bd hml0 hP hK
  obtain ⟨rfl, hZ, hh⟩ := hP
  have hx := Bd.exec
  have hby := Bd.bytes
  have hret := Bd.returns
  have hlk := Bd.notSynchronized
  have hml : c.maxLocals = 3 := hml0
  have hown : s.vm.findClass "com/example/tapir/tapir/sampling/PathTree" = some m.cls := findClass_of_methodNamed Bd.named
  have hnm := (name_of_methodNamed Bd.named Bd.method).1
  have X0 : Stand p l e ({ frames := 1, cells := 0, slots := 0, locals := 16 } : Room) s m #[(.ref a1), (.int p2), (.int p3)] below meth c s₁ [] 0 0 := Stand.of_body Bd
  have e0 : s₁.heap = h0 := by rw [← hh, Bd.state]; rfl
  have N0 := Fr.nil n0
  refine own_Go.cast (own_ef_own_rmF m a1 p2 p3) ?_
  obtain ⟨ni, pv, ln, sz, N, P, Q, PX, hsz, inv⟩ := PT
  have hn64 : ¬ (sz = (64 : Int32)) := by
    intro q; have := own_at_toInt hsz; rw [q, show (64 : Int32).toInt = 64 from rfl] at this; omega
  refine own_step (T' := s₁) (f' := (mkF m 4 #[.val (.ref a1), .val (.int p2), .val (.int p3)] [(.ref a1), (.int p2), (.int p3), (.ref a1)])) (fun tt kont => ?_) ?_
  · show Steps p.tables e below (s₁.setTop (mkF m 0 #[.val (.ref a1), .val (.int p2), .val (.int p3)] [])) _
    refine XS.aloadN X0.here hx rfl (hb hby d5_0) rfl rfl ?_
    show Steps p.tables e below (s₁.setTop (mkF m 1 #[.val (.ref a1), .val (.int p2), .val (.int p3)] [(.ref a1)])) _
    refine XS.iloadN X0.here hx rfl (hb hby d5_1) rfl ?_
    show Steps p.tables e below (s₁.setTop (mkF m 2 #[.val (.ref a1), .val (.int p2), .val (.int p3)] [(.int p3), (.ref a1)])) _
    refine XS.iloadN X0.here hx rfl (hb hby d5_2) rfl ?_
    show Steps p.tables e below (s₁.setTop (mkF m 3 #[.val (.ref a1), .val (.int p2), .val (.int p3)] [(.int p2), (.int p3), (.ref a1)])) _
    refine XS.aloadN X0.here hx rfl (hb hby d5_3) rfl rfl ?_
    exact kont
  obtain ⟨T101, X101, e101, st101⟩ := getF X0 hx hZ hown (host := "") (Or.inl (hw _ (List.mem_of_getElem? (i := 14) rfl))) Via.refl e0 PX.2.2.2.1 (g := (mkF m 4 #[.val (.ref a1), .val (.int p2), .val (.int p3)] [(.ref a1), (.int p2), (.int p3), (.ref a1)])) rfl rfl (hb hby d5_4)
  refine own_step st101 ?_
  refine own_step (T' := T101) (f' := (mkF m 8 #[.val (.ref a1), .val (.int p2), .val (.int p3)] [(.int p2), (.ref ln), (.int p2), (.int p3), (.ref a1)])) (fun tt kont => ?_) ?_
  · show Steps p.tables e below (T101.setTop (mkF m 7 #[.val (.ref a1), .val (.int p2), .val (.int p3)] [(.ref ln), (.int p2), (.int p3), (.ref a1)])) _
    refine XS.iloadN X101.here hx rfl (hb hby d5_7) rfl ?_
    exact kont
  refine own_step (T' := T101) (f' := (mkF m 11 #[.val (.ref a1), .val (.int p2), .val (.int p3)] [(.int ((Q i) + (1 : Int32))), (.int p2), (.int p3), (.ref a1)])) (fun tt kont => ?_) ?_
  · show Steps p.tables e below (T101.setTop (mkF m 8 #[.val (.ref a1), .val (.int p2), .val (.int p3)] [(.int p2), (.ref ln), (.int p2), (.int p3), (.ref a1)])) _
    refine own_ldI X101 hx hZ e101 PX.2.2.2.2.2.2.2.1 (j := p2) (i := i) hi (by omega) (v := (Q i)) rfl (g := (mkF m 8 #[.val (.ref a1), .val (.int p2), .val (.int p3)] [(.int p2), (.ref ln), (.int p2), (.int p3), (.ref a1)])) rfl rfl (hb hby d5_8) _ ?_
    show Steps p.tables e below (T101.setTop (mkF m 9 #[.val (.ref a1), .val (.int p2), .val (.int p3)] [(.int (Q i)), (.int p2), (.int p3), (.ref a1)])) _
    refine XS.iconst X101.here hx rfl (hb hby d5_9) ?_
    show Steps p.tables e below (T101.setTop (mkF m 10 #[.val (.ref a1), .val (.int p2), .val (.int p3)] [(.int (1 : Int32)), (.int (Q i)), (.int p2), (.int p3), (.ref a1)])) _
    refine XS.iadd X101.here hx rfl (hb hby d5_10) rfl ?_
    exact kont
  obtain ⟨cq102, q102, q102'⟩ := PX.1.cell
  obtain ⟨_, _, ⟨T102, L102, k102, n102⟩, -, X102, ⟨Lc102, hQ102, l102, y102, z102⟩, st102⟩ := X101.privateBack hx (y := (⟨"com/example/tapir/tapir/sampling/PathTree", "add", "(III)I"⟩ : MethodName)) hown (mvT hZ (hw _ (List.mem_of_getElem? (i := 21) rfl))) (mvT hZ (hw _ (List.mem_of_getElem? (i := 22) rfl))) (own_selp hZ (hw _ (List.mem_of_getElem? (i := 23) rfl)) (hw _ (List.mem_of_getElem? (i := 22) rfl)) (hw _ (List.mem_of_getElem? (i := 1) rfl)) (by decide)) (Cond.privateMethod_at (mvP hZ (hw _ (List.mem_of_getElem? (i := 23) rfl)) (args := #[]))) (mvT hZ (hw _ (List.mem_of_getElem? (i := 24) rfl))) (by decide) (backOf (W := 0) (own_rmA l Z a0 hw a1 p3 p2 ((Q i) + (1 : Int32)) ni pv ln sz N P Q k h0 n0 Z0 PX hsz (by omega) hn64) hZ (hw _ (List.mem_of_getElem? (i := 24) rfl)) (hw _ (List.mem_of_getElem? (i := 2) rfl)) (by decide) (by decide)) (g := (mkF m 11 #[.val (.ref a1), .val (.int p2), .val (.int p3)] [(.int ((Q i) + (1 : Int32))), (.int p2), (.int p3), (.ref a1)])) rfl (by rw [hml]; rfl) (Steps.refl _) (a := a1) (by rw [e101]; exact q102) q102' (argsL := [(.int p3), (.int p2), (.int ((Q i) + (1 : Int32)))]) (rest := []) (lenOf own_pd0 rfl) rfl (by show 2 * 0 + _ ≤ _; exact Nat.le_of_eq rfl) (hb hby d5_11) (fun _ _ => ⟨rfl, e101, (by decide : 0 + 0 ≤ _), (by decide : 0 + 0 ≤ _)⟩)
  dsimp only [Pt.U, Pt.locs, Pt.cells, Pt.slots] at X102 l102 y102 z102 st102 hQ102
  subst l102 y102 z102
  obtain ⟨rfl, N102q, SZ102, PX102⟩ := hQ102
  have N102 := Fr.app N0 N102q
  refine own_step (fun tt kont => st102.trans kont) ?_
  exact own_retI X102 hx hret hlk (hb hby d5_14) (by decide) (by decide) ⟨sz, rfl, hsz, N102, SZ102, ni, pv, ln, _, _, _, _, PX102, own_at_succ hsz (by omega), inv.after hi hik hil⟩
theorem d7_0 : decode prog_49_method_5_code 0 = .ok (.aload_n 0, 1) := by decide +kernel
theorem d7_1 : decode prog_49_method_5_code 1 = .ok (.getfield 16, 3) := by decide +kernel
theorem d7_4 : decode prog_49_method_5_code 4 = .ok (.iload_n 1, 1) := by decide +kernel
theorem d7_5 : decode prog_49_method_5_code 5 = .ok (.iaload, 1) := by decide +kernel
theorem d7_6 : decode prog_49_method_5_code 6 = .ok (.newarray .int, 2) := by decide +kernel
theorem d7_8 : decode prog_49_method_5_code 8 = .ok (.astore_n 2, 1) := by decide +kernel
theorem d7_9 : decode prog_49_method_5_code 9 = .ok (.iload_n 1, 1) := by decide +kernel
theorem d7_10 : decode prog_49_method_5_code 10 = .ok (.istore_n 3, 1) := by decide +kernel
theorem d7_11 : decode prog_49_method_5_code 11 = .ok (.aload_n 2, 1) := by decide +kernel
theorem d7_12 : decode prog_49_method_5_code 12 = .ok (.arraylength, 1) := by decide +kernel
theorem d7_13 : decode prog_49_method_5_code 13 = .ok (.iconst 1, 1) := by decide +kernel
theorem d7_14 : decode prog_49_method_5_code 14 = .ok (.isub, 1) := by decide +kernel
theorem d7_15 : decode prog_49_method_5_code 15 = .ok (.istore 4, 2) := by decide +kernel
theorem d7_17 : decode prog_49_method_5_code 17 = .ok (.iload 4, 2) := by decide +kernel
theorem d7_19 : decode prog_49_method_5_code 19 = .ok (.ifCond .lt 26, 3) := by decide +kernel
theorem d7_22 : decode prog_49_method_5_code 22 = .ok (.aload_n 2, 1) := by decide +kernel
theorem d7_23 : decode prog_49_method_5_code 23 = .ok (.iload 4, 2) := by decide +kernel
theorem d7_25 : decode prog_49_method_5_code 25 = .ok (.aload_n 0, 1) := by decide +kernel
theorem d7_26 : decode prog_49_method_5_code 26 = .ok (.getfield 7, 3) := by decide +kernel
theorem d7_29 : decode prog_49_method_5_code 29 = .ok (.iload_n 3, 1) := by decide +kernel
theorem d7_30 : decode prog_49_method_5_code 30 = .ok (.iaload, 1) := by decide +kernel
theorem d7_31 : decode prog_49_method_5_code 31 = .ok (.iastore, 1) := by decide +kernel
theorem d7_32 : decode prog_49_method_5_code 32 = .ok (.aload_n 0, 1) := by decide +kernel
theorem d7_33 : decode prog_49_method_5_code 33 = .ok (.getfield 13, 3) := by decide +kernel
theorem d7_36 : decode prog_49_method_5_code 36 = .ok (.iload_n 3, 1) := by decide +kernel
theorem d7_37 : decode prog_49_method_5_code 37 = .ok (.iaload, 1) := by decide +kernel
theorem d7_38 : decode prog_49_method_5_code 38 = .ok (.istore_n 3, 1) := by decide +kernel
theorem d7_39 : decode prog_49_method_5_code 39 = .ok (.iinc 4 (-1), 3) := by decide +kernel
theorem d7_42 : decode prog_49_method_5_code 42 = .ok (.goto (-25), 3) := by decide +kernel
theorem d7_45 : decode prog_49_method_5_code 45 = .ok (.aload_n 2, 1) := by decide +kernel
theorem d7_46 : decode prog_49_method_5_code 46 = .ok (.areturn, 1) := by decide +kernel
set_option maxRecDepth 65536 in
set_option maxHeartbeats 40000000 in
theorem own_loop {p : Program} {l : Launch} {e : Env} {R : Room} {s : State} {m : MethodId} {args : Array Value} {below : List Frame} {meth : Method} {c : Code} {cells slots : Nat} {Z : State} {a0 : Array Value} {Pp : Outcome → State → Prop} {a1 ni pv ln ot : Addr} {p2 sz : Int32} {N P Q : Nat → Int32} {k n0 len : Nat} (hx : p.tables.exec = Jvm.exec) (hZ : Z.Warmed39 s.vm) (hw : ∀ d ∈ tables_1, d.before a0 Z = true) (hby : c.code = prog_49_method_5_code) (hown : s.vm.findClass "com/example/tapir/tapir/sampling/PathTree" = some m.cls) (hk : k ≤ 64) (d1 : a1 ≠ ot) (d2 : ni ≠ ot) (d3 : pv ≠ ot) (d4 : ln ≠ ot) (go : n0 ≤ ot) :
    ∀ (r : List Int32) (z i : Int32) (f : Nat → Value) (T0 : State) (h : Heap) (locs : List Loc), Stand p l e R s m args below meth c T0 locs cells slots → T0.heap = h → Fr n0 locs → n0 ≤ h.size → own_PX Z h n0 a1 ni pv ln sz N P Q → own_ch N P k r z → i.toInt = (r.length : Int) - 1 → own_A Z h ot .int len f → r.length ≤ len →
      (∀ (T' : State) (h' : Heap) (locs' : List Loc) (z' : Int32), Stand p l e R s m args below meth c T' locs' cells slots → T'.heap = h' → Fr n0 locs' → Keep h h' [ot] → own_A Z h' ot .int len (fun j => if j < r.length then .int (r.reverse.getD j 0) else f j) → own_Go p e below T' (mkF m 45 #[.val (.ref a1), .val (.int p2), .val (.ref ot), .val (.int z'), .val (.int (-1 : Int32))] []) Pp) →
      own_Go p e below T0 (mkF m 17 #[.val (.ref a1), .val (.int p2), .val (.ref ot), .val (.int z), .val (.int i)] []) Pp := by
  intro r
  induction r with
  | nil =>
    intro z i f T0 h locs X0 e0 N0 SZ0 PX hch hi VO hle kt
    obtain rfl : i = (-1 : Int32) := Int32.toInt_inj.mp (by rw [hi]; decide)
    have hneg : (-1 : Int32) < (0 : Int32) := by decide
    refine own_step (T' := T0) (f' := (mkF m 45 #[.val (.ref a1), .val (.int p2), .val (.ref ot), .val (.int z), .val (.int (-1 : Int32))] [])) (fun tt kont => ?_) ?_
    · show Steps p.tables e below (T0.setTop (mkF m 17 #[.val (.ref a1), .val (.int p2), .val (.ref ot), .val (.int z), .val (.int (-1 : Int32))] [])) _
      refine XS.iload X0.here hx rfl (hb hby d7_17) rfl ?_
      show Steps p.tables e below (T0.setTop (mkF m 19 #[.val (.ref a1), .val (.int p2), .val (.ref ot), .val (.int z), .val (.int (-1 : Int32))] [(.int (-1 : Int32))])) _
      refine XS.ifYes X0.here hx rfl (pc0 := 19) (pc' := 45) rfl (hb hby d7_19) rfl ((if0 _ _).trans (tlt hneg).1) (by decide) (by decide) ?_
      exact kont
    exact kt T0 h locs z X0 e0 N0 (Keep.refl _ _) (VO.cong fun j _ => by rw [if_neg (by simp)])
  | cons x r ih =>
    intro z i f T0 h locs X0 e0 N0 SZ0 PX hch hi VO hle kt
    obtain ⟨j, hjk, hj, hNx, hch'⟩ := hch
    have hneg : ¬ (i < (0 : Int32)) := by rw [Int32.lt_iff_toInt_lt, hi, List.length_cons, show (0 : Int32).toInt = 0 from rfl]; omega
    have hi' : (i + (-1 : Int32)).toInt = (r.length : Int) - 1 := own_dec1 hi
    refine own_step (T' := T0) (f' := (mkF m 26 #[.val (.ref a1), .val (.int p2), .val (.ref ot), .val (.int z), .val (.int i)] [(.ref a1), (.int i), (.ref ot)])) (fun tt kont => ?_) ?_
    · show Steps p.tables e below (T0.setTop (mkF m 17 #[.val (.ref a1), .val (.int p2), .val (.ref ot), .val (.int z), .val (.int i)] [])) _
      refine XS.iload X0.here hx rfl (hb hby d7_17) rfl ?_
      show Steps p.tables e below (T0.setTop (mkF m 19 #[.val (.ref a1), .val (.int p2), .val (.ref ot), .val (.int z), .val (.int i)] [(.int i)])) _
      refine XS.ifNo X0.here hx rfl (hb hby d7_19) rfl ((if0 _ _).trans (flt hneg).1) ?_
      show Steps p.tables e below (T0.setTop (mkF m 22 #[.val (.ref a1), .val (.int p2), .val (.ref ot), .val (.int z), .val (.int i)] [])) _
      refine XS.aloadN X0.here hx rfl (hb hby d7_22) rfl rfl ?_
      show Steps p.tables e below (T0.setTop (mkF m 23 #[.val (.ref a1), .val (.int p2), .val (.ref ot), .val (.int z), .val (.int i)] [(.ref ot)])) _
      refine XS.iload X0.here hx rfl (hb hby d7_23) rfl ?_
      show Steps p.tables e below (T0.setTop (mkF m 25 #[.val (.ref a1), .val (.int p2), .val (.ref ot), .val (.int z), .val (.int i)] [(.int i), (.ref ot)])) _
      refine XS.aloadN X0.here hx rfl (hb hby d7_25) rfl rfl ?_
      exact kont
    obtain ⟨T101, X101, e101, st101⟩ := getF X0 hx hZ hown (host := "") (Or.inl (hw _ (List.mem_of_getElem? (i := 10) rfl))) Via.refl e0 PX.2.1 (g := (mkF m 26 #[.val (.ref a1), .val (.int p2), .val (.ref ot), .val (.int z), .val (.int i)] [(.ref a1), (.int i), (.ref ot)])) rfl rfl (hb hby d7_26)
    refine own_step st101 ?_
    refine own_step (T' := T101) (f' := (mkF m 30 #[.val (.ref a1), .val (.int p2), .val (.ref ot), .val (.int z), .val (.int i)] [(.int z), (.ref ni), (.int i), (.ref ot)])) (fun tt kont => ?_) ?_
    · show Steps p.tables e below (T101.setTop (mkF m 29 #[.val (.ref a1), .val (.int p2), .val (.ref ot), .val (.int z), .val (.int i)] [(.ref ni), (.int i), (.ref ot)])) _
      refine XS.iloadN X101.here hx rfl (hb hby d7_29) rfl ?_
      exact kont
    refine own_step (T' := T101) (f' := (mkF m 31 #[.val (.ref a1), .val (.int p2), .val (.ref ot), .val (.int z), .val (.int i)] [(.int (N j)), (.int i), (.ref ot)])) (fun tt kont => ?_) ?_
    · show Steps p.tables e below (T101.setTop (mkF m 30 #[.val (.ref a1), .val (.int p2), .val (.ref ot), .val (.int z), .val (.int i)] [(.int z), (.ref ni), (.int i), (.ref ot)])) _
      refine own_ldI X101 hx hZ e101 PX.2.2.2.2.2.1 (j := z) (i := j) hj (by omega) (v := (N j)) rfl (g := (mkF m 30 #[.val (.ref a1), .val (.int p2), .val (.ref ot), .val (.int z), .val (.int i)] [(.int z), (.ref ni), (.int i), (.ref ot)])) rfl rfl (hb hby d7_30) _ ?_
      exact kont
    obtain ⟨T102, h102, X102, e102, W102, V_ot_102, st102⟩ := own_stI X101 hx hZ e101 VO (j := i) (i := r.length) (own_at_int (by rw [hi, List.length_cons]; omega)) (by rw [List.length_cons] at hle; omega) (g := (mkF m 31 #[.val (.ref a1), .val (.int p2), .val (.ref ot), .val (.int z), .val (.int i)] [(.int (N j)), (.int i), (.ref ot)])) rfl rfl (hb hby d7_31)
    have N102 := Fr.snoc X102 N0 go
    have Z102 : n0 ≤ h102.size := Nat.le_trans SZ0 (Keep.of_wr W102).1
    have E_a1_102 : Exa Z h102 a1 "com/example/tapir/tapir/sampling/PathTree" := PX.1.wr W102
    have F_a1_nodeId_102 : Fld Z h102 a1 "com/example/tapir/tapir/sampling/PathTree" "nodeId" "[I" (.ref ni) := PX.2.1.other W102 (Or.inl d1)
    have V_ni_102 : own_A Z h102 ni .int 64 (fun i => .int (N i)) := PX.2.2.2.2.2.1.other W102 d2
    have F_a1_previous_102 : Fld Z h102 a1 "com/example/tapir/tapir/sampling/PathTree" "previous" "[I" (.ref pv) := PX.2.2.1.other W102 (Or.inl d1)
    have V_pv_102 : own_A Z h102 pv .int 64 (fun i => .int (P i)) := PX.2.2.2.2.2.2.1.other W102 d3
    refine own_step st102 ?_
    refine own_step (T' := T102) (f' := (mkF m 33 #[.val (.ref a1), .val (.int p2), .val (.ref ot), .val (.int z), .val (.int i)] [(.ref a1)])) (fun tt kont => ?_) ?_
    · show Steps p.tables e below (T102.setTop (mkF m 32 #[.val (.ref a1), .val (.int p2), .val (.ref ot), .val (.int z), .val (.int i)] [])) _
      refine XS.aloadN X102.here hx rfl (hb hby d7_32) rfl rfl ?_
      exact kont
    obtain ⟨T103, X103, e103, st103⟩ := getF X102 hx hZ hown (host := "") (Or.inl (hw _ (List.mem_of_getElem? (i := 12) rfl))) Via.refl e102 F_a1_previous_102 (g := (mkF m 33 #[.val (.ref a1), .val (.int p2), .val (.ref ot), .val (.int z), .val (.int i)] [(.ref a1)])) rfl rfl (hb hby d7_33)
    refine own_step st103 ?_
    refine own_step (T' := T103) (f' := (mkF m 37 #[.val (.ref a1), .val (.int p2), .val (.ref ot), .val (.int z), .val (.int i)] [(.int z), (.ref pv)])) (fun tt kont => ?_) ?_
    · show Steps p.tables e below (T103.setTop (mkF m 36 #[.val (.ref a1), .val (.int p2), .val (.ref ot), .val (.int z), .val (.int i)] [(.ref pv)])) _
      refine XS.iloadN X103.here hx rfl (hb hby d7_36) rfl ?_
      exact kont
    refine own_step (T' := T103) (f' := (mkF m 17 #[.val (.ref a1), .val (.int p2), .val (.ref ot), .val (.int (P j)), .val (.int (i + (-1 : Int32)))] [])) (fun tt kont => ?_) ?_
    · show Steps p.tables e below (T103.setTop (mkF m 37 #[.val (.ref a1), .val (.int p2), .val (.ref ot), .val (.int z), .val (.int i)] [(.int z), (.ref pv)])) _
      refine own_ldI X103 hx hZ e103 V_pv_102 (j := z) (i := j) hj (by omega) (v := (P j)) rfl (g := (mkF m 37 #[.val (.ref a1), .val (.int p2), .val (.ref ot), .val (.int z), .val (.int i)] [(.int z), (.ref pv)])) rfl rfl (hb hby d7_37) _ ?_
      show Steps p.tables e below (T103.setTop (mkF m 38 #[.val (.ref a1), .val (.int p2), .val (.ref ot), .val (.int z), .val (.int i)] [(.int (P j))])) _
      refine XS.istoreN X103.here hx rfl (hb hby d7_38) rfl (l' := #[.val (.ref a1), .val (.int p2), .val (.ref ot), .val (.int (P j)), .val (.int i)]) rfl ?_
      show Steps p.tables e below (T103.setTop (mkF m 39 #[.val (.ref a1), .val (.int p2), .val (.ref ot), .val (.int (P j)), .val (.int i)] [])) _
      refine XS.iinc X103.here hx rfl (hb hby d7_39) rfl (l' := #[.val (.ref a1), .val (.int p2), .val (.ref ot), .val (.int (P j)), .val (.int (i + (-1 : Int32)))]) rfl ?_
      show Steps p.tables e below (T103.setTop (mkF m 42 #[.val (.ref a1), .val (.int p2), .val (.ref ot), .val (.int (P j)), .val (.int (i + (-1 : Int32)))] [])) _
      refine XS.goto X103.here hx rfl (pc0 := 42) (pc' := 17) rfl (hb hby d7_42) (by decide) (by decide) ?_
      exact kont
    refine ih (P j) (i + (-1 : Int32)) _ T103 h102 _ X103 e103 N102 Z102 (PX.keep (Keep.of_wr W102) (ninS d1 nin0) (ninS d2 nin0) (ninS d3 nin0) (ninS d4 nin0)) hch' hi' V_ot_102 (by rw [List.length_cons] at hle; omega) ?_
    intro T' h' locs' z' X' e' N' K' V'
    refine kt T' h' locs' z' X' e' N' ((Keep.of_wr W102).trans K' (fun x hx => Or.inl hx)) (V'.cong fun j' hj' => ?_)
    rw [← own_lp (n := len) j' hj', hNx]
theorem own_lm1 {l : List Int32} {q : Int32} (h : own_at q l.length) : (q - (1 : Int32)).toInt = (l.reverse.length : Int) - 1 := by
  have a := own_at_toInt h; have b := c_isub q 1; have c := rng32 (q - 1); have d := rng32 q; rw [show (1 : Int32).toInt = 1 from rfl] at b; rw [List.length_reverse]; omega
theorem own_ef_own_rmP (m : MethodId) (x0 : Addr) (x1 : Int32) : entryFrame m #[(.ref x0), (.int x1)] 5 = mkF m 0 #[.val (.ref x0), .val (.int x1), .unset, .unset, .unset] [] := by first | (simp [entryFrame, mkF, argsToLocals, Value.category]; done) | rfl
def own_Q_rmP (Z : State) (a1 : Addr) (p2 : Int32) (k i : Nat) (pth : Nat → List Int32) (h0 : Heap) (n0 : Nat) (v : Option Value) (h : Heap) (L : List Loc) : Prop := ∃ b : Addr, v = some (.ref b) ∧ Fr n0 L ∧ h0.size ≤ b ∧ Keep h0 h [] ∧ own_A Z h b .int (pth i).length (fun j => .int ((pth i).getD j 0))
set_option maxRecDepth 65536 in
set_option maxHeartbeats 40000000 in
theorem own_rmP (l : Launch) (Z : State) (a0 : Array Value) (hw : ∀ d ∈ tables_1, d.before a0 Z = true) (a1 : Addr) (p2 : Int32) (k i : Nat) (pth : Nat → List Int32) (h0 : Heap) (n0 : Nat) (Z0 : n0 ≤ h0.size) (PT : own_PT Z h0 n0 a1 k pth) (hk4 : k ≤ 4) (hi : own_at p2 i) (hik : i < k) (hl4 : (pth i).length ≤ 4) :
    MetFree l (⟨"com/example/tapir/tapir/sampling/PathTree", "path", "(I)[I"⟩ : MethodName) (head1 [Jvm.Cond.code (⟨"com/example/tapir/tapir/sampling/PathTree", "path", "(I)[I"⟩ : MethodName) prog_49_method_5_code 5 (some (.array .int))] ({ frames := 0, cells := 1, slots := 4, locals := 0 } : Room)) (fun a U => a = #[(.ref a1), (.int p2)] ∧ Z.Warmed39 U.vm ∧ U.heap = h0) (fun _ _ _ _ _ => True) (fun _ U o U' => ∃ v L, o = .returned v ∧ own_Q_rmP Z a1 p2 k i pth h0 n0 v U'.heap L ∧ FrameEnd U o U' L ({ frames := 0, cells := 1, slots := 4, locals := 0 } : Room).cells ({ frames := 0, cells := 1, slots := 4, locals := 0 } : Room).slots) := by
  refine MetFree.of_bodySF (plainFor_of_name own_pn0) hisR ?_
  intro p e s m args below meth c s₁ Bd hml0 hP hK
  obtain ⟨rfl, hZ, hh⟩ := hP
  have hx := Bd.exec
  have hby := Bd.bytes
  have hret := Bd.returns
  have hlk := Bd.notSynchronized
  have hml : c.maxLocals = 5 := hml0
  have hown : s.vm.findClass "com/example/tapir/tapir/sampling/PathTree" = some m.cls := findClass_of_methodNamed Bd.named
  have hnm := (name_of_methodNamed Bd.named Bd.method).1
  have X0 : Stand p l e ({ frames := 0, cells := 1, slots := 4, locals := 0 } : Room) s m #[(.ref a1), (.int p2)] below meth c s₁ [] 0 0 := Stand.of_body Bd
  have e0 : s₁.heap = h0 := by rw [← hh, Bd.state]; rfl
  have N0 := Fr.nil n0
  refine own_Go.cast (own_ef_own_rmP m a1 p2) ?_
  obtain ⟨ni, pv, ln, sz, N, P, Q, PX, hsz, inv⟩ := PT
  have hq := (inv i hik).1
  refine own_step (T' := s₁) (f' := (mkF m 1 #[.val (.ref a1), .val (.int p2), .unset, .unset, .unset] [(.ref a1)])) (fun tt kont => ?_) ?_
  · show Steps p.tables e below (s₁.setTop (mkF m 0 #[.val (.ref a1), .val (.int p2), .unset, .unset, .unset] [])) _
    refine XS.aloadN X0.here hx rfl (hb hby d7_0) rfl rfl ?_
    exact kont
  obtain ⟨T101, X101, e101, st101⟩ := getF X0 hx hZ hown (host := "") (Or.inl (hw _ (List.mem_of_getElem? (i := 14) rfl))) Via.refl e0 PX.2.2.2.1 (g := (mkF m 1 #[.val (.ref a1), .val (.int p2), .unset, .unset, .unset] [(.ref a1)])) rfl rfl (hb hby d7_1)
  refine own_step st101 ?_
  refine own_step (T' := T101) (f' := (mkF m 5 #[.val (.ref a1), .val (.int p2), .unset, .unset, .unset] [(.int p2), (.ref ln)])) (fun tt kont => ?_) ?_
  · show Steps p.tables e below (T101.setTop (mkF m 4 #[.val (.ref a1), .val (.int p2), .unset, .unset, .unset] [(.ref ln)])) _
    refine XS.iloadN X101.here hx rfl (hb hby d7_4) rfl ?_
    exact kont
  refine own_step (T' := T101) (f' := (mkF m 6 #[.val (.ref a1), .val (.int p2), .unset, .unset, .unset] [(.int (Q i))])) (fun tt kont => ?_) ?_
  · show Steps p.tables e below (T101.setTop (mkF m 5 #[.val (.ref a1), .val (.int p2), .unset, .unset, .unset] [(.int p2), (.ref ln)])) _
    refine own_ldI X101 hx hZ e101 PX.2.2.2.2.2.2.2.1 (j := p2) (i := i) hi (by omega) (v := (Q i)) rfl (g := (mkF m 5 #[.val (.ref a1), .val (.int p2), .unset, .unset, .unset] [(.int p2), (.ref ln)])) rfl rfl (hb hby d7_5) _ ?_
    exact kont
  obtain ⟨T102, h102, k102, X102, e102, E102, A102, st102⟩ := newP X101 hx hZ (hw _ (List.mem_of_getElem? (i := 9) rfl)) e101 (g := (mkF m 6 #[.val (.ref a1), .val (.int p2), .unset, .unset, .unset] [(.int (Q i))])) rfl (hb hby d7_6) rfl hq.1 (cap := 4) (by rw [hq.2]; exact hl4) (by decide) (by decide) (by decide)
  obtain ⟨ot, g102⟩ : ∃ z, z = h0.size := ⟨_, rfl⟩
  have g_ot : n0 ≤ ot := Nat.le_trans Z0 (Nat.le_of_eq g102.symm)
  have sz_ot : h0.size ≤ ot := Nat.le_trans (Keep.refl h0 []).1 (Nat.le_of_eq g102.symm)
  have Z102 : n0 ≤ h102.size := Nat.le_trans Z0 E102.1
  have K102 := (Keep.refl h0 []).ext E102
  have ne_a1_ot : a1 ≠ ot := Nat.ne_of_lt (Nat.lt_of_lt_of_le PX.1.lt (Nat.le_of_eq g102.symm))
  have ne_ni_ot : ni ≠ ot := Nat.ne_of_lt (Nat.lt_of_lt_of_le PX.2.2.2.2.2.1.lt (Nat.le_of_eq g102.symm))
  have ne_pv_ot : pv ≠ ot := Nat.ne_of_lt (Nat.lt_of_lt_of_le PX.2.2.2.2.2.2.1.lt (Nat.le_of_eq g102.symm))
  have ne_ln_ot : ln ≠ ot := Nat.ne_of_lt (Nat.lt_of_lt_of_le PX.2.2.2.2.2.2.2.1.lt (Nat.le_of_eq g102.symm))
  rw [← g102] at A102 st102
  have E_a1_102 : Exa Z h102 a1 "com/example/tapir/tapir/sampling/PathTree" := PX.1.ext E102
  have F_a1_nodeId_102 : Fld Z h102 a1 "com/example/tapir/tapir/sampling/PathTree" "nodeId" "[I" (.ref ni) := PX.2.1.ext E102
  have V_ni_102 : own_A Z h102 ni .int 64 (fun i => .int (N i)) := PX.2.2.2.2.2.1.ext E102
  have F_a1_previous_102 : Fld Z h102 a1 "com/example/tapir/tapir/sampling/PathTree" "previous" "[I" (.ref pv) := PX.2.2.1.ext E102
  have V_pv_102 : own_A Z h102 pv .int 64 (fun i => .int (P i)) := PX.2.2.2.2.2.2.1.ext E102
  have F_a1_length_102 : Fld Z h102 a1 "com/example/tapir/tapir/sampling/PathTree" "length" "[I" (.ref ln) := PX.2.2.2.1.ext E102
  have V_ln_102 : own_A Z h102 ln .int 64 (fun i => .int (Q i)) := PX.2.2.2.2.2.2.2.1.ext E102
  have F_a1_size_102 : Fld Z h102 a1 "com/example/tapir/tapir/sampling/PathTree" "size" "I" (.int sz) := PX.2.2.2.2.1.ext E102
  have V_ot_102 : own_A Z h102 ot .int (pth i).length (fun _ => (.int (0 : Int32))) := own_A.new A102 hq.2
  refine own_step st102 ?_
  refine own_step (T' := T102) (f' := (mkF m 12 #[.val (.ref a1), .val (.int p2), .val (.ref ot), .val (.int p2), .unset] [(.ref ot)])) (fun tt kont => ?_) ?_
  · show Steps p.tables e below (T102.setTop (mkF m 8 #[.val (.ref a1), .val (.int p2), .unset, .unset, .unset] [(.ref ot)])) _
    refine XS.astoreN X102.here hx rfl (hb hby d7_8) rfl rfl (l' := #[.val (.ref a1), .val (.int p2), .val (.ref ot), .unset, .unset]) rfl ?_
    show Steps p.tables e below (T102.setTop (mkF m 9 #[.val (.ref a1), .val (.int p2), .val (.ref ot), .unset, .unset] [])) _
    refine XS.iloadN X102.here hx rfl (hb hby d7_9) rfl ?_
    show Steps p.tables e below (T102.setTop (mkF m 10 #[.val (.ref a1), .val (.int p2), .val (.ref ot), .unset, .unset] [(.int p2)])) _
    refine XS.istoreN X102.here hx rfl (hb hby d7_10) rfl (l' := #[.val (.ref a1), .val (.int p2), .val (.ref ot), .val (.int p2), .unset]) rfl ?_
    show Steps p.tables e below (T102.setTop (mkF m 11 #[.val (.ref a1), .val (.int p2), .val (.ref ot), .val (.int p2), .unset] [])) _
    refine XS.aloadN X102.here hx rfl (hb hby d7_11) rfl rfl ?_
    exact kont
  refine own_step (T' := T102) (f' := (mkF m 17 #[.val (.ref a1), .val (.int p2), .val (.ref ot), .val (.int p2), .val (.int ((Q i) - (1 : Int32)))] [])) (fun tt kont => ?_) ?_
  · show Steps p.tables e below (T102.setTop (mkF m 12 #[.val (.ref a1), .val (.int p2), .val (.ref ot), .val (.int p2), .unset] [(.ref ot)])) _
    refine own_alen X102 hx hZ e102 V_ot_102 (z := (Q i)) (own_len_of hq) (g := (mkF m 12 #[.val (.ref a1), .val (.int p2), .val (.ref ot), .val (.int p2), .unset] [(.ref ot)])) rfl rfl (hb hby d7_12) _ ?_
    show Steps p.tables e below (T102.setTop (mkF m 13 #[.val (.ref a1), .val (.int p2), .val (.ref ot), .val (.int p2), .unset] [(.int (Q i))])) _
    refine XS.iconst X102.here hx rfl (hb hby d7_13) ?_
    show Steps p.tables e below (T102.setTop (mkF m 14 #[.val (.ref a1), .val (.int p2), .val (.ref ot), .val (.int p2), .unset] [(.int (1 : Int32)), (.int (Q i))])) _
    refine XS.isub X102.here hx rfl (hb hby d7_14) rfl ?_
    show Steps p.tables e below (T102.setTop (mkF m 15 #[.val (.ref a1), .val (.int p2), .val (.ref ot), .val (.int p2), .unset] [(.int ((Q i) - (1 : Int32)))])) _
    refine XS.istore X102.here hx rfl (hb hby d7_15) rfl (l' := #[.val (.ref a1), .val (.int p2), .val (.ref ot), .val (.int p2), .val (.int ((Q i) - (1 : Int32)))]) rfl ?_
    exact kont
  refine own_loop hx hZ hw hby hown (k := k) (by omega) ne_a1_ot ne_ni_ot ne_pv_ot ne_ln_ot g_ot _ _ _ _ _ _ _ X102 e102 N0 Z102 (PX.keep K102 nin0 nin0 nin0 nin0) ((inv i hik).2 _ hi) (own_lm1 hq) V_ot_102 (by rw [List.length_reverse]; exact Nat.le_refl _) ?_
  intro T2 h2 L2 z2 X2 e2 N2 K2 V2
  refine own_step (T' := T2) (f' := (mkF m 46 #[.val (.ref a1), .val (.int p2), .val (.ref ot), .val (.int z2), .val (.int (-1 : Int32))] [(.ref ot)])) (fun tt kont => ?_) ?_
  · show Steps p.tables e below (T2.setTop (mkF m 45 #[.val (.ref a1), .val (.int p2), .val (.ref ot), .val (.int z2), .val (.int (-1 : Int32))] [])) _
    refine XS.aloadN X2.here hx rfl (hb hby d7_45) rfl rfl ?_
    exact kont
  exact own_retA X2 hx hret hlk (hb hby d7_46) (by decide) (by decide) (by rw [e2]; exact ⟨ot, rfl, N2, sz_ot, (K102.trans K2 (allS (Or.inr sz_ot) all0)), (V2.cong own_pathf)⟩)
theorem d6_0 : decode method_3_code 0 = .ok (.iconst 4, 1) := by decide +kernel
theorem d6_1 : decode method_3_code 1 = .ok (.newarray .int, 2) := by decide +kernel
theorem d6_3 : decode method_3_code 3 = .ok (.dup, 1) := by decide +kernel
theorem d6_4 : decode method_3_code 4 = .ok (.iconst 0, 1) := by decide +kernel
theorem d6_5 : decode method_3_code 5 = .ok (.aload_n 0, 1) := by decide +kernel
theorem d6_6 : decode method_3_code 6 = .ok (.iconst 0, 1) := by decide +kernel
theorem d6_7 : decode method_3_code 7 = .ok (.iaload, 1) := by decide +kernel
theorem d6_8 : decode method_3_code 8 = .ok (.iastore, 1) := by decide +kernel
theorem d6_9 : decode method_3_code 9 = .ok (.dup, 1) := by decide +kernel
theorem d6_10 : decode method_3_code 10 = .ok (.iconst 1, 1) := by decide +kernel
theorem d6_11 : decode method_3_code 11 = .ok (.aload_n 0, 1) := by decide +kernel
theorem d6_12 : decode method_3_code 12 = .ok (.iconst 1, 1) := by decide +kernel
theorem d6_13 : decode method_3_code 13 = .ok (.iaload, 1) := by decide +kernel
theorem d6_14 : decode method_3_code 14 = .ok (.iastore, 1) := by decide +kernel
theorem d6_15 : decode method_3_code 15 = .ok (.dup, 1) := by decide +kernel
theorem d6_16 : decode method_3_code 16 = .ok (.iconst 2, 1) := by decide +kernel
theorem d6_17 : decode method_3_code 17 = .ok (.aload_n 0, 1) := by decide +kernel
theorem d6_18 : decode method_3_code 18 = .ok (.iconst 2, 1) := by decide +kernel
theorem d6_19 : decode method_3_code 19 = .ok (.iaload, 1) := by decide +kernel
theorem d6_20 : decode method_3_code 20 = .ok (.iastore, 1) := by decide +kernel
theorem d6_21 : decode method_3_code 21 = .ok (.dup, 1) := by decide +kernel
theorem d6_22 : decode method_3_code 22 = .ok (.iconst 3, 1) := by decide +kernel
theorem d6_23 : decode method_3_code 23 = .ok (.aload_n 0, 1) := by decide +kernel
theorem d6_24 : decode method_3_code 24 = .ok (.iconst 3, 1) := by decide +kernel
theorem d6_25 : decode method_3_code 25 = .ok (.iaload, 1) := by decide +kernel
theorem d6_26 : decode method_3_code 26 = .ok (.iastore, 1) := by decide +kernel
theorem d6_27 : decode method_3_code 27 = .ok (.astore_n 3, 1) := by decide +kernel
theorem d6_28 : decode method_3_code 28 = .ok (.aload_n 3, 1) := by decide +kernel
theorem d6_29 : decode method_3_code 29 = .ok (.iload_n 1, 1) := by decide +kernel
theorem d6_30 : decode method_3_code 30 = .ok (.iload_n 2, 1) := by decide +kernel
theorem d6_31 : decode method_3_code 31 = .ok (.iastore, 1) := by decide +kernel
theorem d6_32 : decode method_3_code 32 = .ok (.aload_n 3, 1) := by decide +kernel
theorem d6_33 : decode method_3_code 33 = .ok (.areturn, 1) := by decide +kernel
theorem own_pn1 : plainName "com/example/tapir/tapir/sampling/PathTreePathPinLaw" = true := by first | (simp [plainName, overriddenIn]; done) | decide +kernel
theorem own_ef_own_rmE (m : MethodId) (x0 : Addr) (x1 : Int32) (x2 : Int32) : entryFrame m #[(.ref x0), (.int x1), (.int x2)] 4 = mkF m 0 #[.val (.ref x0), .val (.int x1), .val (.int x2), .unset] [] := by first | (simp [entryFrame, mkF, argsToLocals, Value.category]; done) | rfl
def own_Q_rmE (Z : State) (a1 : Addr) (p2 : Int32) (p3 : Int32) (l' : List Int32) (h0 : Heap) (n0 : Nat) (v : Option Value) (h : Heap) (L : List Loc) : Prop := ∃ b : Addr, v = some (.ref b) ∧ Fr n0 L ∧ h0.size ≤ b ∧ Keep h0 h [] ∧ own_A Z h b .int 4 (fun i => .int ((l' ++ [p3]).getD i 0))
set_option maxRecDepth 65536 in
set_option maxHeartbeats 40000000 in
theorem own_rmE (l : Launch) (Z : State) (a0 : Array Value) (hw : ∀ d ∈ tables_1, d.before a0 Z = true) (a1 : Addr) (p2 : Int32) (p3 : Int32) (l' : List Int32) (h0 : Heap) (n0 : Nat) (Z0 : n0 ≤ h0.size) (XA : own_A Z h0 a1 .int 4 (fun i => .int (l'.getD i 0))) (hn : own_at p2 l'.length) (hl3 : l'.length ≤ 3) :
    MetFree l (⟨"com/example/tapir/tapir/sampling/PathTreePathPinLaw", "ext", "([III)[I"⟩ : MethodName) (head1 [Jvm.Cond.code (⟨"com/example/tapir/tapir/sampling/PathTreePathPinLaw", "ext", "([III)[I"⟩ : MethodName) method_3_code 4 (some (.array .int))] ({ frames := 0, cells := 1, slots := 4, locals := 0 } : Room)) (fun a U => a = #[(.ref a1), (.int p2), (.int p3)] ∧ Z.Warmed39 U.vm ∧ U.heap = h0) (fun _ _ _ _ _ => True) (fun _ U o U' => ∃ v L, o = .returned v ∧ own_Q_rmE Z a1 p2 p3 l' h0 n0 v U'.heap L ∧ FrameEnd U o U' L ({ frames := 0, cells := 1, slots := 4, locals := 0 } : Room).cells ({ frames := 0, cells := 1, slots := 4, locals := 0 } : Room).slots) := by
  refine MetFree.of_bodySF (plainFor_of_name own_pn1) hisR ?_
  intro p e s m args below meth c s₁ Bd hml0 hP hK
  obtain ⟨rfl, hZ, hh⟩ := hP
  have hx := Bd.exec
  have hby := Bd.bytes
  have hret := Bd.returns
  have hlk := Bd.notSynchronized
  have hml : c.maxLocals = 4 := hml0
  have hown : s.vm.findClass "com/example/tapir/tapir/sampling/PathTreePathPinLaw" = some m.cls := findClass_of_methodNamed Bd.named
  have hnm := (name_of_methodNamed Bd.named Bd.method).1
  have X0 : Stand p l e ({ frames := 0, cells := 1, slots := 4, locals := 0 } : Room) s m #[(.ref a1), (.int p2), (.int p3)] below meth c s₁ [] 0 0 := Stand.of_body Bd
  have e0 : s₁.heap = h0 := by rw [← hh, Bd.state]; rfl
  have N0 := Fr.nil n0
  refine own_Go.cast (own_ef_own_rmE m a1 p2 p3) ?_
  refine own_step (T' := s₁) (f' := (mkF m 1 #[.val (.ref a1), .val (.int p2), .val (.int p3), .unset] [(.int (4 : Int32))])) (fun tt kont => ?_) ?_
  · show Steps p.tables e below (s₁.setTop (mkF m 0 #[.val (.ref a1), .val (.int p2), .val (.int p3), .unset] [])) _
    refine XS.iconst X0.here hx rfl (hb hby d6_0) ?_
    exact kont
  obtain ⟨T101, h101, k101, X101, e101, E101, A101, st101⟩ := newP X0 hx hZ (hw _ (List.mem_of_getElem? (i := 9) rfl)) e0 (g := (mkF m 1 #[.val (.ref a1), .val (.int p2), .val (.int p3), .unset] [(.int (4 : Int32))])) rfl (hb hby d6_1) rfl (by decide) (cap := 4) (by decide) (by decide) (by decide) (by decide)
  obtain ⟨xr, g101⟩ : ∃ z, z = h0.size := ⟨_, rfl⟩
  have g_xr : n0 ≤ xr := Nat.le_trans Z0 (Nat.le_of_eq g101.symm)
  have sz_xr : h0.size ≤ xr := Nat.le_trans (Keep.refl h0 []).1 (Nat.le_of_eq g101.symm)
  have Z101 : n0 ≤ h101.size := Nat.le_trans Z0 E101.1
  have K101 := (Keep.refl h0 []).ext E101
  have ne_a1_xr : a1 ≠ xr := Nat.ne_of_lt (Nat.lt_of_lt_of_le XA.lt (Nat.le_of_eq g101.symm))
  rw [← g101] at A101 st101
  have V_a1_101 : own_A Z h101 a1 .int 4 (fun i => .int (l'.getD i 0)) := XA.ext E101
  have V_xr_101 : own_A Z h101 xr .int 4 (fun _ => (.int (0 : Int32))) := own_A.new A101 rfl
  refine own_step st101 ?_
  refine own_step (T' := T101) (f' := (mkF m 7 #[.val (.ref a1), .val (.int p2), .val (.int p3), .unset] [(.int (0 : Int32)), (.ref a1), (.int (0 : Int32)), (.ref xr), (.ref xr)])) (fun tt kont => ?_) ?_
  · show Steps p.tables e below (T101.setTop (mkF m 3 #[.val (.ref a1), .val (.int p2), .val (.int p3), .unset] [(.ref xr)])) _
    refine XS.dup X101.here hx rfl (hb hby d6_3) rfl rfl ?_
    show Steps p.tables e below (T101.setTop (mkF m 4 #[.val (.ref a1), .val (.int p2), .val (.int p3), .unset] [(.ref xr), (.ref xr)])) _
    refine XS.iconst X101.here hx rfl (hb hby d6_4) ?_
    show Steps p.tables e below (T101.setTop (mkF m 5 #[.val (.ref a1), .val (.int p2), .val (.int p3), .unset] [(.int (0 : Int32)), (.ref xr), (.ref xr)])) _
    refine XS.aloadN X101.here hx rfl (hb hby d6_5) rfl rfl ?_
    show Steps p.tables e below (T101.setTop (mkF m 6 #[.val (.ref a1), .val (.int p2), .val (.int p3), .unset] [(.ref a1), (.int (0 : Int32)), (.ref xr), (.ref xr)])) _
    refine XS.iconst X101.here hx rfl (hb hby d6_6) ?_
    exact kont
  refine own_step (T' := T101) (f' := (mkF m 8 #[.val (.ref a1), .val (.int p2), .val (.int p3), .unset] [(.int (l'.getD 0 0)), (.int (0 : Int32)), (.ref xr), (.ref xr)])) (fun tt kont => ?_) ?_
  · show Steps p.tables e below (T101.setTop (mkF m 7 #[.val (.ref a1), .val (.int p2), .val (.int p3), .unset] [(.int (0 : Int32)), (.ref a1), (.int (0 : Int32)), (.ref xr), (.ref xr)])) _
    refine own_ldI X101 hx hZ e101 V_a1_101 (j := (0 : Int32)) (i := 0) (own_at_lit rfl (by decide)) (by decide) (v := (l'.getD 0 0)) rfl (g := (mkF m 7 #[.val (.ref a1), .val (.int p2), .val (.int p3), .unset] [(.int (0 : Int32)), (.ref a1), (.int (0 : Int32)), (.ref xr), (.ref xr)])) rfl rfl (hb hby d6_7) _ ?_
    exact kont
  obtain ⟨T102, h102, X102, e102, W102, V_xr_102, st102⟩ := own_stI X101 hx hZ e101 V_xr_101 (j := (0 : Int32)) (i := 0) (own_at_lit rfl (by decide)) (by decide) (g := (mkF m 8 #[.val (.ref a1), .val (.int p2), .val (.int p3), .unset] [(.int (l'.getD 0 0)), (.int (0 : Int32)), (.ref xr), (.ref xr)])) rfl rfl (hb hby d6_8)
  have N102 := Fr.snoc X102 N0 g_xr
  have K102 := K101.wr W102 (Or.inr sz_xr)
  have Z102 : n0 ≤ h102.size := Nat.le_trans Z101 (Keep.of_wr W102).1
  have V_a1_102 : own_A Z h102 a1 .int 4 (fun i => .int (l'.getD i 0)) := V_a1_101.other W102 ne_a1_xr
  refine own_step st102 ?_
  refine own_step (T' := T102) (f' := (mkF m 13 #[.val (.ref a1), .val (.int p2), .val (.int p3), .unset] [(.int (1 : Int32)), (.ref a1), (.int (1 : Int32)), (.ref xr), (.ref xr)])) (fun tt kont => ?_) ?_
  · show Steps p.tables e below (T102.setTop (mkF m 9 #[.val (.ref a1), .val (.int p2), .val (.int p3), .unset] [(.ref xr)])) _
    refine XS.dup X102.here hx rfl (hb hby d6_9) rfl rfl ?_
    show Steps p.tables e below (T102.setTop (mkF m 10 #[.val (.ref a1), .val (.int p2), .val (.int p3), .unset] [(.ref xr), (.ref xr)])) _
    refine XS.iconst X102.here hx rfl (hb hby d6_10) ?_
    show Steps p.tables e below (T102.setTop (mkF m 11 #[.val (.ref a1), .val (.int p2), .val (.int p3), .unset] [(.int (1 : Int32)), (.ref xr), (.ref xr)])) _
    refine XS.aloadN X102.here hx rfl (hb hby d6_11) rfl rfl ?_
    show Steps p.tables e below (T102.setTop (mkF m 12 #[.val (.ref a1), .val (.int p2), .val (.int p3), .unset] [(.ref a1), (.int (1 : Int32)), (.ref xr), (.ref xr)])) _
    refine XS.iconst X102.here hx rfl (hb hby d6_12) ?_
    exact kont
  refine own_step (T' := T102) (f' := (mkF m 14 #[.val (.ref a1), .val (.int p2), .val (.int p3), .unset] [(.int (l'.getD 1 0)), (.int (1 : Int32)), (.ref xr), (.ref xr)])) (fun tt kont => ?_) ?_
  · show Steps p.tables e below (T102.setTop (mkF m 13 #[.val (.ref a1), .val (.int p2), .val (.int p3), .unset] [(.int (1 : Int32)), (.ref a1), (.int (1 : Int32)), (.ref xr), (.ref xr)])) _
    refine own_ldI X102 hx hZ e102 V_a1_102 (j := (1 : Int32)) (i := 1) (own_at_lit rfl (by decide)) (by decide) (v := (l'.getD 1 0)) rfl (g := (mkF m 13 #[.val (.ref a1), .val (.int p2), .val (.int p3), .unset] [(.int (1 : Int32)), (.ref a1), (.int (1 : Int32)), (.ref xr), (.ref xr)])) rfl rfl (hb hby d6_13) _ ?_
    exact kont
  obtain ⟨T103, h103, X103, e103, W103, V_xr_103, st103⟩ := own_stI X102 hx hZ e102 V_xr_102 (j := (1 : Int32)) (i := 1) (own_at_lit rfl (by decide)) (by decide) (g := (mkF m 14 #[.val (.ref a1), .val (.int p2), .val (.int p3), .unset] [(.int (l'.getD 1 0)), (.int (1 : Int32)), (.ref xr), (.ref xr)])) rfl rfl (hb hby d6_14)
  have N103 := Fr.snoc X103 N102 g_xr
  have K103 := K102.wr W103 (Or.inr sz_xr)
  have Z103 : n0 ≤ h103.size := Nat.le_trans Z102 (Keep.of_wr W103).1
  have V_a1_103 : own_A Z h103 a1 .int 4 (fun i => .int (l'.getD i 0)) := V_a1_102.other W103 ne_a1_xr
  refine own_step st103 ?_
  refine own_step (T' := T103) (f' := (mkF m 19 #[.val (.ref a1), .val (.int p2), .val (.int p3), .unset] [(.int (2 : Int32)), (.ref a1), (.int (2 : Int32)), (.ref xr), (.ref xr)])) (fun tt kont => ?_) ?_
  · show Steps p.tables e below (T103.setTop (mkF m 15 #[.val (.ref a1), .val (.int p2), .val (.int p3), .unset] [(.ref xr)])) _
    refine XS.dup X103.here hx rfl (hb hby d6_15) rfl rfl ?_
    show Steps p.tables e below (T103.setTop (mkF m 16 #[.val (.ref a1), .val (.int p2), .val (.int p3), .unset] [(.ref xr), (.ref xr)])) _
    refine XS.iconst X103.here hx rfl (hb hby d6_16) ?_
    show Steps p.tables e below (T103.setTop (mkF m 17 #[.val (.ref a1), .val (.int p2), .val (.int p3), .unset] [(.int (2 : Int32)), (.ref xr), (.ref xr)])) _
    refine XS.aloadN X103.here hx rfl (hb hby d6_17) rfl rfl ?_
    show Steps p.tables e below (T103.setTop (mkF m 18 #[.val (.ref a1), .val (.int p2), .val (.int p3), .unset] [(.ref a1), (.int (2 : Int32)), (.ref xr), (.ref xr)])) _
    refine XS.iconst X103.here hx rfl (hb hby d6_18) ?_
    exact kont
  refine own_step (T' := T103) (f' := (mkF m 20 #[.val (.ref a1), .val (.int p2), .val (.int p3), .unset] [(.int (l'.getD 2 0)), (.int (2 : Int32)), (.ref xr), (.ref xr)])) (fun tt kont => ?_) ?_
  · show Steps p.tables e below (T103.setTop (mkF m 19 #[.val (.ref a1), .val (.int p2), .val (.int p3), .unset] [(.int (2 : Int32)), (.ref a1), (.int (2 : Int32)), (.ref xr), (.ref xr)])) _
    refine own_ldI X103 hx hZ e103 V_a1_103 (j := (2 : Int32)) (i := 2) (own_at_lit rfl (by decide)) (by decide) (v := (l'.getD 2 0)) rfl (g := (mkF m 19 #[.val (.ref a1), .val (.int p2), .val (.int p3), .unset] [(.int (2 : Int32)), (.ref a1), (.int (2 : Int32)), (.ref xr), (.ref xr)])) rfl rfl (hb hby d6_19) _ ?_
    exact kont
  obtain ⟨T104, h104, X104, e104, W104, V_xr_104, st104⟩ := own_stI X103 hx hZ e103 V_xr_103 (j := (2 : Int32)) (i := 2) (own_at_lit rfl (by decide)) (by decide) (g := (mkF m 20 #[.val (.ref a1), .val (.int p2), .val (.int p3), .unset] [(.int (l'.getD 2 0)), (.int (2 : Int32)), (.ref xr), (.ref xr)])) rfl rfl (hb hby d6_20)
  have N104 := Fr.snoc X104 N103 g_xr
  have K104 := K103.wr W104 (Or.inr sz_xr)
  have Z104 : n0 ≤ h104.size := Nat.le_trans Z103 (Keep.of_wr W104).1
  have V_a1_104 : own_A Z h104 a1 .int 4 (fun i => .int (l'.getD i 0)) := V_a1_103.other W104 ne_a1_xr
  refine own_step st104 ?_
  refine own_step (T' := T104) (f' := (mkF m 25 #[.val (.ref a1), .val (.int p2), .val (.int p3), .unset] [(.int (3 : Int32)), (.ref a1), (.int (3 : Int32)), (.ref xr), (.ref xr)])) (fun tt kont => ?_) ?_
  · show Steps p.tables e below (T104.setTop (mkF m 21 #[.val (.ref a1), .val (.int p2), .val (.int p3), .unset] [(.ref xr)])) _
    refine XS.dup X104.here hx rfl (hb hby d6_21) rfl rfl ?_
    show Steps p.tables e below (T104.setTop (mkF m 22 #[.val (.ref a1), .val (.int p2), .val (.int p3), .unset] [(.ref xr), (.ref xr)])) _
    refine XS.iconst X104.here hx rfl (hb hby d6_22) ?_
    show Steps p.tables e below (T104.setTop (mkF m 23 #[.val (.ref a1), .val (.int p2), .val (.int p3), .unset] [(.int (3 : Int32)), (.ref xr), (.ref xr)])) _
    refine XS.aloadN X104.here hx rfl (hb hby d6_23) rfl rfl ?_
    show Steps p.tables e below (T104.setTop (mkF m 24 #[.val (.ref a1), .val (.int p2), .val (.int p3), .unset] [(.ref a1), (.int (3 : Int32)), (.ref xr), (.ref xr)])) _
    refine XS.iconst X104.here hx rfl (hb hby d6_24) ?_
    exact kont
  refine own_step (T' := T104) (f' := (mkF m 26 #[.val (.ref a1), .val (.int p2), .val (.int p3), .unset] [(.int (l'.getD 3 0)), (.int (3 : Int32)), (.ref xr), (.ref xr)])) (fun tt kont => ?_) ?_
  · show Steps p.tables e below (T104.setTop (mkF m 25 #[.val (.ref a1), .val (.int p2), .val (.int p3), .unset] [(.int (3 : Int32)), (.ref a1), (.int (3 : Int32)), (.ref xr), (.ref xr)])) _
    refine own_ldI X104 hx hZ e104 V_a1_104 (j := (3 : Int32)) (i := 3) (own_at_lit rfl (by decide)) (by decide) (v := (l'.getD 3 0)) rfl (g := (mkF m 25 #[.val (.ref a1), .val (.int p2), .val (.int p3), .unset] [(.int (3 : Int32)), (.ref a1), (.int (3 : Int32)), (.ref xr), (.ref xr)])) rfl rfl (hb hby d6_25) _ ?_
    exact kont
  obtain ⟨T105, h105, X105, e105, W105, V_xr_105, st105⟩ := own_stI X104 hx hZ e104 V_xr_104 (j := (3 : Int32)) (i := 3) (own_at_lit rfl (by decide)) (by decide) (g := (mkF m 26 #[.val (.ref a1), .val (.int p2), .val (.int p3), .unset] [(.int (l'.getD 3 0)), (.int (3 : Int32)), (.ref xr), (.ref xr)])) rfl rfl (hb hby d6_26)
  have N105 := Fr.snoc X105 N104 g_xr
  have K105 := K104.wr W105 (Or.inr sz_xr)
  have Z105 : n0 ≤ h105.size := Nat.le_trans Z104 (Keep.of_wr W105).1
  have V_a1_105 : own_A Z h105 a1 .int 4 (fun i => .int (l'.getD i 0)) := V_a1_104.other W105 ne_a1_xr
  refine own_step st105 ?_
  refine own_step (T' := T105) (f' := (mkF m 31 #[.val (.ref a1), .val (.int p2), .val (.int p3), .val (.ref xr)] [(.int p3), (.int p2), (.ref xr)])) (fun tt kont => ?_) ?_
  · show Steps p.tables e below (T105.setTop (mkF m 27 #[.val (.ref a1), .val (.int p2), .val (.int p3), .unset] [(.ref xr)])) _
    refine XS.astoreN X105.here hx rfl (hb hby d6_27) rfl rfl (l' := #[.val (.ref a1), .val (.int p2), .val (.int p3), .val (.ref xr)]) rfl ?_
    show Steps p.tables e below (T105.setTop (mkF m 28 #[.val (.ref a1), .val (.int p2), .val (.int p3), .val (.ref xr)] [])) _
    refine XS.aloadN X105.here hx rfl (hb hby d6_28) rfl rfl ?_
    show Steps p.tables e below (T105.setTop (mkF m 29 #[.val (.ref a1), .val (.int p2), .val (.int p3), .val (.ref xr)] [(.ref xr)])) _
    refine XS.iloadN X105.here hx rfl (hb hby d6_29) rfl ?_
    show Steps p.tables e below (T105.setTop (mkF m 30 #[.val (.ref a1), .val (.int p2), .val (.int p3), .val (.ref xr)] [(.int p2), (.ref xr)])) _
    refine XS.iloadN X105.here hx rfl (hb hby d6_30) rfl ?_
    exact kont
  obtain ⟨T106, h106, X106, e106, W106, V_xr_106, st106⟩ := own_stI X105 hx hZ e105 V_xr_105 (j := p2) (i := l'.length) hn (by omega) (g := (mkF m 31 #[.val (.ref a1), .val (.int p2), .val (.int p3), .val (.ref xr)] [(.int p3), (.int p2), (.ref xr)])) rfl rfl (hb hby d6_31)
  have N106 := Fr.snoc X106 N105 g_xr
  have K106 := K105.wr W106 (Or.inr sz_xr)
  have Z106 : n0 ≤ h106.size := Nat.le_trans Z105 (Keep.of_wr W106).1
  have V_a1_106 : own_A Z h106 a1 .int 4 (fun i => .int (l'.getD i 0)) := V_a1_105.other W106 ne_a1_xr
  refine own_step st106 ?_
  refine own_step (T' := T106) (f' := (mkF m 33 #[.val (.ref a1), .val (.int p2), .val (.int p3), .val (.ref xr)] [(.ref xr)])) (fun tt kont => ?_) ?_
  · show Steps p.tables e below (T106.setTop (mkF m 32 #[.val (.ref a1), .val (.int p2), .val (.int p3), .val (.ref xr)] [])) _
    refine XS.aloadN X106.here hx rfl (hb hby d6_32) rfl rfl ?_
    exact kont
  exact own_retA X106 hx hret hlk (hb hby d6_33) (by decide) (by decide) (by rw [e106]; exact ⟨xr, rfl, N106, sz_xr, K106, V_xr_106.cong (own_extf hl3)⟩)
theorem d8_0 : decode method_4_code 0 = .ok (.aload_n 0, 1) := by decide +kernel
theorem d8_1 : decode method_4_code 1 = .ok (.ifnull 9, 3) := by decide +kernel
theorem d8_4 : decode method_4_code 4 = .ok (.aload_n 0, 1) := by decide +kernel
theorem d8_5 : decode method_4_code 5 = .ok (.arraylength, 1) := by decide +kernel
theorem d8_6 : decode method_4_code 6 = .ok (.iload_n 2, 1) := by decide +kernel
theorem d8_7 : decode method_4_code 7 = .ok (.if_icmp .eq 5, 3) := by decide +kernel
theorem d8_10 : decode method_4_code 10 = .ok (.iconst 0, 1) := by decide +kernel
theorem d8_11 : decode method_4_code 11 = .ok (.ireturn, 1) := by decide +kernel
theorem d8_12 : decode method_4_code 12 = .ok (.iload_n 2, 1) := by decide +kernel
theorem d8_13 : decode method_4_code 13 = .ok (.ifCond .le 14, 3) := by decide +kernel
theorem d8_16 : decode method_4_code 16 = .ok (.aload_n 0, 1) := by decide +kernel
theorem d8_17 : decode method_4_code 17 = .ok (.iconst 0, 1) := by decide +kernel
theorem d8_18 : decode method_4_code 18 = .ok (.iaload, 1) := by decide +kernel
theorem d8_19 : decode method_4_code 19 = .ok (.aload_n 1, 1) := by decide +kernel
theorem d8_20 : decode method_4_code 20 = .ok (.iconst 0, 1) := by decide +kernel
theorem d8_21 : decode method_4_code 21 = .ok (.iaload, 1) := by decide +kernel
theorem d8_22 : decode method_4_code 22 = .ok (.if_icmp .eq 5, 3) := by decide +kernel
theorem d8_25 : decode method_4_code 25 = .ok (.iconst 0, 1) := by decide +kernel
theorem d8_26 : decode method_4_code 26 = .ok (.ireturn, 1) := by decide +kernel
theorem d8_27 : decode method_4_code 27 = .ok (.iload_n 2, 1) := by decide +kernel
theorem d8_28 : decode method_4_code 28 = .ok (.iconst 1, 1) := by decide +kernel
theorem d8_29 : decode method_4_code 29 = .ok (.if_icmp .le 14, 3) := by decide +kernel
theorem d8_32 : decode method_4_code 32 = .ok (.aload_n 0, 1) := by decide +kernel
theorem d8_33 : decode method_4_code 33 = .ok (.iconst 1, 1) := by decide +kernel
theorem d8_34 : decode method_4_code 34 = .ok (.iaload, 1) := by decide +kernel
theorem d8_35 : decode method_4_code 35 = .ok (.aload_n 1, 1) := by decide +kernel
theorem d8_36 : decode method_4_code 36 = .ok (.iconst 1, 1) := by decide +kernel
theorem d8_37 : decode method_4_code 37 = .ok (.iaload, 1) := by decide +kernel
theorem d8_38 : decode method_4_code 38 = .ok (.if_icmp .eq 5, 3) := by decide +kernel
theorem d8_41 : decode method_4_code 41 = .ok (.iconst 0, 1) := by decide +kernel
theorem d8_42 : decode method_4_code 42 = .ok (.ireturn, 1) := by decide +kernel
theorem d8_43 : decode method_4_code 43 = .ok (.iload_n 2, 1) := by decide +kernel
theorem d8_44 : decode method_4_code 44 = .ok (.iconst 2, 1) := by decide +kernel
theorem d8_45 : decode method_4_code 45 = .ok (.if_icmp .le 14, 3) := by decide +kernel
theorem d8_48 : decode method_4_code 48 = .ok (.aload_n 0, 1) := by decide +kernel
theorem d8_49 : decode method_4_code 49 = .ok (.iconst 2, 1) := by decide +kernel
theorem d8_50 : decode method_4_code 50 = .ok (.iaload, 1) := by decide +kernel
theorem d8_51 : decode method_4_code 51 = .ok (.aload_n 1, 1) := by decide +kernel
theorem d8_52 : decode method_4_code 52 = .ok (.iconst 2, 1) := by decide +kernel
theorem d8_53 : decode method_4_code 53 = .ok (.iaload, 1) := by decide +kernel
theorem d8_54 : decode method_4_code 54 = .ok (.if_icmp .eq 5, 3) := by decide +kernel
theorem d8_57 : decode method_4_code 57 = .ok (.iconst 0, 1) := by decide +kernel
theorem d8_58 : decode method_4_code 58 = .ok (.ireturn, 1) := by decide +kernel
theorem d8_59 : decode method_4_code 59 = .ok (.iload_n 2, 1) := by decide +kernel
theorem d8_60 : decode method_4_code 60 = .ok (.iconst 3, 1) := by decide +kernel
theorem d8_61 : decode method_4_code 61 = .ok (.if_icmp .le 14, 3) := by decide +kernel
theorem d8_64 : decode method_4_code 64 = .ok (.aload_n 0, 1) := by decide +kernel
theorem d8_65 : decode method_4_code 65 = .ok (.iconst 3, 1) := by decide +kernel
theorem d8_66 : decode method_4_code 66 = .ok (.iaload, 1) := by decide +kernel
theorem d8_67 : decode method_4_code 67 = .ok (.aload_n 1, 1) := by decide +kernel
theorem d8_68 : decode method_4_code 68 = .ok (.iconst 3, 1) := by decide +kernel
theorem d8_69 : decode method_4_code 69 = .ok (.iaload, 1) := by decide +kernel
theorem d8_70 : decode method_4_code 70 = .ok (.if_icmp .eq 5, 3) := by decide +kernel
theorem d8_73 : decode method_4_code 73 = .ok (.iconst 0, 1) := by decide +kernel
theorem d8_74 : decode method_4_code 74 = .ok (.ireturn, 1) := by decide +kernel
theorem d8_75 : decode method_4_code 75 = .ok (.iconst 1, 1) := by decide +kernel
theorem d8_76 : decode method_4_code 76 = .ok (.ireturn, 1) := by decide +kernel
theorem own_ef_own_rmS (m : MethodId) (x0 : Addr) (x1 : Addr) (x2 : Int32) : entryFrame m #[(.ref x0), (.ref x1), (.int x2)] 3 = mkF m 0 #[.val (.ref x0), .val (.ref x1), .val (.int x2)] [] := by first | (simp [entryFrame, mkF, argsToLocals, Value.category]; done) | rfl
def own_Q_rmS (Z : State) (a1 : Addr) (a2 : Addr) (p3 : Int32) (l' : List Int32) (h0 : Heap) (n0 : Nat) (v : Option Value) (h : Heap) (L : List Loc) : Prop := v = some (.int 1) ∧ Fr n0 L ∧ h = h0
set_option maxRecDepth 65536 in
set_option maxHeartbeats 40000000 in
theorem own_rmS (l : Launch) (Z : State) (a0 : Array Value) (hw : ∀ d ∈ tables_1, d.before a0 Z = true) (a1 : Addr) (a2 : Addr) (p3 : Int32) (l' : List Int32) (h0 : Heap) (n0 : Nat) (GA : own_A Z h0 a1 .int l'.length (fun i => .int (l'.getD i 0))) (XA : own_A Z h0 a2 .int 4 (fun i => .int (l'.getD i 0))) (hn : own_at p3 l'.length) :
    MetFree l (⟨"com/example/tapir/tapir/sampling/PathTreePathPinLaw", "same", "([I[II)Z"⟩ : MethodName) (head1 [Jvm.Cond.code (⟨"com/example/tapir/tapir/sampling/PathTreePathPinLaw", "same", "([I[II)Z"⟩ : MethodName) method_4_code 3 (some .boolean)] ({ frames := 0, cells := 0, slots := 0, locals := 0 } : Room)) (fun a U => a = #[(.ref a1), (.ref a2), (.int p3)] ∧ Z.Warmed39 U.vm ∧ U.heap = h0) (fun _ _ _ _ _ => True) (fun _ U o U' => ∃ v L, o = .returned v ∧ own_Q_rmS Z a1 a2 p3 l' h0 n0 v U'.heap L ∧ FrameEnd U o U' L ({ frames := 0, cells := 0, slots := 0, locals := 0 } : Room).cells ({ frames := 0, cells := 0, slots := 0, locals := 0 } : Room).slots) := by
  refine MetFree.of_bodySF (plainFor_of_name own_pn1) hisR ?_
  intro p e s m args below meth c s₁ Bd hml0 hP hK
  obtain ⟨rfl, hZ, hh⟩ := hP
  have hx := Bd.exec
  have hby := Bd.bytes
  have hret := Bd.returns
  have hlk := Bd.notSynchronized
  have hml : c.maxLocals = 3 := hml0
  have hown : s.vm.findClass "com/example/tapir/tapir/sampling/PathTreePathPinLaw" = some m.cls := findClass_of_methodNamed Bd.named
  have hnm := (name_of_methodNamed Bd.named Bd.method).1
  have X0 : Stand p l e ({ frames := 0, cells := 0, slots := 0, locals := 0 } : Room) s m #[(.ref a1), (.ref a2), (.int p3)] below meth c s₁ [] 0 0 := Stand.of_body Bd
  have e0 : s₁.heap = h0 := by rw [← hh, Bd.state]; rfl
  have N0 := Fr.nil n0
  refine own_Go.cast (own_ef_own_rmS m a1 a2 p3) ?_
  refine own_step (T' := s₁) (f' := (mkF m 5 #[.val (.ref a1), .val (.ref a2), .val (.int p3)] [(.ref a1)])) (fun tt kont => ?_) ?_
  · show Steps p.tables e below (s₁.setTop (mkF m 0 #[.val (.ref a1), .val (.ref a2), .val (.int p3)] [])) _
    refine XS.aloadN X0.here hx rfl (hb hby d8_0) rfl rfl ?_
    show Steps p.tables e below (s₁.setTop (mkF m 1 #[.val (.ref a1), .val (.ref a2), .val (.int p3)] [(.ref a1)])) _
    refine XS.ifnullNo X0.here hx rfl (hb hby d8_1) rfl ?_
    show Steps p.tables e below (s₁.setTop (mkF m 4 #[.val (.ref a1), .val (.ref a2), .val (.int p3)] [])) _
    refine XS.aloadN X0.here hx rfl (hb hby d8_4) rfl rfl ?_
    exact kont
  refine own_step (T' := s₁) (f' := (mkF m 13 #[.val (.ref a1), .val (.ref a2), .val (.int p3)] [(.int p3)])) (fun tt kont => ?_) ?_
  · show Steps p.tables e below (s₁.setTop (mkF m 5 #[.val (.ref a1), .val (.ref a2), .val (.int p3)] [(.ref a1)])) _
    refine own_alen X0 hx hZ e0 GA (z := p3) (own_len_of hn) (g := (mkF m 5 #[.val (.ref a1), .val (.ref a2), .val (.int p3)] [(.ref a1)])) rfl rfl (hb hby d8_5) _ ?_
    show Steps p.tables e below (s₁.setTop (mkF m 6 #[.val (.ref a1), .val (.ref a2), .val (.int p3)] [(.int p3)])) _
    refine XS.iloadN X0.here hx rfl (hb hby d8_6) rfl ?_
    show Steps p.tables e below (s₁.setTop (mkF m 7 #[.val (.ref a1), .val (.ref a2), .val (.int p3)] [(.int p3), (.int p3)])) _
    refine XS.icmpYes X0.here hx rfl (pc0 := 7) (pc' := 12) rfl (hb hby d8_7) rfl (teq (rfl : p3 = p3)).1 (by decide) (by decide) ?_
    show Steps p.tables e below (s₁.setTop (mkF m 12 #[.val (.ref a1), .val (.ref a2), .val (.int p3)] [])) _
    refine XS.iloadN X0.here hx rfl (hb hby d8_12) rfl ?_
    exact kont
  have st101 : ∀ t, Steps p.tables e below (s₁.setTop (mkF m 27 #[.val (.ref a1), .val (.ref a2), .val (.int p3)] [])) t → Steps p.tables e below (s₁.setTop (mkF m 13 #[.val (.ref a1), .val (.ref a2), .val (.int p3)] [(.int p3)])) t := by
    by_cases hc13_1 : (0 : Int32) < p3
    · intro tt kont
      show Steps p.tables e below (s₁.setTop (mkF m 13 #[.val (.ref a1), .val (.ref a2), .val (.int p3)] [(.int p3)])) _
      refine XS.ifNo X0.here hx rfl (hb hby d8_13) rfl ((if0 _ _).trans (tlt hc13_1).2.2.2) ?_
      show Steps p.tables e below (s₁.setTop (mkF m 16 #[.val (.ref a1), .val (.ref a2), .val (.int p3)] [])) _
      refine XS.aloadN X0.here hx rfl (hb hby d8_16) rfl rfl ?_
      show Steps p.tables e below (s₁.setTop (mkF m 17 #[.val (.ref a1), .val (.ref a2), .val (.int p3)] [(.ref a1)])) _
      refine XS.iconst X0.here hx rfl (hb hby d8_17) ?_
      show Steps p.tables e below (s₁.setTop (mkF m 18 #[.val (.ref a1), .val (.ref a2), .val (.int p3)] [(.int (0 : Int32)), (.ref a1)])) _
      refine own_ldI X0 hx hZ e0 GA (j := (0 : Int32)) (i := 0) (own_at_lit rfl (by decide)) (own_lt_of hn (by decide) hc13_1) (v := (l'.getD 0 0)) rfl (g := (mkF m 18 #[.val (.ref a1), .val (.ref a2), .val (.int p3)] [(.int (0 : Int32)), (.ref a1)])) rfl rfl (hb hby d8_18) _ ?_
      show Steps p.tables e below (s₁.setTop (mkF m 19 #[.val (.ref a1), .val (.ref a2), .val (.int p3)] [(.int (l'.getD 0 0))])) _
      refine XS.aloadN X0.here hx rfl (hb hby d8_19) rfl rfl ?_
      show Steps p.tables e below (s₁.setTop (mkF m 20 #[.val (.ref a1), .val (.ref a2), .val (.int p3)] [(.ref a2), (.int (l'.getD 0 0))])) _
      refine XS.iconst X0.here hx rfl (hb hby d8_20) ?_
      show Steps p.tables e below (s₁.setTop (mkF m 21 #[.val (.ref a1), .val (.ref a2), .val (.int p3)] [(.int (0 : Int32)), (.ref a2), (.int (l'.getD 0 0))])) _
      refine own_ldI X0 hx hZ e0 XA (j := (0 : Int32)) (i := 0) (own_at_lit rfl (by decide)) (by decide) (v := (l'.getD 0 0)) rfl (g := (mkF m 21 #[.val (.ref a1), .val (.ref a2), .val (.int p3)] [(.int (0 : Int32)), (.ref a2), (.int (l'.getD 0 0))])) rfl rfl (hb hby d8_21) _ ?_
      show Steps p.tables e below (s₁.setTop (mkF m 22 #[.val (.ref a1), .val (.ref a2), .val (.int p3)] [(.int (l'.getD 0 0)), (.int (l'.getD 0 0))])) _
      refine XS.icmpYes X0.here hx rfl (pc0 := 22) (pc' := 27) rfl (hb hby d8_22) rfl (teq (rfl : (l'.getD 0 0) = (l'.getD 0 0))).1 (by decide) (by decide) ?_
      exact kont
    · intro tt kont
      show Steps p.tables e below (s₁.setTop (mkF m 13 #[.val (.ref a1), .val (.ref a2), .val (.int p3)] [(.int p3)])) _
      refine XS.ifYes X0.here hx rfl (pc0 := 13) (pc' := 27) rfl (hb hby d8_13) rfl ((if0 _ _).trans (flt hc13_1).2.2.2) (by decide) (by decide) ?_
      exact kont
  refine own_step st101 ?_
  refine own_step (T' := s₁) (f' := (mkF m 29 #[.val (.ref a1), .val (.ref a2), .val (.int p3)] [(.int (1 : Int32)), (.int p3)])) (fun tt kont => ?_) ?_
  · show Steps p.tables e below (s₁.setTop (mkF m 27 #[.val (.ref a1), .val (.ref a2), .val (.int p3)] [])) _
    refine XS.iloadN X0.here hx rfl (hb hby d8_27) rfl ?_
    show Steps p.tables e below (s₁.setTop (mkF m 28 #[.val (.ref a1), .val (.ref a2), .val (.int p3)] [(.int p3)])) _
    refine XS.iconst X0.here hx rfl (hb hby d8_28) ?_
    exact kont
  have st102 : ∀ t, Steps p.tables e below (s₁.setTop (mkF m 43 #[.val (.ref a1), .val (.ref a2), .val (.int p3)] [])) t → Steps p.tables e below (s₁.setTop (mkF m 29 #[.val (.ref a1), .val (.ref a2), .val (.int p3)] [(.int (1 : Int32)), (.int p3)])) t := by
    by_cases hc29_1 : (1 : Int32) < p3
    · intro tt kont
      show Steps p.tables e below (s₁.setTop (mkF m 29 #[.val (.ref a1), .val (.ref a2), .val (.int p3)] [(.int (1 : Int32)), (.int p3)])) _
      refine XS.icmpNo X0.here hx rfl (hb hby d8_29) rfl (tlt hc29_1).2.2.2 ?_
      show Steps p.tables e below (s₁.setTop (mkF m 32 #[.val (.ref a1), .val (.ref a2), .val (.int p3)] [])) _
      refine XS.aloadN X0.here hx rfl (hb hby d8_32) rfl rfl ?_
      show Steps p.tables e below (s₁.setTop (mkF m 33 #[.val (.ref a1), .val (.ref a2), .val (.int p3)] [(.ref a1)])) _
      refine XS.iconst X0.here hx rfl (hb hby d8_33) ?_
      show Steps p.tables e below (s₁.setTop (mkF m 34 #[.val (.ref a1), .val (.ref a2), .val (.int p3)] [(.int (1 : Int32)), (.ref a1)])) _
      refine own_ldI X0 hx hZ e0 GA (j := (1 : Int32)) (i := 1) (own_at_lit rfl (by decide)) (own_lt_of hn (by decide) hc29_1) (v := (l'.getD 1 0)) rfl (g := (mkF m 34 #[.val (.ref a1), .val (.ref a2), .val (.int p3)] [(.int (1 : Int32)), (.ref a1)])) rfl rfl (hb hby d8_34) _ ?_
      show Steps p.tables e below (s₁.setTop (mkF m 35 #[.val (.ref a1), .val (.ref a2), .val (.int p3)] [(.int (l'.getD 1 0))])) _
      refine XS.aloadN X0.here hx rfl (hb hby d8_35) rfl rfl ?_
      show Steps p.tables e below (s₁.setTop (mkF m 36 #[.val (.ref a1), .val (.ref a2), .val (.int p3)] [(.ref a2), (.int (l'.getD 1 0))])) _
      refine XS.iconst X0.here hx rfl (hb hby d8_36) ?_
      show Steps p.tables e below (s₁.setTop (mkF m 37 #[.val (.ref a1), .val (.ref a2), .val (.int p3)] [(.int (1 : Int32)), (.ref a2), (.int (l'.getD 1 0))])) _
      refine own_ldI X0 hx hZ e0 XA (j := (1 : Int32)) (i := 1) (own_at_lit rfl (by decide)) (by decide) (v := (l'.getD 1 0)) rfl (g := (mkF m 37 #[.val (.ref a1), .val (.ref a2), .val (.int p3)] [(.int (1 : Int32)), (.ref a2), (.int (l'.getD 1 0))])) rfl rfl (hb hby d8_37) _ ?_
      show Steps p.tables e below (s₁.setTop (mkF m 38 #[.val (.ref a1), .val (.ref a2), .val (.int p3)] [(.int (l'.getD 1 0)), (.int (l'.getD 1 0))])) _
      refine XS.icmpYes X0.here hx rfl (pc0 := 38) (pc' := 43) rfl (hb hby d8_38) rfl (teq (rfl : (l'.getD 1 0) = (l'.getD 1 0))).1 (by decide) (by decide) ?_
      exact kont
    · intro tt kont
      show Steps p.tables e below (s₁.setTop (mkF m 29 #[.val (.ref a1), .val (.ref a2), .val (.int p3)] [(.int (1 : Int32)), (.int p3)])) _
      refine XS.icmpYes X0.here hx rfl (pc0 := 29) (pc' := 43) rfl (hb hby d8_29) rfl (flt hc29_1).2.2.2 (by decide) (by decide) ?_
      exact kont
  refine own_step st102 ?_
  refine own_step (T' := s₁) (f' := (mkF m 45 #[.val (.ref a1), .val (.ref a2), .val (.int p3)] [(.int (2 : Int32)), (.int p3)])) (fun tt kont => ?_) ?_
  · show Steps p.tables e below (s₁.setTop (mkF m 43 #[.val (.ref a1), .val (.ref a2), .val (.int p3)] [])) _
    refine XS.iloadN X0.here hx rfl (hb hby d8_43) rfl ?_
    show Steps p.tables e below (s₁.setTop (mkF m 44 #[.val (.ref a1), .val (.ref a2), .val (.int p3)] [(.int p3)])) _
    refine XS.iconst X0.here hx rfl (hb hby d8_44) ?_
    exact kont
  have st103 : ∀ t, Steps p.tables e below (s₁.setTop (mkF m 59 #[.val (.ref a1), .val (.ref a2), .val (.int p3)] [])) t → Steps p.tables e below (s₁.setTop (mkF m 45 #[.val (.ref a1), .val (.ref a2), .val (.int p3)] [(.int (2 : Int32)), (.int p3)])) t := by
    by_cases hc45_1 : (2 : Int32) < p3
    · intro tt kont
      show Steps p.tables e below (s₁.setTop (mkF m 45 #[.val (.ref a1), .val (.ref a2), .val (.int p3)] [(.int (2 : Int32)), (.int p3)])) _
      refine XS.icmpNo X0.here hx rfl (hb hby d8_45) rfl (tlt hc45_1).2.2.2 ?_
      show Steps p.tables e below (s₁.setTop (mkF m 48 #[.val (.ref a1), .val (.ref a2), .val (.int p3)] [])) _
      refine XS.aloadN X0.here hx rfl (hb hby d8_48) rfl rfl ?_
      show Steps p.tables e below (s₁.setTop (mkF m 49 #[.val (.ref a1), .val (.ref a2), .val (.int p3)] [(.ref a1)])) _
      refine XS.iconst X0.here hx rfl (hb hby d8_49) ?_
      show Steps p.tables e below (s₁.setTop (mkF m 50 #[.val (.ref a1), .val (.ref a2), .val (.int p3)] [(.int (2 : Int32)), (.ref a1)])) _
      refine own_ldI X0 hx hZ e0 GA (j := (2 : Int32)) (i := 2) (own_at_lit rfl (by decide)) (own_lt_of hn (by decide) hc45_1) (v := (l'.getD 2 0)) rfl (g := (mkF m 50 #[.val (.ref a1), .val (.ref a2), .val (.int p3)] [(.int (2 : Int32)), (.ref a1)])) rfl rfl (hb hby d8_50) _ ?_
      show Steps p.tables e below (s₁.setTop (mkF m 51 #[.val (.ref a1), .val (.ref a2), .val (.int p3)] [(.int (l'.getD 2 0))])) _
      refine XS.aloadN X0.here hx rfl (hb hby d8_51) rfl rfl ?_
      show Steps p.tables e below (s₁.setTop (mkF m 52 #[.val (.ref a1), .val (.ref a2), .val (.int p3)] [(.ref a2), (.int (l'.getD 2 0))])) _
      refine XS.iconst X0.here hx rfl (hb hby d8_52) ?_
      show Steps p.tables e below (s₁.setTop (mkF m 53 #[.val (.ref a1), .val (.ref a2), .val (.int p3)] [(.int (2 : Int32)), (.ref a2), (.int (l'.getD 2 0))])) _
      refine own_ldI X0 hx hZ e0 XA (j := (2 : Int32)) (i := 2) (own_at_lit rfl (by decide)) (by decide) (v := (l'.getD 2 0)) rfl (g := (mkF m 53 #[.val (.ref a1), .val (.ref a2), .val (.int p3)] [(.int (2 : Int32)), (.ref a2), (.int (l'.getD 2 0))])) rfl rfl (hb hby d8_53) _ ?_
      show Steps p.tables e below (s₁.setTop (mkF m 54 #[.val (.ref a1), .val (.ref a2), .val (.int p3)] [(.int (l'.getD 2 0)), (.int (l'.getD 2 0))])) _
      refine XS.icmpYes X0.here hx rfl (pc0 := 54) (pc' := 59) rfl (hb hby d8_54) rfl (teq (rfl : (l'.getD 2 0) = (l'.getD 2 0))).1 (by decide) (by decide) ?_
      exact kont
    · intro tt kont
      show Steps p.tables e below (s₁.setTop (mkF m 45 #[.val (.ref a1), .val (.ref a2), .val (.int p3)] [(.int (2 : Int32)), (.int p3)])) _
      refine XS.icmpYes X0.here hx rfl (pc0 := 45) (pc' := 59) rfl (hb hby d8_45) rfl (flt hc45_1).2.2.2 (by decide) (by decide) ?_
      exact kont
  refine own_step st103 ?_
  refine own_step (T' := s₁) (f' := (mkF m 61 #[.val (.ref a1), .val (.ref a2), .val (.int p3)] [(.int (3 : Int32)), (.int p3)])) (fun tt kont => ?_) ?_
  · show Steps p.tables e below (s₁.setTop (mkF m 59 #[.val (.ref a1), .val (.ref a2), .val (.int p3)] [])) _
    refine XS.iloadN X0.here hx rfl (hb hby d8_59) rfl ?_
    show Steps p.tables e below (s₁.setTop (mkF m 60 #[.val (.ref a1), .val (.ref a2), .val (.int p3)] [(.int p3)])) _
    refine XS.iconst X0.here hx rfl (hb hby d8_60) ?_
    exact kont
  have st104 : ∀ t, Steps p.tables e below (s₁.setTop (mkF m 75 #[.val (.ref a1), .val (.ref a2), .val (.int p3)] [])) t → Steps p.tables e below (s₁.setTop (mkF m 61 #[.val (.ref a1), .val (.ref a2), .val (.int p3)] [(.int (3 : Int32)), (.int p3)])) t := by
    by_cases hc61_1 : (3 : Int32) < p3
    · intro tt kont
      show Steps p.tables e below (s₁.setTop (mkF m 61 #[.val (.ref a1), .val (.ref a2), .val (.int p3)] [(.int (3 : Int32)), (.int p3)])) _
      refine XS.icmpNo X0.here hx rfl (hb hby d8_61) rfl (tlt hc61_1).2.2.2 ?_
      show Steps p.tables e below (s₁.setTop (mkF m 64 #[.val (.ref a1), .val (.ref a2), .val (.int p3)] [])) _
      refine XS.aloadN X0.here hx rfl (hb hby d8_64) rfl rfl ?_
      show Steps p.tables e below (s₁.setTop (mkF m 65 #[.val (.ref a1), .val (.ref a2), .val (.int p3)] [(.ref a1)])) _
      refine XS.iconst X0.here hx rfl (hb hby d8_65) ?_
      show Steps p.tables e below (s₁.setTop (mkF m 66 #[.val (.ref a1), .val (.ref a2), .val (.int p3)] [(.int (3 : Int32)), (.ref a1)])) _
      refine own_ldI X0 hx hZ e0 GA (j := (3 : Int32)) (i := 3) (own_at_lit rfl (by decide)) (own_lt_of hn (by decide) hc61_1) (v := (l'.getD 3 0)) rfl (g := (mkF m 66 #[.val (.ref a1), .val (.ref a2), .val (.int p3)] [(.int (3 : Int32)), (.ref a1)])) rfl rfl (hb hby d8_66) _ ?_
      show Steps p.tables e below (s₁.setTop (mkF m 67 #[.val (.ref a1), .val (.ref a2), .val (.int p3)] [(.int (l'.getD 3 0))])) _
      refine XS.aloadN X0.here hx rfl (hb hby d8_67) rfl rfl ?_
      show Steps p.tables e below (s₁.setTop (mkF m 68 #[.val (.ref a1), .val (.ref a2), .val (.int p3)] [(.ref a2), (.int (l'.getD 3 0))])) _
      refine XS.iconst X0.here hx rfl (hb hby d8_68) ?_
      show Steps p.tables e below (s₁.setTop (mkF m 69 #[.val (.ref a1), .val (.ref a2), .val (.int p3)] [(.int (3 : Int32)), (.ref a2), (.int (l'.getD 3 0))])) _
      refine own_ldI X0 hx hZ e0 XA (j := (3 : Int32)) (i := 3) (own_at_lit rfl (by decide)) (by decide) (v := (l'.getD 3 0)) rfl (g := (mkF m 69 #[.val (.ref a1), .val (.ref a2), .val (.int p3)] [(.int (3 : Int32)), (.ref a2), (.int (l'.getD 3 0))])) rfl rfl (hb hby d8_69) _ ?_
      show Steps p.tables e below (s₁.setTop (mkF m 70 #[.val (.ref a1), .val (.ref a2), .val (.int p3)] [(.int (l'.getD 3 0)), (.int (l'.getD 3 0))])) _
      refine XS.icmpYes X0.here hx rfl (pc0 := 70) (pc' := 75) rfl (hb hby d8_70) rfl (teq (rfl : (l'.getD 3 0) = (l'.getD 3 0))).1 (by decide) (by decide) ?_
      exact kont
    · intro tt kont
      show Steps p.tables e below (s₁.setTop (mkF m 61 #[.val (.ref a1), .val (.ref a2), .val (.int p3)] [(.int (3 : Int32)), (.int p3)])) _
      refine XS.icmpYes X0.here hx rfl (pc0 := 61) (pc' := 75) rfl (hb hby d8_61) rfl (flt hc61_1).2.2.2 (by decide) (by decide) ?_
      exact kont
  refine own_step st104 ?_
  refine own_step (T' := s₁) (f' := (mkF m 76 #[.val (.ref a1), .val (.ref a2), .val (.int p3)] [(.int (1 : Int32))])) (fun tt kont => ?_) ?_
  · show Steps p.tables e below (s₁.setTop (mkF m 75 #[.val (.ref a1), .val (.ref a2), .val (.int p3)] [])) _
    refine XS.iconst X0.here hx rfl (hb hby d8_75) ?_
    exact kont
  exact own_retZ X0 hx hret hlk (hb hby d8_76) (by decide) (by decide) ⟨rfl, N0, e0⟩
theorem own_pd1 : parseMethodDescriptor "(I)[I" = some ⟨[.int], some (.array .int)⟩ := by decide +kernel
theorem own_pd2 : parseMethodDescriptor "([I[II)Z" = some ⟨[(.array .int), (.array .int), .int], some .boolean⟩ := by decide +kernel
set_option maxRecDepth 65536 in
set_option maxHeartbeats 40000000 in
theorem own_s309 {p : Program} {l : Launch} {e : Env} {s : State} {m : MethodId} {args : Array Value} {below : List Frame} {meth : Method} {c : Code} {T0 : State} {locs : List Loc} {Z : State} {a0 : Array Value} {h0 : Heap} {n0 : Nat} {p1 p2 p3 p4 p5 c5 yB yC : Int32} {ob : Addr} {pth : Nat → List Int32} {x0 x1 x2 x3 : Addr} {n0v n1 n2 n3 : Int32} (X0 : Stand p l e room_1 s m args below meth c T0 locs 8 212) (hx : p.tables.exec = Jvm.exec) (hZ : Z.Warmed39 s.vm) (hw : ∀ d ∈ tables_1, d.before a0 Z = true) (hby : c.code = code) (hret : meth.sig.returnType = some .boolean) (hlk : meth.locks = false) (hml : c.maxLocals = 21) (hown : s.vm.findClass "com/example/tapir/tapir/sampling/PathTreePathPinLaw" = some m.cls) (e0 : T0.heap = h0) (N0 : Fr n0 locs) (Z0 : n0 ≤ h0.size) (PT : own_PT Z h0 n0 ob 4 pth) (XA0 : own_A Z h0 x0 .int 4 (fun i => .int ((pth 0).getD i 0))) (XA1 : own_A Z h0 x1 .int 4 (fun i => .int ((pth 1).getD i 0))) (XA2 : own_A Z h0 x2 .int 4 (fun i => .int ((pth 2).getD i 0))) (XA3 : own_A Z h0 x3 .int 4 (fun i => .int ((pth 3).getD i 0))) (hn0 : own_at n0v (pth 0).length) (hn1 : own_at n1 (pth 1).length) (hn2 : own_at n2 (pth 2).length) (hn3 : own_at n3 (pth 3).length) (hl0 : (pth 0).length ≤ 4) (hl1 : (pth 1).length ≤ 4) (hl2 : (pth 2).length ≤ 4) (hl3 : (pth 3).length ≤ 4) :
    own_Go p e below T0 (mkF m 309 #[.val (.int p1), .val (.int p2), .val (.int p3), .val (.int p4), .val (.int p5), .val (.int c5), .val (.int yB), .val (.int yC), .val (.ref ob), .val (.int (0 : Int32)), .val (.int (1 : Int32)), .val (.int (2 : Int32)), .val (.int (3 : Int32)), .val (.ref x0), .val (.int n0v), .val (.ref x1), .val (.int n1), .val (.ref x2), .val (.int n2), .val (.ref x3), .val (.int n3)] []) (fun o U' => ∃ v L, o = .returned v ∧ own_QL n0 v U'.heap L ∧ FrameEnd s o U' L 32 512) := by
  refine own_step (T' := T0) (f' := (mkF m 313 #[.val (.int p1), .val (.int p2), .val (.int p3), .val (.int p4), .val (.int p5), .val (.int c5), .val (.int yB), .val (.int yC), .val (.ref ob), .val (.int (0 : Int32)), .val (.int (1 : Int32)), .val (.int (2 : Int32)), .val (.int (3 : Int32)), .val (.ref x0), .val (.int n0v), .val (.ref x1), .val (.int n1), .val (.ref x2), .val (.int n2), .val (.ref x3), .val (.int n3)] [(.int (0 : Int32)), (.ref ob)])) (fun tt kont => ?_) ?_
  · show Steps p.tables e below (T0.setTop (mkF m 309 #[.val (.int p1), .val (.int p2), .val (.int p3), .val (.int p4), .val (.int p5), .val (.int c5), .val (.int yB), .val (.int yC), .val (.ref ob), .val (.int (0 : Int32)), .val (.int (1 : Int32)), .val (.int (2 : Int32)), .val (.int (3 : Int32)), .val (.ref x0), .val (.int n0v), .val (.ref x1), .val (.int n1), .val (.ref x2), .val (.int n2), .val (.ref x3), .val (.int n3)] [])) _
    refine XS.aload X0.here hx rfl (hb hby at_309) rfl rfl ?_
    show Steps p.tables e below (T0.setTop (mkF m 311 #[.val (.int p1), .val (.int p2), .val (.int p3), .val (.int p4), .val (.int p5), .val (.int c5), .val (.int yB), .val (.int yC), .val (.ref ob), .val (.int (0 : Int32)), .val (.int (1 : Int32)), .val (.int (2 : Int32)), .val (.int (3 : Int32)), .val (.ref x0), .val (.int n0v), .val (.ref x1), .val (.int n1), .val (.ref x2), .val (.int n2), .val (.ref x3), .val (.int n3)] [(.ref ob)])) _
    refine XS.iload X0.here hx rfl (hb hby at_311) rfl ?_
    exact kont
  obtain ⟨cq1310, kq1310, q1310a, q1310b, q1310c⟩ := isOf hZ e0 (PT.exa)
  obtain ⟨_, _, ⟨T1310, L1310, k1310, n1310⟩, -, X1310, ⟨Lc1310, hQ1310, l1310, y1310, z1310⟩, st1310⟩ := X0.virtualBack hx (y := (⟨"com/example/tapir/tapir/sampling/PathTree", "path", "(I)[I"⟩ : MethodName)) (z := (⟨"com/example/tapir/tapir/sampling/PathTree", "path", "(I)[I"⟩ : MethodName)) hown (mvT hZ (hw _ (List.mem_of_getElem? (i := 36) rfl))) (mvT hZ (hw _ (List.mem_of_getElem? (i := 37) rfl))) (notFace_of_selects (args := #[]) (mvT hZ (hw _ (List.mem_of_getElem? (i := 39) rfl)))) (mvT hZ (hw _ (List.mem_of_getElem? (i := 39) rfl))) (mvT hZ (hw _ (List.mem_of_getElem? (i := 38) rfl))) (by decide) (backOf (W := 0) (own_rmP l Z a0 hw ob (0 : Int32) 4 0 pth h0 n0 Z0 PT (by decide) (own_at_lit rfl (by decide)) (by decide) hl0) hZ (hw _ (List.mem_of_getElem? (i := 40) rfl)) (hw _ (List.mem_of_getElem? (i := 2) rfl)) (by decide) (by decide)) q1310a q1310c (g := (mkF m 313 #[.val (.int p1), .val (.int p2), .val (.int p3), .val (.int p4), .val (.int p5), .val (.int c5), .val (.int yB), .val (.int yC), .val (.ref ob), .val (.int (0 : Int32)), .val (.int (1 : Int32)), .val (.int (2 : Int32)), .val (.int (3 : Int32)), .val (.ref x0), .val (.int n0v), .val (.ref x1), .val (.int n1), .val (.ref x2), .val (.int n2), .val (.ref x3), .val (.int n3)] [(.int (0 : Int32)), (.ref ob)])) rfl (by rw [hml]; rfl) (Steps.refl _) (argsL := [(.int (0 : Int32))]) (rest := []) (lenOf own_pd1 rfl) rfl (by show 2 * 0 + _ ≤ _; exact Nat.le_of_eq rfl) (hb hby at_313) (fun _ _ => ⟨rfl, e0, (by decide : 8 + 1 ≤ _), (by decide : 212 + 4 ≤ _)⟩)
  dsimp only [Pt.U, Pt.locs, Pt.cells, Pt.slots] at X1310 l1310 y1310 z1310 st1310 hQ1310
  subst l1310 y1310 z1310
  obtain ⟨g0, rfl, N1310q, sz1310, K1310, VG1310⟩ := hQ1310
  have N1310 := Fr.app N0 N1310q
  refine own_step (fun tt kont => st1310.trans kont) ?_
  have KK1310 := (Keep.refl h0 []).trans K1310 (fun x hx => absurd hx nin0)
  have Z1310 := Nat.le_trans Z0 K1310.1
  refine own_step (T' := T1310) (f' := (mkF m 320 #[.val (.int p1), .val (.int p2), .val (.int p3), .val (.int p4), .val (.int p5), .val (.int c5), .val (.int yB), .val (.int yC), .val (.ref ob), .val (.int (0 : Int32)), .val (.int (1 : Int32)), .val (.int (2 : Int32)), .val (.int (3 : Int32)), .val (.ref x0), .val (.int n0v), .val (.ref x1), .val (.int n1), .val (.ref x2), .val (.int n2), .val (.ref x3), .val (.int n3)] [(.int n0v), (.ref x0), (.ref g0)])) (fun tt kont => ?_) ?_
  · show Steps p.tables e below (T1310.setTop (mkF m 316 #[.val (.int p1), .val (.int p2), .val (.int p3), .val (.int p4), .val (.int p5), .val (.int c5), .val (.int yB), .val (.int yC), .val (.ref ob), .val (.int (0 : Int32)), .val (.int (1 : Int32)), .val (.int (2 : Int32)), .val (.int (3 : Int32)), .val (.ref x0), .val (.int n0v), .val (.ref x1), .val (.int n1), .val (.ref x2), .val (.int n2), .val (.ref x3), .val (.int n3)] [(.ref g0)])) _
    refine XS.aload X1310.here hx rfl (hb hby at_316) rfl rfl ?_
    show Steps p.tables e below (T1310.setTop (mkF m 318 #[.val (.int p1), .val (.int p2), .val (.int p3), .val (.int p4), .val (.int p5), .val (.int c5), .val (.int yB), .val (.int yC), .val (.ref ob), .val (.int (0 : Int32)), .val (.int (1 : Int32)), .val (.int (2 : Int32)), .val (.int (3 : Int32)), .val (.ref x0), .val (.int n0v), .val (.ref x1), .val (.int n1), .val (.ref x2), .val (.int n2), .val (.ref x3), .val (.int n3)] [(.ref x0), (.ref g0)])) _
    refine XS.iload X1310.here hx rfl (hb hby at_318) rfl ?_
    exact kont
  obtain ⟨_, _, ⟨T1311, L1311, k1311, n1311⟩, -, X1311, ⟨Lc1311, hQ1311, l1311, y1311, z1311⟩, st1311⟩ := Jvm.LawKit.callS X1310 hx (y := (⟨"com/example/tapir/tapir/sampling/PathTreePathPinLaw", "same", "([I[II)Z"⟩ : MethodName)) hown (mvT hZ (hw _ (List.mem_of_getElem? (i := 41) rfl))) (mvT hZ (hw _ (List.mem_of_getElem? (i := 42) rfl))) (mvT hZ (hw _ (List.mem_of_getElem? (i := 34) rfl))) (mvT hZ (hw _ (List.mem_of_getElem? (i := 43) rfl))) (by decide) (backOf (W := 0) (own_rmS l Z a0 hw g0 x0 n0v (pth 0) T1310.heap n0 VG1310 (XA0.keep KK1310 nin0) hn0) hZ (hw _ (List.mem_of_getElem? (i := 43) rfl)) (hw _ (List.mem_of_getElem? (i := 34) rfl)) (by decide) (by decide)) (g := (mkF m 320 #[.val (.int p1), .val (.int p2), .val (.int p3), .val (.int p4), .val (.int p5), .val (.int c5), .val (.int yB), .val (.int yC), .val (.ref ob), .val (.int (0 : Int32)), .val (.int (1 : Int32)), .val (.int (2 : Int32)), .val (.int (3 : Int32)), .val (.ref x0), .val (.int n0v), .val (.ref x1), .val (.int n1), .val (.ref x2), .val (.int n2), .val (.ref x3), .val (.int n3)] [(.int n0v), (.ref x0), (.ref g0)])) rfl (by rw [hml]; rfl) (argsL := [(.ref g0), (.ref x0), (.int n0v)]) (rest := []) (lenOf own_pd2 rfl) rfl (by show 2 * 0 + _ ≤ _; exact Nat.le_of_eq rfl) (hb hby at_320) (fun _ _ => ⟨rfl, rfl, (by decide : 9 + 0 ≤ _), (by decide : 216 + 0 ≤ _)⟩)
  dsimp only [Pt.U, Pt.locs, Pt.cells, Pt.slots] at X1311 l1311 y1311 z1311 st1311 hQ1311
  subst l1311 y1311 z1311
  obtain ⟨rfl, N1311q, e1311⟩ := hQ1311
  have N1311 := Fr.app N1310 N1311q
  refine own_step (fun tt kont => st1311 _ kont) ?_
  refine own_step (T' := T1311) (f' := (mkF m 330 #[.val (.int p1), .val (.int p2), .val (.int p3), .val (.int p4), .val (.int p5), .val (.int c5), .val (.int yB), .val (.int yC), .val (.ref ob), .val (.int (0 : Int32)), .val (.int (1 : Int32)), .val (.int (2 : Int32)), .val (.int (3 : Int32)), .val (.ref x0), .val (.int n0v), .val (.ref x1), .val (.int n1), .val (.ref x2), .val (.int n2), .val (.ref x3), .val (.int n3)] [(.int (1 : Int32)), (.ref ob)])) (fun tt kont => ?_) ?_
  · show Steps p.tables e below (T1311.setTop (mkF m 323 #[.val (.int p1), .val (.int p2), .val (.int p3), .val (.int p4), .val (.int p5), .val (.int c5), .val (.int yB), .val (.int yC), .val (.ref ob), .val (.int (0 : Int32)), .val (.int (1 : Int32)), .val (.int (2 : Int32)), .val (.int (3 : Int32)), .val (.ref x0), .val (.int n0v), .val (.ref x1), .val (.int n1), .val (.ref x2), .val (.int n2), .val (.ref x3), .val (.int n3)] [(.int (1 : Int32))])) _
    refine XS.ifNo X1311.here hx rfl (hb hby at_323) rfl ((if0 _ _).trans (feq (by decide : ¬ ((1 : Int32) = (0 : Int32)))).1) ?_
    show Steps p.tables e below (T1311.setTop (mkF m 326 #[.val (.int p1), .val (.int p2), .val (.int p3), .val (.int p4), .val (.int p5), .val (.int c5), .val (.int yB), .val (.int yC), .val (.ref ob), .val (.int (0 : Int32)), .val (.int (1 : Int32)), .val (.int (2 : Int32)), .val (.int (3 : Int32)), .val (.ref x0), .val (.int n0v), .val (.ref x1), .val (.int n1), .val (.ref x2), .val (.int n2), .val (.ref x3), .val (.int n3)] [])) _
    refine XS.aload X1311.here hx rfl (hb hby at_326) rfl rfl ?_
    show Steps p.tables e below (T1311.setTop (mkF m 328 #[.val (.int p1), .val (.int p2), .val (.int p3), .val (.int p4), .val (.int p5), .val (.int c5), .val (.int yB), .val (.int yC), .val (.ref ob), .val (.int (0 : Int32)), .val (.int (1 : Int32)), .val (.int (2 : Int32)), .val (.int (3 : Int32)), .val (.ref x0), .val (.int n0v), .val (.ref x1), .val (.int n1), .val (.ref x2), .val (.int n2), .val (.ref x3), .val (.int n3)] [(.ref ob)])) _
    refine XS.iload X1311.here hx rfl (hb hby at_328) rfl ?_
    exact kont
  obtain ⟨cq1312, kq1312, q1312a, q1312b, q1312c⟩ := isOf hZ e1311 ((PT.keep KK1310).exa)
  obtain ⟨_, _, ⟨T1312, L1312, k1312, n1312⟩, -, X1312, ⟨Lc1312, hQ1312, l1312, y1312, z1312⟩, st1312⟩ := X1311.virtualBack hx (y := (⟨"com/example/tapir/tapir/sampling/PathTree", "path", "(I)[I"⟩ : MethodName)) (z := (⟨"com/example/tapir/tapir/sampling/PathTree", "path", "(I)[I"⟩ : MethodName)) hown (mvT hZ (hw _ (List.mem_of_getElem? (i := 36) rfl))) (mvT hZ (hw _ (List.mem_of_getElem? (i := 37) rfl))) (notFace_of_selects (args := #[]) (mvT hZ (hw _ (List.mem_of_getElem? (i := 39) rfl)))) (mvT hZ (hw _ (List.mem_of_getElem? (i := 39) rfl))) (mvT hZ (hw _ (List.mem_of_getElem? (i := 38) rfl))) (by decide) (backOf (W := 0) (own_rmP l Z a0 hw ob (1 : Int32) 4 1 pth T1310.heap n0 Z1310 (PT.keep KK1310) (by decide) (own_at_lit rfl (by decide)) (by decide) hl1) hZ (hw _ (List.mem_of_getElem? (i := 40) rfl)) (hw _ (List.mem_of_getElem? (i := 2) rfl)) (by decide) (by decide)) q1312a q1312c (g := (mkF m 330 #[.val (.int p1), .val (.int p2), .val (.int p3), .val (.int p4), .val (.int p5), .val (.int c5), .val (.int yB), .val (.int yC), .val (.ref ob), .val (.int (0 : Int32)), .val (.int (1 : Int32)), .val (.int (2 : Int32)), .val (.int (3 : Int32)), .val (.ref x0), .val (.int n0v), .val (.ref x1), .val (.int n1), .val (.ref x2), .val (.int n2), .val (.ref x3), .val (.int n3)] [(.int (1 : Int32)), (.ref ob)])) rfl (by rw [hml]; rfl) (Steps.refl _) (argsL := [(.int (1 : Int32))]) (rest := []) (lenOf own_pd1 rfl) rfl (by show 2 * 0 + _ ≤ _; exact Nat.le_of_eq rfl) (hb hby at_330) (fun _ _ => ⟨rfl, e1311, (by decide : 9 + 1 ≤ _), (by decide : 216 + 4 ≤ _)⟩)
  dsimp only [Pt.U, Pt.locs, Pt.cells, Pt.slots] at X1312 l1312 y1312 z1312 st1312 hQ1312
  subst l1312 y1312 z1312
  obtain ⟨g1, rfl, N1312q, sz1312, K1312, VG1312⟩ := hQ1312
  have N1312 := Fr.app N1311 N1312q
  refine own_step (fun tt kont => st1312.trans kont) ?_
  have KK1312 := KK1310.trans K1312 (fun x hx => absurd hx nin0)
  have Z1312 := Nat.le_trans Z1310 K1312.1
  refine own_step (T' := T1312) (f' := (mkF m 337 #[.val (.int p1), .val (.int p2), .val (.int p3), .val (.int p4), .val (.int p5), .val (.int c5), .val (.int yB), .val (.int yC), .val (.ref ob), .val (.int (0 : Int32)), .val (.int (1 : Int32)), .val (.int (2 : Int32)), .val (.int (3 : Int32)), .val (.ref x0), .val (.int n0v), .val (.ref x1), .val (.int n1), .val (.ref x2), .val (.int n2), .val (.ref x3), .val (.int n3)] [(.int n1), (.ref x1), (.ref g1)])) (fun tt kont => ?_) ?_
  · show Steps p.tables e below (T1312.setTop (mkF m 333 #[.val (.int p1), .val (.int p2), .val (.int p3), .val (.int p4), .val (.int p5), .val (.int c5), .val (.int yB), .val (.int yC), .val (.ref ob), .val (.int (0 : Int32)), .val (.int (1 : Int32)), .val (.int (2 : Int32)), .val (.int (3 : Int32)), .val (.ref x0), .val (.int n0v), .val (.ref x1), .val (.int n1), .val (.ref x2), .val (.int n2), .val (.ref x3), .val (.int n3)] [(.ref g1)])) _
    refine XS.aload X1312.here hx rfl (hb hby at_333) rfl rfl ?_
    show Steps p.tables e below (T1312.setTop (mkF m 335 #[.val (.int p1), .val (.int p2), .val (.int p3), .val (.int p4), .val (.int p5), .val (.int c5), .val (.int yB), .val (.int yC), .val (.ref ob), .val (.int (0 : Int32)), .val (.int (1 : Int32)), .val (.int (2 : Int32)), .val (.int (3 : Int32)), .val (.ref x0), .val (.int n0v), .val (.ref x1), .val (.int n1), .val (.ref x2), .val (.int n2), .val (.ref x3), .val (.int n3)] [(.ref x1), (.ref g1)])) _
    refine XS.iload X1312.here hx rfl (hb hby at_335) rfl ?_
    exact kont
  obtain ⟨_, _, ⟨T1313, L1313, k1313, n1313⟩, -, X1313, ⟨Lc1313, hQ1313, l1313, y1313, z1313⟩, st1313⟩ := Jvm.LawKit.callS X1312 hx (y := (⟨"com/example/tapir/tapir/sampling/PathTreePathPinLaw", "same", "([I[II)Z"⟩ : MethodName)) hown (mvT hZ (hw _ (List.mem_of_getElem? (i := 41) rfl))) (mvT hZ (hw _ (List.mem_of_getElem? (i := 42) rfl))) (mvT hZ (hw _ (List.mem_of_getElem? (i := 34) rfl))) (mvT hZ (hw _ (List.mem_of_getElem? (i := 43) rfl))) (by decide) (backOf (W := 0) (own_rmS l Z a0 hw g1 x1 n1 (pth 1) T1312.heap n0 VG1312 (XA1.keep KK1312 nin0) hn1) hZ (hw _ (List.mem_of_getElem? (i := 43) rfl)) (hw _ (List.mem_of_getElem? (i := 34) rfl)) (by decide) (by decide)) (g := (mkF m 337 #[.val (.int p1), .val (.int p2), .val (.int p3), .val (.int p4), .val (.int p5), .val (.int c5), .val (.int yB), .val (.int yC), .val (.ref ob), .val (.int (0 : Int32)), .val (.int (1 : Int32)), .val (.int (2 : Int32)), .val (.int (3 : Int32)), .val (.ref x0), .val (.int n0v), .val (.ref x1), .val (.int n1), .val (.ref x2), .val (.int n2), .val (.ref x3), .val (.int n3)] [(.int n1), (.ref x1), (.ref g1)])) rfl (by rw [hml]; rfl) (argsL := [(.ref g1), (.ref x1), (.int n1)]) (rest := []) (lenOf own_pd2 rfl) rfl (by show 2 * 0 + _ ≤ _; exact Nat.le_of_eq rfl) (hb hby at_337) (fun _ _ => ⟨rfl, rfl, (by decide : 10 + 0 ≤ _), (by decide : 220 + 0 ≤ _)⟩)
  dsimp only [Pt.U, Pt.locs, Pt.cells, Pt.slots] at X1313 l1313 y1313 z1313 st1313 hQ1313
  subst l1313 y1313 z1313
  obtain ⟨rfl, N1313q, e1313⟩ := hQ1313
  have N1313 := Fr.app N1312 N1313q
  refine own_step (fun tt kont => st1313 _ kont) ?_
  refine own_step (T' := T1313) (f' := (mkF m 347 #[.val (.int p1), .val (.int p2), .val (.int p3), .val (.int p4), .val (.int p5), .val (.int c5), .val (.int yB), .val (.int yC), .val (.ref ob), .val (.int (0 : Int32)), .val (.int (1 : Int32)), .val (.int (2 : Int32)), .val (.int (3 : Int32)), .val (.ref x0), .val (.int n0v), .val (.ref x1), .val (.int n1), .val (.ref x2), .val (.int n2), .val (.ref x3), .val (.int n3)] [(.int (2 : Int32)), (.ref ob)])) (fun tt kont => ?_) ?_
  · show Steps p.tables e below (T1313.setTop (mkF m 340 #[.val (.int p1), .val (.int p2), .val (.int p3), .val (.int p4), .val (.int p5), .val (.int c5), .val (.int yB), .val (.int yC), .val (.ref ob), .val (.int (0 : Int32)), .val (.int (1 : Int32)), .val (.int (2 : Int32)), .val (.int (3 : Int32)), .val (.ref x0), .val (.int n0v), .val (.ref x1), .val (.int n1), .val (.ref x2), .val (.int n2), .val (.ref x3), .val (.int n3)] [(.int (1 : Int32))])) _
    refine XS.ifNo X1313.here hx rfl (hb hby at_340) rfl ((if0 _ _).trans (feq (by decide : ¬ ((1 : Int32) = (0 : Int32)))).1) ?_
    show Steps p.tables e below (T1313.setTop (mkF m 343 #[.val (.int p1), .val (.int p2), .val (.int p3), .val (.int p4), .val (.int p5), .val (.int c5), .val (.int yB), .val (.int yC), .val (.ref ob), .val (.int (0 : Int32)), .val (.int (1 : Int32)), .val (.int (2 : Int32)), .val (.int (3 : Int32)), .val (.ref x0), .val (.int n0v), .val (.ref x1), .val (.int n1), .val (.ref x2), .val (.int n2), .val (.ref x3), .val (.int n3)] [])) _
    refine XS.aload X1313.here hx rfl (hb hby at_343) rfl rfl ?_
    show Steps p.tables e below (T1313.setTop (mkF m 345 #[.val (.int p1), .val (.int p2), .val (.int p3), .val (.int p4), .val (.int p5), .val (.int c5), .val (.int yB), .val (.int yC), .val (.ref ob), .val (.int (0 : Int32)), .val (.int (1 : Int32)), .val (.int (2 : Int32)), .val (.int (3 : Int32)), .val (.ref x0), .val (.int n0v), .val (.ref x1), .val (.int n1), .val (.ref x2), .val (.int n2), .val (.ref x3), .val (.int n3)] [(.ref ob)])) _
    refine XS.iload X1313.here hx rfl (hb hby at_345) rfl ?_
    exact kont
  obtain ⟨cq1314, kq1314, q1314a, q1314b, q1314c⟩ := isOf hZ e1313 ((PT.keep KK1312).exa)
  obtain ⟨_, _, ⟨T1314, L1314, k1314, n1314⟩, -, X1314, ⟨Lc1314, hQ1314, l1314, y1314, z1314⟩, st1314⟩ := X1313.virtualBack hx (y := (⟨"com/example/tapir/tapir/sampling/PathTree", "path", "(I)[I"⟩ : MethodName)) (z := (⟨"com/example/tapir/tapir/sampling/PathTree", "path", "(I)[I"⟩ : MethodName)) hown (mvT hZ (hw _ (List.mem_of_getElem? (i := 36) rfl))) (mvT hZ (hw _ (List.mem_of_getElem? (i := 37) rfl))) (notFace_of_selects (args := #[]) (mvT hZ (hw _ (List.mem_of_getElem? (i := 39) rfl)))) (mvT hZ (hw _ (List.mem_of_getElem? (i := 39) rfl))) (mvT hZ (hw _ (List.mem_of_getElem? (i := 38) rfl))) (by decide) (backOf (W := 0) (own_rmP l Z a0 hw ob (2 : Int32) 4 2 pth T1312.heap n0 Z1312 (PT.keep KK1312) (by decide) (own_at_lit rfl (by decide)) (by decide) hl2) hZ (hw _ (List.mem_of_getElem? (i := 40) rfl)) (hw _ (List.mem_of_getElem? (i := 2) rfl)) (by decide) (by decide)) q1314a q1314c (g := (mkF m 347 #[.val (.int p1), .val (.int p2), .val (.int p3), .val (.int p4), .val (.int p5), .val (.int c5), .val (.int yB), .val (.int yC), .val (.ref ob), .val (.int (0 : Int32)), .val (.int (1 : Int32)), .val (.int (2 : Int32)), .val (.int (3 : Int32)), .val (.ref x0), .val (.int n0v), .val (.ref x1), .val (.int n1), .val (.ref x2), .val (.int n2), .val (.ref x3), .val (.int n3)] [(.int (2 : Int32)), (.ref ob)])) rfl (by rw [hml]; rfl) (Steps.refl _) (argsL := [(.int (2 : Int32))]) (rest := []) (lenOf own_pd1 rfl) rfl (by show 2 * 0 + _ ≤ _; exact Nat.le_of_eq rfl) (hb hby at_347) (fun _ _ => ⟨rfl, e1313, (by decide : 10 + 1 ≤ _), (by decide : 220 + 4 ≤ _)⟩)
  dsimp only [Pt.U, Pt.locs, Pt.cells, Pt.slots] at X1314 l1314 y1314 z1314 st1314 hQ1314
  subst l1314 y1314 z1314
  obtain ⟨g2, rfl, N1314q, sz1314, K1314, VG1314⟩ := hQ1314
  have N1314 := Fr.app N1313 N1314q
  refine own_step (fun tt kont => st1314.trans kont) ?_
  have KK1314 := KK1312.trans K1314 (fun x hx => absurd hx nin0)
  have Z1314 := Nat.le_trans Z1312 K1314.1
  refine own_step (T' := T1314) (f' := (mkF m 354 #[.val (.int p1), .val (.int p2), .val (.int p3), .val (.int p4), .val (.int p5), .val (.int c5), .val (.int yB), .val (.int yC), .val (.ref ob), .val (.int (0 : Int32)), .val (.int (1 : Int32)), .val (.int (2 : Int32)), .val (.int (3 : Int32)), .val (.ref x0), .val (.int n0v), .val (.ref x1), .val (.int n1), .val (.ref x2), .val (.int n2), .val (.ref x3), .val (.int n3)] [(.int n2), (.ref x2), (.ref g2)])) (fun tt kont => ?_) ?_
  · show Steps p.tables e below (T1314.setTop (mkF m 350 #[.val (.int p1), .val (.int p2), .val (.int p3), .val (.int p4), .val (.int p5), .val (.int c5), .val (.int yB), .val (.int yC), .val (.ref ob), .val (.int (0 : Int32)), .val (.int (1 : Int32)), .val (.int (2 : Int32)), .val (.int (3 : Int32)), .val (.ref x0), .val (.int n0v), .val (.ref x1), .val (.int n1), .val (.ref x2), .val (.int n2), .val (.ref x3), .val (.int n3)] [(.ref g2)])) _
    refine XS.aload X1314.here hx rfl (hb hby at_350) rfl rfl ?_
    show Steps p.tables e below (T1314.setTop (mkF m 352 #[.val (.int p1), .val (.int p2), .val (.int p3), .val (.int p4), .val (.int p5), .val (.int c5), .val (.int yB), .val (.int yC), .val (.ref ob), .val (.int (0 : Int32)), .val (.int (1 : Int32)), .val (.int (2 : Int32)), .val (.int (3 : Int32)), .val (.ref x0), .val (.int n0v), .val (.ref x1), .val (.int n1), .val (.ref x2), .val (.int n2), .val (.ref x3), .val (.int n3)] [(.ref x2), (.ref g2)])) _
    refine XS.iload X1314.here hx rfl (hb hby at_352) rfl ?_
    exact kont
  obtain ⟨_, _, ⟨T1315, L1315, k1315, n1315⟩, -, X1315, ⟨Lc1315, hQ1315, l1315, y1315, z1315⟩, st1315⟩ := Jvm.LawKit.callS X1314 hx (y := (⟨"com/example/tapir/tapir/sampling/PathTreePathPinLaw", "same", "([I[II)Z"⟩ : MethodName)) hown (mvT hZ (hw _ (List.mem_of_getElem? (i := 41) rfl))) (mvT hZ (hw _ (List.mem_of_getElem? (i := 42) rfl))) (mvT hZ (hw _ (List.mem_of_getElem? (i := 34) rfl))) (mvT hZ (hw _ (List.mem_of_getElem? (i := 43) rfl))) (by decide) (backOf (W := 0) (own_rmS l Z a0 hw g2 x2 n2 (pth 2) T1314.heap n0 VG1314 (XA2.keep KK1314 nin0) hn2) hZ (hw _ (List.mem_of_getElem? (i := 43) rfl)) (hw _ (List.mem_of_getElem? (i := 34) rfl)) (by decide) (by decide)) (g := (mkF m 354 #[.val (.int p1), .val (.int p2), .val (.int p3), .val (.int p4), .val (.int p5), .val (.int c5), .val (.int yB), .val (.int yC), .val (.ref ob), .val (.int (0 : Int32)), .val (.int (1 : Int32)), .val (.int (2 : Int32)), .val (.int (3 : Int32)), .val (.ref x0), .val (.int n0v), .val (.ref x1), .val (.int n1), .val (.ref x2), .val (.int n2), .val (.ref x3), .val (.int n3)] [(.int n2), (.ref x2), (.ref g2)])) rfl (by rw [hml]; rfl) (argsL := [(.ref g2), (.ref x2), (.int n2)]) (rest := []) (lenOf own_pd2 rfl) rfl (by show 2 * 0 + _ ≤ _; exact Nat.le_of_eq rfl) (hb hby at_354) (fun _ _ => ⟨rfl, rfl, (by decide : 11 + 0 ≤ _), (by decide : 224 + 0 ≤ _)⟩)
  dsimp only [Pt.U, Pt.locs, Pt.cells, Pt.slots] at X1315 l1315 y1315 z1315 st1315 hQ1315
  subst l1315 y1315 z1315
  obtain ⟨rfl, N1315q, e1315⟩ := hQ1315
  have N1315 := Fr.app N1314 N1315q
  refine own_step (fun tt kont => st1315 _ kont) ?_
  refine own_step (T' := T1315) (f' := (mkF m 364 #[.val (.int p1), .val (.int p2), .val (.int p3), .val (.int p4), .val (.int p5), .val (.int c5), .val (.int yB), .val (.int yC), .val (.ref ob), .val (.int (0 : Int32)), .val (.int (1 : Int32)), .val (.int (2 : Int32)), .val (.int (3 : Int32)), .val (.ref x0), .val (.int n0v), .val (.ref x1), .val (.int n1), .val (.ref x2), .val (.int n2), .val (.ref x3), .val (.int n3)] [(.int (3 : Int32)), (.ref ob)])) (fun tt kont => ?_) ?_
  · show Steps p.tables e below (T1315.setTop (mkF m 357 #[.val (.int p1), .val (.int p2), .val (.int p3), .val (.int p4), .val (.int p5), .val (.int c5), .val (.int yB), .val (.int yC), .val (.ref ob), .val (.int (0 : Int32)), .val (.int (1 : Int32)), .val (.int (2 : Int32)), .val (.int (3 : Int32)), .val (.ref x0), .val (.int n0v), .val (.ref x1), .val (.int n1), .val (.ref x2), .val (.int n2), .val (.ref x3), .val (.int n3)] [(.int (1 : Int32))])) _
    refine XS.ifNo X1315.here hx rfl (hb hby at_357) rfl ((if0 _ _).trans (feq (by decide : ¬ ((1 : Int32) = (0 : Int32)))).1) ?_
    show Steps p.tables e below (T1315.setTop (mkF m 360 #[.val (.int p1), .val (.int p2), .val (.int p3), .val (.int p4), .val (.int p5), .val (.int c5), .val (.int yB), .val (.int yC), .val (.ref ob), .val (.int (0 : Int32)), .val (.int (1 : Int32)), .val (.int (2 : Int32)), .val (.int (3 : Int32)), .val (.ref x0), .val (.int n0v), .val (.ref x1), .val (.int n1), .val (.ref x2), .val (.int n2), .val (.ref x3), .val (.int n3)] [])) _
    refine XS.aload X1315.here hx rfl (hb hby at_360) rfl rfl ?_
    show Steps p.tables e below (T1315.setTop (mkF m 362 #[.val (.int p1), .val (.int p2), .val (.int p3), .val (.int p4), .val (.int p5), .val (.int c5), .val (.int yB), .val (.int yC), .val (.ref ob), .val (.int (0 : Int32)), .val (.int (1 : Int32)), .val (.int (2 : Int32)), .val (.int (3 : Int32)), .val (.ref x0), .val (.int n0v), .val (.ref x1), .val (.int n1), .val (.ref x2), .val (.int n2), .val (.ref x3), .val (.int n3)] [(.ref ob)])) _
    refine XS.iload X1315.here hx rfl (hb hby at_362) rfl ?_
    exact kont
  obtain ⟨cq1316, kq1316, q1316a, q1316b, q1316c⟩ := isOf hZ e1315 ((PT.keep KK1314).exa)
  obtain ⟨_, _, ⟨T1316, L1316, k1316, n1316⟩, -, X1316, ⟨Lc1316, hQ1316, l1316, y1316, z1316⟩, st1316⟩ := X1315.virtualBack hx (y := (⟨"com/example/tapir/tapir/sampling/PathTree", "path", "(I)[I"⟩ : MethodName)) (z := (⟨"com/example/tapir/tapir/sampling/PathTree", "path", "(I)[I"⟩ : MethodName)) hown (mvT hZ (hw _ (List.mem_of_getElem? (i := 36) rfl))) (mvT hZ (hw _ (List.mem_of_getElem? (i := 37) rfl))) (notFace_of_selects (args := #[]) (mvT hZ (hw _ (List.mem_of_getElem? (i := 39) rfl)))) (mvT hZ (hw _ (List.mem_of_getElem? (i := 39) rfl))) (mvT hZ (hw _ (List.mem_of_getElem? (i := 38) rfl))) (by decide) (backOf (W := 0) (own_rmP l Z a0 hw ob (3 : Int32) 4 3 pth T1314.heap n0 Z1314 (PT.keep KK1314) (by decide) (own_at_lit rfl (by decide)) (by decide) hl3) hZ (hw _ (List.mem_of_getElem? (i := 40) rfl)) (hw _ (List.mem_of_getElem? (i := 2) rfl)) (by decide) (by decide)) q1316a q1316c (g := (mkF m 364 #[.val (.int p1), .val (.int p2), .val (.int p3), .val (.int p4), .val (.int p5), .val (.int c5), .val (.int yB), .val (.int yC), .val (.ref ob), .val (.int (0 : Int32)), .val (.int (1 : Int32)), .val (.int (2 : Int32)), .val (.int (3 : Int32)), .val (.ref x0), .val (.int n0v), .val (.ref x1), .val (.int n1), .val (.ref x2), .val (.int n2), .val (.ref x3), .val (.int n3)] [(.int (3 : Int32)), (.ref ob)])) rfl (by rw [hml]; rfl) (Steps.refl _) (argsL := [(.int (3 : Int32))]) (rest := []) (lenOf own_pd1 rfl) rfl (by show 2 * 0 + _ ≤ _; exact Nat.le_of_eq rfl) (hb hby at_364) (fun _ _ => ⟨rfl, e1315, (by decide : 11 + 1 ≤ _), (by decide : 224 + 4 ≤ _)⟩)
  dsimp only [Pt.U, Pt.locs, Pt.cells, Pt.slots] at X1316 l1316 y1316 z1316 st1316 hQ1316
  subst l1316 y1316 z1316
  obtain ⟨g3, rfl, N1316q, sz1316, K1316, VG1316⟩ := hQ1316
  have N1316 := Fr.app N1315 N1316q
  refine own_step (fun tt kont => st1316.trans kont) ?_
  have KK1316 := KK1314.trans K1316 (fun x hx => absurd hx nin0)
  have Z1316 := Nat.le_trans Z1314 K1316.1
  refine own_step (T' := T1316) (f' := (mkF m 371 #[.val (.int p1), .val (.int p2), .val (.int p3), .val (.int p4), .val (.int p5), .val (.int c5), .val (.int yB), .val (.int yC), .val (.ref ob), .val (.int (0 : Int32)), .val (.int (1 : Int32)), .val (.int (2 : Int32)), .val (.int (3 : Int32)), .val (.ref x0), .val (.int n0v), .val (.ref x1), .val (.int n1), .val (.ref x2), .val (.int n2), .val (.ref x3), .val (.int n3)] [(.int n3), (.ref x3), (.ref g3)])) (fun tt kont => ?_) ?_
  · show Steps p.tables e below (T1316.setTop (mkF m 367 #[.val (.int p1), .val (.int p2), .val (.int p3), .val (.int p4), .val (.int p5), .val (.int c5), .val (.int yB), .val (.int yC), .val (.ref ob), .val (.int (0 : Int32)), .val (.int (1 : Int32)), .val (.int (2 : Int32)), .val (.int (3 : Int32)), .val (.ref x0), .val (.int n0v), .val (.ref x1), .val (.int n1), .val (.ref x2), .val (.int n2), .val (.ref x3), .val (.int n3)] [(.ref g3)])) _
    refine XS.aload X1316.here hx rfl (hb hby at_367) rfl rfl ?_
    show Steps p.tables e below (T1316.setTop (mkF m 369 #[.val (.int p1), .val (.int p2), .val (.int p3), .val (.int p4), .val (.int p5), .val (.int c5), .val (.int yB), .val (.int yC), .val (.ref ob), .val (.int (0 : Int32)), .val (.int (1 : Int32)), .val (.int (2 : Int32)), .val (.int (3 : Int32)), .val (.ref x0), .val (.int n0v), .val (.ref x1), .val (.int n1), .val (.ref x2), .val (.int n2), .val (.ref x3), .val (.int n3)] [(.ref x3), (.ref g3)])) _
    refine XS.iload X1316.here hx rfl (hb hby at_369) rfl ?_
    exact kont
  obtain ⟨_, _, ⟨T1317, L1317, k1317, n1317⟩, -, X1317, ⟨Lc1317, hQ1317, l1317, y1317, z1317⟩, st1317⟩ := Jvm.LawKit.callS X1316 hx (y := (⟨"com/example/tapir/tapir/sampling/PathTreePathPinLaw", "same", "([I[II)Z"⟩ : MethodName)) hown (mvT hZ (hw _ (List.mem_of_getElem? (i := 41) rfl))) (mvT hZ (hw _ (List.mem_of_getElem? (i := 42) rfl))) (mvT hZ (hw _ (List.mem_of_getElem? (i := 34) rfl))) (mvT hZ (hw _ (List.mem_of_getElem? (i := 43) rfl))) (by decide) (backOf (W := 0) (own_rmS l Z a0 hw g3 x3 n3 (pth 3) T1316.heap n0 VG1316 (XA3.keep KK1316 nin0) hn3) hZ (hw _ (List.mem_of_getElem? (i := 43) rfl)) (hw _ (List.mem_of_getElem? (i := 34) rfl)) (by decide) (by decide)) (g := (mkF m 371 #[.val (.int p1), .val (.int p2), .val (.int p3), .val (.int p4), .val (.int p5), .val (.int c5), .val (.int yB), .val (.int yC), .val (.ref ob), .val (.int (0 : Int32)), .val (.int (1 : Int32)), .val (.int (2 : Int32)), .val (.int (3 : Int32)), .val (.ref x0), .val (.int n0v), .val (.ref x1), .val (.int n1), .val (.ref x2), .val (.int n2), .val (.ref x3), .val (.int n3)] [(.int n3), (.ref x3), (.ref g3)])) rfl (by rw [hml]; rfl) (argsL := [(.ref g3), (.ref x3), (.int n3)]) (rest := []) (lenOf own_pd2 rfl) rfl (by show 2 * 0 + _ ≤ _; exact Nat.le_of_eq rfl) (hb hby at_371) (fun _ _ => ⟨rfl, rfl, (by decide : 12 + 0 ≤ _), (by decide : 228 + 0 ≤ _)⟩)
  dsimp only [Pt.U, Pt.locs, Pt.cells, Pt.slots] at X1317 l1317 y1317 z1317 st1317 hQ1317
  subst l1317 y1317 z1317
  obtain ⟨rfl, N1317q, e1317⟩ := hQ1317
  have N1317 := Fr.app N1316 N1317q
  refine own_step (fun tt kont => st1317 _ kont) ?_
  refine own_step (T' := T1317) (f' := (mkF m 382 #[.val (.int p1), .val (.int p2), .val (.int p3), .val (.int p4), .val (.int p5), .val (.int c5), .val (.int yB), .val (.int yC), .val (.ref ob), .val (.int (0 : Int32)), .val (.int (1 : Int32)), .val (.int (2 : Int32)), .val (.int (3 : Int32)), .val (.ref x0), .val (.int n0v), .val (.ref x1), .val (.int n1), .val (.ref x2), .val (.int n2), .val (.ref x3), .val (.int n3)] [(.int (1 : Int32))])) (fun tt kont => ?_) ?_
  · show Steps p.tables e below (T1317.setTop (mkF m 374 #[.val (.int p1), .val (.int p2), .val (.int p3), .val (.int p4), .val (.int p5), .val (.int c5), .val (.int yB), .val (.int yC), .val (.ref ob), .val (.int (0 : Int32)), .val (.int (1 : Int32)), .val (.int (2 : Int32)), .val (.int (3 : Int32)), .val (.ref x0), .val (.int n0v), .val (.ref x1), .val (.int n1), .val (.ref x2), .val (.int n2), .val (.ref x3), .val (.int n3)] [(.int (1 : Int32))])) _
    refine XS.ifNo X1317.here hx rfl (hb hby at_374) rfl ((if0 _ _).trans (feq (by decide : ¬ ((1 : Int32) = (0 : Int32)))).1) ?_
    show Steps p.tables e below (T1317.setTop (mkF m 377 #[.val (.int p1), .val (.int p2), .val (.int p3), .val (.int p4), .val (.int p5), .val (.int c5), .val (.int yB), .val (.int yC), .val (.ref ob), .val (.int (0 : Int32)), .val (.int (1 : Int32)), .val (.int (2 : Int32)), .val (.int (3 : Int32)), .val (.ref x0), .val (.int n0v), .val (.ref x1), .val (.int n1), .val (.ref x2), .val (.int n2), .val (.ref x3), .val (.int n3)] [])) _
    refine XS.iconst X1317.here hx rfl (hb hby at_377) ?_
    show Steps p.tables e below (T1317.setTop (mkF m 378 #[.val (.int p1), .val (.int p2), .val (.int p3), .val (.int p4), .val (.int p5), .val (.int c5), .val (.int yB), .val (.int yC), .val (.ref ob), .val (.int (0 : Int32)), .val (.int (1 : Int32)), .val (.int (2 : Int32)), .val (.int (3 : Int32)), .val (.ref x0), .val (.int n0v), .val (.ref x1), .val (.int n1), .val (.ref x2), .val (.int n2), .val (.ref x3), .val (.int n3)] [(.int (1 : Int32))])) _
    refine XS.goto X1317.here hx rfl (pc0 := 378) (pc' := 382) rfl (hb hby at_378) (by decide) (by decide) ?_
    exact kont
  exact own_retZ X1317 hx hret hlk (hb hby at_382) (by decide) (by decide) ⟨rfl, N1317⟩
theorem own_pd3 : parseMethodDescriptor "([III)[I" = some ⟨[(.array .int), .int, .int], some (.array .int)⟩ := by decide +kernel
set_option maxRecDepth 65536 in
set_option maxHeartbeats 40000000 in
theorem own_s244 {p : Program} {l : Launch} {e : Env} {s : State} {m : MethodId} {args : Array Value} {below : List Frame} {meth : Method} {c : Code} {T0 : State} {locs : List Loc} {Z : State} {a0 : Array Value} {h0 : Heap} {n0 : Nat} {p1 p2 p3 p4 p5 c5 yB yC : Int32} {ob : Addr} {pth : Nat → List Int32} {x0 x1 x2 : Addr} {n0v n1 n2 : Int32} (X0 : Stand p l e room_1 s m args below meth c T0 locs 7 208) (hx : p.tables.exec = Jvm.exec) (hZ : Z.Warmed39 s.vm) (hw : ∀ d ∈ tables_1, d.before a0 Z = true) (hby : c.code = code) (hret : meth.sig.returnType = some .boolean) (hlk : meth.locks = false) (hml : c.maxLocals = 21) (hown : s.vm.findClass "com/example/tapir/tapir/sampling/PathTreePathPinLaw" = some m.cls) (e0 : T0.heap = h0) (N0 : Fr n0 locs) (Z0 : n0 ≤ h0.size) (PT : own_PT Z h0 n0 ob 4 pth) (XA0 : own_A Z h0 x0 .int 4 (fun i => .int ((pth 0).getD i 0))) (XA1 : own_A Z h0 x1 .int 4 (fun i => .int ((pth 1).getD i 0))) (XA2 : own_A Z h0 x2 .int 4 (fun i => .int ((pth 2).getD i 0))) (hn0 : own_at n0v (pth 0).length) (hn1 : own_at n1 (pth 1).length) (hn2 : own_at n2 (pth 2).length) (hl0 : (pth 0).length ≤ 1) (hl1 : (pth 1).length ≤ 2) (hl2 : (pth 2).length ≤ 3) (hp3 : pth 3 = (if yC = (0 : Int32) then pth 0 else if yC = (1 : Int32) then pth 1 else pth 2) ++ [p4]) :
    own_Go p e below T0 (mkF m 244 #[.val (.int p1), .val (.int p2), .val (.int p3), .val (.int p4), .val (.int p5), .val (.int c5), .val (.int yB), .val (.int yC), .val (.ref ob), .val (.int (0 : Int32)), .val (.int (1 : Int32)), .val (.int (2 : Int32)), .val (.int (3 : Int32)), .val (.ref x0), .val (.int n0v), .val (.ref x1), .val (.int n1), .val (.ref x2), .val (.int n2), .unset, .unset] []) (fun o U' => ∃ v L, o = .returned v ∧ own_QL n0 v U'.heap L ∧ FrameEnd s o U' L 32 512) := by
  refine own_step (T' := T0) (f' := (mkF m 246 #[.val (.int p1), .val (.int p2), .val (.int p3), .val (.int p4), .val (.int p5), .val (.int c5), .val (.int yB), .val (.int yC), .val (.ref ob), .val (.int (0 : Int32)), .val (.int (1 : Int32)), .val (.int (2 : Int32)), .val (.int (3 : Int32)), .val (.ref x0), .val (.int n0v), .val (.ref x1), .val (.int n1), .val (.ref x2), .val (.int n2), .unset, .unset] [(.int yC)])) (fun tt kont => ?_) ?_
  · show Steps p.tables e below (T0.setTop (mkF m 244 #[.val (.int p1), .val (.int p2), .val (.int p3), .val (.int p4), .val (.int p5), .val (.int c5), .val (.int yB), .val (.int yC), .val (.ref ob), .val (.int (0 : Int32)), .val (.int (1 : Int32)), .val (.int (2 : Int32)), .val (.int (3 : Int32)), .val (.ref x0), .val (.int n0v), .val (.ref x1), .val (.int n1), .val (.ref x2), .val (.int n2), .unset, .unset] [])) _
    refine XS.iload X0.here hx rfl (hb hby at_244) rfl ?_
    exact kont
  by_cases hc246_0 : yC = (0 : Int32)
  · refine own_step (T' := T0) (f' := (mkF m 254 #[.val (.int p1), .val (.int p2), .val (.int p3), .val (.int p4), .val (.int p5), .val (.int c5), .val (.int yB), .val (.int yC), .val (.ref ob), .val (.int (0 : Int32)), .val (.int (1 : Int32)), .val (.int (2 : Int32)), .val (.int (3 : Int32)), .val (.ref x0), .val (.int n0v), .val (.ref x1), .val (.int n1), .val (.ref x2), .val (.int n2), .unset, .unset] [(.int p4), (.int n0v), (.ref x0)])) (fun tt kont => ?_) ?_
    · show Steps p.tables e below (T0.setTop (mkF m 246 #[.val (.int p1), .val (.int p2), .val (.int p3), .val (.int p4), .val (.int p5), .val (.int c5), .val (.int yB), .val (.int yC), .val (.ref ob), .val (.int (0 : Int32)), .val (.int (1 : Int32)), .val (.int (2 : Int32)), .val (.int (3 : Int32)), .val (.ref x0), .val (.int n0v), .val (.ref x1), .val (.int n1), .val (.ref x2), .val (.int n2), .unset, .unset] [(.int yC)])) _
      refine XS.ifNo X0.here hx rfl (hb hby at_246) rfl ((if0 _ _).trans (teq hc246_0).2) ?_
      show Steps p.tables e below (T0.setTop (mkF m 249 #[.val (.int p1), .val (.int p2), .val (.int p3), .val (.int p4), .val (.int p5), .val (.int c5), .val (.int yB), .val (.int yC), .val (.ref ob), .val (.int (0 : Int32)), .val (.int (1 : Int32)), .val (.int (2 : Int32)), .val (.int (3 : Int32)), .val (.ref x0), .val (.int n0v), .val (.ref x1), .val (.int n1), .val (.ref x2), .val (.int n2), .unset, .unset] [])) _
      refine XS.aload X0.here hx rfl (hb hby at_249) rfl rfl ?_
      show Steps p.tables e below (T0.setTop (mkF m 251 #[.val (.int p1), .val (.int p2), .val (.int p3), .val (.int p4), .val (.int p5), .val (.int c5), .val (.int yB), .val (.int yC), .val (.ref ob), .val (.int (0 : Int32)), .val (.int (1 : Int32)), .val (.int (2 : Int32)), .val (.int (3 : Int32)), .val (.ref x0), .val (.int n0v), .val (.ref x1), .val (.int n1), .val (.ref x2), .val (.int n2), .unset, .unset] [(.ref x0)])) _
      refine XS.iload X0.here hx rfl (hb hby at_251) rfl ?_
      show Steps p.tables e below (T0.setTop (mkF m 253 #[.val (.int p1), .val (.int p2), .val (.int p3), .val (.int p4), .val (.int p5), .val (.int c5), .val (.int yB), .val (.int yC), .val (.ref ob), .val (.int (0 : Int32)), .val (.int (1 : Int32)), .val (.int (2 : Int32)), .val (.int (3 : Int32)), .val (.ref x0), .val (.int n0v), .val (.ref x1), .val (.int n1), .val (.ref x2), .val (.int n2), .unset, .unset] [(.int n0v), (.ref x0)])) _
      refine XS.iloadN X0.here hx rfl (hb hby at_253) rfl ?_
      exact kont
    obtain ⟨_, _, ⟨T1245, L1245, k1245, n1245⟩, -, X1245, ⟨Lc1245, hQ1245, l1245, y1245, z1245⟩, st1245⟩ := Jvm.LawKit.callS X0 hx (y := (⟨"com/example/tapir/tapir/sampling/PathTreePathPinLaw", "ext", "([III)[I"⟩ : MethodName)) hown (mvT hZ (hw _ (List.mem_of_getElem? (i := 32) rfl))) (mvT hZ (hw _ (List.mem_of_getElem? (i := 33) rfl))) (mvT hZ (hw _ (List.mem_of_getElem? (i := 34) rfl))) (mvT hZ (hw _ (List.mem_of_getElem? (i := 35) rfl))) (by decide) (backOf (W := 0) (own_rmE l Z a0 hw x0 n0v p4 (pth 0) h0 n0 Z0 XA0 hn0 (by omega)) hZ (hw _ (List.mem_of_getElem? (i := 35) rfl)) (hw _ (List.mem_of_getElem? (i := 34) rfl)) (by decide) (by decide)) (g := (mkF m 254 #[.val (.int p1), .val (.int p2), .val (.int p3), .val (.int p4), .val (.int p5), .val (.int c5), .val (.int yB), .val (.int yC), .val (.ref ob), .val (.int (0 : Int32)), .val (.int (1 : Int32)), .val (.int (2 : Int32)), .val (.int (3 : Int32)), .val (.ref x0), .val (.int n0v), .val (.ref x1), .val (.int n1), .val (.ref x2), .val (.int n2), .unset, .unset] [(.int p4), (.int n0v), (.ref x0)])) rfl (by rw [hml]; rfl) (argsL := [(.ref x0), (.int n0v), (.int p4)]) (rest := []) (lenOf own_pd3 rfl) rfl (by show 2 * 0 + _ ≤ _; exact Nat.le_of_eq rfl) (hb hby at_254) (fun _ _ => ⟨rfl, e0, (by decide : 7 + 1 ≤ _), (by decide : 208 + 4 ≤ _)⟩)
    dsimp only [Pt.U, Pt.locs, Pt.cells, Pt.slots] at X1245 l1245 y1245 z1245 st1245 hQ1245
    subst l1245 y1245 z1245
    obtain ⟨xn, rfl, N1245q, sz1245, K1245, VX1245⟩ := hQ1245
    have N1245 := Fr.app N0 N1245q
    refine own_step (fun tt kont => st1245 _ kont) ?_
    have KK1245 := (Keep.refl h0 []).trans K1245 (fun x hx => absurd hx nin0)
    have Z1245 := Nat.le_trans Z0 K1245.1
    refine own_step (T' := T1245) (f' := (mkF m 309 #[.val (.int p1), .val (.int p2), .val (.int p3), .val (.int p4), .val (.int p5), .val (.int c5), .val (.int yB), .val (.int yC), .val (.ref ob), .val (.int (0 : Int32)), .val (.int (1 : Int32)), .val (.int (2 : Int32)), .val (.int (3 : Int32)), .val (.ref x0), .val (.int n0v), .val (.ref x1), .val (.int n1), .val (.ref x2), .val (.int n2), .val (.ref xn), .val (.int (n0v + (1 : Int32)))] [])) (fun tt kont => ?_) ?_
    · show Steps p.tables e below (T1245.setTop (mkF m 257 #[.val (.int p1), .val (.int p2), .val (.int p3), .val (.int p4), .val (.int p5), .val (.int c5), .val (.int yB), .val (.int yC), .val (.ref ob), .val (.int (0 : Int32)), .val (.int (1 : Int32)), .val (.int (2 : Int32)), .val (.int (3 : Int32)), .val (.ref x0), .val (.int n0v), .val (.ref x1), .val (.int n1), .val (.ref x2), .val (.int n2), .unset, .unset] [(.ref xn)])) _
      refine XS.astore X1245.here hx rfl (hb hby at_257) rfl rfl (l' := #[.val (.int p1), .val (.int p2), .val (.int p3), .val (.int p4), .val (.int p5), .val (.int c5), .val (.int yB), .val (.int yC), .val (.ref ob), .val (.int (0 : Int32)), .val (.int (1 : Int32)), .val (.int (2 : Int32)), .val (.int (3 : Int32)), .val (.ref x0), .val (.int n0v), .val (.ref x1), .val (.int n1), .val (.ref x2), .val (.int n2), .val (.ref xn), .unset]) rfl ?_
      show Steps p.tables e below (T1245.setTop (mkF m 259 #[.val (.int p1), .val (.int p2), .val (.int p3), .val (.int p4), .val (.int p5), .val (.int c5), .val (.int yB), .val (.int yC), .val (.ref ob), .val (.int (0 : Int32)), .val (.int (1 : Int32)), .val (.int (2 : Int32)), .val (.int (3 : Int32)), .val (.ref x0), .val (.int n0v), .val (.ref x1), .val (.int n1), .val (.ref x2), .val (.int n2), .val (.ref xn), .unset] [])) _
      refine XS.iload X1245.here hx rfl (hb hby at_259) rfl ?_
      show Steps p.tables e below (T1245.setTop (mkF m 261 #[.val (.int p1), .val (.int p2), .val (.int p3), .val (.int p4), .val (.int p5), .val (.int c5), .val (.int yB), .val (.int yC), .val (.ref ob), .val (.int (0 : Int32)), .val (.int (1 : Int32)), .val (.int (2 : Int32)), .val (.int (3 : Int32)), .val (.ref x0), .val (.int n0v), .val (.ref x1), .val (.int n1), .val (.ref x2), .val (.int n2), .val (.ref xn), .unset] [(.int n0v)])) _
      refine XS.iconst X1245.here hx rfl (hb hby at_261) ?_
      show Steps p.tables e below (T1245.setTop (mkF m 262 #[.val (.int p1), .val (.int p2), .val (.int p3), .val (.int p4), .val (.int p5), .val (.int c5), .val (.int yB), .val (.int yC), .val (.ref ob), .val (.int (0 : Int32)), .val (.int (1 : Int32)), .val (.int (2 : Int32)), .val (.int (3 : Int32)), .val (.ref x0), .val (.int n0v), .val (.ref x1), .val (.int n1), .val (.ref x2), .val (.int n2), .val (.ref xn), .unset] [(.int (1 : Int32)), (.int n0v)])) _
      refine XS.iadd X1245.here hx rfl (hb hby at_262) rfl ?_
      show Steps p.tables e below (T1245.setTop (mkF m 263 #[.val (.int p1), .val (.int p2), .val (.int p3), .val (.int p4), .val (.int p5), .val (.int c5), .val (.int yB), .val (.int yC), .val (.ref ob), .val (.int (0 : Int32)), .val (.int (1 : Int32)), .val (.int (2 : Int32)), .val (.int (3 : Int32)), .val (.ref x0), .val (.int n0v), .val (.ref x1), .val (.int n1), .val (.ref x2), .val (.int n2), .val (.ref xn), .unset] [(.int (n0v + (1 : Int32)))])) _
      refine XS.istore X1245.here hx rfl (hb hby at_263) rfl (l' := #[.val (.int p1), .val (.int p2), .val (.int p3), .val (.int p4), .val (.int p5), .val (.int c5), .val (.int yB), .val (.int yC), .val (.ref ob), .val (.int (0 : Int32)), .val (.int (1 : Int32)), .val (.int (2 : Int32)), .val (.int (3 : Int32)), .val (.ref x0), .val (.int n0v), .val (.ref x1), .val (.int n1), .val (.ref x2), .val (.int n2), .val (.ref xn), .val (.int (n0v + (1 : Int32)))]) rfl ?_
      show Steps p.tables e below (T1245.setTop (mkF m 265 #[.val (.int p1), .val (.int p2), .val (.int p3), .val (.int p4), .val (.int p5), .val (.int c5), .val (.int yB), .val (.int yC), .val (.ref ob), .val (.int (0 : Int32)), .val (.int (1 : Int32)), .val (.int (2 : Int32)), .val (.int (3 : Int32)), .val (.ref x0), .val (.int n0v), .val (.ref x1), .val (.int n1), .val (.ref x2), .val (.int n2), .val (.ref xn), .val (.int (n0v + (1 : Int32)))] [])) _
      refine XS.goto X1245.here hx rfl (pc0 := 265) (pc' := 309) rfl (hb hby at_265) (by decide) (by decide) ?_
      exact kont
    have hp : pth 3 = pth 0 ++ [p4] := by rw [hp3, if_pos hc246_0]
    rw [← hp] at VX1245
    have hn3 : own_at (n0v + (1 : Int32)) (pth 3).length := by rw [hp, List.length_append]; exact own_at_succ hn0 (by omega)
    exact own_s309 X1245 hx hZ hw hby hret hlk hml hown rfl N1245 Z1245 (PT.keep KK1245) (XA0.keep KK1245 nin0) (XA1.keep KK1245 nin0) (XA2.keep KK1245 nin0) VX1245 hn0 hn1 hn2 hn3 (by omega) (by omega) (by omega) (by rw [hp, List.length_append]; show _ + 1 ≤ 4; omega)
  · refine own_step (T' := T0) (f' := (mkF m 271 #[.val (.int p1), .val (.int p2), .val (.int p3), .val (.int p4), .val (.int p5), .val (.int c5), .val (.int yB), .val (.int yC), .val (.ref ob), .val (.int (0 : Int32)), .val (.int (1 : Int32)), .val (.int (2 : Int32)), .val (.int (3 : Int32)), .val (.ref x0), .val (.int n0v), .val (.ref x1), .val (.int n1), .val (.ref x2), .val (.int n2), .unset, .unset] [(.int (1 : Int32)), (.int yC)])) (fun tt kont => ?_) ?_
    · show Steps p.tables e below (T0.setTop (mkF m 246 #[.val (.int p1), .val (.int p2), .val (.int p3), .val (.int p4), .val (.int p5), .val (.int c5), .val (.int yB), .val (.int yC), .val (.ref ob), .val (.int (0 : Int32)), .val (.int (1 : Int32)), .val (.int (2 : Int32)), .val (.int (3 : Int32)), .val (.ref x0), .val (.int n0v), .val (.ref x1), .val (.int n1), .val (.ref x2), .val (.int n2), .unset, .unset] [(.int yC)])) _
      refine XS.ifYes X0.here hx rfl (pc0 := 246) (pc' := 268) rfl (hb hby at_246) rfl ((if0 _ _).trans (feq hc246_0).2) (by decide) (by decide) ?_
      show Steps p.tables e below (T0.setTop (mkF m 268 #[.val (.int p1), .val (.int p2), .val (.int p3), .val (.int p4), .val (.int p5), .val (.int c5), .val (.int yB), .val (.int yC), .val (.ref ob), .val (.int (0 : Int32)), .val (.int (1 : Int32)), .val (.int (2 : Int32)), .val (.int (3 : Int32)), .val (.ref x0), .val (.int n0v), .val (.ref x1), .val (.int n1), .val (.ref x2), .val (.int n2), .unset, .unset] [])) _
      refine XS.iload X0.here hx rfl (hb hby at_268) rfl ?_
      show Steps p.tables e below (T0.setTop (mkF m 270 #[.val (.int p1), .val (.int p2), .val (.int p3), .val (.int p4), .val (.int p5), .val (.int c5), .val (.int yB), .val (.int yC), .val (.ref ob), .val (.int (0 : Int32)), .val (.int (1 : Int32)), .val (.int (2 : Int32)), .val (.int (3 : Int32)), .val (.ref x0), .val (.int n0v), .val (.ref x1), .val (.int n1), .val (.ref x2), .val (.int n2), .unset, .unset] [(.int yC)])) _
      refine XS.iconst X0.here hx rfl (hb hby at_270) ?_
      exact kont
    by_cases hc271_1 : yC = (1 : Int32)
    · refine own_step (T' := T0) (f' := (mkF m 279 #[.val (.int p1), .val (.int p2), .val (.int p3), .val (.int p4), .val (.int p5), .val (.int c5), .val (.int yB), .val (.int yC), .val (.ref ob), .val (.int (0 : Int32)), .val (.int (1 : Int32)), .val (.int (2 : Int32)), .val (.int (3 : Int32)), .val (.ref x0), .val (.int n0v), .val (.ref x1), .val (.int n1), .val (.ref x2), .val (.int n2), .unset, .unset] [(.int p4), (.int n1), (.ref x1)])) (fun tt kont => ?_) ?_
      · show Steps p.tables e below (T0.setTop (mkF m 271 #[.val (.int p1), .val (.int p2), .val (.int p3), .val (.int p4), .val (.int p5), .val (.int c5), .val (.int yB), .val (.int yC), .val (.ref ob), .val (.int (0 : Int32)), .val (.int (1 : Int32)), .val (.int (2 : Int32)), .val (.int (3 : Int32)), .val (.ref x0), .val (.int n0v), .val (.ref x1), .val (.int n1), .val (.ref x2), .val (.int n2), .unset, .unset] [(.int (1 : Int32)), (.int yC)])) _
        refine XS.icmpNo X0.here hx rfl (hb hby at_271) rfl (teq hc271_1).2 ?_
        show Steps p.tables e below (T0.setTop (mkF m 274 #[.val (.int p1), .val (.int p2), .val (.int p3), .val (.int p4), .val (.int p5), .val (.int c5), .val (.int yB), .val (.int yC), .val (.ref ob), .val (.int (0 : Int32)), .val (.int (1 : Int32)), .val (.int (2 : Int32)), .val (.int (3 : Int32)), .val (.ref x0), .val (.int n0v), .val (.ref x1), .val (.int n1), .val (.ref x2), .val (.int n2), .unset, .unset] [])) _
        refine XS.aload X0.here hx rfl (hb hby at_274) rfl rfl ?_
        show Steps p.tables e below (T0.setTop (mkF m 276 #[.val (.int p1), .val (.int p2), .val (.int p3), .val (.int p4), .val (.int p5), .val (.int c5), .val (.int yB), .val (.int yC), .val (.ref ob), .val (.int (0 : Int32)), .val (.int (1 : Int32)), .val (.int (2 : Int32)), .val (.int (3 : Int32)), .val (.ref x0), .val (.int n0v), .val (.ref x1), .val (.int n1), .val (.ref x2), .val (.int n2), .unset, .unset] [(.ref x1)])) _
        refine XS.iload X0.here hx rfl (hb hby at_276) rfl ?_
        show Steps p.tables e below (T0.setTop (mkF m 278 #[.val (.int p1), .val (.int p2), .val (.int p3), .val (.int p4), .val (.int p5), .val (.int c5), .val (.int yB), .val (.int yC), .val (.ref ob), .val (.int (0 : Int32)), .val (.int (1 : Int32)), .val (.int (2 : Int32)), .val (.int (3 : Int32)), .val (.ref x0), .val (.int n0v), .val (.ref x1), .val (.int n1), .val (.ref x2), .val (.int n2), .unset, .unset] [(.int n1), (.ref x1)])) _
        refine XS.iloadN X0.here hx rfl (hb hby at_278) rfl ?_
        exact kont
      obtain ⟨_, _, ⟨T1246, L1246, k1246, n1246⟩, -, X1246, ⟨Lc1246, hQ1246, l1246, y1246, z1246⟩, st1246⟩ := Jvm.LawKit.callS X0 hx (y := (⟨"com/example/tapir/tapir/sampling/PathTreePathPinLaw", "ext", "([III)[I"⟩ : MethodName)) hown (mvT hZ (hw _ (List.mem_of_getElem? (i := 32) rfl))) (mvT hZ (hw _ (List.mem_of_getElem? (i := 33) rfl))) (mvT hZ (hw _ (List.mem_of_getElem? (i := 34) rfl))) (mvT hZ (hw _ (List.mem_of_getElem? (i := 35) rfl))) (by decide) (backOf (W := 0) (own_rmE l Z a0 hw x1 n1 p4 (pth 1) h0 n0 Z0 XA1 hn1 (by omega)) hZ (hw _ (List.mem_of_getElem? (i := 35) rfl)) (hw _ (List.mem_of_getElem? (i := 34) rfl)) (by decide) (by decide)) (g := (mkF m 279 #[.val (.int p1), .val (.int p2), .val (.int p3), .val (.int p4), .val (.int p5), .val (.int c5), .val (.int yB), .val (.int yC), .val (.ref ob), .val (.int (0 : Int32)), .val (.int (1 : Int32)), .val (.int (2 : Int32)), .val (.int (3 : Int32)), .val (.ref x0), .val (.int n0v), .val (.ref x1), .val (.int n1), .val (.ref x2), .val (.int n2), .unset, .unset] [(.int p4), (.int n1), (.ref x1)])) rfl (by rw [hml]; rfl) (argsL := [(.ref x1), (.int n1), (.int p4)]) (rest := []) (lenOf own_pd3 rfl) rfl (by show 2 * 0 + _ ≤ _; exact Nat.le_of_eq rfl) (hb hby at_279) (fun _ _ => ⟨rfl, e0, (by decide : 7 + 1 ≤ _), (by decide : 208 + 4 ≤ _)⟩)
      dsimp only [Pt.U, Pt.locs, Pt.cells, Pt.slots] at X1246 l1246 y1246 z1246 st1246 hQ1246
      subst l1246 y1246 z1246
      obtain ⟨xn, rfl, N1246q, sz1246, K1246, VX1246⟩ := hQ1246
      have N1246 := Fr.app N0 N1246q
      refine own_step (fun tt kont => st1246 _ kont) ?_
      have KK1246 := (Keep.refl h0 []).trans K1246 (fun x hx => absurd hx nin0)
      have Z1246 := Nat.le_trans Z0 K1246.1
      refine own_step (T' := T1246) (f' := (mkF m 309 #[.val (.int p1), .val (.int p2), .val (.int p3), .val (.int p4), .val (.int p5), .val (.int c5), .val (.int yB), .val (.int yC), .val (.ref ob), .val (.int (0 : Int32)), .val (.int (1 : Int32)), .val (.int (2 : Int32)), .val (.int (3 : Int32)), .val (.ref x0), .val (.int n0v), .val (.ref x1), .val (.int n1), .val (.ref x2), .val (.int n2), .val (.ref xn), .val (.int (n1 + (1 : Int32)))] [])) (fun tt kont => ?_) ?_
      · show Steps p.tables e below (T1246.setTop (mkF m 282 #[.val (.int p1), .val (.int p2), .val (.int p3), .val (.int p4), .val (.int p5), .val (.int c5), .val (.int yB), .val (.int yC), .val (.ref ob), .val (.int (0 : Int32)), .val (.int (1 : Int32)), .val (.int (2 : Int32)), .val (.int (3 : Int32)), .val (.ref x0), .val (.int n0v), .val (.ref x1), .val (.int n1), .val (.ref x2), .val (.int n2), .unset, .unset] [(.ref xn)])) _
        refine XS.astore X1246.here hx rfl (hb hby at_282) rfl rfl (l' := #[.val (.int p1), .val (.int p2), .val (.int p3), .val (.int p4), .val (.int p5), .val (.int c5), .val (.int yB), .val (.int yC), .val (.ref ob), .val (.int (0 : Int32)), .val (.int (1 : Int32)), .val (.int (2 : Int32)), .val (.int (3 : Int32)), .val (.ref x0), .val (.int n0v), .val (.ref x1), .val (.int n1), .val (.ref x2), .val (.int n2), .val (.ref xn), .unset]) rfl ?_
        show Steps p.tables e below (T1246.setTop (mkF m 284 #[.val (.int p1), .val (.int p2), .val (.int p3), .val (.int p4), .val (.int p5), .val (.int c5), .val (.int yB), .val (.int yC), .val (.ref ob), .val (.int (0 : Int32)), .val (.int (1 : Int32)), .val (.int (2 : Int32)), .val (.int (3 : Int32)), .val (.ref x0), .val (.int n0v), .val (.ref x1), .val (.int n1), .val (.ref x2), .val (.int n2), .val (.ref xn), .unset] [])) _
        refine XS.iload X1246.here hx rfl (hb hby at_284) rfl ?_
        show Steps p.tables e below (T1246.setTop (mkF m 286 #[.val (.int p1), .val (.int p2), .val (.int p3), .val (.int p4), .val (.int p5), .val (.int c5), .val (.int yB), .val (.int yC), .val (.ref ob), .val (.int (0 : Int32)), .val (.int (1 : Int32)), .val (.int (2 : Int32)), .val (.int (3 : Int32)), .val (.ref x0), .val (.int n0v), .val (.ref x1), .val (.int n1), .val (.ref x2), .val (.int n2), .val (.ref xn), .unset] [(.int n1)])) _
        refine XS.iconst X1246.here hx rfl (hb hby at_286) ?_
        show Steps p.tables e below (T1246.setTop (mkF m 287 #[.val (.int p1), .val (.int p2), .val (.int p3), .val (.int p4), .val (.int p5), .val (.int c5), .val (.int yB), .val (.int yC), .val (.ref ob), .val (.int (0 : Int32)), .val (.int (1 : Int32)), .val (.int (2 : Int32)), .val (.int (3 : Int32)), .val (.ref x0), .val (.int n0v), .val (.ref x1), .val (.int n1), .val (.ref x2), .val (.int n2), .val (.ref xn), .unset] [(.int (1 : Int32)), (.int n1)])) _
        refine XS.iadd X1246.here hx rfl (hb hby at_287) rfl ?_
        show Steps p.tables e below (T1246.setTop (mkF m 288 #[.val (.int p1), .val (.int p2), .val (.int p3), .val (.int p4), .val (.int p5), .val (.int c5), .val (.int yB), .val (.int yC), .val (.ref ob), .val (.int (0 : Int32)), .val (.int (1 : Int32)), .val (.int (2 : Int32)), .val (.int (3 : Int32)), .val (.ref x0), .val (.int n0v), .val (.ref x1), .val (.int n1), .val (.ref x2), .val (.int n2), .val (.ref xn), .unset] [(.int (n1 + (1 : Int32)))])) _
        refine XS.istore X1246.here hx rfl (hb hby at_288) rfl (l' := #[.val (.int p1), .val (.int p2), .val (.int p3), .val (.int p4), .val (.int p5), .val (.int c5), .val (.int yB), .val (.int yC), .val (.ref ob), .val (.int (0 : Int32)), .val (.int (1 : Int32)), .val (.int (2 : Int32)), .val (.int (3 : Int32)), .val (.ref x0), .val (.int n0v), .val (.ref x1), .val (.int n1), .val (.ref x2), .val (.int n2), .val (.ref xn), .val (.int (n1 + (1 : Int32)))]) rfl ?_
        show Steps p.tables e below (T1246.setTop (mkF m 290 #[.val (.int p1), .val (.int p2), .val (.int p3), .val (.int p4), .val (.int p5), .val (.int c5), .val (.int yB), .val (.int yC), .val (.ref ob), .val (.int (0 : Int32)), .val (.int (1 : Int32)), .val (.int (2 : Int32)), .val (.int (3 : Int32)), .val (.ref x0), .val (.int n0v), .val (.ref x1), .val (.int n1), .val (.ref x2), .val (.int n2), .val (.ref xn), .val (.int (n1 + (1 : Int32)))] [])) _
        refine XS.goto X1246.here hx rfl (pc0 := 290) (pc' := 309) rfl (hb hby at_290) (by decide) (by decide) ?_
        exact kont
      have hp : pth 3 = pth 1 ++ [p4] := by rw [hp3, if_neg hc246_0, if_pos hc271_1]
      rw [← hp] at VX1246
      have hn3 : own_at (n1 + (1 : Int32)) (pth 3).length := by rw [hp, List.length_append]; exact own_at_succ hn1 (by omega)
      exact own_s309 X1246 hx hZ hw hby hret hlk hml hown rfl N1246 Z1246 (PT.keep KK1246) (XA0.keep KK1246 nin0) (XA1.keep KK1246 nin0) (XA2.keep KK1246 nin0) VX1246 hn0 hn1 hn2 hn3 (by omega) (by omega) (by omega) (by rw [hp, List.length_append]; show _ + 1 ≤ 4; omega)
    · refine own_step (T' := T0) (f' := (mkF m 298 #[.val (.int p1), .val (.int p2), .val (.int p3), .val (.int p4), .val (.int p5), .val (.int c5), .val (.int yB), .val (.int yC), .val (.ref ob), .val (.int (0 : Int32)), .val (.int (1 : Int32)), .val (.int (2 : Int32)), .val (.int (3 : Int32)), .val (.ref x0), .val (.int n0v), .val (.ref x1), .val (.int n1), .val (.ref x2), .val (.int n2), .unset, .unset] [(.int p4), (.int n2), (.ref x2)])) (fun tt kont => ?_) ?_
      · show Steps p.tables e below (T0.setTop (mkF m 271 #[.val (.int p1), .val (.int p2), .val (.int p3), .val (.int p4), .val (.int p5), .val (.int c5), .val (.int yB), .val (.int yC), .val (.ref ob), .val (.int (0 : Int32)), .val (.int (1 : Int32)), .val (.int (2 : Int32)), .val (.int (3 : Int32)), .val (.ref x0), .val (.int n0v), .val (.ref x1), .val (.int n1), .val (.ref x2), .val (.int n2), .unset, .unset] [(.int (1 : Int32)), (.int yC)])) _
        refine XS.icmpYes X0.here hx rfl (pc0 := 271) (pc' := 293) rfl (hb hby at_271) rfl (feq hc271_1).2 (by decide) (by decide) ?_
        show Steps p.tables e below (T0.setTop (mkF m 293 #[.val (.int p1), .val (.int p2), .val (.int p3), .val (.int p4), .val (.int p5), .val (.int c5), .val (.int yB), .val (.int yC), .val (.ref ob), .val (.int (0 : Int32)), .val (.int (1 : Int32)), .val (.int (2 : Int32)), .val (.int (3 : Int32)), .val (.ref x0), .val (.int n0v), .val (.ref x1), .val (.int n1), .val (.ref x2), .val (.int n2), .unset, .unset] [])) _
        refine XS.aload X0.here hx rfl (hb hby at_293) rfl rfl ?_
        show Steps p.tables e below (T0.setTop (mkF m 295 #[.val (.int p1), .val (.int p2), .val (.int p3), .val (.int p4), .val (.int p5), .val (.int c5), .val (.int yB), .val (.int yC), .val (.ref ob), .val (.int (0 : Int32)), .val (.int (1 : Int32)), .val (.int (2 : Int32)), .val (.int (3 : Int32)), .val (.ref x0), .val (.int n0v), .val (.ref x1), .val (.int n1), .val (.ref x2), .val (.int n2), .unset, .unset] [(.ref x2)])) _
        refine XS.iload X0.here hx rfl (hb hby at_295) rfl ?_
        show Steps p.tables e below (T0.setTop (mkF m 297 #[.val (.int p1), .val (.int p2), .val (.int p3), .val (.int p4), .val (.int p5), .val (.int c5), .val (.int yB), .val (.int yC), .val (.ref ob), .val (.int (0 : Int32)), .val (.int (1 : Int32)), .val (.int (2 : Int32)), .val (.int (3 : Int32)), .val (.ref x0), .val (.int n0v), .val (.ref x1), .val (.int n1), .val (.ref x2), .val (.int n2), .unset, .unset] [(.int n2), (.ref x2)])) _
        refine XS.iloadN X0.here hx rfl (hb hby at_297) rfl ?_
        exact kont
      obtain ⟨_, _, ⟨T1247, L1247, k1247, n1247⟩, -, X1247, ⟨Lc1247, hQ1247, l1247, y1247, z1247⟩, st1247⟩ := Jvm.LawKit.callS X0 hx (y := (⟨"com/example/tapir/tapir/sampling/PathTreePathPinLaw", "ext", "([III)[I"⟩ : MethodName)) hown (mvT hZ (hw _ (List.mem_of_getElem? (i := 32) rfl))) (mvT hZ (hw _ (List.mem_of_getElem? (i := 33) rfl))) (mvT hZ (hw _ (List.mem_of_getElem? (i := 34) rfl))) (mvT hZ (hw _ (List.mem_of_getElem? (i := 35) rfl))) (by decide) (backOf (W := 0) (own_rmE l Z a0 hw x2 n2 p4 (pth 2) h0 n0 Z0 XA2 hn2 (by omega)) hZ (hw _ (List.mem_of_getElem? (i := 35) rfl)) (hw _ (List.mem_of_getElem? (i := 34) rfl)) (by decide) (by decide)) (g := (mkF m 298 #[.val (.int p1), .val (.int p2), .val (.int p3), .val (.int p4), .val (.int p5), .val (.int c5), .val (.int yB), .val (.int yC), .val (.ref ob), .val (.int (0 : Int32)), .val (.int (1 : Int32)), .val (.int (2 : Int32)), .val (.int (3 : Int32)), .val (.ref x0), .val (.int n0v), .val (.ref x1), .val (.int n1), .val (.ref x2), .val (.int n2), .unset, .unset] [(.int p4), (.int n2), (.ref x2)])) rfl (by rw [hml]; rfl) (argsL := [(.ref x2), (.int n2), (.int p4)]) (rest := []) (lenOf own_pd3 rfl) rfl (by show 2 * 0 + _ ≤ _; exact Nat.le_of_eq rfl) (hb hby at_298) (fun _ _ => ⟨rfl, e0, (by decide : 7 + 1 ≤ _), (by decide : 208 + 4 ≤ _)⟩)
      dsimp only [Pt.U, Pt.locs, Pt.cells, Pt.slots] at X1247 l1247 y1247 z1247 st1247 hQ1247
      subst l1247 y1247 z1247
      obtain ⟨xn, rfl, N1247q, sz1247, K1247, VX1247⟩ := hQ1247
      have N1247 := Fr.app N0 N1247q
      refine own_step (fun tt kont => st1247 _ kont) ?_
      have KK1247 := (Keep.refl h0 []).trans K1247 (fun x hx => absurd hx nin0)
      have Z1247 := Nat.le_trans Z0 K1247.1
      refine own_step (T' := T1247) (f' := (mkF m 309 #[.val (.int p1), .val (.int p2), .val (.int p3), .val (.int p4), .val (.int p5), .val (.int c5), .val (.int yB), .val (.int yC), .val (.ref ob), .val (.int (0 : Int32)), .val (.int (1 : Int32)), .val (.int (2 : Int32)), .val (.int (3 : Int32)), .val (.ref x0), .val (.int n0v), .val (.ref x1), .val (.int n1), .val (.ref x2), .val (.int n2), .val (.ref xn), .val (.int (n2 + (1 : Int32)))] [])) (fun tt kont => ?_) ?_
      · show Steps p.tables e below (T1247.setTop (mkF m 301 #[.val (.int p1), .val (.int p2), .val (.int p3), .val (.int p4), .val (.int p5), .val (.int c5), .val (.int yB), .val (.int yC), .val (.ref ob), .val (.int (0 : Int32)), .val (.int (1 : Int32)), .val (.int (2 : Int32)), .val (.int (3 : Int32)), .val (.ref x0), .val (.int n0v), .val (.ref x1), .val (.int n1), .val (.ref x2), .val (.int n2), .unset, .unset] [(.ref xn)])) _
        refine XS.astore X1247.here hx rfl (hb hby at_301) rfl rfl (l' := #[.val (.int p1), .val (.int p2), .val (.int p3), .val (.int p4), .val (.int p5), .val (.int c5), .val (.int yB), .val (.int yC), .val (.ref ob), .val (.int (0 : Int32)), .val (.int (1 : Int32)), .val (.int (2 : Int32)), .val (.int (3 : Int32)), .val (.ref x0), .val (.int n0v), .val (.ref x1), .val (.int n1), .val (.ref x2), .val (.int n2), .val (.ref xn), .unset]) rfl ?_
        show Steps p.tables e below (T1247.setTop (mkF m 303 #[.val (.int p1), .val (.int p2), .val (.int p3), .val (.int p4), .val (.int p5), .val (.int c5), .val (.int yB), .val (.int yC), .val (.ref ob), .val (.int (0 : Int32)), .val (.int (1 : Int32)), .val (.int (2 : Int32)), .val (.int (3 : Int32)), .val (.ref x0), .val (.int n0v), .val (.ref x1), .val (.int n1), .val (.ref x2), .val (.int n2), .val (.ref xn), .unset] [])) _
        refine XS.iload X1247.here hx rfl (hb hby at_303) rfl ?_
        show Steps p.tables e below (T1247.setTop (mkF m 305 #[.val (.int p1), .val (.int p2), .val (.int p3), .val (.int p4), .val (.int p5), .val (.int c5), .val (.int yB), .val (.int yC), .val (.ref ob), .val (.int (0 : Int32)), .val (.int (1 : Int32)), .val (.int (2 : Int32)), .val (.int (3 : Int32)), .val (.ref x0), .val (.int n0v), .val (.ref x1), .val (.int n1), .val (.ref x2), .val (.int n2), .val (.ref xn), .unset] [(.int n2)])) _
        refine XS.iconst X1247.here hx rfl (hb hby at_305) ?_
        show Steps p.tables e below (T1247.setTop (mkF m 306 #[.val (.int p1), .val (.int p2), .val (.int p3), .val (.int p4), .val (.int p5), .val (.int c5), .val (.int yB), .val (.int yC), .val (.ref ob), .val (.int (0 : Int32)), .val (.int (1 : Int32)), .val (.int (2 : Int32)), .val (.int (3 : Int32)), .val (.ref x0), .val (.int n0v), .val (.ref x1), .val (.int n1), .val (.ref x2), .val (.int n2), .val (.ref xn), .unset] [(.int (1 : Int32)), (.int n2)])) _
        refine XS.iadd X1247.here hx rfl (hb hby at_306) rfl ?_
        show Steps p.tables e below (T1247.setTop (mkF m 307 #[.val (.int p1), .val (.int p2), .val (.int p3), .val (.int p4), .val (.int p5), .val (.int c5), .val (.int yB), .val (.int yC), .val (.ref ob), .val (.int (0 : Int32)), .val (.int (1 : Int32)), .val (.int (2 : Int32)), .val (.int (3 : Int32)), .val (.ref x0), .val (.int n0v), .val (.ref x1), .val (.int n1), .val (.ref x2), .val (.int n2), .val (.ref xn), .unset] [(.int (n2 + (1 : Int32)))])) _
        refine XS.istore X1247.here hx rfl (hb hby at_307) rfl (l' := #[.val (.int p1), .val (.int p2), .val (.int p3), .val (.int p4), .val (.int p5), .val (.int c5), .val (.int yB), .val (.int yC), .val (.ref ob), .val (.int (0 : Int32)), .val (.int (1 : Int32)), .val (.int (2 : Int32)), .val (.int (3 : Int32)), .val (.ref x0), .val (.int n0v), .val (.ref x1), .val (.int n1), .val (.ref x2), .val (.int n2), .val (.ref xn), .val (.int (n2 + (1 : Int32)))]) rfl ?_
        exact kont
      have hp : pth 3 = pth 2 ++ [p4] := by rw [hp3, if_neg hc246_0, if_neg hc271_1]
      rw [← hp] at VX1247
      have hn3 : own_at (n2 + (1 : Int32)) (pth 3).length := by rw [hp, List.length_append]; exact own_at_succ hn2 (by omega)
      exact own_s309 X1247 hx hZ hw hby hret hlk hml hown rfl N1247 Z1247 (PT.keep KK1247) (XA0.keep KK1247 nin0) (XA1.keep KK1247 nin0) (XA2.keep KK1247 nin0) VX1247 hn0 hn1 hn2 hn3 (by omega) (by omega) (by omega) (by rw [hp, List.length_append]; show _ + 1 ≤ 4; omega)
set_option maxRecDepth 65536 in
set_option maxHeartbeats 40000000 in
theorem own_s204 {p : Program} {l : Launch} {e : Env} {s : State} {m : MethodId} {args : Array Value} {below : List Frame} {meth : Method} {c : Code} {T0 : State} {locs : List Loc} {Z : State} {a0 : Array Value} {h0 : Heap} {n0 : Nat} {p1 p2 p3 p4 p5 c5 yB yC : Int32} {ob : Addr} {pth : Nat → List Int32} {x0 x1 : Addr} {n0v n1 : Int32} (X0 : Stand p l e room_1 s m args below meth c T0 locs 6 204) (hx : p.tables.exec = Jvm.exec) (hZ : Z.Warmed39 s.vm) (hw : ∀ d ∈ tables_1, d.before a0 Z = true) (hby : c.code = code) (hret : meth.sig.returnType = some .boolean) (hlk : meth.locks = false) (hml : c.maxLocals = 21) (hown : s.vm.findClass "com/example/tapir/tapir/sampling/PathTreePathPinLaw" = some m.cls) (e0 : T0.heap = h0) (N0 : Fr n0 locs) (Z0 : n0 ≤ h0.size) (PT : own_PT Z h0 n0 ob 4 pth) (XA0 : own_A Z h0 x0 .int 4 (fun i => .int ((pth 0).getD i 0))) (XA1 : own_A Z h0 x1 .int 4 (fun i => .int ((pth 1).getD i 0))) (hn0 : own_at n0v (pth 0).length) (hn1 : own_at n1 (pth 1).length) (hl0 : (pth 0).length ≤ 1) (hl1 : (pth 1).length ≤ 2) (hp2 : pth 2 = (if yB = (0 : Int32) then pth 0 else pth 1) ++ [p3]) (hp3 : pth 3 = (if yC = (0 : Int32) then pth 0 else if yC = (1 : Int32) then pth 1 else pth 2) ++ [p4]) :
    own_Go p e below T0 (mkF m 204 #[.val (.int p1), .val (.int p2), .val (.int p3), .val (.int p4), .val (.int p5), .val (.int c5), .val (.int yB), .val (.int yC), .val (.ref ob), .val (.int (0 : Int32)), .val (.int (1 : Int32)), .val (.int (2 : Int32)), .val (.int (3 : Int32)), .val (.ref x0), .val (.int n0v), .val (.ref x1), .val (.int n1), .unset, .unset, .unset, .unset] []) (fun o U' => ∃ v L, o = .returned v ∧ own_QL n0 v U'.heap L ∧ FrameEnd s o U' L 32 512) := by
  refine own_step (T' := T0) (f' := (mkF m 206 #[.val (.int p1), .val (.int p2), .val (.int p3), .val (.int p4), .val (.int p5), .val (.int c5), .val (.int yB), .val (.int yC), .val (.ref ob), .val (.int (0 : Int32)), .val (.int (1 : Int32)), .val (.int (2 : Int32)), .val (.int (3 : Int32)), .val (.ref x0), .val (.int n0v), .val (.ref x1), .val (.int n1), .unset, .unset, .unset, .unset] [(.int yB)])) (fun tt kont => ?_) ?_
  · show Steps p.tables e below (T0.setTop (mkF m 204 #[.val (.int p1), .val (.int p2), .val (.int p3), .val (.int p4), .val (.int p5), .val (.int c5), .val (.int yB), .val (.int yC), .val (.ref ob), .val (.int (0 : Int32)), .val (.int (1 : Int32)), .val (.int (2 : Int32)), .val (.int (3 : Int32)), .val (.ref x0), .val (.int n0v), .val (.ref x1), .val (.int n1), .unset, .unset, .unset, .unset] [])) _
    refine XS.iload X0.here hx rfl (hb hby at_204) rfl ?_
    exact kont
  by_cases hc206_0 : yB = (0 : Int32)
  · refine own_step (T' := T0) (f' := (mkF m 214 #[.val (.int p1), .val (.int p2), .val (.int p3), .val (.int p4), .val (.int p5), .val (.int c5), .val (.int yB), .val (.int yC), .val (.ref ob), .val (.int (0 : Int32)), .val (.int (1 : Int32)), .val (.int (2 : Int32)), .val (.int (3 : Int32)), .val (.ref x0), .val (.int n0v), .val (.ref x1), .val (.int n1), .unset, .unset, .unset, .unset] [(.int p3), (.int n0v), (.ref x0)])) (fun tt kont => ?_) ?_
    · show Steps p.tables e below (T0.setTop (mkF m 206 #[.val (.int p1), .val (.int p2), .val (.int p3), .val (.int p4), .val (.int p5), .val (.int c5), .val (.int yB), .val (.int yC), .val (.ref ob), .val (.int (0 : Int32)), .val (.int (1 : Int32)), .val (.int (2 : Int32)), .val (.int (3 : Int32)), .val (.ref x0), .val (.int n0v), .val (.ref x1), .val (.int n1), .unset, .unset, .unset, .unset] [(.int yB)])) _
      refine XS.ifNo X0.here hx rfl (hb hby at_206) rfl ((if0 _ _).trans (teq hc206_0).2) ?_
      show Steps p.tables e below (T0.setTop (mkF m 209 #[.val (.int p1), .val (.int p2), .val (.int p3), .val (.int p4), .val (.int p5), .val (.int c5), .val (.int yB), .val (.int yC), .val (.ref ob), .val (.int (0 : Int32)), .val (.int (1 : Int32)), .val (.int (2 : Int32)), .val (.int (3 : Int32)), .val (.ref x0), .val (.int n0v), .val (.ref x1), .val (.int n1), .unset, .unset, .unset, .unset] [])) _
      refine XS.aload X0.here hx rfl (hb hby at_209) rfl rfl ?_
      show Steps p.tables e below (T0.setTop (mkF m 211 #[.val (.int p1), .val (.int p2), .val (.int p3), .val (.int p4), .val (.int p5), .val (.int c5), .val (.int yB), .val (.int yC), .val (.ref ob), .val (.int (0 : Int32)), .val (.int (1 : Int32)), .val (.int (2 : Int32)), .val (.int (3 : Int32)), .val (.ref x0), .val (.int n0v), .val (.ref x1), .val (.int n1), .unset, .unset, .unset, .unset] [(.ref x0)])) _
      refine XS.iload X0.here hx rfl (hb hby at_211) rfl ?_
      show Steps p.tables e below (T0.setTop (mkF m 213 #[.val (.int p1), .val (.int p2), .val (.int p3), .val (.int p4), .val (.int p5), .val (.int c5), .val (.int yB), .val (.int yC), .val (.ref ob), .val (.int (0 : Int32)), .val (.int (1 : Int32)), .val (.int (2 : Int32)), .val (.int (3 : Int32)), .val (.ref x0), .val (.int n0v), .val (.ref x1), .val (.int n1), .unset, .unset, .unset, .unset] [(.int n0v), (.ref x0)])) _
      refine XS.iloadN X0.here hx rfl (hb hby at_213) rfl ?_
      exact kont
    obtain ⟨_, _, ⟨T1205, L1205, k1205, n1205⟩, -, X1205, ⟨Lc1205, hQ1205, l1205, y1205, z1205⟩, st1205⟩ := Jvm.LawKit.callS X0 hx (y := (⟨"com/example/tapir/tapir/sampling/PathTreePathPinLaw", "ext", "([III)[I"⟩ : MethodName)) hown (mvT hZ (hw _ (List.mem_of_getElem? (i := 32) rfl))) (mvT hZ (hw _ (List.mem_of_getElem? (i := 33) rfl))) (mvT hZ (hw _ (List.mem_of_getElem? (i := 34) rfl))) (mvT hZ (hw _ (List.mem_of_getElem? (i := 35) rfl))) (by decide) (backOf (W := 0) (own_rmE l Z a0 hw x0 n0v p3 (pth 0) h0 n0 Z0 XA0 hn0 (by omega)) hZ (hw _ (List.mem_of_getElem? (i := 35) rfl)) (hw _ (List.mem_of_getElem? (i := 34) rfl)) (by decide) (by decide)) (g := (mkF m 214 #[.val (.int p1), .val (.int p2), .val (.int p3), .val (.int p4), .val (.int p5), .val (.int c5), .val (.int yB), .val (.int yC), .val (.ref ob), .val (.int (0 : Int32)), .val (.int (1 : Int32)), .val (.int (2 : Int32)), .val (.int (3 : Int32)), .val (.ref x0), .val (.int n0v), .val (.ref x1), .val (.int n1), .unset, .unset, .unset, .unset] [(.int p3), (.int n0v), (.ref x0)])) rfl (by rw [hml]; rfl) (argsL := [(.ref x0), (.int n0v), (.int p3)]) (rest := []) (lenOf own_pd3 rfl) rfl (by show 2 * 0 + _ ≤ _; exact Nat.le_of_eq rfl) (hb hby at_214) (fun _ _ => ⟨rfl, e0, (by decide : 6 + 1 ≤ _), (by decide : 204 + 4 ≤ _)⟩)
    dsimp only [Pt.U, Pt.locs, Pt.cells, Pt.slots] at X1205 l1205 y1205 z1205 st1205 hQ1205
    subst l1205 y1205 z1205
    obtain ⟨xn, rfl, N1205q, sz1205, K1205, VX1205⟩ := hQ1205
    have N1205 := Fr.app N0 N1205q
    refine own_step (fun tt kont => st1205 _ kont) ?_
    have KK1205 := (Keep.refl h0 []).trans K1205 (fun x hx => absurd hx nin0)
    have Z1205 := Nat.le_trans Z0 K1205.1
    refine own_step (T' := T1205) (f' := (mkF m 244 #[.val (.int p1), .val (.int p2), .val (.int p3), .val (.int p4), .val (.int p5), .val (.int c5), .val (.int yB), .val (.int yC), .val (.ref ob), .val (.int (0 : Int32)), .val (.int (1 : Int32)), .val (.int (2 : Int32)), .val (.int (3 : Int32)), .val (.ref x0), .val (.int n0v), .val (.ref x1), .val (.int n1), .val (.ref xn), .val (.int (n0v + (1 : Int32))), .unset, .unset] [])) (fun tt kont => ?_) ?_
    · show Steps p.tables e below (T1205.setTop (mkF m 217 #[.val (.int p1), .val (.int p2), .val (.int p3), .val (.int p4), .val (.int p5), .val (.int c5), .val (.int yB), .val (.int yC), .val (.ref ob), .val (.int (0 : Int32)), .val (.int (1 : Int32)), .val (.int (2 : Int32)), .val (.int (3 : Int32)), .val (.ref x0), .val (.int n0v), .val (.ref x1), .val (.int n1), .unset, .unset, .unset, .unset] [(.ref xn)])) _
      refine XS.astore X1205.here hx rfl (hb hby at_217) rfl rfl (l' := #[.val (.int p1), .val (.int p2), .val (.int p3), .val (.int p4), .val (.int p5), .val (.int c5), .val (.int yB), .val (.int yC), .val (.ref ob), .val (.int (0 : Int32)), .val (.int (1 : Int32)), .val (.int (2 : Int32)), .val (.int (3 : Int32)), .val (.ref x0), .val (.int n0v), .val (.ref x1), .val (.int n1), .val (.ref xn), .unset, .unset, .unset]) rfl ?_
      show Steps p.tables e below (T1205.setTop (mkF m 219 #[.val (.int p1), .val (.int p2), .val (.int p3), .val (.int p4), .val (.int p5), .val (.int c5), .val (.int yB), .val (.int yC), .val (.ref ob), .val (.int (0 : Int32)), .val (.int (1 : Int32)), .val (.int (2 : Int32)), .val (.int (3 : Int32)), .val (.ref x0), .val (.int n0v), .val (.ref x1), .val (.int n1), .val (.ref xn), .unset, .unset, .unset] [])) _
      refine XS.iload X1205.here hx rfl (hb hby at_219) rfl ?_
      show Steps p.tables e below (T1205.setTop (mkF m 221 #[.val (.int p1), .val (.int p2), .val (.int p3), .val (.int p4), .val (.int p5), .val (.int c5), .val (.int yB), .val (.int yC), .val (.ref ob), .val (.int (0 : Int32)), .val (.int (1 : Int32)), .val (.int (2 : Int32)), .val (.int (3 : Int32)), .val (.ref x0), .val (.int n0v), .val (.ref x1), .val (.int n1), .val (.ref xn), .unset, .unset, .unset] [(.int n0v)])) _
      refine XS.iconst X1205.here hx rfl (hb hby at_221) ?_
      show Steps p.tables e below (T1205.setTop (mkF m 222 #[.val (.int p1), .val (.int p2), .val (.int p3), .val (.int p4), .val (.int p5), .val (.int c5), .val (.int yB), .val (.int yC), .val (.ref ob), .val (.int (0 : Int32)), .val (.int (1 : Int32)), .val (.int (2 : Int32)), .val (.int (3 : Int32)), .val (.ref x0), .val (.int n0v), .val (.ref x1), .val (.int n1), .val (.ref xn), .unset, .unset, .unset] [(.int (1 : Int32)), (.int n0v)])) _
      refine XS.iadd X1205.here hx rfl (hb hby at_222) rfl ?_
      show Steps p.tables e below (T1205.setTop (mkF m 223 #[.val (.int p1), .val (.int p2), .val (.int p3), .val (.int p4), .val (.int p5), .val (.int c5), .val (.int yB), .val (.int yC), .val (.ref ob), .val (.int (0 : Int32)), .val (.int (1 : Int32)), .val (.int (2 : Int32)), .val (.int (3 : Int32)), .val (.ref x0), .val (.int n0v), .val (.ref x1), .val (.int n1), .val (.ref xn), .unset, .unset, .unset] [(.int (n0v + (1 : Int32)))])) _
      refine XS.istore X1205.here hx rfl (hb hby at_223) rfl (l' := #[.val (.int p1), .val (.int p2), .val (.int p3), .val (.int p4), .val (.int p5), .val (.int c5), .val (.int yB), .val (.int yC), .val (.ref ob), .val (.int (0 : Int32)), .val (.int (1 : Int32)), .val (.int (2 : Int32)), .val (.int (3 : Int32)), .val (.ref x0), .val (.int n0v), .val (.ref x1), .val (.int n1), .val (.ref xn), .val (.int (n0v + (1 : Int32))), .unset, .unset]) rfl ?_
      show Steps p.tables e below (T1205.setTop (mkF m 225 #[.val (.int p1), .val (.int p2), .val (.int p3), .val (.int p4), .val (.int p5), .val (.int c5), .val (.int yB), .val (.int yC), .val (.ref ob), .val (.int (0 : Int32)), .val (.int (1 : Int32)), .val (.int (2 : Int32)), .val (.int (3 : Int32)), .val (.ref x0), .val (.int n0v), .val (.ref x1), .val (.int n1), .val (.ref xn), .val (.int (n0v + (1 : Int32))), .unset, .unset] [])) _
      refine XS.goto X1205.here hx rfl (pc0 := 225) (pc' := 244) rfl (hb hby at_225) (by decide) (by decide) ?_
      exact kont
    have hp : pth 2 = pth 0 ++ [p3] := by rw [hp2, if_pos hc206_0]
    rw [← hp] at VX1205
    have hn2 : own_at (n0v + (1 : Int32)) (pth 2).length := by rw [hp, List.length_append]; exact own_at_succ hn0 (by omega)
    exact own_s244 X1205 hx hZ hw hby hret hlk hml hown rfl N1205 Z1205 (PT.keep KK1205) (XA0.keep KK1205 nin0) (XA1.keep KK1205 nin0) VX1205 hn0 hn1 hn2 hl0 hl1 (by rw [hp, List.length_append]; show _ + 1 ≤ 3; omega) hp3
  · refine own_step (T' := T0) (f' := (mkF m 233 #[.val (.int p1), .val (.int p2), .val (.int p3), .val (.int p4), .val (.int p5), .val (.int c5), .val (.int yB), .val (.int yC), .val (.ref ob), .val (.int (0 : Int32)), .val (.int (1 : Int32)), .val (.int (2 : Int32)), .val (.int (3 : Int32)), .val (.ref x0), .val (.int n0v), .val (.ref x1), .val (.int n1), .unset, .unset, .unset, .unset] [(.int p3), (.int n1), (.ref x1)])) (fun tt kont => ?_) ?_
    · show Steps p.tables e below (T0.setTop (mkF m 206 #[.val (.int p1), .val (.int p2), .val (.int p3), .val (.int p4), .val (.int p5), .val (.int c5), .val (.int yB), .val (.int yC), .val (.ref ob), .val (.int (0 : Int32)), .val (.int (1 : Int32)), .val (.int (2 : Int32)), .val (.int (3 : Int32)), .val (.ref x0), .val (.int n0v), .val (.ref x1), .val (.int n1), .unset, .unset, .unset, .unset] [(.int yB)])) _
      refine XS.ifYes X0.here hx rfl (pc0 := 206) (pc' := 228) rfl (hb hby at_206) rfl ((if0 _ _).trans (feq hc206_0).2) (by decide) (by decide) ?_
      show Steps p.tables e below (T0.setTop (mkF m 228 #[.val (.int p1), .val (.int p2), .val (.int p3), .val (.int p4), .val (.int p5), .val (.int c5), .val (.int yB), .val (.int yC), .val (.ref ob), .val (.int (0 : Int32)), .val (.int (1 : Int32)), .val (.int (2 : Int32)), .val (.int (3 : Int32)), .val (.ref x0), .val (.int n0v), .val (.ref x1), .val (.int n1), .unset, .unset, .unset, .unset] [])) _
      refine XS.aload X0.here hx rfl (hb hby at_228) rfl rfl ?_
      show Steps p.tables e below (T0.setTop (mkF m 230 #[.val (.int p1), .val (.int p2), .val (.int p3), .val (.int p4), .val (.int p5), .val (.int c5), .val (.int yB), .val (.int yC), .val (.ref ob), .val (.int (0 : Int32)), .val (.int (1 : Int32)), .val (.int (2 : Int32)), .val (.int (3 : Int32)), .val (.ref x0), .val (.int n0v), .val (.ref x1), .val (.int n1), .unset, .unset, .unset, .unset] [(.ref x1)])) _
      refine XS.iload X0.here hx rfl (hb hby at_230) rfl ?_
      show Steps p.tables e below (T0.setTop (mkF m 232 #[.val (.int p1), .val (.int p2), .val (.int p3), .val (.int p4), .val (.int p5), .val (.int c5), .val (.int yB), .val (.int yC), .val (.ref ob), .val (.int (0 : Int32)), .val (.int (1 : Int32)), .val (.int (2 : Int32)), .val (.int (3 : Int32)), .val (.ref x0), .val (.int n0v), .val (.ref x1), .val (.int n1), .unset, .unset, .unset, .unset] [(.int n1), (.ref x1)])) _
      refine XS.iloadN X0.here hx rfl (hb hby at_232) rfl ?_
      exact kont
    obtain ⟨_, _, ⟨T1206, L1206, k1206, n1206⟩, -, X1206, ⟨Lc1206, hQ1206, l1206, y1206, z1206⟩, st1206⟩ := Jvm.LawKit.callS X0 hx (y := (⟨"com/example/tapir/tapir/sampling/PathTreePathPinLaw", "ext", "([III)[I"⟩ : MethodName)) hown (mvT hZ (hw _ (List.mem_of_getElem? (i := 32) rfl))) (mvT hZ (hw _ (List.mem_of_getElem? (i := 33) rfl))) (mvT hZ (hw _ (List.mem_of_getElem? (i := 34) rfl))) (mvT hZ (hw _ (List.mem_of_getElem? (i := 35) rfl))) (by decide) (backOf (W := 0) (own_rmE l Z a0 hw x1 n1 p3 (pth 1) h0 n0 Z0 XA1 hn1 (by omega)) hZ (hw _ (List.mem_of_getElem? (i := 35) rfl)) (hw _ (List.mem_of_getElem? (i := 34) rfl)) (by decide) (by decide)) (g := (mkF m 233 #[.val (.int p1), .val (.int p2), .val (.int p3), .val (.int p4), .val (.int p5), .val (.int c5), .val (.int yB), .val (.int yC), .val (.ref ob), .val (.int (0 : Int32)), .val (.int (1 : Int32)), .val (.int (2 : Int32)), .val (.int (3 : Int32)), .val (.ref x0), .val (.int n0v), .val (.ref x1), .val (.int n1), .unset, .unset, .unset, .unset] [(.int p3), (.int n1), (.ref x1)])) rfl (by rw [hml]; rfl) (argsL := [(.ref x1), (.int n1), (.int p3)]) (rest := []) (lenOf own_pd3 rfl) rfl (by show 2 * 0 + _ ≤ _; exact Nat.le_of_eq rfl) (hb hby at_233) (fun _ _ => ⟨rfl, e0, (by decide : 6 + 1 ≤ _), (by decide : 204 + 4 ≤ _)⟩)
    dsimp only [Pt.U, Pt.locs, Pt.cells, Pt.slots] at X1206 l1206 y1206 z1206 st1206 hQ1206
    subst l1206 y1206 z1206
    obtain ⟨xn, rfl, N1206q, sz1206, K1206, VX1206⟩ := hQ1206
    have N1206 := Fr.app N0 N1206q
    refine own_step (fun tt kont => st1206 _ kont) ?_
    have KK1206 := (Keep.refl h0 []).trans K1206 (fun x hx => absurd hx nin0)
    have Z1206 := Nat.le_trans Z0 K1206.1
    refine own_step (T' := T1206) (f' := (mkF m 244 #[.val (.int p1), .val (.int p2), .val (.int p3), .val (.int p4), .val (.int p5), .val (.int c5), .val (.int yB), .val (.int yC), .val (.ref ob), .val (.int (0 : Int32)), .val (.int (1 : Int32)), .val (.int (2 : Int32)), .val (.int (3 : Int32)), .val (.ref x0), .val (.int n0v), .val (.ref x1), .val (.int n1), .val (.ref xn), .val (.int (n1 + (1 : Int32))), .unset, .unset] [])) (fun tt kont => ?_) ?_
    · show Steps p.tables e below (T1206.setTop (mkF m 236 #[.val (.int p1), .val (.int p2), .val (.int p3), .val (.int p4), .val (.int p5), .val (.int c5), .val (.int yB), .val (.int yC), .val (.ref ob), .val (.int (0 : Int32)), .val (.int (1 : Int32)), .val (.int (2 : Int32)), .val (.int (3 : Int32)), .val (.ref x0), .val (.int n0v), .val (.ref x1), .val (.int n1), .unset, .unset, .unset, .unset] [(.ref xn)])) _
      refine XS.astore X1206.here hx rfl (hb hby at_236) rfl rfl (l' := #[.val (.int p1), .val (.int p2), .val (.int p3), .val (.int p4), .val (.int p5), .val (.int c5), .val (.int yB), .val (.int yC), .val (.ref ob), .val (.int (0 : Int32)), .val (.int (1 : Int32)), .val (.int (2 : Int32)), .val (.int (3 : Int32)), .val (.ref x0), .val (.int n0v), .val (.ref x1), .val (.int n1), .val (.ref xn), .unset, .unset, .unset]) rfl ?_
      show Steps p.tables e below (T1206.setTop (mkF m 238 #[.val (.int p1), .val (.int p2), .val (.int p3), .val (.int p4), .val (.int p5), .val (.int c5), .val (.int yB), .val (.int yC), .val (.ref ob), .val (.int (0 : Int32)), .val (.int (1 : Int32)), .val (.int (2 : Int32)), .val (.int (3 : Int32)), .val (.ref x0), .val (.int n0v), .val (.ref x1), .val (.int n1), .val (.ref xn), .unset, .unset, .unset] [])) _
      refine XS.iload X1206.here hx rfl (hb hby at_238) rfl ?_
      show Steps p.tables e below (T1206.setTop (mkF m 240 #[.val (.int p1), .val (.int p2), .val (.int p3), .val (.int p4), .val (.int p5), .val (.int c5), .val (.int yB), .val (.int yC), .val (.ref ob), .val (.int (0 : Int32)), .val (.int (1 : Int32)), .val (.int (2 : Int32)), .val (.int (3 : Int32)), .val (.ref x0), .val (.int n0v), .val (.ref x1), .val (.int n1), .val (.ref xn), .unset, .unset, .unset] [(.int n1)])) _
      refine XS.iconst X1206.here hx rfl (hb hby at_240) ?_
      show Steps p.tables e below (T1206.setTop (mkF m 241 #[.val (.int p1), .val (.int p2), .val (.int p3), .val (.int p4), .val (.int p5), .val (.int c5), .val (.int yB), .val (.int yC), .val (.ref ob), .val (.int (0 : Int32)), .val (.int (1 : Int32)), .val (.int (2 : Int32)), .val (.int (3 : Int32)), .val (.ref x0), .val (.int n0v), .val (.ref x1), .val (.int n1), .val (.ref xn), .unset, .unset, .unset] [(.int (1 : Int32)), (.int n1)])) _
      refine XS.iadd X1206.here hx rfl (hb hby at_241) rfl ?_
      show Steps p.tables e below (T1206.setTop (mkF m 242 #[.val (.int p1), .val (.int p2), .val (.int p3), .val (.int p4), .val (.int p5), .val (.int c5), .val (.int yB), .val (.int yC), .val (.ref ob), .val (.int (0 : Int32)), .val (.int (1 : Int32)), .val (.int (2 : Int32)), .val (.int (3 : Int32)), .val (.ref x0), .val (.int n0v), .val (.ref x1), .val (.int n1), .val (.ref xn), .unset, .unset, .unset] [(.int (n1 + (1 : Int32)))])) _
      refine XS.istore X1206.here hx rfl (hb hby at_242) rfl (l' := #[.val (.int p1), .val (.int p2), .val (.int p3), .val (.int p4), .val (.int p5), .val (.int c5), .val (.int yB), .val (.int yC), .val (.ref ob), .val (.int (0 : Int32)), .val (.int (1 : Int32)), .val (.int (2 : Int32)), .val (.int (3 : Int32)), .val (.ref x0), .val (.int n0v), .val (.ref x1), .val (.int n1), .val (.ref xn), .val (.int (n1 + (1 : Int32))), .unset, .unset]) rfl ?_
      exact kont
    have hp : pth 2 = pth 1 ++ [p3] := by rw [hp2, if_neg hc206_0]
    rw [← hp] at VX1206
    have hn2 : own_at (n1 + (1 : Int32)) (pth 2).length := by rw [hp, List.length_append]; exact own_at_succ hn1 (by omega)
    exact own_s244 X1206 hx hZ hw hby hret hlk hml hown rfl N1206 Z1206 (PT.keep KK1206) (XA0.keep KK1206 nin0) (XA1.keep KK1206 nin0) VX1206 hn0 hn1 hn2 hl0 hl1 (by rw [hp, List.length_append]; show _ + 1 ≤ 3; omega) hp3
def own_j2 (y : Int32) : Nat := if y = (0 : Int32) then 0 else 1
def own_j3 (y : Int32) : Nat := if y = (0 : Int32) then 0 else if y = (1 : Int32) then 1 else 2
theorem own_j2_at {y v : Int32} (h : v = (if y = (0 : Int32) then (0 : Int32) else (1 : Int32))) : own_at v (own_j2 y) := by
  subst h; simp only [own_j2]; split <;> exact own_at_lit rfl (by decide)
theorem own_j3_at {y v : Int32} (h : v = (if y = (0 : Int32) then (0 : Int32) else (if y = (1 : Int32) then (1 : Int32) else (2 : Int32)))) : own_at v (own_j3 y) := by
  subst h; simp only [own_j3]; split
  · exact own_at_lit rfl (by decide)
  · split <;> exact own_at_lit rfl (by decide)
theorem own_j2_lt (y : Int32) : own_j2 y < 2 := by simp only [own_j2]; split <;> omega
theorem own_j3_lt (y : Int32) : own_j3 y < 3 := by simp only [own_j3]; split <;> (try split) <;> omega
theorem own_len2 {pth : Nat → List Int32} (h0 : (pth 0).length ≤ 1) (h1 : (pth 1).length ≤ 2) (y : Int32) : (pth (own_j2 y)).length ≤ 1000 := by
  simp only [own_j2]; split <;> omega
theorem own_len3 {pth : Nat → List Int32} {x : Int32} (h0 : (pth 0).length ≤ 1) (h1 : (pth 1).length ≤ 2) (yB yC : Int32) : (own_updL pth 2 (pth (own_j2 yB) ++ [x]) (own_j3 yC)).length ≤ 1000 := by
  have a := own_len2 (pth := pth) h0 h1 yB
  have b : (pth (own_j2 yB)).length ≤ 2 := by simp only [own_j2]; split <;> omega
  simp only [own_j3, own_updL]
  split
  · rw [if_neg (by decide)]; omega
  · split
    · rw [if_neg (by decide)]; omega
    · rw [if_pos rfl, List.length_append]; show _ + 1 ≤ 1000; omega
theorem own_fin {pth pF : Nat → List Int32} {yB yC p3 p4 : Int32} (h : pF = (own_updL (own_updL pth 2 (pth (own_j2 yB) ++ [p3])) 3 (own_updL pth 2 (pth (own_j2 yB) ++ [p3]) (own_j3 yC) ++ [p4]))) :
    pF 0 = pth 0 ∧ pF 1 = pth 1 ∧ pF 2 = (if yB = (0 : Int32) then pF 0 else pF 1) ++ [p3] ∧ pF 3 = (if yC = (0 : Int32) then pF 0 else if yC = (1 : Int32) then pF 1 else pF 2) ++ [p4] := by
  have f0 : pF 0 = pth 0 := by rw [h]; rfl
  have f1 : pF 1 = pth 1 := by rw [h]; rfl
  have f2 : pF 2 = pth (own_j2 yB) ++ [p3] := by rw [h]; rfl
  refine ⟨f0, f1, ?_, ?_⟩
  · rw [f2, f0, f1]; simp only [own_j2]; split <;> rfl
  · rw [f0, f1, f2, h]
    show own_updL pth 2 (pth (own_j2 yB) ++ [p3]) (own_j3 yC) ++ [p4] = _
    simp only [own_j3]
    split
    · rfl
    · split <;> rfl
theorem own_f4 {f g : Nat → Value} (h0 : f 0 = g 0) (h1 : f 1 = g 1) (h2 : f 2 = g 2) (h3 : f 3 = g 3) : ∀ i, i < 4 → f i = g i := fun i hi => by
  match i, hi with
  | 0, _ => exact h0
  | 1, _ => exact h1
  | 2, _ => exact h2
  | 3, _ => exact h3

theorem own_pd4 : parseMethodDescriptor "(II)I" = some ⟨[.int, .int], some .int⟩ := by decide +kernel
set_option maxRecDepth 65536 in
set_option maxHeartbeats 40000000 in
theorem own_s71 {p : Program} {l : Launch} {e : Env} {s : State} {m : MethodId} {args : Array Value} {below : List Frame} {meth : Method} {c : Code} {T0 : State} {locs : List Loc} {Z : State} {a0 : Array Value} {h0 : Heap} {n0 : Nat} {p1 p2 p3 p4 p5 c5 yB yC : Int32} {ob : Addr} {pth : Nat → List Int32} (X0 : Stand p l e room_1 s m args below meth c T0 locs 4 196) (hx : p.tables.exec = Jvm.exec) (hZ : Z.Warmed39 s.vm) (hw : ∀ d ∈ tables_1, d.before a0 Z = true) (hby : c.code = code) (hret : meth.sig.returnType = some .boolean) (hlk : meth.locks = false) (hml : c.maxLocals = 21) (hown : s.vm.findClass "com/example/tapir/tapir/sampling/PathTreePathPinLaw" = some m.cls) (e0 : T0.heap = h0) (N0 : Fr n0 locs) (Z0 : n0 ≤ h0.size) (PT : own_PT Z h0 n0 ob 2 pth) (hp0 : pth 0 = [p1]) (hp1 : (¬ c5 = (0 : Int32) → pth 1 = [p2]) ∧ (c5 = (0 : Int32) → pth 1 = [p1, p2])) (hl0 : (pth 0).length ≤ 1) (hl1 : (pth 1).length ≤ 2) :
    own_Go p e below T0 (mkF m 71 #[.val (.int p1), .val (.int p2), .val (.int p3), .val (.int p4), .val (.int p5), .val (.int c5), .val (.int yB), .val (.int yC), .val (.ref ob), .val (.int (0 : Int32)), .unset, .unset, .unset, .unset, .unset, .unset, .unset, .unset, .unset, .unset, .unset] [(.int (1 : Int32))]) (fun o U' => ∃ v L, o = .returned v ∧ own_QL n0 v U'.heap L ∧ FrameEnd s o U' L 32 512) := by
  refine own_step (T' := T0) (f' := (mkF m 77 #[.val (.int p1), .val (.int p2), .val (.int p3), .val (.int p4), .val (.int p5), .val (.int c5), .val (.int yB), .val (.int yC), .val (.ref ob), .val (.int (0 : Int32)), .val (.int (1 : Int32)), .unset, .unset, .unset, .unset, .unset, .unset, .unset, .unset, .unset, .unset] [(.int yB), (.ref ob)])) (fun tt kont => ?_) ?_
  · show Steps p.tables e below (T0.setTop (mkF m 71 #[.val (.int p1), .val (.int p2), .val (.int p3), .val (.int p4), .val (.int p5), .val (.int c5), .val (.int yB), .val (.int yC), .val (.ref ob), .val (.int (0 : Int32)), .unset, .unset, .unset, .unset, .unset, .unset, .unset, .unset, .unset, .unset, .unset] [(.int (1 : Int32))])) _
    refine XS.istore X0.here hx rfl (hb hby at_71) rfl (l' := #[.val (.int p1), .val (.int p2), .val (.int p3), .val (.int p4), .val (.int p5), .val (.int c5), .val (.int yB), .val (.int yC), .val (.ref ob), .val (.int (0 : Int32)), .val (.int (1 : Int32)), .unset, .unset, .unset, .unset, .unset, .unset, .unset, .unset, .unset, .unset]) rfl ?_
    show Steps p.tables e below (T0.setTop (mkF m 73 #[.val (.int p1), .val (.int p2), .val (.int p3), .val (.int p4), .val (.int p5), .val (.int c5), .val (.int yB), .val (.int yC), .val (.ref ob), .val (.int (0 : Int32)), .val (.int (1 : Int32)), .unset, .unset, .unset, .unset, .unset, .unset, .unset, .unset, .unset, .unset] [])) _
    refine XS.aload X0.here hx rfl (hb hby at_73) rfl rfl ?_
    show Steps p.tables e below (T0.setTop (mkF m 75 #[.val (.int p1), .val (.int p2), .val (.int p3), .val (.int p4), .val (.int p5), .val (.int c5), .val (.int yB), .val (.int yC), .val (.ref ob), .val (.int (0 : Int32)), .val (.int (1 : Int32)), .unset, .unset, .unset, .unset, .unset, .unset, .unset, .unset, .unset, .unset] [(.ref ob)])) _
    refine XS.iload X0.here hx rfl (hb hby at_75) rfl ?_
    exact kont
  obtain ⟨v1072, hv1072, st1073⟩ : ∃ (v1072 : Int32), v1072 = (if yB = (0 : Int32) then (0 : Int32) else (1 : Int32)) ∧ ∀ t, Steps p.tables e below (T0.setTop (mkF m 87 #[.val (.int p1), .val (.int p2), .val (.int p3), .val (.int p4), .val (.int p5), .val (.int c5), .val (.int yB), .val (.int yC), .val (.ref ob), .val (.int (0 : Int32)), .val (.int (1 : Int32)), .unset, .unset, .unset, .unset, .unset, .unset, .unset, .unset, .unset, .unset] [(.int v1072), (.ref ob)])) t → Steps p.tables e below (T0.setTop (mkF m 77 #[.val (.int p1), .val (.int p2), .val (.int p3), .val (.int p4), .val (.int p5), .val (.int c5), .val (.int yB), .val (.int yC), .val (.ref ob), .val (.int (0 : Int32)), .val (.int (1 : Int32)), .unset, .unset, .unset, .unset, .unset, .unset, .unset, .unset, .unset, .unset] [(.int yB), (.ref ob)])) t := by
    by_cases hc77_0 : yB = (0 : Int32)
    · refine ⟨(0 : Int32), (by simp only [if_pos hc77_0]), fun tt kont => ?_⟩
      show Steps p.tables e below (T0.setTop (mkF m 77 #[.val (.int p1), .val (.int p2), .val (.int p3), .val (.int p4), .val (.int p5), .val (.int c5), .val (.int yB), .val (.int yC), .val (.ref ob), .val (.int (0 : Int32)), .val (.int (1 : Int32)), .unset, .unset, .unset, .unset, .unset, .unset, .unset, .unset, .unset, .unset] [(.int yB), (.ref ob)])) _
      refine XS.ifNo X0.here hx rfl (hb hby at_77) rfl ((if0 _ _).trans (teq hc77_0).2) ?_
      show Steps p.tables e below (T0.setTop (mkF m 80 #[.val (.int p1), .val (.int p2), .val (.int p3), .val (.int p4), .val (.int p5), .val (.int c5), .val (.int yB), .val (.int yC), .val (.ref ob), .val (.int (0 : Int32)), .val (.int (1 : Int32)), .unset, .unset, .unset, .unset, .unset, .unset, .unset, .unset, .unset, .unset] [(.ref ob)])) _
      refine XS.iload X0.here hx rfl (hb hby at_80) rfl ?_
      show Steps p.tables e below (T0.setTop (mkF m 82 #[.val (.int p1), .val (.int p2), .val (.int p3), .val (.int p4), .val (.int p5), .val (.int c5), .val (.int yB), .val (.int yC), .val (.ref ob), .val (.int (0 : Int32)), .val (.int (1 : Int32)), .unset, .unset, .unset, .unset, .unset, .unset, .unset, .unset, .unset, .unset] [(.int (0 : Int32)), (.ref ob)])) _
      refine XS.goto X0.here hx rfl (pc0 := 82) (pc' := 87) rfl (hb hby at_82) (by decide) (by decide) ?_
      exact kont
    · refine ⟨(1 : Int32), (by simp only [if_neg hc77_0]), fun tt kont => ?_⟩
      show Steps p.tables e below (T0.setTop (mkF m 77 #[.val (.int p1), .val (.int p2), .val (.int p3), .val (.int p4), .val (.int p5), .val (.int c5), .val (.int yB), .val (.int yC), .val (.ref ob), .val (.int (0 : Int32)), .val (.int (1 : Int32)), .unset, .unset, .unset, .unset, .unset, .unset, .unset, .unset, .unset, .unset] [(.int yB), (.ref ob)])) _
      refine XS.ifYes X0.here hx rfl (pc0 := 77) (pc' := 85) rfl (hb hby at_77) rfl ((if0 _ _).trans (feq hc77_0).2) (by decide) (by decide) ?_
      show Steps p.tables e below (T0.setTop (mkF m 85 #[.val (.int p1), .val (.int p2), .val (.int p3), .val (.int p4), .val (.int p5), .val (.int c5), .val (.int yB), .val (.int yC), .val (.ref ob), .val (.int (0 : Int32)), .val (.int (1 : Int32)), .unset, .unset, .unset, .unset, .unset, .unset, .unset, .unset, .unset, .unset] [(.ref ob)])) _
      refine XS.iload X0.here hx rfl (hb hby at_85) rfl ?_
      exact kont
  refine own_step st1073 ?_
  refine own_step (T' := T0) (f' := (mkF m 88 #[.val (.int p1), .val (.int p2), .val (.int p3), .val (.int p4), .val (.int p5), .val (.int c5), .val (.int yB), .val (.int yC), .val (.ref ob), .val (.int (0 : Int32)), .val (.int (1 : Int32)), .unset, .unset, .unset, .unset, .unset, .unset, .unset, .unset, .unset, .unset] [(.int p3), (.int v1072), (.ref ob)])) (fun tt kont => ?_) ?_
  · show Steps p.tables e below (T0.setTop (mkF m 87 #[.val (.int p1), .val (.int p2), .val (.int p3), .val (.int p4), .val (.int p5), .val (.int c5), .val (.int yB), .val (.int yC), .val (.ref ob), .val (.int (0 : Int32)), .val (.int (1 : Int32)), .unset, .unset, .unset, .unset, .unset, .unset, .unset, .unset, .unset, .unset] [(.int v1072), (.ref ob)])) _
    refine XS.iloadN X0.here hx rfl (hb hby at_87) rfl ?_
    exact kont
  obtain ⟨cq1074, kq1074, q1074a, q1074b, q1074c⟩ := isOf hZ e0 (PT.exa)
  obtain ⟨_, _, ⟨T1074, L1074, k1074, n1074⟩, -, X1074, ⟨Lc1074, hQ1074, l1074, y1074, z1074⟩, st1074⟩ := X0.virtualBack hx (y := (⟨"com/example/tapir/tapir/sampling/PathTree", "addAfter", "(II)I"⟩ : MethodName)) (z := (⟨"com/example/tapir/tapir/sampling/PathTree", "addAfter", "(II)I"⟩ : MethodName)) hown (mvT hZ (hw _ (List.mem_of_getElem? (i := 27) rfl))) (mvT hZ (hw _ (List.mem_of_getElem? (i := 28) rfl))) (notFace_of_selects (args := #[]) (mvT hZ (hw _ (List.mem_of_getElem? (i := 30) rfl)))) (mvT hZ (hw _ (List.mem_of_getElem? (i := 30) rfl))) (mvT hZ (hw _ (List.mem_of_getElem? (i := 29) rfl))) (by decide) (backOf (W := 0) (own_rmF l Z a0 hw ob v1072 p3 2 (own_j2 yB) pth h0 n0 Z0 PT (by decide) (own_j2_at hv1072) (own_j2_lt yB) (own_len2 hl0 hl1 yB)) hZ (hw _ (List.mem_of_getElem? (i := 31) rfl)) (hw _ (List.mem_of_getElem? (i := 2) rfl)) (by decide) (by decide)) q1074a q1074c (g := (mkF m 88 #[.val (.int p1), .val (.int p2), .val (.int p3), .val (.int p4), .val (.int p5), .val (.int c5), .val (.int yB), .val (.int yC), .val (.ref ob), .val (.int (0 : Int32)), .val (.int (1 : Int32)), .unset, .unset, .unset, .unset, .unset, .unset, .unset, .unset, .unset, .unset] [(.int p3), (.int v1072), (.ref ob)])) rfl (by rw [hml]; rfl) (Steps.refl _) (argsL := [(.int v1072), (.int p3)]) (rest := []) (lenOf own_pd4 rfl) rfl (by show 2 * 0 + _ ≤ _; exact Nat.le_of_eq rfl) (hb hby at_88) (fun _ _ => ⟨rfl, e0, (by decide : 4 + 0 ≤ _), (by decide : 196 + 0 ≤ _)⟩)
  dsimp only [Pt.U, Pt.locs, Pt.cells, Pt.slots] at X1074 l1074 y1074 z1074 st1074 hQ1074
  subst l1074 y1074 z1074
  obtain ⟨r1074, rfl, hr1074, N1074q, SZ1074, PT1074⟩ := hQ1074
  have N1074 := Fr.app N0 N1074q
  refine own_step (fun tt kont => st1074.trans kont) ?_
  obtain rfl : r1074 = (2 : Int32) := own_at_eq hr1074 (own_at_lit rfl (by decide))
  refine own_step (T' := T1074) (f' := (mkF m 97 #[.val (.int p1), .val (.int p2), .val (.int p3), .val (.int p4), .val (.int p5), .val (.int c5), .val (.int yB), .val (.int yC), .val (.ref ob), .val (.int (0 : Int32)), .val (.int (1 : Int32)), .val (.int (2 : Int32)), .unset, .unset, .unset, .unset, .unset, .unset, .unset, .unset, .unset] [(.int yC), (.ref ob)])) (fun tt kont => ?_) ?_
  · show Steps p.tables e below (T1074.setTop (mkF m 91 #[.val (.int p1), .val (.int p2), .val (.int p3), .val (.int p4), .val (.int p5), .val (.int c5), .val (.int yB), .val (.int yC), .val (.ref ob), .val (.int (0 : Int32)), .val (.int (1 : Int32)), .unset, .unset, .unset, .unset, .unset, .unset, .unset, .unset, .unset, .unset] [(.int (2 : Int32))])) _
    refine XS.istore X1074.here hx rfl (hb hby at_91) rfl (l' := #[.val (.int p1), .val (.int p2), .val (.int p3), .val (.int p4), .val (.int p5), .val (.int c5), .val (.int yB), .val (.int yC), .val (.ref ob), .val (.int (0 : Int32)), .val (.int (1 : Int32)), .val (.int (2 : Int32)), .unset, .unset, .unset, .unset, .unset, .unset, .unset, .unset, .unset]) rfl ?_
    show Steps p.tables e below (T1074.setTop (mkF m 93 #[.val (.int p1), .val (.int p2), .val (.int p3), .val (.int p4), .val (.int p5), .val (.int c5), .val (.int yB), .val (.int yC), .val (.ref ob), .val (.int (0 : Int32)), .val (.int (1 : Int32)), .val (.int (2 : Int32)), .unset, .unset, .unset, .unset, .unset, .unset, .unset, .unset, .unset] [])) _
    refine XS.aload X1074.here hx rfl (hb hby at_93) rfl rfl ?_
    show Steps p.tables e below (T1074.setTop (mkF m 95 #[.val (.int p1), .val (.int p2), .val (.int p3), .val (.int p4), .val (.int p5), .val (.int c5), .val (.int yB), .val (.int yC), .val (.ref ob), .val (.int (0 : Int32)), .val (.int (1 : Int32)), .val (.int (2 : Int32)), .unset, .unset, .unset, .unset, .unset, .unset, .unset, .unset, .unset] [(.ref ob)])) _
    refine XS.iload X1074.here hx rfl (hb hby at_95) rfl ?_
    exact kont
  obtain ⟨v1075, hv1075, st1076⟩ : ∃ (v1075 : Int32), v1075 = (if yC = (0 : Int32) then (0 : Int32) else (if yC = (1 : Int32) then (1 : Int32) else (2 : Int32))) ∧ ∀ t, Steps p.tables e below (T1074.setTop (mkF m 118 #[.val (.int p1), .val (.int p2), .val (.int p3), .val (.int p4), .val (.int p5), .val (.int c5), .val (.int yB), .val (.int yC), .val (.ref ob), .val (.int (0 : Int32)), .val (.int (1 : Int32)), .val (.int (2 : Int32)), .unset, .unset, .unset, .unset, .unset, .unset, .unset, .unset, .unset] [(.int v1075), (.ref ob)])) t → Steps p.tables e below (T1074.setTop (mkF m 97 #[.val (.int p1), .val (.int p2), .val (.int p3), .val (.int p4), .val (.int p5), .val (.int c5), .val (.int yB), .val (.int yC), .val (.ref ob), .val (.int (0 : Int32)), .val (.int (1 : Int32)), .val (.int (2 : Int32)), .unset, .unset, .unset, .unset, .unset, .unset, .unset, .unset, .unset] [(.int yC), (.ref ob)])) t := by
    by_cases hc97_1 : yC = (0 : Int32)
    · refine ⟨(0 : Int32), (by simp only [if_pos hc97_1]), fun tt kont => ?_⟩
      show Steps p.tables e below (T1074.setTop (mkF m 97 #[.val (.int p1), .val (.int p2), .val (.int p3), .val (.int p4), .val (.int p5), .val (.int c5), .val (.int yB), .val (.int yC), .val (.ref ob), .val (.int (0 : Int32)), .val (.int (1 : Int32)), .val (.int (2 : Int32)), .unset, .unset, .unset, .unset, .unset, .unset, .unset, .unset, .unset] [(.int yC), (.ref ob)])) _
      refine XS.ifNo X1074.here hx rfl (hb hby at_97) rfl ((if0 _ _).trans (teq hc97_1).2) ?_
      show Steps p.tables e below (T1074.setTop (mkF m 100 #[.val (.int p1), .val (.int p2), .val (.int p3), .val (.int p4), .val (.int p5), .val (.int c5), .val (.int yB), .val (.int yC), .val (.ref ob), .val (.int (0 : Int32)), .val (.int (1 : Int32)), .val (.int (2 : Int32)), .unset, .unset, .unset, .unset, .unset, .unset, .unset, .unset, .unset] [(.ref ob)])) _
      refine XS.iload X1074.here hx rfl (hb hby at_100) rfl ?_
      show Steps p.tables e below (T1074.setTop (mkF m 102 #[.val (.int p1), .val (.int p2), .val (.int p3), .val (.int p4), .val (.int p5), .val (.int c5), .val (.int yB), .val (.int yC), .val (.ref ob), .val (.int (0 : Int32)), .val (.int (1 : Int32)), .val (.int (2 : Int32)), .unset, .unset, .unset, .unset, .unset, .unset, .unset, .unset, .unset] [(.int (0 : Int32)), (.ref ob)])) _
      refine XS.goto X1074.here hx rfl (pc0 := 102) (pc' := 118) rfl (hb hby at_102) (by decide) (by decide) ?_
      exact kont
    · by_cases hc108_2 : yC = (1 : Int32)
      · refine ⟨(1 : Int32), (by simp only [if_neg hc97_1, if_pos hc108_2]), fun tt kont => ?_⟩
        show Steps p.tables e below (T1074.setTop (mkF m 97 #[.val (.int p1), .val (.int p2), .val (.int p3), .val (.int p4), .val (.int p5), .val (.int c5), .val (.int yB), .val (.int yC), .val (.ref ob), .val (.int (0 : Int32)), .val (.int (1 : Int32)), .val (.int (2 : Int32)), .unset, .unset, .unset, .unset, .unset, .unset, .unset, .unset, .unset] [(.int yC), (.ref ob)])) _
        refine XS.ifYes X1074.here hx rfl (pc0 := 97) (pc' := 105) rfl (hb hby at_97) rfl ((if0 _ _).trans (feq hc97_1).2) (by decide) (by decide) ?_
        show Steps p.tables e below (T1074.setTop (mkF m 105 #[.val (.int p1), .val (.int p2), .val (.int p3), .val (.int p4), .val (.int p5), .val (.int c5), .val (.int yB), .val (.int yC), .val (.ref ob), .val (.int (0 : Int32)), .val (.int (1 : Int32)), .val (.int (2 : Int32)), .unset, .unset, .unset, .unset, .unset, .unset, .unset, .unset, .unset] [(.ref ob)])) _
        refine XS.iload X1074.here hx rfl (hb hby at_105) rfl ?_
        show Steps p.tables e below (T1074.setTop (mkF m 107 #[.val (.int p1), .val (.int p2), .val (.int p3), .val (.int p4), .val (.int p5), .val (.int c5), .val (.int yB), .val (.int yC), .val (.ref ob), .val (.int (0 : Int32)), .val (.int (1 : Int32)), .val (.int (2 : Int32)), .unset, .unset, .unset, .unset, .unset, .unset, .unset, .unset, .unset] [(.int yC), (.ref ob)])) _
        refine XS.iconst X1074.here hx rfl (hb hby at_107) ?_
        show Steps p.tables e below (T1074.setTop (mkF m 108 #[.val (.int p1), .val (.int p2), .val (.int p3), .val (.int p4), .val (.int p5), .val (.int c5), .val (.int yB), .val (.int yC), .val (.ref ob), .val (.int (0 : Int32)), .val (.int (1 : Int32)), .val (.int (2 : Int32)), .unset, .unset, .unset, .unset, .unset, .unset, .unset, .unset, .unset] [(.int (1 : Int32)), (.int yC), (.ref ob)])) _
        refine XS.icmpNo X1074.here hx rfl (hb hby at_108) rfl (teq hc108_2).2 ?_
        show Steps p.tables e below (T1074.setTop (mkF m 111 #[.val (.int p1), .val (.int p2), .val (.int p3), .val (.int p4), .val (.int p5), .val (.int c5), .val (.int yB), .val (.int yC), .val (.ref ob), .val (.int (0 : Int32)), .val (.int (1 : Int32)), .val (.int (2 : Int32)), .unset, .unset, .unset, .unset, .unset, .unset, .unset, .unset, .unset] [(.ref ob)])) _
        refine XS.iload X1074.here hx rfl (hb hby at_111) rfl ?_
        show Steps p.tables e below (T1074.setTop (mkF m 113 #[.val (.int p1), .val (.int p2), .val (.int p3), .val (.int p4), .val (.int p5), .val (.int c5), .val (.int yB), .val (.int yC), .val (.ref ob), .val (.int (0 : Int32)), .val (.int (1 : Int32)), .val (.int (2 : Int32)), .unset, .unset, .unset, .unset, .unset, .unset, .unset, .unset, .unset] [(.int (1 : Int32)), (.ref ob)])) _
        refine XS.goto X1074.here hx rfl (pc0 := 113) (pc' := 118) rfl (hb hby at_113) (by decide) (by decide) ?_
        exact kont
      · refine ⟨(2 : Int32), (by simp only [if_neg hc97_1, if_neg hc108_2]), fun tt kont => ?_⟩
        show Steps p.tables e below (T1074.setTop (mkF m 97 #[.val (.int p1), .val (.int p2), .val (.int p3), .val (.int p4), .val (.int p5), .val (.int c5), .val (.int yB), .val (.int yC), .val (.ref ob), .val (.int (0 : Int32)), .val (.int (1 : Int32)), .val (.int (2 : Int32)), .unset, .unset, .unset, .unset, .unset, .unset, .unset, .unset, .unset] [(.int yC), (.ref ob)])) _
        refine XS.ifYes X1074.here hx rfl (pc0 := 97) (pc' := 105) rfl (hb hby at_97) rfl ((if0 _ _).trans (feq hc97_1).2) (by decide) (by decide) ?_
        show Steps p.tables e below (T1074.setTop (mkF m 105 #[.val (.int p1), .val (.int p2), .val (.int p3), .val (.int p4), .val (.int p5), .val (.int c5), .val (.int yB), .val (.int yC), .val (.ref ob), .val (.int (0 : Int32)), .val (.int (1 : Int32)), .val (.int (2 : Int32)), .unset, .unset, .unset, .unset, .unset, .unset, .unset, .unset, .unset] [(.ref ob)])) _
        refine XS.iload X1074.here hx rfl (hb hby at_105) rfl ?_
        show Steps p.tables e below (T1074.setTop (mkF m 107 #[.val (.int p1), .val (.int p2), .val (.int p3), .val (.int p4), .val (.int p5), .val (.int c5), .val (.int yB), .val (.int yC), .val (.ref ob), .val (.int (0 : Int32)), .val (.int (1 : Int32)), .val (.int (2 : Int32)), .unset, .unset, .unset, .unset, .unset, .unset, .unset, .unset, .unset] [(.int yC), (.ref ob)])) _
        refine XS.iconst X1074.here hx rfl (hb hby at_107) ?_
        show Steps p.tables e below (T1074.setTop (mkF m 108 #[.val (.int p1), .val (.int p2), .val (.int p3), .val (.int p4), .val (.int p5), .val (.int c5), .val (.int yB), .val (.int yC), .val (.ref ob), .val (.int (0 : Int32)), .val (.int (1 : Int32)), .val (.int (2 : Int32)), .unset, .unset, .unset, .unset, .unset, .unset, .unset, .unset, .unset] [(.int (1 : Int32)), (.int yC), (.ref ob)])) _
        refine XS.icmpYes X1074.here hx rfl (pc0 := 108) (pc' := 116) rfl (hb hby at_108) rfl (feq hc108_2).2 (by decide) (by decide) ?_
        show Steps p.tables e below (T1074.setTop (mkF m 116 #[.val (.int p1), .val (.int p2), .val (.int p3), .val (.int p4), .val (.int p5), .val (.int c5), .val (.int yB), .val (.int yC), .val (.ref ob), .val (.int (0 : Int32)), .val (.int (1 : Int32)), .val (.int (2 : Int32)), .unset, .unset, .unset, .unset, .unset, .unset, .unset, .unset, .unset] [(.ref ob)])) _
        refine XS.iload X1074.here hx rfl (hb hby at_116) rfl ?_
        exact kont
  refine own_step st1076 ?_
  refine own_step (T' := T1074) (f' := (mkF m 119 #[.val (.int p1), .val (.int p2), .val (.int p3), .val (.int p4), .val (.int p5), .val (.int c5), .val (.int yB), .val (.int yC), .val (.ref ob), .val (.int (0 : Int32)), .val (.int (1 : Int32)), .val (.int (2 : Int32)), .unset, .unset, .unset, .unset, .unset, .unset, .unset, .unset, .unset] [(.int p4), (.int v1075), (.ref ob)])) (fun tt kont => ?_) ?_
  · show Steps p.tables e below (T1074.setTop (mkF m 118 #[.val (.int p1), .val (.int p2), .val (.int p3), .val (.int p4), .val (.int p5), .val (.int c5), .val (.int yB), .val (.int yC), .val (.ref ob), .val (.int (0 : Int32)), .val (.int (1 : Int32)), .val (.int (2 : Int32)), .unset, .unset, .unset, .unset, .unset, .unset, .unset, .unset, .unset] [(.int v1075), (.ref ob)])) _
    refine XS.iloadN X1074.here hx rfl (hb hby at_118) rfl ?_
    exact kont
  obtain ⟨cq1077, kq1077, q1077a, q1077b, q1077c⟩ := isOf hZ rfl (PT1074.exa)
  obtain ⟨_, _, ⟨T1077, L1077, k1077, n1077⟩, -, X1077, ⟨Lc1077, hQ1077, l1077, y1077, z1077⟩, st1077⟩ := X1074.virtualBack hx (y := (⟨"com/example/tapir/tapir/sampling/PathTree", "addAfter", "(II)I"⟩ : MethodName)) (z := (⟨"com/example/tapir/tapir/sampling/PathTree", "addAfter", "(II)I"⟩ : MethodName)) hown (mvT hZ (hw _ (List.mem_of_getElem? (i := 27) rfl))) (mvT hZ (hw _ (List.mem_of_getElem? (i := 28) rfl))) (notFace_of_selects (args := #[]) (mvT hZ (hw _ (List.mem_of_getElem? (i := 30) rfl)))) (mvT hZ (hw _ (List.mem_of_getElem? (i := 30) rfl))) (mvT hZ (hw _ (List.mem_of_getElem? (i := 29) rfl))) (by decide) (backOf (W := 0) (own_rmF l Z a0 hw ob v1075 p4 3 (own_j3 yC) (own_updL pth 2 (pth (own_j2 yB) ++ [p3])) T1074.heap n0 SZ1074 PT1074 (by decide) (own_j3_at hv1075) (own_j3_lt yC) (own_len3 hl0 hl1 yB yC)) hZ (hw _ (List.mem_of_getElem? (i := 31) rfl)) (hw _ (List.mem_of_getElem? (i := 2) rfl)) (by decide) (by decide)) q1077a q1077c (g := (mkF m 119 #[.val (.int p1), .val (.int p2), .val (.int p3), .val (.int p4), .val (.int p5), .val (.int c5), .val (.int yB), .val (.int yC), .val (.ref ob), .val (.int (0 : Int32)), .val (.int (1 : Int32)), .val (.int (2 : Int32)), .unset, .unset, .unset, .unset, .unset, .unset, .unset, .unset, .unset] [(.int p4), (.int v1075), (.ref ob)])) rfl (by rw [hml]; rfl) (Steps.refl _) (argsL := [(.int v1075), (.int p4)]) (rest := []) (lenOf own_pd4 rfl) rfl (by show 2 * 0 + _ ≤ _; exact Nat.le_of_eq rfl) (hb hby at_119) (fun _ _ => ⟨rfl, rfl, (by decide : 4 + 0 ≤ _), (by decide : 196 + 0 ≤ _)⟩)
  dsimp only [Pt.U, Pt.locs, Pt.cells, Pt.slots] at X1077 l1077 y1077 z1077 st1077 hQ1077
  subst l1077 y1077 z1077
  obtain ⟨r1077, rfl, hr1077, N1077q, SZ1077, PT1077⟩ := hQ1077
  have N1077 := Fr.app N1074 N1077q
  refine own_step (fun tt kont => st1077.trans kont) ?_
  obtain rfl : r1077 = (3 : Int32) := own_at_eq hr1077 (own_at_lit rfl (by decide))
  refine own_step (T' := T1077) (f' := (mkF m 124 #[.val (.int p1), .val (.int p2), .val (.int p3), .val (.int p4), .val (.int p5), .val (.int c5), .val (.int yB), .val (.int yC), .val (.ref ob), .val (.int (0 : Int32)), .val (.int (1 : Int32)), .val (.int (2 : Int32)), .val (.int (3 : Int32)), .unset, .unset, .unset, .unset, .unset, .unset, .unset, .unset] [])) (fun tt kont => ?_) ?_
  · show Steps p.tables e below (T1077.setTop (mkF m 122 #[.val (.int p1), .val (.int p2), .val (.int p3), .val (.int p4), .val (.int p5), .val (.int c5), .val (.int yB), .val (.int yC), .val (.ref ob), .val (.int (0 : Int32)), .val (.int (1 : Int32)), .val (.int (2 : Int32)), .unset, .unset, .unset, .unset, .unset, .unset, .unset, .unset, .unset] [(.int (3 : Int32))])) _
    refine XS.istore X1077.here hx rfl (hb hby at_122) rfl (l' := #[.val (.int p1), .val (.int p2), .val (.int p3), .val (.int p4), .val (.int p5), .val (.int c5), .val (.int yB), .val (.int yC), .val (.ref ob), .val (.int (0 : Int32)), .val (.int (1 : Int32)), .val (.int (2 : Int32)), .val (.int (3 : Int32)), .unset, .unset, .unset, .unset, .unset, .unset, .unset, .unset]) rfl ?_
    exact kont
  obtain ⟨pF, hpF⟩ : ∃ z, z = (own_updL (own_updL pth 2 (pth (own_j2 yB) ++ [p3])) 3 ((own_updL pth 2 (pth (own_j2 yB) ++ [p3])) (own_j3 yC) ++ [p4])) := ⟨_, rfl⟩
  rw [← hpF] at PT1077
  obtain ⟨f0, f1, f2, f3⟩ := own_fin hpF
  refine own_step (T' := T1077) (f' := (mkF m 125 #[.val (.int p1), .val (.int p2), .val (.int p3), .val (.int p4), .val (.int p5), .val (.int c5), .val (.int yB), .val (.int yC), .val (.ref ob), .val (.int (0 : Int32)), .val (.int (1 : Int32)), .val (.int (2 : Int32)), .val (.int (3 : Int32)), .unset, .unset, .unset, .unset, .unset, .unset, .unset, .unset] [(.int (4 : Int32))])) (fun tt kont => ?_) ?_
  · show Steps p.tables e below (T1077.setTop (mkF m 124 #[.val (.int p1), .val (.int p2), .val (.int p3), .val (.int p4), .val (.int p5), .val (.int c5), .val (.int yB), .val (.int yC), .val (.ref ob), .val (.int (0 : Int32)), .val (.int (1 : Int32)), .val (.int (2 : Int32)), .val (.int (3 : Int32)), .unset, .unset, .unset, .unset, .unset, .unset, .unset, .unset] [])) _
    refine XS.iconst X1077.here hx rfl (hb hby at_124) ?_
    exact kont
  obtain ⟨T1078, h1078, k1078, X1078, e1078, E1078, A1078, st1078⟩ := newP X1077 hx hZ (hw _ (List.mem_of_getElem? (i := 9) rfl)) rfl (g := (mkF m 125 #[.val (.int p1), .val (.int p2), .val (.int p3), .val (.int p4), .val (.int p5), .val (.int c5), .val (.int yB), .val (.int yC), .val (.ref ob), .val (.int (0 : Int32)), .val (.int (1 : Int32)), .val (.int (2 : Int32)), .val (.int (3 : Int32)), .unset, .unset, .unset, .unset, .unset, .unset, .unset, .unset] [(.int (4 : Int32))])) rfl (hb hby at_125) rfl (by decide) (cap := 4) (by decide) (by decide) (by decide) (by decide)
  obtain ⟨x0, g1078⟩ : ∃ z, z = T1077.heap.size := ⟨_, rfl⟩
  have g_x0 : n0 ≤ x0 := Nat.le_trans SZ1077 (Nat.le_of_eq g1078.symm)
  have sz_x0 : T1077.heap.size ≤ x0 := Nat.le_trans (Keep.refl T1077.heap []).1 (Nat.le_of_eq g1078.symm)
  have Z1078 : n0 ≤ h1078.size := Nat.le_trans SZ1077 E1078.1
  have K1078 := (Keep.refl T1077.heap []).ext E1078
  rw [← g1078] at A1078 st1078
  have V_x0_1078 : own_A Z h1078 x0 .int 4 (fun _ => (.int (0 : Int32))) := own_A.new A1078 rfl
  refine own_step st1078 ?_
  refine own_step (T' := T1078) (f' := (mkF m 130 #[.val (.int p1), .val (.int p2), .val (.int p3), .val (.int p4), .val (.int p5), .val (.int c5), .val (.int yB), .val (.int yC), .val (.ref ob), .val (.int (0 : Int32)), .val (.int (1 : Int32)), .val (.int (2 : Int32)), .val (.int (3 : Int32)), .unset, .unset, .unset, .unset, .unset, .unset, .unset, .unset] [(.int p1), (.int (0 : Int32)), (.ref x0), (.ref x0)])) (fun tt kont => ?_) ?_
  · show Steps p.tables e below (T1078.setTop (mkF m 127 #[.val (.int p1), .val (.int p2), .val (.int p3), .val (.int p4), .val (.int p5), .val (.int c5), .val (.int yB), .val (.int yC), .val (.ref ob), .val (.int (0 : Int32)), .val (.int (1 : Int32)), .val (.int (2 : Int32)), .val (.int (3 : Int32)), .unset, .unset, .unset, .unset, .unset, .unset, .unset, .unset] [(.ref x0)])) _
    refine XS.dup X1078.here hx rfl (hb hby at_127) rfl rfl ?_
    show Steps p.tables e below (T1078.setTop (mkF m 128 #[.val (.int p1), .val (.int p2), .val (.int p3), .val (.int p4), .val (.int p5), .val (.int c5), .val (.int yB), .val (.int yC), .val (.ref ob), .val (.int (0 : Int32)), .val (.int (1 : Int32)), .val (.int (2 : Int32)), .val (.int (3 : Int32)), .unset, .unset, .unset, .unset, .unset, .unset, .unset, .unset] [(.ref x0), (.ref x0)])) _
    refine XS.iconst X1078.here hx rfl (hb hby at_128) ?_
    show Steps p.tables e below (T1078.setTop (mkF m 129 #[.val (.int p1), .val (.int p2), .val (.int p3), .val (.int p4), .val (.int p5), .val (.int c5), .val (.int yB), .val (.int yC), .val (.ref ob), .val (.int (0 : Int32)), .val (.int (1 : Int32)), .val (.int (2 : Int32)), .val (.int (3 : Int32)), .unset, .unset, .unset, .unset, .unset, .unset, .unset, .unset] [(.int (0 : Int32)), (.ref x0), (.ref x0)])) _
    refine XS.iloadN X1078.here hx rfl (hb hby at_129) rfl ?_
    exact kont
  obtain ⟨T1079, h1079, X1079, e1079, W1079, V_x0_1079, st1079⟩ := own_stI X1078 hx hZ e1078 V_x0_1078 (j := (0 : Int32)) (i := 0) (own_at_lit rfl (by decide)) (by decide) (g := (mkF m 130 #[.val (.int p1), .val (.int p2), .val (.int p3), .val (.int p4), .val (.int p5), .val (.int c5), .val (.int yB), .val (.int yC), .val (.ref ob), .val (.int (0 : Int32)), .val (.int (1 : Int32)), .val (.int (2 : Int32)), .val (.int (3 : Int32)), .unset, .unset, .unset, .unset, .unset, .unset, .unset, .unset] [(.int p1), (.int (0 : Int32)), (.ref x0), (.ref x0)])) rfl rfl (hb hby at_130)
  have N1079 := Fr.snoc X1079 N1077 g_x0
  have K1079 := K1078.wr W1079 (Or.inr sz_x0)
  have Z1079 : n0 ≤ h1079.size := Nat.le_trans Z1078 (Keep.of_wr W1079).1
  refine own_step st1079 ?_
  refine own_step (T' := T1079) (f' := (mkF m 134 #[.val (.int p1), .val (.int p2), .val (.int p3), .val (.int p4), .val (.int p5), .val (.int c5), .val (.int yB), .val (.int yC), .val (.ref ob), .val (.int (0 : Int32)), .val (.int (1 : Int32)), .val (.int (2 : Int32)), .val (.int (3 : Int32)), .unset, .unset, .unset, .unset, .unset, .unset, .unset, .unset] [(.int (0 : Int32)), (.int (1 : Int32)), (.ref x0), (.ref x0)])) (fun tt kont => ?_) ?_
  · show Steps p.tables e below (T1079.setTop (mkF m 131 #[.val (.int p1), .val (.int p2), .val (.int p3), .val (.int p4), .val (.int p5), .val (.int c5), .val (.int yB), .val (.int yC), .val (.ref ob), .val (.int (0 : Int32)), .val (.int (1 : Int32)), .val (.int (2 : Int32)), .val (.int (3 : Int32)), .unset, .unset, .unset, .unset, .unset, .unset, .unset, .unset] [(.ref x0)])) _
    refine XS.dup X1079.here hx rfl (hb hby at_131) rfl rfl ?_
    show Steps p.tables e below (T1079.setTop (mkF m 132 #[.val (.int p1), .val (.int p2), .val (.int p3), .val (.int p4), .val (.int p5), .val (.int c5), .val (.int yB), .val (.int yC), .val (.ref ob), .val (.int (0 : Int32)), .val (.int (1 : Int32)), .val (.int (2 : Int32)), .val (.int (3 : Int32)), .unset, .unset, .unset, .unset, .unset, .unset, .unset, .unset] [(.ref x0), (.ref x0)])) _
    refine XS.iconst X1079.here hx rfl (hb hby at_132) ?_
    show Steps p.tables e below (T1079.setTop (mkF m 133 #[.val (.int p1), .val (.int p2), .val (.int p3), .val (.int p4), .val (.int p5), .val (.int c5), .val (.int yB), .val (.int yC), .val (.ref ob), .val (.int (0 : Int32)), .val (.int (1 : Int32)), .val (.int (2 : Int32)), .val (.int (3 : Int32)), .unset, .unset, .unset, .unset, .unset, .unset, .unset, .unset] [(.int (1 : Int32)), (.ref x0), (.ref x0)])) _
    refine XS.iconst X1079.here hx rfl (hb hby at_133) ?_
    exact kont
  obtain ⟨T1080, h1080, X1080, e1080, W1080, V_x0_1080, st1080⟩ := own_stI X1079 hx hZ e1079 V_x0_1079 (j := (1 : Int32)) (i := 1) (own_at_lit rfl (by decide)) (by decide) (g := (mkF m 134 #[.val (.int p1), .val (.int p2), .val (.int p3), .val (.int p4), .val (.int p5), .val (.int c5), .val (.int yB), .val (.int yC), .val (.ref ob), .val (.int (0 : Int32)), .val (.int (1 : Int32)), .val (.int (2 : Int32)), .val (.int (3 : Int32)), .unset, .unset, .unset, .unset, .unset, .unset, .unset, .unset] [(.int (0 : Int32)), (.int (1 : Int32)), (.ref x0), (.ref x0)])) rfl rfl (hb hby at_134)
  have N1080 := Fr.snoc X1080 N1079 g_x0
  have K1080 := K1079.wr W1080 (Or.inr sz_x0)
  have Z1080 : n0 ≤ h1080.size := Nat.le_trans Z1079 (Keep.of_wr W1080).1
  refine own_step st1080 ?_
  refine own_step (T' := T1080) (f' := (mkF m 138 #[.val (.int p1), .val (.int p2), .val (.int p3), .val (.int p4), .val (.int p5), .val (.int c5), .val (.int yB), .val (.int yC), .val (.ref ob), .val (.int (0 : Int32)), .val (.int (1 : Int32)), .val (.int (2 : Int32)), .val (.int (3 : Int32)), .unset, .unset, .unset, .unset, .unset, .unset, .unset, .unset] [(.int (0 : Int32)), (.int (2 : Int32)), (.ref x0), (.ref x0)])) (fun tt kont => ?_) ?_
  · show Steps p.tables e below (T1080.setTop (mkF m 135 #[.val (.int p1), .val (.int p2), .val (.int p3), .val (.int p4), .val (.int p5), .val (.int c5), .val (.int yB), .val (.int yC), .val (.ref ob), .val (.int (0 : Int32)), .val (.int (1 : Int32)), .val (.int (2 : Int32)), .val (.int (3 : Int32)), .unset, .unset, .unset, .unset, .unset, .unset, .unset, .unset] [(.ref x0)])) _
    refine XS.dup X1080.here hx rfl (hb hby at_135) rfl rfl ?_
    show Steps p.tables e below (T1080.setTop (mkF m 136 #[.val (.int p1), .val (.int p2), .val (.int p3), .val (.int p4), .val (.int p5), .val (.int c5), .val (.int yB), .val (.int yC), .val (.ref ob), .val (.int (0 : Int32)), .val (.int (1 : Int32)), .val (.int (2 : Int32)), .val (.int (3 : Int32)), .unset, .unset, .unset, .unset, .unset, .unset, .unset, .unset] [(.ref x0), (.ref x0)])) _
    refine XS.iconst X1080.here hx rfl (hb hby at_136) ?_
    show Steps p.tables e below (T1080.setTop (mkF m 137 #[.val (.int p1), .val (.int p2), .val (.int p3), .val (.int p4), .val (.int p5), .val (.int c5), .val (.int yB), .val (.int yC), .val (.ref ob), .val (.int (0 : Int32)), .val (.int (1 : Int32)), .val (.int (2 : Int32)), .val (.int (3 : Int32)), .unset, .unset, .unset, .unset, .unset, .unset, .unset, .unset] [(.int (2 : Int32)), (.ref x0), (.ref x0)])) _
    refine XS.iconst X1080.here hx rfl (hb hby at_137) ?_
    exact kont
  obtain ⟨T1081, h1081, X1081, e1081, W1081, V_x0_1081, st1081⟩ := own_stI X1080 hx hZ e1080 V_x0_1080 (j := (2 : Int32)) (i := 2) (own_at_lit rfl (by decide)) (by decide) (g := (mkF m 138 #[.val (.int p1), .val (.int p2), .val (.int p3), .val (.int p4), .val (.int p5), .val (.int c5), .val (.int yB), .val (.int yC), .val (.ref ob), .val (.int (0 : Int32)), .val (.int (1 : Int32)), .val (.int (2 : Int32)), .val (.int (3 : Int32)), .unset, .unset, .unset, .unset, .unset, .unset, .unset, .unset] [(.int (0 : Int32)), (.int (2 : Int32)), (.ref x0), (.ref x0)])) rfl rfl (hb hby at_138)
  have N1081 := Fr.snoc X1081 N1080 g_x0
  have K1081 := K1080.wr W1081 (Or.inr sz_x0)
  have Z1081 : n0 ≤ h1081.size := Nat.le_trans Z1080 (Keep.of_wr W1081).1
  refine own_step st1081 ?_
  refine own_step (T' := T1081) (f' := (mkF m 142 #[.val (.int p1), .val (.int p2), .val (.int p3), .val (.int p4), .val (.int p5), .val (.int c5), .val (.int yB), .val (.int yC), .val (.ref ob), .val (.int (0 : Int32)), .val (.int (1 : Int32)), .val (.int (2 : Int32)), .val (.int (3 : Int32)), .unset, .unset, .unset, .unset, .unset, .unset, .unset, .unset] [(.int (0 : Int32)), (.int (3 : Int32)), (.ref x0), (.ref x0)])) (fun tt kont => ?_) ?_
  · show Steps p.tables e below (T1081.setTop (mkF m 139 #[.val (.int p1), .val (.int p2), .val (.int p3), .val (.int p4), .val (.int p5), .val (.int c5), .val (.int yB), .val (.int yC), .val (.ref ob), .val (.int (0 : Int32)), .val (.int (1 : Int32)), .val (.int (2 : Int32)), .val (.int (3 : Int32)), .unset, .unset, .unset, .unset, .unset, .unset, .unset, .unset] [(.ref x0)])) _
    refine XS.dup X1081.here hx rfl (hb hby at_139) rfl rfl ?_
    show Steps p.tables e below (T1081.setTop (mkF m 140 #[.val (.int p1), .val (.int p2), .val (.int p3), .val (.int p4), .val (.int p5), .val (.int c5), .val (.int yB), .val (.int yC), .val (.ref ob), .val (.int (0 : Int32)), .val (.int (1 : Int32)), .val (.int (2 : Int32)), .val (.int (3 : Int32)), .unset, .unset, .unset, .unset, .unset, .unset, .unset, .unset] [(.ref x0), (.ref x0)])) _
    refine XS.iconst X1081.here hx rfl (hb hby at_140) ?_
    show Steps p.tables e below (T1081.setTop (mkF m 141 #[.val (.int p1), .val (.int p2), .val (.int p3), .val (.int p4), .val (.int p5), .val (.int c5), .val (.int yB), .val (.int yC), .val (.ref ob), .val (.int (0 : Int32)), .val (.int (1 : Int32)), .val (.int (2 : Int32)), .val (.int (3 : Int32)), .unset, .unset, .unset, .unset, .unset, .unset, .unset, .unset] [(.int (3 : Int32)), (.ref x0), (.ref x0)])) _
    refine XS.iconst X1081.here hx rfl (hb hby at_141) ?_
    exact kont
  obtain ⟨T1082, h1082, X1082, e1082, W1082, V_x0_1082, st1082⟩ := own_stI X1081 hx hZ e1081 V_x0_1081 (j := (3 : Int32)) (i := 3) (own_at_lit rfl (by decide)) (by decide) (g := (mkF m 142 #[.val (.int p1), .val (.int p2), .val (.int p3), .val (.int p4), .val (.int p5), .val (.int c5), .val (.int yB), .val (.int yC), .val (.ref ob), .val (.int (0 : Int32)), .val (.int (1 : Int32)), .val (.int (2 : Int32)), .val (.int (3 : Int32)), .unset, .unset, .unset, .unset, .unset, .unset, .unset, .unset] [(.int (0 : Int32)), (.int (3 : Int32)), (.ref x0), (.ref x0)])) rfl rfl (hb hby at_142)
  have N1082 := Fr.snoc X1082 N1081 g_x0
  have K1082 := K1081.wr W1082 (Or.inr sz_x0)
  have Z1082 : n0 ≤ h1082.size := Nat.le_trans Z1081 (Keep.of_wr W1082).1
  refine own_step st1082 ?_
  refine own_step (T' := T1082) (f' := (mkF m 150 #[.val (.int p1), .val (.int p2), .val (.int p3), .val (.int p4), .val (.int p5), .val (.int c5), .val (.int yB), .val (.int yC), .val (.ref ob), .val (.int (0 : Int32)), .val (.int (1 : Int32)), .val (.int (2 : Int32)), .val (.int (3 : Int32)), .val (.ref x0), .val (.int (1 : Int32)), .unset, .unset, .unset, .unset, .unset, .unset] [(.int c5)])) (fun tt kont => ?_) ?_
  · show Steps p.tables e below (T1082.setTop (mkF m 143 #[.val (.int p1), .val (.int p2), .val (.int p3), .val (.int p4), .val (.int p5), .val (.int c5), .val (.int yB), .val (.int yC), .val (.ref ob), .val (.int (0 : Int32)), .val (.int (1 : Int32)), .val (.int (2 : Int32)), .val (.int (3 : Int32)), .unset, .unset, .unset, .unset, .unset, .unset, .unset, .unset] [(.ref x0)])) _
    refine XS.astore X1082.here hx rfl (hb hby at_143) rfl rfl (l' := #[.val (.int p1), .val (.int p2), .val (.int p3), .val (.int p4), .val (.int p5), .val (.int c5), .val (.int yB), .val (.int yC), .val (.ref ob), .val (.int (0 : Int32)), .val (.int (1 : Int32)), .val (.int (2 : Int32)), .val (.int (3 : Int32)), .val (.ref x0), .unset, .unset, .unset, .unset, .unset, .unset, .unset]) rfl ?_
    show Steps p.tables e below (T1082.setTop (mkF m 145 #[.val (.int p1), .val (.int p2), .val (.int p3), .val (.int p4), .val (.int p5), .val (.int c5), .val (.int yB), .val (.int yC), .val (.ref ob), .val (.int (0 : Int32)), .val (.int (1 : Int32)), .val (.int (2 : Int32)), .val (.int (3 : Int32)), .val (.ref x0), .unset, .unset, .unset, .unset, .unset, .unset, .unset] [])) _
    refine XS.iconst X1082.here hx rfl (hb hby at_145) ?_
    show Steps p.tables e below (T1082.setTop (mkF m 146 #[.val (.int p1), .val (.int p2), .val (.int p3), .val (.int p4), .val (.int p5), .val (.int c5), .val (.int yB), .val (.int yC), .val (.ref ob), .val (.int (0 : Int32)), .val (.int (1 : Int32)), .val (.int (2 : Int32)), .val (.int (3 : Int32)), .val (.ref x0), .unset, .unset, .unset, .unset, .unset, .unset, .unset] [(.int (1 : Int32))])) _
    refine XS.istore X1082.here hx rfl (hb hby at_146) rfl (l' := #[.val (.int p1), .val (.int p2), .val (.int p3), .val (.int p4), .val (.int p5), .val (.int c5), .val (.int yB), .val (.int yC), .val (.ref ob), .val (.int (0 : Int32)), .val (.int (1 : Int32)), .val (.int (2 : Int32)), .val (.int (3 : Int32)), .val (.ref x0), .val (.int (1 : Int32)), .unset, .unset, .unset, .unset, .unset, .unset]) rfl ?_
    show Steps p.tables e below (T1082.setTop (mkF m 148 #[.val (.int p1), .val (.int p2), .val (.int p3), .val (.int p4), .val (.int p5), .val (.int c5), .val (.int yB), .val (.int yC), .val (.ref ob), .val (.int (0 : Int32)), .val (.int (1 : Int32)), .val (.int (2 : Int32)), .val (.int (3 : Int32)), .val (.ref x0), .val (.int (1 : Int32)), .unset, .unset, .unset, .unset, .unset, .unset] [])) _
    refine XS.iload X1082.here hx rfl (hb hby at_148) rfl ?_
    exact kont
  by_cases hc150_2 : c5 = (0 : Int32)
  · refine own_step (T' := T1082) (f' := (mkF m 181 #[.val (.int p1), .val (.int p2), .val (.int p3), .val (.int p4), .val (.int p5), .val (.int c5), .val (.int yB), .val (.int yC), .val (.ref ob), .val (.int (0 : Int32)), .val (.int (1 : Int32)), .val (.int (2 : Int32)), .val (.int (3 : Int32)), .val (.ref x0), .val (.int (1 : Int32)), .unset, .unset, .unset, .unset, .unset, .unset] [(.int (4 : Int32))])) (fun tt kont => ?_) ?_
    · show Steps p.tables e below (T1082.setTop (mkF m 150 #[.val (.int p1), .val (.int p2), .val (.int p3), .val (.int p4), .val (.int p5), .val (.int c5), .val (.int yB), .val (.int yC), .val (.ref ob), .val (.int (0 : Int32)), .val (.int (1 : Int32)), .val (.int (2 : Int32)), .val (.int (3 : Int32)), .val (.ref x0), .val (.int (1 : Int32)), .unset, .unset, .unset, .unset, .unset, .unset] [(.int c5)])) _
      refine XS.ifYes X1082.here hx rfl (pc0 := 150) (pc' := 180) rfl (hb hby at_150) rfl ((if0 _ _).trans (teq hc150_2).1) (by decide) (by decide) ?_
      show Steps p.tables e below (T1082.setTop (mkF m 180 #[.val (.int p1), .val (.int p2), .val (.int p3), .val (.int p4), .val (.int p5), .val (.int c5), .val (.int yB), .val (.int yC), .val (.ref ob), .val (.int (0 : Int32)), .val (.int (1 : Int32)), .val (.int (2 : Int32)), .val (.int (3 : Int32)), .val (.ref x0), .val (.int (1 : Int32)), .unset, .unset, .unset, .unset, .unset, .unset] [])) _
      refine XS.iconst X1082.here hx rfl (hb hby at_180) ?_
      exact kont
    obtain ⟨T1083, h1083, k1083, X1083, e1083, E1083, A1083, st1083⟩ := newP X1082 hx hZ (hw _ (List.mem_of_getElem? (i := 9) rfl)) e1082 (g := (mkF m 181 #[.val (.int p1), .val (.int p2), .val (.int p3), .val (.int p4), .val (.int p5), .val (.int c5), .val (.int yB), .val (.int yC), .val (.ref ob), .val (.int (0 : Int32)), .val (.int (1 : Int32)), .val (.int (2 : Int32)), .val (.int (3 : Int32)), .val (.ref x0), .val (.int (1 : Int32)), .unset, .unset, .unset, .unset, .unset, .unset] [(.int (4 : Int32))])) rfl (hb hby at_181) rfl (by decide) (cap := 4) (by decide) (by decide) (by decide) (by decide)
    obtain ⟨x1, g1083⟩ : ∃ z, z = h1082.size := ⟨_, rfl⟩
    have g_x1 : n0 ≤ x1 := Nat.le_trans Z1082 (Nat.le_of_eq g1083.symm)
    have sz_x1 : T1077.heap.size ≤ x1 := Nat.le_trans K1082.1 (Nat.le_of_eq g1083.symm)
    have Z1083 : n0 ≤ h1083.size := Nat.le_trans Z1082 E1083.1
    have K1083 := K1082.ext E1083
    have ne_x0_x1 : x0 ≠ x1 := Nat.ne_of_lt (Nat.lt_of_lt_of_le V_x0_1082.lt (Nat.le_of_eq g1083.symm))
    rw [← g1083] at A1083 st1083
    have V_x0_1083 : own_A Z h1083 x0 .int 4 (own_upd (own_upd (own_upd (own_upd (fun _ => (.int (0 : Int32))) 0 (.int p1)) 1 (.int (0 : Int32))) 2 (.int (0 : Int32))) 3 (.int (0 : Int32))) := V_x0_1082.ext E1083
    have V_x1_1083 : own_A Z h1083 x1 .int 4 (fun _ => (.int (0 : Int32))) := own_A.new A1083 rfl
    refine own_step st1083 ?_
    refine own_step (T' := T1083) (f' := (mkF m 186 #[.val (.int p1), .val (.int p2), .val (.int p3), .val (.int p4), .val (.int p5), .val (.int c5), .val (.int yB), .val (.int yC), .val (.ref ob), .val (.int (0 : Int32)), .val (.int (1 : Int32)), .val (.int (2 : Int32)), .val (.int (3 : Int32)), .val (.ref x0), .val (.int (1 : Int32)), .unset, .unset, .unset, .unset, .unset, .unset] [(.int p1), (.int (0 : Int32)), (.ref x1), (.ref x1)])) (fun tt kont => ?_) ?_
    · show Steps p.tables e below (T1083.setTop (mkF m 183 #[.val (.int p1), .val (.int p2), .val (.int p3), .val (.int p4), .val (.int p5), .val (.int c5), .val (.int yB), .val (.int yC), .val (.ref ob), .val (.int (0 : Int32)), .val (.int (1 : Int32)), .val (.int (2 : Int32)), .val (.int (3 : Int32)), .val (.ref x0), .val (.int (1 : Int32)), .unset, .unset, .unset, .unset, .unset, .unset] [(.ref x1)])) _
      refine XS.dup X1083.here hx rfl (hb hby at_183) rfl rfl ?_
      show Steps p.tables e below (T1083.setTop (mkF m 184 #[.val (.int p1), .val (.int p2), .val (.int p3), .val (.int p4), .val (.int p5), .val (.int c5), .val (.int yB), .val (.int yC), .val (.ref ob), .val (.int (0 : Int32)), .val (.int (1 : Int32)), .val (.int (2 : Int32)), .val (.int (3 : Int32)), .val (.ref x0), .val (.int (1 : Int32)), .unset, .unset, .unset, .unset, .unset, .unset] [(.ref x1), (.ref x1)])) _
      refine XS.iconst X1083.here hx rfl (hb hby at_184) ?_
      show Steps p.tables e below (T1083.setTop (mkF m 185 #[.val (.int p1), .val (.int p2), .val (.int p3), .val (.int p4), .val (.int p5), .val (.int c5), .val (.int yB), .val (.int yC), .val (.ref ob), .val (.int (0 : Int32)), .val (.int (1 : Int32)), .val (.int (2 : Int32)), .val (.int (3 : Int32)), .val (.ref x0), .val (.int (1 : Int32)), .unset, .unset, .unset, .unset, .unset, .unset] [(.int (0 : Int32)), (.ref x1), (.ref x1)])) _
      refine XS.iloadN X1083.here hx rfl (hb hby at_185) rfl ?_
      exact kont
    obtain ⟨T1084, h1084, X1084, e1084, W1084, V_x1_1084, st1084⟩ := own_stI X1083 hx hZ e1083 V_x1_1083 (j := (0 : Int32)) (i := 0) (own_at_lit rfl (by decide)) (by decide) (g := (mkF m 186 #[.val (.int p1), .val (.int p2), .val (.int p3), .val (.int p4), .val (.int p5), .val (.int c5), .val (.int yB), .val (.int yC), .val (.ref ob), .val (.int (0 : Int32)), .val (.int (1 : Int32)), .val (.int (2 : Int32)), .val (.int (3 : Int32)), .val (.ref x0), .val (.int (1 : Int32)), .unset, .unset, .unset, .unset, .unset, .unset] [(.int p1), (.int (0 : Int32)), (.ref x1), (.ref x1)])) rfl rfl (hb hby at_186)
    have N1084 := Fr.snoc X1084 N1082 g_x1
    have K1084 := K1083.wr W1084 (Or.inr sz_x1)
    have Z1084 : n0 ≤ h1084.size := Nat.le_trans Z1083 (Keep.of_wr W1084).1
    have V_x0_1084 : own_A Z h1084 x0 .int 4 (own_upd (own_upd (own_upd (own_upd (fun _ => (.int (0 : Int32))) 0 (.int p1)) 1 (.int (0 : Int32))) 2 (.int (0 : Int32))) 3 (.int (0 : Int32))) := V_x0_1083.other W1084 ne_x0_x1
    refine own_step st1084 ?_
    refine own_step (T' := T1084) (f' := (mkF m 190 #[.val (.int p1), .val (.int p2), .val (.int p3), .val (.int p4), .val (.int p5), .val (.int c5), .val (.int yB), .val (.int yC), .val (.ref ob), .val (.int (0 : Int32)), .val (.int (1 : Int32)), .val (.int (2 : Int32)), .val (.int (3 : Int32)), .val (.ref x0), .val (.int (1 : Int32)), .unset, .unset, .unset, .unset, .unset, .unset] [(.int p2), (.int (1 : Int32)), (.ref x1), (.ref x1)])) (fun tt kont => ?_) ?_
    · show Steps p.tables e below (T1084.setTop (mkF m 187 #[.val (.int p1), .val (.int p2), .val (.int p3), .val (.int p4), .val (.int p5), .val (.int c5), .val (.int yB), .val (.int yC), .val (.ref ob), .val (.int (0 : Int32)), .val (.int (1 : Int32)), .val (.int (2 : Int32)), .val (.int (3 : Int32)), .val (.ref x0), .val (.int (1 : Int32)), .unset, .unset, .unset, .unset, .unset, .unset] [(.ref x1)])) _
      refine XS.dup X1084.here hx rfl (hb hby at_187) rfl rfl ?_
      show Steps p.tables e below (T1084.setTop (mkF m 188 #[.val (.int p1), .val (.int p2), .val (.int p3), .val (.int p4), .val (.int p5), .val (.int c5), .val (.int yB), .val (.int yC), .val (.ref ob), .val (.int (0 : Int32)), .val (.int (1 : Int32)), .val (.int (2 : Int32)), .val (.int (3 : Int32)), .val (.ref x0), .val (.int (1 : Int32)), .unset, .unset, .unset, .unset, .unset, .unset] [(.ref x1), (.ref x1)])) _
      refine XS.iconst X1084.here hx rfl (hb hby at_188) ?_
      show Steps p.tables e below (T1084.setTop (mkF m 189 #[.val (.int p1), .val (.int p2), .val (.int p3), .val (.int p4), .val (.int p5), .val (.int c5), .val (.int yB), .val (.int yC), .val (.ref ob), .val (.int (0 : Int32)), .val (.int (1 : Int32)), .val (.int (2 : Int32)), .val (.int (3 : Int32)), .val (.ref x0), .val (.int (1 : Int32)), .unset, .unset, .unset, .unset, .unset, .unset] [(.int (1 : Int32)), (.ref x1), (.ref x1)])) _
      refine XS.iloadN X1084.here hx rfl (hb hby at_189) rfl ?_
      exact kont
    obtain ⟨T1085, h1085, X1085, e1085, W1085, V_x1_1085, st1085⟩ := own_stI X1084 hx hZ e1084 V_x1_1084 (j := (1 : Int32)) (i := 1) (own_at_lit rfl (by decide)) (by decide) (g := (mkF m 190 #[.val (.int p1), .val (.int p2), .val (.int p3), .val (.int p4), .val (.int p5), .val (.int c5), .val (.int yB), .val (.int yC), .val (.ref ob), .val (.int (0 : Int32)), .val (.int (1 : Int32)), .val (.int (2 : Int32)), .val (.int (3 : Int32)), .val (.ref x0), .val (.int (1 : Int32)), .unset, .unset, .unset, .unset, .unset, .unset] [(.int p2), (.int (1 : Int32)), (.ref x1), (.ref x1)])) rfl rfl (hb hby at_190)
    have N1085 := Fr.snoc X1085 N1084 g_x1
    have K1085 := K1084.wr W1085 (Or.inr sz_x1)
    have Z1085 : n0 ≤ h1085.size := Nat.le_trans Z1084 (Keep.of_wr W1085).1
    have V_x0_1085 : own_A Z h1085 x0 .int 4 (own_upd (own_upd (own_upd (own_upd (fun _ => (.int (0 : Int32))) 0 (.int p1)) 1 (.int (0 : Int32))) 2 (.int (0 : Int32))) 3 (.int (0 : Int32))) := V_x0_1084.other W1085 ne_x0_x1
    refine own_step st1085 ?_
    refine own_step (T' := T1085) (f' := (mkF m 194 #[.val (.int p1), .val (.int p2), .val (.int p3), .val (.int p4), .val (.int p5), .val (.int c5), .val (.int yB), .val (.int yC), .val (.ref ob), .val (.int (0 : Int32)), .val (.int (1 : Int32)), .val (.int (2 : Int32)), .val (.int (3 : Int32)), .val (.ref x0), .val (.int (1 : Int32)), .unset, .unset, .unset, .unset, .unset, .unset] [(.int (0 : Int32)), (.int (2 : Int32)), (.ref x1), (.ref x1)])) (fun tt kont => ?_) ?_
    · show Steps p.tables e below (T1085.setTop (mkF m 191 #[.val (.int p1), .val (.int p2), .val (.int p3), .val (.int p4), .val (.int p5), .val (.int c5), .val (.int yB), .val (.int yC), .val (.ref ob), .val (.int (0 : Int32)), .val (.int (1 : Int32)), .val (.int (2 : Int32)), .val (.int (3 : Int32)), .val (.ref x0), .val (.int (1 : Int32)), .unset, .unset, .unset, .unset, .unset, .unset] [(.ref x1)])) _
      refine XS.dup X1085.here hx rfl (hb hby at_191) rfl rfl ?_
      show Steps p.tables e below (T1085.setTop (mkF m 192 #[.val (.int p1), .val (.int p2), .val (.int p3), .val (.int p4), .val (.int p5), .val (.int c5), .val (.int yB), .val (.int yC), .val (.ref ob), .val (.int (0 : Int32)), .val (.int (1 : Int32)), .val (.int (2 : Int32)), .val (.int (3 : Int32)), .val (.ref x0), .val (.int (1 : Int32)), .unset, .unset, .unset, .unset, .unset, .unset] [(.ref x1), (.ref x1)])) _
      refine XS.iconst X1085.here hx rfl (hb hby at_192) ?_
      show Steps p.tables e below (T1085.setTop (mkF m 193 #[.val (.int p1), .val (.int p2), .val (.int p3), .val (.int p4), .val (.int p5), .val (.int c5), .val (.int yB), .val (.int yC), .val (.ref ob), .val (.int (0 : Int32)), .val (.int (1 : Int32)), .val (.int (2 : Int32)), .val (.int (3 : Int32)), .val (.ref x0), .val (.int (1 : Int32)), .unset, .unset, .unset, .unset, .unset, .unset] [(.int (2 : Int32)), (.ref x1), (.ref x1)])) _
      refine XS.iconst X1085.here hx rfl (hb hby at_193) ?_
      exact kont
    obtain ⟨T1086, h1086, X1086, e1086, W1086, V_x1_1086, st1086⟩ := own_stI X1085 hx hZ e1085 V_x1_1085 (j := (2 : Int32)) (i := 2) (own_at_lit rfl (by decide)) (by decide) (g := (mkF m 194 #[.val (.int p1), .val (.int p2), .val (.int p3), .val (.int p4), .val (.int p5), .val (.int c5), .val (.int yB), .val (.int yC), .val (.ref ob), .val (.int (0 : Int32)), .val (.int (1 : Int32)), .val (.int (2 : Int32)), .val (.int (3 : Int32)), .val (.ref x0), .val (.int (1 : Int32)), .unset, .unset, .unset, .unset, .unset, .unset] [(.int (0 : Int32)), (.int (2 : Int32)), (.ref x1), (.ref x1)])) rfl rfl (hb hby at_194)
    have N1086 := Fr.snoc X1086 N1085 g_x1
    have K1086 := K1085.wr W1086 (Or.inr sz_x1)
    have Z1086 : n0 ≤ h1086.size := Nat.le_trans Z1085 (Keep.of_wr W1086).1
    have V_x0_1086 : own_A Z h1086 x0 .int 4 (own_upd (own_upd (own_upd (own_upd (fun _ => (.int (0 : Int32))) 0 (.int p1)) 1 (.int (0 : Int32))) 2 (.int (0 : Int32))) 3 (.int (0 : Int32))) := V_x0_1085.other W1086 ne_x0_x1
    refine own_step st1086 ?_
    refine own_step (T' := T1086) (f' := (mkF m 198 #[.val (.int p1), .val (.int p2), .val (.int p3), .val (.int p4), .val (.int p5), .val (.int c5), .val (.int yB), .val (.int yC), .val (.ref ob), .val (.int (0 : Int32)), .val (.int (1 : Int32)), .val (.int (2 : Int32)), .val (.int (3 : Int32)), .val (.ref x0), .val (.int (1 : Int32)), .unset, .unset, .unset, .unset, .unset, .unset] [(.int (0 : Int32)), (.int (3 : Int32)), (.ref x1), (.ref x1)])) (fun tt kont => ?_) ?_
    · show Steps p.tables e below (T1086.setTop (mkF m 195 #[.val (.int p1), .val (.int p2), .val (.int p3), .val (.int p4), .val (.int p5), .val (.int c5), .val (.int yB), .val (.int yC), .val (.ref ob), .val (.int (0 : Int32)), .val (.int (1 : Int32)), .val (.int (2 : Int32)), .val (.int (3 : Int32)), .val (.ref x0), .val (.int (1 : Int32)), .unset, .unset, .unset, .unset, .unset, .unset] [(.ref x1)])) _
      refine XS.dup X1086.here hx rfl (hb hby at_195) rfl rfl ?_
      show Steps p.tables e below (T1086.setTop (mkF m 196 #[.val (.int p1), .val (.int p2), .val (.int p3), .val (.int p4), .val (.int p5), .val (.int c5), .val (.int yB), .val (.int yC), .val (.ref ob), .val (.int (0 : Int32)), .val (.int (1 : Int32)), .val (.int (2 : Int32)), .val (.int (3 : Int32)), .val (.ref x0), .val (.int (1 : Int32)), .unset, .unset, .unset, .unset, .unset, .unset] [(.ref x1), (.ref x1)])) _
      refine XS.iconst X1086.here hx rfl (hb hby at_196) ?_
      show Steps p.tables e below (T1086.setTop (mkF m 197 #[.val (.int p1), .val (.int p2), .val (.int p3), .val (.int p4), .val (.int p5), .val (.int c5), .val (.int yB), .val (.int yC), .val (.ref ob), .val (.int (0 : Int32)), .val (.int (1 : Int32)), .val (.int (2 : Int32)), .val (.int (3 : Int32)), .val (.ref x0), .val (.int (1 : Int32)), .unset, .unset, .unset, .unset, .unset, .unset] [(.int (3 : Int32)), (.ref x1), (.ref x1)])) _
      refine XS.iconst X1086.here hx rfl (hb hby at_197) ?_
      exact kont
    obtain ⟨T1087, h1087, X1087, e1087, W1087, V_x1_1087, st1087⟩ := own_stI X1086 hx hZ e1086 V_x1_1086 (j := (3 : Int32)) (i := 3) (own_at_lit rfl (by decide)) (by decide) (g := (mkF m 198 #[.val (.int p1), .val (.int p2), .val (.int p3), .val (.int p4), .val (.int p5), .val (.int c5), .val (.int yB), .val (.int yC), .val (.ref ob), .val (.int (0 : Int32)), .val (.int (1 : Int32)), .val (.int (2 : Int32)), .val (.int (3 : Int32)), .val (.ref x0), .val (.int (1 : Int32)), .unset, .unset, .unset, .unset, .unset, .unset] [(.int (0 : Int32)), (.int (3 : Int32)), (.ref x1), (.ref x1)])) rfl rfl (hb hby at_198)
    have N1087 := Fr.snoc X1087 N1086 g_x1
    have K1087 := K1086.wr W1087 (Or.inr sz_x1)
    have Z1087 : n0 ≤ h1087.size := Nat.le_trans Z1086 (Keep.of_wr W1087).1
    have V_x0_1087 : own_A Z h1087 x0 .int 4 (own_upd (own_upd (own_upd (own_upd (fun _ => (.int (0 : Int32))) 0 (.int p1)) 1 (.int (0 : Int32))) 2 (.int (0 : Int32))) 3 (.int (0 : Int32))) := V_x0_1086.other W1087 ne_x0_x1
    refine own_step st1087 ?_
    refine own_step (T' := T1087) (f' := (mkF m 204 #[.val (.int p1), .val (.int p2), .val (.int p3), .val (.int p4), .val (.int p5), .val (.int c5), .val (.int yB), .val (.int yC), .val (.ref ob), .val (.int (0 : Int32)), .val (.int (1 : Int32)), .val (.int (2 : Int32)), .val (.int (3 : Int32)), .val (.ref x0), .val (.int (1 : Int32)), .val (.ref x1), .val (.int (2 : Int32)), .unset, .unset, .unset, .unset] [])) (fun tt kont => ?_) ?_
    · show Steps p.tables e below (T1087.setTop (mkF m 199 #[.val (.int p1), .val (.int p2), .val (.int p3), .val (.int p4), .val (.int p5), .val (.int c5), .val (.int yB), .val (.int yC), .val (.ref ob), .val (.int (0 : Int32)), .val (.int (1 : Int32)), .val (.int (2 : Int32)), .val (.int (3 : Int32)), .val (.ref x0), .val (.int (1 : Int32)), .unset, .unset, .unset, .unset, .unset, .unset] [(.ref x1)])) _
      refine XS.astore X1087.here hx rfl (hb hby at_199) rfl rfl (l' := #[.val (.int p1), .val (.int p2), .val (.int p3), .val (.int p4), .val (.int p5), .val (.int c5), .val (.int yB), .val (.int yC), .val (.ref ob), .val (.int (0 : Int32)), .val (.int (1 : Int32)), .val (.int (2 : Int32)), .val (.int (3 : Int32)), .val (.ref x0), .val (.int (1 : Int32)), .val (.ref x1), .unset, .unset, .unset, .unset, .unset]) rfl ?_
      show Steps p.tables e below (T1087.setTop (mkF m 201 #[.val (.int p1), .val (.int p2), .val (.int p3), .val (.int p4), .val (.int p5), .val (.int c5), .val (.int yB), .val (.int yC), .val (.ref ob), .val (.int (0 : Int32)), .val (.int (1 : Int32)), .val (.int (2 : Int32)), .val (.int (3 : Int32)), .val (.ref x0), .val (.int (1 : Int32)), .val (.ref x1), .unset, .unset, .unset, .unset, .unset] [])) _
      refine XS.iconst X1087.here hx rfl (hb hby at_201) ?_
      show Steps p.tables e below (T1087.setTop (mkF m 202 #[.val (.int p1), .val (.int p2), .val (.int p3), .val (.int p4), .val (.int p5), .val (.int c5), .val (.int yB), .val (.int yC), .val (.ref ob), .val (.int (0 : Int32)), .val (.int (1 : Int32)), .val (.int (2 : Int32)), .val (.int (3 : Int32)), .val (.ref x0), .val (.int (1 : Int32)), .val (.ref x1), .unset, .unset, .unset, .unset, .unset] [(.int (2 : Int32))])) _
      refine XS.istore X1087.here hx rfl (hb hby at_202) rfl (l' := #[.val (.int p1), .val (.int p2), .val (.int p3), .val (.int p4), .val (.int p5), .val (.int c5), .val (.int yB), .val (.int yC), .val (.ref ob), .val (.int (0 : Int32)), .val (.int (1 : Int32)), .val (.int (2 : Int32)), .val (.int (3 : Int32)), .val (.ref x0), .val (.int (1 : Int32)), .val (.ref x1), .val (.int (2 : Int32)), .unset, .unset, .unset, .unset]) rfl ?_
      exact kont
    have g0 : pF 0 = [p1] := by rw [f0]; exact hp0
    have g1 : pF 1 = [p1, p2] := by rw [f1]; exact hp1.2 hc150_2
    exact own_s204 (pth := pF) X1087 hx hZ hw hby hret hlk hml hown e1087 N1087 Z1087 (PT1077.keep K1087) (V_x0_1087.cong (by rw [g0]; exact own_f4 rfl rfl rfl rfl)) (V_x1_1087.cong (by rw [g1]; exact own_f4 rfl rfl rfl rfl)) (by rw [g0]; exact own_at_lit rfl (by decide)) (by rw [g1]; exact own_at_lit rfl (by decide)) (by rw [g0]; exact Nat.le_refl 1) (by rw [g1]; show 2 ≤ 2; decide) f2 f3
  · refine own_step (T' := T1082) (f' := (mkF m 154 #[.val (.int p1), .val (.int p2), .val (.int p3), .val (.int p4), .val (.int p5), .val (.int c5), .val (.int yB), .val (.int yC), .val (.ref ob), .val (.int (0 : Int32)), .val (.int (1 : Int32)), .val (.int (2 : Int32)), .val (.int (3 : Int32)), .val (.ref x0), .val (.int (1 : Int32)), .unset, .unset, .unset, .unset, .unset, .unset] [(.int (4 : Int32))])) (fun tt kont => ?_) ?_
    · show Steps p.tables e below (T1082.setTop (mkF m 150 #[.val (.int p1), .val (.int p2), .val (.int p3), .val (.int p4), .val (.int p5), .val (.int c5), .val (.int yB), .val (.int yC), .val (.ref ob), .val (.int (0 : Int32)), .val (.int (1 : Int32)), .val (.int (2 : Int32)), .val (.int (3 : Int32)), .val (.ref x0), .val (.int (1 : Int32)), .unset, .unset, .unset, .unset, .unset, .unset] [(.int c5)])) _
      refine XS.ifNo X1082.here hx rfl (hb hby at_150) rfl ((if0 _ _).trans (feq hc150_2).1) ?_
      show Steps p.tables e below (T1082.setTop (mkF m 153 #[.val (.int p1), .val (.int p2), .val (.int p3), .val (.int p4), .val (.int p5), .val (.int c5), .val (.int yB), .val (.int yC), .val (.ref ob), .val (.int (0 : Int32)), .val (.int (1 : Int32)), .val (.int (2 : Int32)), .val (.int (3 : Int32)), .val (.ref x0), .val (.int (1 : Int32)), .unset, .unset, .unset, .unset, .unset, .unset] [])) _
      refine XS.iconst X1082.here hx rfl (hb hby at_153) ?_
      exact kont
    obtain ⟨T1088, h1088, k1088, X1088, e1088, E1088, A1088, st1088⟩ := newP X1082 hx hZ (hw _ (List.mem_of_getElem? (i := 9) rfl)) e1082 (g := (mkF m 154 #[.val (.int p1), .val (.int p2), .val (.int p3), .val (.int p4), .val (.int p5), .val (.int c5), .val (.int yB), .val (.int yC), .val (.ref ob), .val (.int (0 : Int32)), .val (.int (1 : Int32)), .val (.int (2 : Int32)), .val (.int (3 : Int32)), .val (.ref x0), .val (.int (1 : Int32)), .unset, .unset, .unset, .unset, .unset, .unset] [(.int (4 : Int32))])) rfl (hb hby at_154) rfl (by decide) (cap := 4) (by decide) (by decide) (by decide) (by decide)
    obtain ⟨x1, g1088⟩ : ∃ z, z = h1082.size := ⟨_, rfl⟩
    have g_x1 : n0 ≤ x1 := Nat.le_trans Z1082 (Nat.le_of_eq g1088.symm)
    have sz_x1 : T1077.heap.size ≤ x1 := Nat.le_trans K1082.1 (Nat.le_of_eq g1088.symm)
    have Z1088 : n0 ≤ h1088.size := Nat.le_trans Z1082 E1088.1
    have K1088 := K1082.ext E1088
    have ne_x0_x1 : x0 ≠ x1 := Nat.ne_of_lt (Nat.lt_of_lt_of_le V_x0_1082.lt (Nat.le_of_eq g1088.symm))
    rw [← g1088] at A1088 st1088
    have V_x0_1088 : own_A Z h1088 x0 .int 4 (own_upd (own_upd (own_upd (own_upd (fun _ => (.int (0 : Int32))) 0 (.int p1)) 1 (.int (0 : Int32))) 2 (.int (0 : Int32))) 3 (.int (0 : Int32))) := V_x0_1082.ext E1088
    have V_x1_1088 : own_A Z h1088 x1 .int 4 (fun _ => (.int (0 : Int32))) := own_A.new A1088 rfl
    refine own_step st1088 ?_
    refine own_step (T' := T1088) (f' := (mkF m 159 #[.val (.int p1), .val (.int p2), .val (.int p3), .val (.int p4), .val (.int p5), .val (.int c5), .val (.int yB), .val (.int yC), .val (.ref ob), .val (.int (0 : Int32)), .val (.int (1 : Int32)), .val (.int (2 : Int32)), .val (.int (3 : Int32)), .val (.ref x0), .val (.int (1 : Int32)), .unset, .unset, .unset, .unset, .unset, .unset] [(.int p2), (.int (0 : Int32)), (.ref x1), (.ref x1)])) (fun tt kont => ?_) ?_
    · show Steps p.tables e below (T1088.setTop (mkF m 156 #[.val (.int p1), .val (.int p2), .val (.int p3), .val (.int p4), .val (.int p5), .val (.int c5), .val (.int yB), .val (.int yC), .val (.ref ob), .val (.int (0 : Int32)), .val (.int (1 : Int32)), .val (.int (2 : Int32)), .val (.int (3 : Int32)), .val (.ref x0), .val (.int (1 : Int32)), .unset, .unset, .unset, .unset, .unset, .unset] [(.ref x1)])) _
      refine XS.dup X1088.here hx rfl (hb hby at_156) rfl rfl ?_
      show Steps p.tables e below (T1088.setTop (mkF m 157 #[.val (.int p1), .val (.int p2), .val (.int p3), .val (.int p4), .val (.int p5), .val (.int c5), .val (.int yB), .val (.int yC), .val (.ref ob), .val (.int (0 : Int32)), .val (.int (1 : Int32)), .val (.int (2 : Int32)), .val (.int (3 : Int32)), .val (.ref x0), .val (.int (1 : Int32)), .unset, .unset, .unset, .unset, .unset, .unset] [(.ref x1), (.ref x1)])) _
      refine XS.iconst X1088.here hx rfl (hb hby at_157) ?_
      show Steps p.tables e below (T1088.setTop (mkF m 158 #[.val (.int p1), .val (.int p2), .val (.int p3), .val (.int p4), .val (.int p5), .val (.int c5), .val (.int yB), .val (.int yC), .val (.ref ob), .val (.int (0 : Int32)), .val (.int (1 : Int32)), .val (.int (2 : Int32)), .val (.int (3 : Int32)), .val (.ref x0), .val (.int (1 : Int32)), .unset, .unset, .unset, .unset, .unset, .unset] [(.int (0 : Int32)), (.ref x1), (.ref x1)])) _
      refine XS.iloadN X1088.here hx rfl (hb hby at_158) rfl ?_
      exact kont
    obtain ⟨T1089, h1089, X1089, e1089, W1089, V_x1_1089, st1089⟩ := own_stI X1088 hx hZ e1088 V_x1_1088 (j := (0 : Int32)) (i := 0) (own_at_lit rfl (by decide)) (by decide) (g := (mkF m 159 #[.val (.int p1), .val (.int p2), .val (.int p3), .val (.int p4), .val (.int p5), .val (.int c5), .val (.int yB), .val (.int yC), .val (.ref ob), .val (.int (0 : Int32)), .val (.int (1 : Int32)), .val (.int (2 : Int32)), .val (.int (3 : Int32)), .val (.ref x0), .val (.int (1 : Int32)), .unset, .unset, .unset, .unset, .unset, .unset] [(.int p2), (.int (0 : Int32)), (.ref x1), (.ref x1)])) rfl rfl (hb hby at_159)
    have N1089 := Fr.snoc X1089 N1082 g_x1
    have K1089 := K1088.wr W1089 (Or.inr sz_x1)
    have Z1089 : n0 ≤ h1089.size := Nat.le_trans Z1088 (Keep.of_wr W1089).1
    have V_x0_1089 : own_A Z h1089 x0 .int 4 (own_upd (own_upd (own_upd (own_upd (fun _ => (.int (0 : Int32))) 0 (.int p1)) 1 (.int (0 : Int32))) 2 (.int (0 : Int32))) 3 (.int (0 : Int32))) := V_x0_1088.other W1089 ne_x0_x1
    refine own_step st1089 ?_
    refine own_step (T' := T1089) (f' := (mkF m 163 #[.val (.int p1), .val (.int p2), .val (.int p3), .val (.int p4), .val (.int p5), .val (.int c5), .val (.int yB), .val (.int yC), .val (.ref ob), .val (.int (0 : Int32)), .val (.int (1 : Int32)), .val (.int (2 : Int32)), .val (.int (3 : Int32)), .val (.ref x0), .val (.int (1 : Int32)), .unset, .unset, .unset, .unset, .unset, .unset] [(.int (0 : Int32)), (.int (1 : Int32)), (.ref x1), (.ref x1)])) (fun tt kont => ?_) ?_
    · show Steps p.tables e below (T1089.setTop (mkF m 160 #[.val (.int p1), .val (.int p2), .val (.int p3), .val (.int p4), .val (.int p5), .val (.int c5), .val (.int yB), .val (.int yC), .val (.ref ob), .val (.int (0 : Int32)), .val (.int (1 : Int32)), .val (.int (2 : Int32)), .val (.int (3 : Int32)), .val (.ref x0), .val (.int (1 : Int32)), .unset, .unset, .unset, .unset, .unset, .unset] [(.ref x1)])) _
      refine XS.dup X1089.here hx rfl (hb hby at_160) rfl rfl ?_
      show Steps p.tables e below (T1089.setTop (mkF m 161 #[.val (.int p1), .val (.int p2), .val (.int p3), .val (.int p4), .val (.int p5), .val (.int c5), .val (.int yB), .val (.int yC), .val (.ref ob), .val (.int (0 : Int32)), .val (.int (1 : Int32)), .val (.int (2 : Int32)), .val (.int (3 : Int32)), .val (.ref x0), .val (.int (1 : Int32)), .unset, .unset, .unset, .unset, .unset, .unset] [(.ref x1), (.ref x1)])) _
      refine XS.iconst X1089.here hx rfl (hb hby at_161) ?_
      show Steps p.tables e below (T1089.setTop (mkF m 162 #[.val (.int p1), .val (.int p2), .val (.int p3), .val (.int p4), .val (.int p5), .val (.int c5), .val (.int yB), .val (.int yC), .val (.ref ob), .val (.int (0 : Int32)), .val (.int (1 : Int32)), .val (.int (2 : Int32)), .val (.int (3 : Int32)), .val (.ref x0), .val (.int (1 : Int32)), .unset, .unset, .unset, .unset, .unset, .unset] [(.int (1 : Int32)), (.ref x1), (.ref x1)])) _
      refine XS.iconst X1089.here hx rfl (hb hby at_162) ?_
      exact kont
    obtain ⟨T1090, h1090, X1090, e1090, W1090, V_x1_1090, st1090⟩ := own_stI X1089 hx hZ e1089 V_x1_1089 (j := (1 : Int32)) (i := 1) (own_at_lit rfl (by decide)) (by decide) (g := (mkF m 163 #[.val (.int p1), .val (.int p2), .val (.int p3), .val (.int p4), .val (.int p5), .val (.int c5), .val (.int yB), .val (.int yC), .val (.ref ob), .val (.int (0 : Int32)), .val (.int (1 : Int32)), .val (.int (2 : Int32)), .val (.int (3 : Int32)), .val (.ref x0), .val (.int (1 : Int32)), .unset, .unset, .unset, .unset, .unset, .unset] [(.int (0 : Int32)), (.int (1 : Int32)), (.ref x1), (.ref x1)])) rfl rfl (hb hby at_163)
    have N1090 := Fr.snoc X1090 N1089 g_x1
    have K1090 := K1089.wr W1090 (Or.inr sz_x1)
    have Z1090 : n0 ≤ h1090.size := Nat.le_trans Z1089 (Keep.of_wr W1090).1
    have V_x0_1090 : own_A Z h1090 x0 .int 4 (own_upd (own_upd (own_upd (own_upd (fun _ => (.int (0 : Int32))) 0 (.int p1)) 1 (.int (0 : Int32))) 2 (.int (0 : Int32))) 3 (.int (0 : Int32))) := V_x0_1089.other W1090 ne_x0_x1
    refine own_step st1090 ?_
    refine own_step (T' := T1090) (f' := (mkF m 167 #[.val (.int p1), .val (.int p2), .val (.int p3), .val (.int p4), .val (.int p5), .val (.int c5), .val (.int yB), .val (.int yC), .val (.ref ob), .val (.int (0 : Int32)), .val (.int (1 : Int32)), .val (.int (2 : Int32)), .val (.int (3 : Int32)), .val (.ref x0), .val (.int (1 : Int32)), .unset, .unset, .unset, .unset, .unset, .unset] [(.int (0 : Int32)), (.int (2 : Int32)), (.ref x1), (.ref x1)])) (fun tt kont => ?_) ?_
    · show Steps p.tables e below (T1090.setTop (mkF m 164 #[.val (.int p1), .val (.int p2), .val (.int p3), .val (.int p4), .val (.int p5), .val (.int c5), .val (.int yB), .val (.int yC), .val (.ref ob), .val (.int (0 : Int32)), .val (.int (1 : Int32)), .val (.int (2 : Int32)), .val (.int (3 : Int32)), .val (.ref x0), .val (.int (1 : Int32)), .unset, .unset, .unset, .unset, .unset, .unset] [(.ref x1)])) _
      refine XS.dup X1090.here hx rfl (hb hby at_164) rfl rfl ?_
      show Steps p.tables e below (T1090.setTop (mkF m 165 #[.val (.int p1), .val (.int p2), .val (.int p3), .val (.int p4), .val (.int p5), .val (.int c5), .val (.int yB), .val (.int yC), .val (.ref ob), .val (.int (0 : Int32)), .val (.int (1 : Int32)), .val (.int (2 : Int32)), .val (.int (3 : Int32)), .val (.ref x0), .val (.int (1 : Int32)), .unset, .unset, .unset, .unset, .unset, .unset] [(.ref x1), (.ref x1)])) _
      refine XS.iconst X1090.here hx rfl (hb hby at_165) ?_
      show Steps p.tables e below (T1090.setTop (mkF m 166 #[.val (.int p1), .val (.int p2), .val (.int p3), .val (.int p4), .val (.int p5), .val (.int c5), .val (.int yB), .val (.int yC), .val (.ref ob), .val (.int (0 : Int32)), .val (.int (1 : Int32)), .val (.int (2 : Int32)), .val (.int (3 : Int32)), .val (.ref x0), .val (.int (1 : Int32)), .unset, .unset, .unset, .unset, .unset, .unset] [(.int (2 : Int32)), (.ref x1), (.ref x1)])) _
      refine XS.iconst X1090.here hx rfl (hb hby at_166) ?_
      exact kont
    obtain ⟨T1091, h1091, X1091, e1091, W1091, V_x1_1091, st1091⟩ := own_stI X1090 hx hZ e1090 V_x1_1090 (j := (2 : Int32)) (i := 2) (own_at_lit rfl (by decide)) (by decide) (g := (mkF m 167 #[.val (.int p1), .val (.int p2), .val (.int p3), .val (.int p4), .val (.int p5), .val (.int c5), .val (.int yB), .val (.int yC), .val (.ref ob), .val (.int (0 : Int32)), .val (.int (1 : Int32)), .val (.int (2 : Int32)), .val (.int (3 : Int32)), .val (.ref x0), .val (.int (1 : Int32)), .unset, .unset, .unset, .unset, .unset, .unset] [(.int (0 : Int32)), (.int (2 : Int32)), (.ref x1), (.ref x1)])) rfl rfl (hb hby at_167)
    have N1091 := Fr.snoc X1091 N1090 g_x1
    have K1091 := K1090.wr W1091 (Or.inr sz_x1)
    have Z1091 : n0 ≤ h1091.size := Nat.le_trans Z1090 (Keep.of_wr W1091).1
    have V_x0_1091 : own_A Z h1091 x0 .int 4 (own_upd (own_upd (own_upd (own_upd (fun _ => (.int (0 : Int32))) 0 (.int p1)) 1 (.int (0 : Int32))) 2 (.int (0 : Int32))) 3 (.int (0 : Int32))) := V_x0_1090.other W1091 ne_x0_x1
    refine own_step st1091 ?_
    refine own_step (T' := T1091) (f' := (mkF m 171 #[.val (.int p1), .val (.int p2), .val (.int p3), .val (.int p4), .val (.int p5), .val (.int c5), .val (.int yB), .val (.int yC), .val (.ref ob), .val (.int (0 : Int32)), .val (.int (1 : Int32)), .val (.int (2 : Int32)), .val (.int (3 : Int32)), .val (.ref x0), .val (.int (1 : Int32)), .unset, .unset, .unset, .unset, .unset, .unset] [(.int (0 : Int32)), (.int (3 : Int32)), (.ref x1), (.ref x1)])) (fun tt kont => ?_) ?_
    · show Steps p.tables e below (T1091.setTop (mkF m 168 #[.val (.int p1), .val (.int p2), .val (.int p3), .val (.int p4), .val (.int p5), .val (.int c5), .val (.int yB), .val (.int yC), .val (.ref ob), .val (.int (0 : Int32)), .val (.int (1 : Int32)), .val (.int (2 : Int32)), .val (.int (3 : Int32)), .val (.ref x0), .val (.int (1 : Int32)), .unset, .unset, .unset, .unset, .unset, .unset] [(.ref x1)])) _
      refine XS.dup X1091.here hx rfl (hb hby at_168) rfl rfl ?_
      show Steps p.tables e below (T1091.setTop (mkF m 169 #[.val (.int p1), .val (.int p2), .val (.int p3), .val (.int p4), .val (.int p5), .val (.int c5), .val (.int yB), .val (.int yC), .val (.ref ob), .val (.int (0 : Int32)), .val (.int (1 : Int32)), .val (.int (2 : Int32)), .val (.int (3 : Int32)), .val (.ref x0), .val (.int (1 : Int32)), .unset, .unset, .unset, .unset, .unset, .unset] [(.ref x1), (.ref x1)])) _
      refine XS.iconst X1091.here hx rfl (hb hby at_169) ?_
      show Steps p.tables e below (T1091.setTop (mkF m 170 #[.val (.int p1), .val (.int p2), .val (.int p3), .val (.int p4), .val (.int p5), .val (.int c5), .val (.int yB), .val (.int yC), .val (.ref ob), .val (.int (0 : Int32)), .val (.int (1 : Int32)), .val (.int (2 : Int32)), .val (.int (3 : Int32)), .val (.ref x0), .val (.int (1 : Int32)), .unset, .unset, .unset, .unset, .unset, .unset] [(.int (3 : Int32)), (.ref x1), (.ref x1)])) _
      refine XS.iconst X1091.here hx rfl (hb hby at_170) ?_
      exact kont
    obtain ⟨T1092, h1092, X1092, e1092, W1092, V_x1_1092, st1092⟩ := own_stI X1091 hx hZ e1091 V_x1_1091 (j := (3 : Int32)) (i := 3) (own_at_lit rfl (by decide)) (by decide) (g := (mkF m 171 #[.val (.int p1), .val (.int p2), .val (.int p3), .val (.int p4), .val (.int p5), .val (.int c5), .val (.int yB), .val (.int yC), .val (.ref ob), .val (.int (0 : Int32)), .val (.int (1 : Int32)), .val (.int (2 : Int32)), .val (.int (3 : Int32)), .val (.ref x0), .val (.int (1 : Int32)), .unset, .unset, .unset, .unset, .unset, .unset] [(.int (0 : Int32)), (.int (3 : Int32)), (.ref x1), (.ref x1)])) rfl rfl (hb hby at_171)
    have N1092 := Fr.snoc X1092 N1091 g_x1
    have K1092 := K1091.wr W1092 (Or.inr sz_x1)
    have Z1092 : n0 ≤ h1092.size := Nat.le_trans Z1091 (Keep.of_wr W1092).1
    have V_x0_1092 : own_A Z h1092 x0 .int 4 (own_upd (own_upd (own_upd (own_upd (fun _ => (.int (0 : Int32))) 0 (.int p1)) 1 (.int (0 : Int32))) 2 (.int (0 : Int32))) 3 (.int (0 : Int32))) := V_x0_1091.other W1092 ne_x0_x1
    refine own_step st1092 ?_
    refine own_step (T' := T1092) (f' := (mkF m 204 #[.val (.int p1), .val (.int p2), .val (.int p3), .val (.int p4), .val (.int p5), .val (.int c5), .val (.int yB), .val (.int yC), .val (.ref ob), .val (.int (0 : Int32)), .val (.int (1 : Int32)), .val (.int (2 : Int32)), .val (.int (3 : Int32)), .val (.ref x0), .val (.int (1 : Int32)), .val (.ref x1), .val (.int (1 : Int32)), .unset, .unset, .unset, .unset] [])) (fun tt kont => ?_) ?_
    · show Steps p.tables e below (T1092.setTop (mkF m 172 #[.val (.int p1), .val (.int p2), .val (.int p3), .val (.int p4), .val (.int p5), .val (.int c5), .val (.int yB), .val (.int yC), .val (.ref ob), .val (.int (0 : Int32)), .val (.int (1 : Int32)), .val (.int (2 : Int32)), .val (.int (3 : Int32)), .val (.ref x0), .val (.int (1 : Int32)), .unset, .unset, .unset, .unset, .unset, .unset] [(.ref x1)])) _
      refine XS.astore X1092.here hx rfl (hb hby at_172) rfl rfl (l' := #[.val (.int p1), .val (.int p2), .val (.int p3), .val (.int p4), .val (.int p5), .val (.int c5), .val (.int yB), .val (.int yC), .val (.ref ob), .val (.int (0 : Int32)), .val (.int (1 : Int32)), .val (.int (2 : Int32)), .val (.int (3 : Int32)), .val (.ref x0), .val (.int (1 : Int32)), .val (.ref x1), .unset, .unset, .unset, .unset, .unset]) rfl ?_
      show Steps p.tables e below (T1092.setTop (mkF m 174 #[.val (.int p1), .val (.int p2), .val (.int p3), .val (.int p4), .val (.int p5), .val (.int c5), .val (.int yB), .val (.int yC), .val (.ref ob), .val (.int (0 : Int32)), .val (.int (1 : Int32)), .val (.int (2 : Int32)), .val (.int (3 : Int32)), .val (.ref x0), .val (.int (1 : Int32)), .val (.ref x1), .unset, .unset, .unset, .unset, .unset] [])) _
      refine XS.iconst X1092.here hx rfl (hb hby at_174) ?_
      show Steps p.tables e below (T1092.setTop (mkF m 175 #[.val (.int p1), .val (.int p2), .val (.int p3), .val (.int p4), .val (.int p5), .val (.int c5), .val (.int yB), .val (.int yC), .val (.ref ob), .val (.int (0 : Int32)), .val (.int (1 : Int32)), .val (.int (2 : Int32)), .val (.int (3 : Int32)), .val (.ref x0), .val (.int (1 : Int32)), .val (.ref x1), .unset, .unset, .unset, .unset, .unset] [(.int (1 : Int32))])) _
      refine XS.istore X1092.here hx rfl (hb hby at_175) rfl (l' := #[.val (.int p1), .val (.int p2), .val (.int p3), .val (.int p4), .val (.int p5), .val (.int c5), .val (.int yB), .val (.int yC), .val (.ref ob), .val (.int (0 : Int32)), .val (.int (1 : Int32)), .val (.int (2 : Int32)), .val (.int (3 : Int32)), .val (.ref x0), .val (.int (1 : Int32)), .val (.ref x1), .val (.int (1 : Int32)), .unset, .unset, .unset, .unset]) rfl ?_
      show Steps p.tables e below (T1092.setTop (mkF m 177 #[.val (.int p1), .val (.int p2), .val (.int p3), .val (.int p4), .val (.int p5), .val (.int c5), .val (.int yB), .val (.int yC), .val (.ref ob), .val (.int (0 : Int32)), .val (.int (1 : Int32)), .val (.int (2 : Int32)), .val (.int (3 : Int32)), .val (.ref x0), .val (.int (1 : Int32)), .val (.ref x1), .val (.int (1 : Int32)), .unset, .unset, .unset, .unset] [])) _
      refine XS.goto X1092.here hx rfl (pc0 := 177) (pc' := 204) rfl (hb hby at_177) (by decide) (by decide) ?_
      exact kont
    have g0 : pF 0 = [p1] := by rw [f0]; exact hp0
    have g1 : pF 1 = [p2] := by rw [f1]; exact hp1.1 hc150_2
    exact own_s204 (pth := pF) X1092 hx hZ hw hby hret hlk hml hown e1092 N1092 Z1092 (PT1077.keep K1092) (V_x0_1092.cong (by rw [g0]; exact own_f4 rfl rfl rfl rfl)) (V_x1_1092.cong (by rw [g1]; exact own_f4 rfl rfl rfl rfl)) (by rw [g0]; exact own_at_lit rfl (by decide)) (by rw [g1]; exact own_at_lit rfl (by decide)) (by rw [g0]; exact Nat.le_refl 1) (by rw [g1]; show 1 ≤ 2; decide) f2 f3
theorem own_ef_own_rm0 (m : MethodId) (x0 : Int32) (x1 : Int32) (x2 : Int32) (x3 : Int32) (x4 : Int32) : entryFrame m #[(.int x0), (.int x1), (.int x2), (.int x3), (.int x4)] maxLocals = mkF m 0 #[.val (.int x0), .val (.int x1), .val (.int x2), .val (.int x3), .val (.int x4), .unset, .unset, .unset, .unset, .unset, .unset, .unset, .unset, .unset, .unset, .unset, .unset, .unset, .unset, .unset, .unset] [] := by first | (simp [entryFrame, mkF, argsToLocals, Value.category, maxLocals]; done) | rfl
theorem own_pd5 : parseMethodDescriptor "()V" = some ⟨[], none⟩ := by decide +kernel
theorem own_pd6 : parseMethodDescriptor "(I)I" = some ⟨[.int], some .int⟩ := by decide +kernel
def own_Q_rm0 (Z : State) (p1 : Int32) (p2 : Int32) (p3 : Int32) (p4 : Int32) (p5 : Int32) (h0 : Heap) (n0 : Nat) (v : Option Value) (h : Heap) (L : List Loc) : Prop := v = some (.int 1) ∧ Fr n0 L
set_option maxRecDepth 65536 in
set_option maxHeartbeats 40000000 in
theorem own_rm0 (l : Launch) (Z : State) (a0 : Array Value) (hw : ∀ d ∈ tables_1, d.before a0 Z = true) (ws : List Jvm.Cond) (p1 : Int32) (p2 : Int32) (p3 : Int32) (p4 : Int32) (p5 : Int32) (h0 : Heap) (n0 : Nat) (Z0 : n0 ≤ h0.size) :
    MetFree l x (head1 (Jvm.Cond.code x code maxLocals ret :: ws) room_1) (fun a U => a = #[(.int p1), (.int p2), (.int p3), (.int p4), (.int p5)] ∧ Z.Warmed39 U.vm ∧ U.heap = h0) (fun _ _ _ _ _ => True) (fun _ U o U' => ∃ v L, o = .returned v ∧ own_Q_rm0 Z p1 p2 p3 p4 p5 h0 n0 v U'.heap L ∧ FrameEnd U o U' L 32 512) := by
  refine MetFree.of_bodySF (plainFor_of_name own_pn1) hisR ?_
  intro p e s m args below meth c s₁ Bd hml0 hP hK
  obtain ⟨rfl, hZ, hh⟩ := hP
  have hx := Bd.exec
  have hby := Bd.bytes
  have hret := Bd.returns
  have hlk := Bd.notSynchronized
  have hml : c.maxLocals = 21 := hml0
  have hown : s.vm.findClass "com/example/tapir/tapir/sampling/PathTreePathPinLaw" = some m.cls := findClass_of_methodNamed Bd.named
  have hnm := (name_of_methodNamed Bd.named Bd.method).1
  have X0 : Stand p l e room_1 s m #[(.int p1), (.int p2), (.int p3), (.int p4), (.int p5)] below meth c s₁ [] 0 0 := Stand.of_body Bd
  have e0 : s₁.heap = h0 := by rw [← hh, Bd.state]; rfl
  have N0 := Fr.nil n0
  refine own_Go.cast (own_ef_own_rm0 m p1 p2 p3 p4 p5) ?_
  refine own_step (T' := s₁) (f' := (mkF m 4 #[.val (.int p1), .val (.int p2), .val (.int p3), .val (.int p4), .val (.int p5), .unset, .unset, .unset, .unset, .unset, .unset, .unset, .unset, .unset, .unset, .unset, .unset, .unset, .unset, .unset, .unset] [(.int (p5 &&& (1 : Int32)))])) (fun tt kont => ?_) ?_
  · show Steps p.tables e below (s₁.setTop (mkF m 0 #[.val (.int p1), .val (.int p2), .val (.int p3), .val (.int p4), .val (.int p5), .unset, .unset, .unset, .unset, .unset, .unset, .unset, .unset, .unset, .unset, .unset, .unset, .unset, .unset, .unset, .unset] [])) _
    refine XS.iload X0.here hx rfl (hb hby at_0) rfl ?_
    show Steps p.tables e below (s₁.setTop (mkF m 2 #[.val (.int p1), .val (.int p2), .val (.int p3), .val (.int p4), .val (.int p5), .unset, .unset, .unset, .unset, .unset, .unset, .unset, .unset, .unset, .unset, .unset, .unset, .unset, .unset, .unset, .unset] [(.int p5)])) _
    refine XS.iconst X0.here hx rfl (hb hby at_2) ?_
    show Steps p.tables e below (s₁.setTop (mkF m 3 #[.val (.int p1), .val (.int p2), .val (.int p3), .val (.int p4), .val (.int p5), .unset, .unset, .unset, .unset, .unset, .unset, .unset, .unset, .unset, .unset, .unset, .unset, .unset, .unset, .unset, .unset] [(.int (1 : Int32)), (.int p5)])) _
    refine XS.iand X0.here hx rfl (hb hby at_3) rfl ?_
    exact kont
  obtain ⟨v101, hv101, st102⟩ : ∃ (v101 : Int32), v101 = (if (p5 &&& (1 : Int32)) = (0 : Int32) then (0 : Int32) else (1 : Int32)) ∧ ∀ t, Steps p.tables e below (s₁.setTop (mkF m 12 #[.val (.int p1), .val (.int p2), .val (.int p3), .val (.int p4), .val (.int p5), .unset, .unset, .unset, .unset, .unset, .unset, .unset, .unset, .unset, .unset, .unset, .unset, .unset, .unset, .unset, .unset] [(.int v101)])) t → Steps p.tables e below (s₁.setTop (mkF m 4 #[.val (.int p1), .val (.int p2), .val (.int p3), .val (.int p4), .val (.int p5), .unset, .unset, .unset, .unset, .unset, .unset, .unset, .unset, .unset, .unset, .unset, .unset, .unset, .unset, .unset, .unset] [(.int (p5 &&& (1 : Int32)))])) t := by
    by_cases hc4_0 : (p5 &&& (1 : Int32)) = (0 : Int32)
    · refine ⟨(0 : Int32), (by simp only [if_pos hc4_0]), fun tt kont => ?_⟩
      show Steps p.tables e below (s₁.setTop (mkF m 4 #[.val (.int p1), .val (.int p2), .val (.int p3), .val (.int p4), .val (.int p5), .unset, .unset, .unset, .unset, .unset, .unset, .unset, .unset, .unset, .unset, .unset, .unset, .unset, .unset, .unset, .unset] [(.int (p5 &&& (1 : Int32)))])) _
      refine XS.ifYes X0.here hx rfl (pc0 := 4) (pc' := 11) rfl (hb hby at_4) rfl ((if0 _ _).trans (teq hc4_0).1) (by decide) (by decide) ?_
      show Steps p.tables e below (s₁.setTop (mkF m 11 #[.val (.int p1), .val (.int p2), .val (.int p3), .val (.int p4), .val (.int p5), .unset, .unset, .unset, .unset, .unset, .unset, .unset, .unset, .unset, .unset, .unset, .unset, .unset, .unset, .unset, .unset] [])) _
      refine XS.iconst X0.here hx rfl (hb hby at_11) ?_
      exact kont
    · refine ⟨(1 : Int32), (by simp only [if_neg hc4_0]), fun tt kont => ?_⟩
      show Steps p.tables e below (s₁.setTop (mkF m 4 #[.val (.int p1), .val (.int p2), .val (.int p3), .val (.int p4), .val (.int p5), .unset, .unset, .unset, .unset, .unset, .unset, .unset, .unset, .unset, .unset, .unset, .unset, .unset, .unset, .unset, .unset] [(.int (p5 &&& (1 : Int32)))])) _
      refine XS.ifNo X0.here hx rfl (hb hby at_4) rfl ((if0 _ _).trans (feq hc4_0).1) ?_
      show Steps p.tables e below (s₁.setTop (mkF m 7 #[.val (.int p1), .val (.int p2), .val (.int p3), .val (.int p4), .val (.int p5), .unset, .unset, .unset, .unset, .unset, .unset, .unset, .unset, .unset, .unset, .unset, .unset, .unset, .unset, .unset, .unset] [])) _
      refine XS.iconst X0.here hx rfl (hb hby at_7) ?_
      show Steps p.tables e below (s₁.setTop (mkF m 8 #[.val (.int p1), .val (.int p2), .val (.int p3), .val (.int p4), .val (.int p5), .unset, .unset, .unset, .unset, .unset, .unset, .unset, .unset, .unset, .unset, .unset, .unset, .unset, .unset, .unset, .unset] [(.int (1 : Int32))])) _
      refine XS.goto X0.here hx rfl (pc0 := 8) (pc' := 12) rfl (hb hby at_8) (by decide) (by decide) ?_
      exact kont
  refine own_step st102 ?_
  refine own_step (T' := s₁) (f' := (mkF m 20 #[.val (.int p1), .val (.int p2), .val (.int p3), .val (.int p4), .val (.int p5), .val (.int v101), .unset, .unset, .unset, .unset, .unset, .unset, .unset, .unset, .unset, .unset, .unset, .unset, .unset, .unset, .unset] [(.int (((p5.toUInt32 >>> ((1 : Int32) &&& 31).toUInt32).toInt32) &&& (1 : Int32)))])) (fun tt kont => ?_) ?_
  · show Steps p.tables e below (s₁.setTop (mkF m 12 #[.val (.int p1), .val (.int p2), .val (.int p3), .val (.int p4), .val (.int p5), .unset, .unset, .unset, .unset, .unset, .unset, .unset, .unset, .unset, .unset, .unset, .unset, .unset, .unset, .unset, .unset] [(.int v101)])) _
    refine XS.istore X0.here hx rfl (hb hby at_12) rfl (l' := #[.val (.int p1), .val (.int p2), .val (.int p3), .val (.int p4), .val (.int p5), .val (.int v101), .unset, .unset, .unset, .unset, .unset, .unset, .unset, .unset, .unset, .unset, .unset, .unset, .unset, .unset, .unset]) rfl ?_
    show Steps p.tables e below (s₁.setTop (mkF m 14 #[.val (.int p1), .val (.int p2), .val (.int p3), .val (.int p4), .val (.int p5), .val (.int v101), .unset, .unset, .unset, .unset, .unset, .unset, .unset, .unset, .unset, .unset, .unset, .unset, .unset, .unset, .unset] [])) _
    refine XS.iload X0.here hx rfl (hb hby at_14) rfl ?_
    show Steps p.tables e below (s₁.setTop (mkF m 16 #[.val (.int p1), .val (.int p2), .val (.int p3), .val (.int p4), .val (.int p5), .val (.int v101), .unset, .unset, .unset, .unset, .unset, .unset, .unset, .unset, .unset, .unset, .unset, .unset, .unset, .unset, .unset] [(.int p5)])) _
    refine XS.iconst X0.here hx rfl (hb hby at_16) ?_
    show Steps p.tables e below (s₁.setTop (mkF m 17 #[.val (.int p1), .val (.int p2), .val (.int p3), .val (.int p4), .val (.int p5), .val (.int v101), .unset, .unset, .unset, .unset, .unset, .unset, .unset, .unset, .unset, .unset, .unset, .unset, .unset, .unset, .unset] [(.int (1 : Int32)), (.int p5)])) _
    refine XS.iushr X0.here hx rfl (hb hby at_17) rfl ?_
    show Steps p.tables e below (s₁.setTop (mkF m 18 #[.val (.int p1), .val (.int p2), .val (.int p3), .val (.int p4), .val (.int p5), .val (.int v101), .unset, .unset, .unset, .unset, .unset, .unset, .unset, .unset, .unset, .unset, .unset, .unset, .unset, .unset, .unset] [(.int ((p5.toUInt32 >>> ((1 : Int32) &&& 31).toUInt32).toInt32))])) _
    refine XS.iconst X0.here hx rfl (hb hby at_18) ?_
    show Steps p.tables e below (s₁.setTop (mkF m 19 #[.val (.int p1), .val (.int p2), .val (.int p3), .val (.int p4), .val (.int p5), .val (.int v101), .unset, .unset, .unset, .unset, .unset, .unset, .unset, .unset, .unset, .unset, .unset, .unset, .unset, .unset, .unset] [(.int (1 : Int32)), (.int ((p5.toUInt32 >>> ((1 : Int32) &&& 31).toUInt32).toInt32))])) _
    refine XS.iand X0.here hx rfl (hb hby at_19) rfl ?_
    exact kont
  show own_Go p e below s₁ (mkF m 20 #[.val (.int p1), .val (.int p2), .val (.int p3), .val (.int p4), .val (.int p5), .val (.int v101), .unset, .unset, .unset, .unset, .unset, .unset, .unset, .unset, .unset, .unset, .unset, .unset, .unset, .unset, .unset] [(.int (((p5.toUInt32 >>> ((1 : Int32) &&& 31).toUInt32).toInt32) &&& (1 : Int32)))]) _
  obtain ⟨yB, hyB⟩ : ∃ z : Int32, z = (((p5.toUInt32 >>> ((1 : Int32) &&& 31).toUInt32).toInt32) &&& (1 : Int32)) := ⟨_, rfl⟩
  rw [← hyB]
  refine own_step (T' := s₁) (f' := (mkF m 30 #[.val (.int p1), .val (.int p2), .val (.int p3), .val (.int p4), .val (.int p5), .val (.int v101), .val (.int yB), .unset, .unset, .unset, .unset, .unset, .unset, .unset, .unset, .unset, .unset, .unset, .unset, .unset, .unset] [(.int ((((p5.toUInt32 >>> ((2 : Int32) &&& 31).toUInt32).toInt32) &&& (3 : Int32)) - ((((p5.toUInt32 >>> ((2 : Int32) &&& 31).toUInt32).toInt32) &&& (3 : Int32)) / (3 : Int32)) * (3 : Int32)))])) (fun tt kont => ?_) ?_
  · show Steps p.tables e below (s₁.setTop (mkF m 20 #[.val (.int p1), .val (.int p2), .val (.int p3), .val (.int p4), .val (.int p5), .val (.int v101), .unset, .unset, .unset, .unset, .unset, .unset, .unset, .unset, .unset, .unset, .unset, .unset, .unset, .unset, .unset] [(.int yB)])) _
    refine XS.istore X0.here hx rfl (hb hby at_20) rfl (l' := #[.val (.int p1), .val (.int p2), .val (.int p3), .val (.int p4), .val (.int p5), .val (.int v101), .val (.int yB), .unset, .unset, .unset, .unset, .unset, .unset, .unset, .unset, .unset, .unset, .unset, .unset, .unset, .unset]) rfl ?_
    show Steps p.tables e below (s₁.setTop (mkF m 22 #[.val (.int p1), .val (.int p2), .val (.int p3), .val (.int p4), .val (.int p5), .val (.int v101), .val (.int yB), .unset, .unset, .unset, .unset, .unset, .unset, .unset, .unset, .unset, .unset, .unset, .unset, .unset, .unset] [])) _
    refine XS.iload X0.here hx rfl (hb hby at_22) rfl ?_
    show Steps p.tables e below (s₁.setTop (mkF m 24 #[.val (.int p1), .val (.int p2), .val (.int p3), .val (.int p4), .val (.int p5), .val (.int v101), .val (.int yB), .unset, .unset, .unset, .unset, .unset, .unset, .unset, .unset, .unset, .unset, .unset, .unset, .unset, .unset] [(.int p5)])) _
    refine XS.iconst X0.here hx rfl (hb hby at_24) ?_
    show Steps p.tables e below (s₁.setTop (mkF m 25 #[.val (.int p1), .val (.int p2), .val (.int p3), .val (.int p4), .val (.int p5), .val (.int v101), .val (.int yB), .unset, .unset, .unset, .unset, .unset, .unset, .unset, .unset, .unset, .unset, .unset, .unset, .unset, .unset] [(.int (2 : Int32)), (.int p5)])) _
    refine XS.iushr X0.here hx rfl (hb hby at_25) rfl ?_
    show Steps p.tables e below (s₁.setTop (mkF m 26 #[.val (.int p1), .val (.int p2), .val (.int p3), .val (.int p4), .val (.int p5), .val (.int v101), .val (.int yB), .unset, .unset, .unset, .unset, .unset, .unset, .unset, .unset, .unset, .unset, .unset, .unset, .unset, .unset] [(.int ((p5.toUInt32 >>> ((2 : Int32) &&& 31).toUInt32).toInt32))])) _
    refine XS.iconst X0.here hx rfl (hb hby at_26) ?_
    show Steps p.tables e below (s₁.setTop (mkF m 27 #[.val (.int p1), .val (.int p2), .val (.int p3), .val (.int p4), .val (.int p5), .val (.int v101), .val (.int yB), .unset, .unset, .unset, .unset, .unset, .unset, .unset, .unset, .unset, .unset, .unset, .unset, .unset, .unset] [(.int (3 : Int32)), (.int ((p5.toUInt32 >>> ((2 : Int32) &&& 31).toUInt32).toInt32))])) _
    refine XS.iand X0.here hx rfl (hb hby at_27) rfl ?_
    show Steps p.tables e below (s₁.setTop (mkF m 28 #[.val (.int p1), .val (.int p2), .val (.int p3), .val (.int p4), .val (.int p5), .val (.int v101), .val (.int yB), .unset, .unset, .unset, .unset, .unset, .unset, .unset, .unset, .unset, .unset, .unset, .unset, .unset, .unset] [(.int (((p5.toUInt32 >>> ((2 : Int32) &&& 31).toUInt32).toInt32) &&& (3 : Int32)))])) _
    refine XS.iconst X0.here hx rfl (hb hby at_28) ?_
    show Steps p.tables e below (s₁.setTop (mkF m 29 #[.val (.int p1), .val (.int p2), .val (.int p3), .val (.int p4), .val (.int p5), .val (.int v101), .val (.int yB), .unset, .unset, .unset, .unset, .unset, .unset, .unset, .unset, .unset, .unset, .unset, .unset, .unset, .unset] [(.int (3 : Int32)), (.int (((p5.toUInt32 >>> ((2 : Int32) &&& 31).toUInt32).toInt32) &&& (3 : Int32)))])) _
    refine XS.irem X0.here hx rfl (hb hby at_29) rfl (by decide) ?_
    exact kont
  show own_Go p e below s₁ (mkF m 30 #[.val (.int p1), .val (.int p2), .val (.int p3), .val (.int p4), .val (.int p5), .val (.int v101), .val (.int yB), .unset, .unset, .unset, .unset, .unset, .unset, .unset, .unset, .unset, .unset, .unset, .unset, .unset, .unset] [(.int ((((p5.toUInt32 >>> ((2 : Int32) &&& 31).toUInt32).toInt32) &&& (3 : Int32)) - ((((p5.toUInt32 >>> ((2 : Int32) &&& 31).toUInt32).toInt32) &&& (3 : Int32)) / (3 : Int32)) * (3 : Int32)))]) _
  obtain ⟨yC, hyC⟩ : ∃ z : Int32, z = ((((p5.toUInt32 >>> ((2 : Int32) &&& 31).toUInt32).toInt32) &&& (3 : Int32)) - ((((p5.toUInt32 >>> ((2 : Int32) &&& 31).toUInt32).toInt32) &&& (3 : Int32)) / (3 : Int32)) * (3 : Int32)) := ⟨_, rfl⟩
  rw [← hyC]
  refine own_step (T' := s₁) (f' := (mkF m 32 #[.val (.int p1), .val (.int p2), .val (.int p3), .val (.int p4), .val (.int p5), .val (.int v101), .val (.int yB), .val (.int yC), .unset, .unset, .unset, .unset, .unset, .unset, .unset, .unset, .unset, .unset, .unset, .unset, .unset] [])) (fun tt kont => ?_) ?_
  · show Steps p.tables e below (s₁.setTop (mkF m 30 #[.val (.int p1), .val (.int p2), .val (.int p3), .val (.int p4), .val (.int p5), .val (.int v101), .val (.int yB), .unset, .unset, .unset, .unset, .unset, .unset, .unset, .unset, .unset, .unset, .unset, .unset, .unset, .unset] [(.int yC)])) _
    refine XS.istore X0.here hx rfl (hb hby at_30) rfl (l' := #[.val (.int p1), .val (.int p2), .val (.int p3), .val (.int p4), .val (.int p5), .val (.int v101), .val (.int yB), .val (.int yC), .unset, .unset, .unset, .unset, .unset, .unset, .unset, .unset, .unset, .unset, .unset, .unset, .unset]) rfl ?_
    exact kont
  obtain ⟨T103, h103, X103, e103, E103, A103, D103, -, st103⟩ := newO X0 hx hZ hown (hw _ (List.mem_of_getElem? (i := 0) rfl)) (hw _ (List.mem_of_getElem? (i := 1) rfl)) (hw _ (List.mem_of_getElem? (i := 2) rfl)) e0 (g := (mkF m 32 #[.val (.int p1), .val (.int p2), .val (.int p3), .val (.int p4), .val (.int p5), .val (.int v101), .val (.int yB), .val (.int yC), .unset, .unset, .unset, .unset, .unset, .unset, .unset, .unset, .unset, .unset, .unset, .unset, .unset] [])) rfl (hb hby at_32) (by decide) (by decide)
  obtain ⟨ob, g103⟩ : ∃ z, z = h0.size := ⟨_, rfl⟩
  have g_ob : n0 ≤ ob := Nat.le_trans Z0 (Nat.le_of_eq g103.symm)
  have Z103 : n0 ≤ h103.size := Nat.le_trans Z0 E103.1
  rw [← g103] at A103 D103 st103
  have F_ob_nodeId_103 : Fld Z h103 ob "com/example/tapir/tapir/sampling/PathTree" "nodeId" "[I" .null := D103 (Or.inl (hw _ (List.mem_of_getElem? (i := 11) rfl))) (ty := (.array .int)) (by decide)
  have F_ob_previous_103 : Fld Z h103 ob "com/example/tapir/tapir/sampling/PathTree" "previous" "[I" .null := D103 (Or.inl (hw _ (List.mem_of_getElem? (i := 13) rfl))) (ty := (.array .int)) (by decide)
  have F_ob_length_103 : Fld Z h103 ob "com/example/tapir/tapir/sampling/PathTree" "length" "[I" .null := D103 (Or.inl (hw _ (List.mem_of_getElem? (i := 15) rfl))) (ty := (.array .int)) (by decide)
  have F_ob_size_103 : Fld Z h103 ob "com/example/tapir/tapir/sampling/PathTree" "size" "I" (.int (0 : Int32)) := D103 (Or.inl (hw _ (List.mem_of_getElem? (i := 26) rfl))) (ty := .int) (by decide)
  refine own_step st103 ?_
  refine own_step (T' := T103) (f' := (mkF m 36 #[.val (.int p1), .val (.int p2), .val (.int p3), .val (.int p4), .val (.int p5), .val (.int v101), .val (.int yB), .val (.int yC), .unset, .unset, .unset, .unset, .unset, .unset, .unset, .unset, .unset, .unset, .unset, .unset, .unset] [(.ref ob), (.ref ob)])) (fun tt kont => ?_) ?_
  · show Steps p.tables e below (T103.setTop (mkF m 35 #[.val (.int p1), .val (.int p2), .val (.int p3), .val (.int p4), .val (.int p5), .val (.int v101), .val (.int yB), .val (.int yC), .unset, .unset, .unset, .unset, .unset, .unset, .unset, .unset, .unset, .unset, .unset, .unset, .unset] [(.ref ob)])) _
    refine XS.dup X103.here hx rfl (hb hby at_35) rfl rfl ?_
    exact kont
  obtain ⟨_, _, ⟨T104, L104, k104, n104⟩, -, X104, ⟨Lc104, hQ104, l104, y104, z104⟩, st104⟩ := X103.specialBack hx (y := (⟨"com/example/tapir/tapir/sampling/PathTree", "<init>", "()V"⟩ : MethodName)) rfl hown (mvT hZ (hw _ (List.mem_of_getElem? (i := 3) rfl))) (mvT hZ (hw _ (List.mem_of_getElem? (i := 4) rfl))) (mvT hZ (hw _ (List.mem_of_getElem? (i := 5) rfl))) (by decide) (backOf (W := 1) (own_rmI l Z a0 hw ob h103 n0 Z103 g_ob A103 F_ob_nodeId_103 F_ob_previous_103 F_ob_length_103 F_ob_size_103) hZ (hw _ (List.mem_of_getElem? (i := 5) rfl)) (hw _ (List.mem_of_getElem? (i := 2) rfl)) (by decide) (by decide)) (g := (mkF m 36 #[.val (.int p1), .val (.int p2), .val (.int p3), .val (.int p4), .val (.int p5), .val (.int v101), .val (.int yB), .val (.int yC), .unset, .unset, .unset, .unset, .unset, .unset, .unset, .unset, .unset, .unset, .unset, .unset, .unset] [(.ref ob), (.ref ob)])) rfl (by rw [hml]; rfl) (Steps.refl _) (a := ob) (argsL := []) (rest := [(.ref ob)]) (lenOf own_pd5 rfl) rfl (by show 2 * 0 + _ ≤ _; exact Nat.le_of_eq rfl) (hb hby at_36) (fun _ _ => ⟨rfl, e103, (by decide : 1 + 3 ≤ _), (by decide : 4 + 192 ≤ _)⟩)
  dsimp only [Pt.U, Pt.locs, Pt.cells, Pt.slots] at X104 l104 y104 z104 st104 hQ104
  subst l104 y104 z104
  obtain ⟨rfl, N104q, SZ104, PT104⟩ := hQ104
  have N104 := Fr.app N0 N104q
  refine own_step (fun tt kont => st104.trans kont) ?_
  refine own_step (T' := T104) (f' := (mkF m 44 #[.val (.int p1), .val (.int p2), .val (.int p3), .val (.int p4), .val (.int p5), .val (.int v101), .val (.int yB), .val (.int yC), .val (.ref ob), .unset, .unset, .unset, .unset, .unset, .unset, .unset, .unset, .unset, .unset, .unset, .unset] [(.int p1), (.ref ob)])) (fun tt kont => ?_) ?_
  · show Steps p.tables e below (T104.setTop (mkF m 39 #[.val (.int p1), .val (.int p2), .val (.int p3), .val (.int p4), .val (.int p5), .val (.int v101), .val (.int yB), .val (.int yC), .unset, .unset, .unset, .unset, .unset, .unset, .unset, .unset, .unset, .unset, .unset, .unset, .unset] [(.ref ob)])) _
    refine XS.astore X104.here hx rfl (hb hby at_39) rfl rfl (l' := #[.val (.int p1), .val (.int p2), .val (.int p3), .val (.int p4), .val (.int p5), .val (.int v101), .val (.int yB), .val (.int yC), .val (.ref ob), .unset, .unset, .unset, .unset, .unset, .unset, .unset, .unset, .unset, .unset, .unset, .unset]) rfl ?_
    show Steps p.tables e below (T104.setTop (mkF m 41 #[.val (.int p1), .val (.int p2), .val (.int p3), .val (.int p4), .val (.int p5), .val (.int v101), .val (.int yB), .val (.int yC), .val (.ref ob), .unset, .unset, .unset, .unset, .unset, .unset, .unset, .unset, .unset, .unset, .unset, .unset] [])) _
    refine XS.aload X104.here hx rfl (hb hby at_41) rfl rfl ?_
    show Steps p.tables e below (T104.setTop (mkF m 43 #[.val (.int p1), .val (.int p2), .val (.int p3), .val (.int p4), .val (.int p5), .val (.int v101), .val (.int yB), .val (.int yC), .val (.ref ob), .unset, .unset, .unset, .unset, .unset, .unset, .unset, .unset, .unset, .unset, .unset, .unset] [(.ref ob)])) _
    refine XS.iloadN X104.here hx rfl (hb hby at_43) rfl ?_
    exact kont
  obtain ⟨cq105, kq105, q105a, q105b, q105c⟩ := isOf hZ rfl (PT104.exa)
  obtain ⟨_, _, ⟨T105, L105, k105, n105⟩, -, X105, ⟨Lc105, hQ105, l105, y105, z105⟩, st105⟩ := X104.virtualBack hx (y := (⟨"com/example/tapir/tapir/sampling/PathTree", "addRoot", "(I)I"⟩ : MethodName)) (z := (⟨"com/example/tapir/tapir/sampling/PathTree", "addRoot", "(I)I"⟩ : MethodName)) hown (mvT hZ (hw _ (List.mem_of_getElem? (i := 16) rfl))) (mvT hZ (hw _ (List.mem_of_getElem? (i := 17) rfl))) (notFace_of_selects (args := #[]) (mvT hZ (hw _ (List.mem_of_getElem? (i := 19) rfl)))) (mvT hZ (hw _ (List.mem_of_getElem? (i := 19) rfl))) (mvT hZ (hw _ (List.mem_of_getElem? (i := 18) rfl))) (by decide) (backOf (W := 0) (own_rmR l Z a0 hw ob p1 0 (fun _ => []) T104.heap n0 SZ104 PT104 (by decide)) hZ (hw _ (List.mem_of_getElem? (i := 20) rfl)) (hw _ (List.mem_of_getElem? (i := 2) rfl)) (by decide) (by decide)) q105a q105c (g := (mkF m 44 #[.val (.int p1), .val (.int p2), .val (.int p3), .val (.int p4), .val (.int p5), .val (.int v101), .val (.int yB), .val (.int yC), .val (.ref ob), .unset, .unset, .unset, .unset, .unset, .unset, .unset, .unset, .unset, .unset, .unset, .unset] [(.int p1), (.ref ob)])) rfl (by rw [hml]; rfl) (Steps.refl _) (argsL := [(.int p1)]) (rest := []) (lenOf own_pd6 rfl) rfl (by show 2 * 0 + _ ≤ _; exact Nat.le_of_eq rfl) (hb hby at_44) (fun _ _ => ⟨rfl, rfl, (by decide : 4 + 0 ≤ _), (by decide : 196 + 0 ≤ _)⟩)
  dsimp only [Pt.U, Pt.locs, Pt.cells, Pt.slots] at X105 l105 y105 z105 st105 hQ105
  subst l105 y105 z105
  obtain ⟨r105, rfl, hr105, N105q, SZ105, PT105⟩ := hQ105
  have N105 := Fr.app N104 N105q
  refine own_step (fun tt kont => st105.trans kont) ?_
  obtain rfl : r105 = (0 : Int32) := own_at_eq hr105 (own_at_lit rfl (by decide))
  refine own_step (T' := T105) (f' := (mkF m 51 #[.val (.int p1), .val (.int p2), .val (.int p3), .val (.int p4), .val (.int p5), .val (.int v101), .val (.int yB), .val (.int yC), .val (.ref ob), .val (.int (0 : Int32)), .unset, .unset, .unset, .unset, .unset, .unset, .unset, .unset, .unset, .unset, .unset] [(.int v101)])) (fun tt kont => ?_) ?_
  · show Steps p.tables e below (T105.setTop (mkF m 47 #[.val (.int p1), .val (.int p2), .val (.int p3), .val (.int p4), .val (.int p5), .val (.int v101), .val (.int yB), .val (.int yC), .val (.ref ob), .unset, .unset, .unset, .unset, .unset, .unset, .unset, .unset, .unset, .unset, .unset, .unset] [(.int (0 : Int32))])) _
    refine XS.istore X105.here hx rfl (hb hby at_47) rfl (l' := #[.val (.int p1), .val (.int p2), .val (.int p3), .val (.int p4), .val (.int p5), .val (.int v101), .val (.int yB), .val (.int yC), .val (.ref ob), .val (.int (0 : Int32)), .unset, .unset, .unset, .unset, .unset, .unset, .unset, .unset, .unset, .unset, .unset]) rfl ?_
    show Steps p.tables e below (T105.setTop (mkF m 49 #[.val (.int p1), .val (.int p2), .val (.int p3), .val (.int p4), .val (.int p5), .val (.int v101), .val (.int yB), .val (.int yC), .val (.ref ob), .val (.int (0 : Int32)), .unset, .unset, .unset, .unset, .unset, .unset, .unset, .unset, .unset, .unset, .unset] [])) _
    refine XS.iload X105.here hx rfl (hb hby at_49) rfl ?_
    exact kont
  by_cases hc51_3 : v101 = (0 : Int32)
  · refine own_step (T' := T105) (f' := (mkF m 68 #[.val (.int p1), .val (.int p2), .val (.int p3), .val (.int p4), .val (.int p5), .val (.int v101), .val (.int yB), .val (.int yC), .val (.ref ob), .val (.int (0 : Int32)), .unset, .unset, .unset, .unset, .unset, .unset, .unset, .unset, .unset, .unset, .unset] [(.int p2), (.int (0 : Int32)), (.ref ob)])) (fun tt kont => ?_) ?_
    · show Steps p.tables e below (T105.setTop (mkF m 51 #[.val (.int p1), .val (.int p2), .val (.int p3), .val (.int p4), .val (.int p5), .val (.int v101), .val (.int yB), .val (.int yC), .val (.ref ob), .val (.int (0 : Int32)), .unset, .unset, .unset, .unset, .unset, .unset, .unset, .unset, .unset, .unset, .unset] [(.int v101)])) _
      refine XS.ifYes X105.here hx rfl (pc0 := 51) (pc' := 63) rfl (hb hby at_51) rfl ((if0 _ _).trans (teq hc51_3).1) (by decide) (by decide) ?_
      show Steps p.tables e below (T105.setTop (mkF m 63 #[.val (.int p1), .val (.int p2), .val (.int p3), .val (.int p4), .val (.int p5), .val (.int v101), .val (.int yB), .val (.int yC), .val (.ref ob), .val (.int (0 : Int32)), .unset, .unset, .unset, .unset, .unset, .unset, .unset, .unset, .unset, .unset, .unset] [])) _
      refine XS.aload X105.here hx rfl (hb hby at_63) rfl rfl ?_
      show Steps p.tables e below (T105.setTop (mkF m 65 #[.val (.int p1), .val (.int p2), .val (.int p3), .val (.int p4), .val (.int p5), .val (.int v101), .val (.int yB), .val (.int yC), .val (.ref ob), .val (.int (0 : Int32)), .unset, .unset, .unset, .unset, .unset, .unset, .unset, .unset, .unset, .unset, .unset] [(.ref ob)])) _
      refine XS.iload X105.here hx rfl (hb hby at_65) rfl ?_
      show Steps p.tables e below (T105.setTop (mkF m 67 #[.val (.int p1), .val (.int p2), .val (.int p3), .val (.int p4), .val (.int p5), .val (.int v101), .val (.int yB), .val (.int yC), .val (.ref ob), .val (.int (0 : Int32)), .unset, .unset, .unset, .unset, .unset, .unset, .unset, .unset, .unset, .unset, .unset] [(.int (0 : Int32)), (.ref ob)])) _
      refine XS.iloadN X105.here hx rfl (hb hby at_67) rfl ?_
      exact kont
    obtain ⟨cq106, kq106, q106a, q106b, q106c⟩ := isOf hZ rfl (PT105.exa)
    obtain ⟨_, _, ⟨T106, L106, k106, n106⟩, -, X106, ⟨Lc106, hQ106, l106, y106, z106⟩, st106⟩ := X105.virtualBack hx (y := (⟨"com/example/tapir/tapir/sampling/PathTree", "addAfter", "(II)I"⟩ : MethodName)) (z := (⟨"com/example/tapir/tapir/sampling/PathTree", "addAfter", "(II)I"⟩ : MethodName)) hown (mvT hZ (hw _ (List.mem_of_getElem? (i := 27) rfl))) (mvT hZ (hw _ (List.mem_of_getElem? (i := 28) rfl))) (notFace_of_selects (args := #[]) (mvT hZ (hw _ (List.mem_of_getElem? (i := 30) rfl)))) (mvT hZ (hw _ (List.mem_of_getElem? (i := 30) rfl))) (mvT hZ (hw _ (List.mem_of_getElem? (i := 29) rfl))) (by decide) (backOf (W := 0) (own_rmF l Z a0 hw ob (0 : Int32) p2 1 0 (own_updL (fun _ => []) 0 [p1]) T105.heap n0 SZ105 PT105 (by decide) (own_at_lit rfl (by decide)) (by decide) (Nat.le_of_ble_eq_true rfl)) hZ (hw _ (List.mem_of_getElem? (i := 31) rfl)) (hw _ (List.mem_of_getElem? (i := 2) rfl)) (by decide) (by decide)) q106a q106c (g := (mkF m 68 #[.val (.int p1), .val (.int p2), .val (.int p3), .val (.int p4), .val (.int p5), .val (.int v101), .val (.int yB), .val (.int yC), .val (.ref ob), .val (.int (0 : Int32)), .unset, .unset, .unset, .unset, .unset, .unset, .unset, .unset, .unset, .unset, .unset] [(.int p2), (.int (0 : Int32)), (.ref ob)])) rfl (by rw [hml]; rfl) (Steps.refl _) (argsL := [(.int (0 : Int32)), (.int p2)]) (rest := []) (lenOf own_pd4 rfl) rfl (by show 2 * 0 + _ ≤ _; exact Nat.le_of_eq rfl) (hb hby at_68) (fun _ _ => ⟨rfl, rfl, (by decide : 4 + 0 ≤ _), (by decide : 196 + 0 ≤ _)⟩)
    dsimp only [Pt.U, Pt.locs, Pt.cells, Pt.slots] at X106 l106 y106 z106 st106 hQ106
    subst l106 y106 z106
    obtain ⟨r106, rfl, hr106, N106q, SZ106, PT106⟩ := hQ106
    have N106 := Fr.app N105 N106q
    refine own_step (fun tt kont => st106.trans kont) ?_
    obtain rfl : r106 = (1 : Int32) := own_at_eq hr106 (own_at_lit rfl (by decide))
    exact own_s71 X106 hx hZ hw hby hret hlk hml hown rfl N106 SZ106 PT106 rfl ⟨fun q => absurd hc51_3 q, fun q => rfl⟩ (Nat.le_of_ble_eq_true rfl) (Nat.le_of_ble_eq_true rfl)
  · refine own_step (T' := T105) (f' := (mkF m 57 #[.val (.int p1), .val (.int p2), .val (.int p3), .val (.int p4), .val (.int p5), .val (.int v101), .val (.int yB), .val (.int yC), .val (.ref ob), .val (.int (0 : Int32)), .unset, .unset, .unset, .unset, .unset, .unset, .unset, .unset, .unset, .unset, .unset] [(.int p2), (.ref ob)])) (fun tt kont => ?_) ?_
    · show Steps p.tables e below (T105.setTop (mkF m 51 #[.val (.int p1), .val (.int p2), .val (.int p3), .val (.int p4), .val (.int p5), .val (.int v101), .val (.int yB), .val (.int yC), .val (.ref ob), .val (.int (0 : Int32)), .unset, .unset, .unset, .unset, .unset, .unset, .unset, .unset, .unset, .unset, .unset] [(.int v101)])) _
      refine XS.ifNo X105.here hx rfl (hb hby at_51) rfl ((if0 _ _).trans (feq hc51_3).1) ?_
      show Steps p.tables e below (T105.setTop (mkF m 54 #[.val (.int p1), .val (.int p2), .val (.int p3), .val (.int p4), .val (.int p5), .val (.int v101), .val (.int yB), .val (.int yC), .val (.ref ob), .val (.int (0 : Int32)), .unset, .unset, .unset, .unset, .unset, .unset, .unset, .unset, .unset, .unset, .unset] [])) _
      refine XS.aload X105.here hx rfl (hb hby at_54) rfl rfl ?_
      show Steps p.tables e below (T105.setTop (mkF m 56 #[.val (.int p1), .val (.int p2), .val (.int p3), .val (.int p4), .val (.int p5), .val (.int v101), .val (.int yB), .val (.int yC), .val (.ref ob), .val (.int (0 : Int32)), .unset, .unset, .unset, .unset, .unset, .unset, .unset, .unset, .unset, .unset, .unset] [(.ref ob)])) _
      refine XS.iloadN X105.here hx rfl (hb hby at_56) rfl ?_
      exact kont
    obtain ⟨cq107, kq107, q107a, q107b, q107c⟩ := isOf hZ rfl (PT105.exa)
    obtain ⟨_, _, ⟨T107, L107, k107, n107⟩, -, X107, ⟨Lc107, hQ107, l107, y107, z107⟩, st107⟩ := X105.virtualBack hx (y := (⟨"com/example/tapir/tapir/sampling/PathTree", "addRoot", "(I)I"⟩ : MethodName)) (z := (⟨"com/example/tapir/tapir/sampling/PathTree", "addRoot", "(I)I"⟩ : MethodName)) hown (mvT hZ (hw _ (List.mem_of_getElem? (i := 16) rfl))) (mvT hZ (hw _ (List.mem_of_getElem? (i := 17) rfl))) (notFace_of_selects (args := #[]) (mvT hZ (hw _ (List.mem_of_getElem? (i := 19) rfl)))) (mvT hZ (hw _ (List.mem_of_getElem? (i := 19) rfl))) (mvT hZ (hw _ (List.mem_of_getElem? (i := 18) rfl))) (by decide) (backOf (W := 0) (own_rmR l Z a0 hw ob p2 1 (own_updL (fun _ => []) 0 [p1]) T105.heap n0 SZ105 PT105 (by decide)) hZ (hw _ (List.mem_of_getElem? (i := 20) rfl)) (hw _ (List.mem_of_getElem? (i := 2) rfl)) (by decide) (by decide)) q107a q107c (g := (mkF m 57 #[.val (.int p1), .val (.int p2), .val (.int p3), .val (.int p4), .val (.int p5), .val (.int v101), .val (.int yB), .val (.int yC), .val (.ref ob), .val (.int (0 : Int32)), .unset, .unset, .unset, .unset, .unset, .unset, .unset, .unset, .unset, .unset, .unset] [(.int p2), (.ref ob)])) rfl (by rw [hml]; rfl) (Steps.refl _) (argsL := [(.int p2)]) (rest := []) (lenOf own_pd6 rfl) rfl (by show 2 * 0 + _ ≤ _; exact Nat.le_of_eq rfl) (hb hby at_57) (fun _ _ => ⟨rfl, rfl, (by decide : 4 + 0 ≤ _), (by decide : 196 + 0 ≤ _)⟩)
    dsimp only [Pt.U, Pt.locs, Pt.cells, Pt.slots] at X107 l107 y107 z107 st107 hQ107
    subst l107 y107 z107
    obtain ⟨r107, rfl, hr107, N107q, SZ107, PT107⟩ := hQ107
    have N107 := Fr.app N105 N107q
    refine own_step (fun tt kont => st107.trans kont) ?_
    obtain rfl : r107 = (1 : Int32) := own_at_eq hr107 (own_at_lit rfl (by decide))
    refine own_step (T' := T107) (f' := (mkF m 71 #[.val (.int p1), .val (.int p2), .val (.int p3), .val (.int p4), .val (.int p5), .val (.int v101), .val (.int yB), .val (.int yC), .val (.ref ob), .val (.int (0 : Int32)), .unset, .unset, .unset, .unset, .unset, .unset, .unset, .unset, .unset, .unset, .unset] [(.int (1 : Int32))])) (fun tt kont => ?_) ?_
    · show Steps p.tables e below (T107.setTop (mkF m 60 #[.val (.int p1), .val (.int p2), .val (.int p3), .val (.int p4), .val (.int p5), .val (.int v101), .val (.int yB), .val (.int yC), .val (.ref ob), .val (.int (0 : Int32)), .unset, .unset, .unset, .unset, .unset, .unset, .unset, .unset, .unset, .unset, .unset] [(.int (1 : Int32))])) _
      refine XS.goto X107.here hx rfl (pc0 := 60) (pc' := 71) rfl (hb hby at_60) (by decide) (by decide) ?_
      exact kont
    exact own_s71 X107 hx hZ hw hby hret hlk hml hown rfl N107 SZ107 PT107 rfl ⟨fun q => rfl, fun q => absurd q hc51_3⟩ (Nat.le_of_ble_eq_true rfl) (Nat.le_of_ble_eq_true rfl)
set_option maxRecDepth 65536 in
set_option maxHeartbeats 40000000 in
theorem comes_1 {Post : Tables → Env → Array Value → State → Outcome → State → Prop} (hpost : ∀ tb e args s v u, (limb_1_1.after args s (.returned v) u = true ∧ limb_1_2.after args s (.returned v) u = true ∧ True) → FrameEnd s (.returned v) u (Jvm.fieldLocs frame_1_writes args s ++ Jvm.arrayLocs frame_1_arrays args s ++ Jvm.staticLocs frame_1_statics s) 32 512 → Post tb e args s (.returned v) u) :
    ArmFor flags0 classFile x code maxLocals ret World_1 tables_1 room_1 Calls_1 rest_1 Pre_1 Post := by
  intro l hfl _ _ p e ha hc hk s m args below hf hA hF happ hP
  obtain ⟨hcalls, hrest, hpre⟩ := hP
  obtain ⟨-, -, -, hnamed, -, -, -, hat⟩ := (Spec.applies_iff hf).mp happ
  obtain ⟨hg, hn⟩ := and_e (Cond.before_iff.mp (show (Jvm.Cond.and given_1 narrow_1).before args s = true from hpre))
  obtain ⟨g1, g2⟩ := and_e hg
  obtain ⟨ga0, gb0⟩ := and_e g2
  obtain ⟨ga1, gb1⟩ := and_e gb0
  obtain ⟨ga2, gb2⟩ := and_e gb1
  obtain ⟨ga3, gb3⟩ := and_e gb2
  obtain ⟨w0, w1, w2, w3, w4, rfl⟩ : ∃ w0 w1 w2 w3 w4 : Value, args = #[w0, w1, w2, w3, w4] := by
    have hs : args.size = 5 := by simpa [Cond.value, given_1] using g1
    obtain ⟨L⟩ := args
    match L, hs with
    | [w0, w1, w2, w3, w4], _ => exact ⟨w0, w1, w2, w3, w4, rfl⟩
  have hw := fun d (hd : d ∈ tables_1) => atoms_spec (ws := Jvm.Cond.code x code maxLocals ret :: tables_1) hat d (List.mem_cons_of_mem _ hd)
  obtain ⟨i0, ei0⟩ := is_v ga0
  obtain rfl : w0 = (.int i0) := Option.some.inj ei0
  obtain ⟨i1, ei1⟩ := is_v ga1
  obtain rfl : w1 = (.int i1) := Option.some.inj ei1
  obtain ⟨i2, ei2⟩ := is_v ga2
  obtain rfl : w2 = (.int i2) := Option.some.inj ei2
  obtain ⟨i3, ei3⟩ := is_v ga3
  obtain rfl : w3 = (.int i3) := Option.some.inj ei3
  obtain ⟨i4, ei4⟩ := is_v gb3
  obtain rfl : w4 = (.int i4) := Option.some.inj ei4
  obtain ⟨n, o, h1, h2, h3, _, L, rfl, ⟨rfl, N⟩, hq⟩ := own_rm0 l s _ hw tables_1 i0 i1 i2 i3 i4 s.heap s.heap.size (Nat.le_refl _) p e ha hc hk s m _ below hf ((Spec.applies_iff_loose hf).mp happ).1 ⟨rfl, State.Warmed39.refl s, rfl⟩ trivial
  refine ⟨n, _, h1, h2, h3, hpost _ _ _ _ _ _ ⟨Cond.after_iff.mpr rfl, Cond.after_iff.mpr (eq_i res_at (Term.int_eval (1)) rfl), trivial⟩ ⟨hq.1, hq.2.1, (hq.2.2.sift fun y hy => Or.inr (N y hy)).mono (by decide) (by decide)⟩⟩
theorem main_1_1 : Claimed_1_1 := comes_1 fun _ _ _ _ _ _ h hF => ⟨h.1, hF⟩
theorem main_1_2 : Claimed_1_2 := comes_1 fun _ _ _ _ _ _ h hF => ⟨h.2.1, hF⟩
end Jvm.Pilot.@@N@@
namespace Jvm.Pilot.@@N@@
open Jvm Jvm.ClassFile Sem Op Lib Jvm.Free Jvm.Stand Jvm.Pilot.@@N@@.Jvm.D
/-! MADE BY PROGRAM (witnessworld.py) out of the Statement's table words and the real class files: 9 classes; the members and pool entries that the words name. The judged class is class 1, her method 1. -/
namespace start1
open Jvm.ClassFile
def u (s : String) : CpInfo := .utf8 (stringToUtf16 s)
/-- a pool by its gaps: so many unusable entries, then the entry; so many at the end -/
def gap : Nat → List CpInfo → List CpInfo
  | 0, r => r
  | n + 1, r => .unusable :: gap n r
def poolList (es : List (Nat × CpInfo)) (last : Nat) : List CpInfo := es.foldr (fun e r => gap e.1 (e.2 :: r)) (gap last [])
def pool (es : List (Nat × CpInfo)) (last : Nat) : Array CpInfo := ⟨poolList es last⟩
def fileOf (pool : Array CpInfo) (this : Nat) (attrs : Array Attribute := #[]) (ms : Array MethodInfo := #[]) (fl : Nat := 33) (sup : Nat := 0) (ifs : Array Nat := #[]) (fds : Array FieldInfo := #[]) : ClassFile where
  minorVersion := 0
  majorVersion := 65
  constantPool := pool
  accessFlags := fl
  thisClass := this
  superClass := sup
  interfaces := ifs
  fields := fds
  methods := ms
  attributes := attrs
def plain (name : String) (sup : Option ClassId) : Class where
  name := name
  kind := .ordinary
  loader := none
  accessFlags := 33
  super := sup
  interfaces := #[]
  cf := none
  fields := #[]
  methods := #[]
  instanceTypes := #[]
  staticTypes := #[]
  resolved := #[]
  callSites := []
  init := .initialized
  statics := none
  mirror := none

def pool0 : Array CpInfo := pool [(5, u "<init>"), (0, u "()V"), (1, .class_ 10), (1, u "java/lang/Object")] 113

def k0c0 : Code := { maxStack := 0, maxLocals := 1, code := object_method_1_code, exceptionTable := #[], attributes := #[] }
def k0m0 : Method := { name := "<init>", desc := "()V", sig := { parameters := [], returnType := none }, accessFlags := 1, code := some k0c0 }
/-- java/lang/Object -/
def k0 : Class := { plain "java/lang/Object" none with
  accessFlags := 33
  interfaces := #[]
  cf := some (fileOf pool0 8 #[] #[{ accessFlags := 1, nameIndex := 5, descriptorIndex := 6, attributes := #[] }] 33 0 #[] #[])
  fields := #[]
  methods := #[k0m0]
  instanceTypes := #[]
  staticTypes := #[]
  resolved := Array.replicate 124 none
  statics := none }

def pool1 : Array CpInfo := pool [(2, .class_ 4), (0, .nameAndType 5 6), (0, u "java/lang/Object"), (0, u "<init>"), (0, u "()V"), (0, .class_ 8), (0, u "com/example/tapir/tapir/sampling/PathTree"), (0, .methodref 7 3), (0, .methodref 7 11), (0, .nameAndType 12 13), (0, u "addRoot"), (0, u "(I)I"), (0, .methodref 7 15), (0, .nameAndType 16 17), (0, u "addAfter"), (0, u "(II)I"), (0, .methodref 19 20), (0, .class_ 21), (0, .nameAndType 22 23), (0, u "com/example/tapir/tapir/sampling/PathTreePathPinLaw"), (0, u "ext"), (0, u "([III)[I"), (0, .methodref 7 25), (0, .nameAndType 26 27), (0, u "path"), (0, u "(I)[I"), (0, .methodref 19 29), (0, .nameAndType 30 31), (0, u "same"), (0, u "([I[II)Z"), (2, u "law"), (0, u "(IIIII)Z")] 5

def k1m0 : Method := { name := "<init>", desc := "()V", sig := { parameters := [], returnType := none }, accessFlags := 1, code := none }
def k1c1 : Code := { maxStack := 4, maxLocals := 21, code := code, exceptionTable := #[], attributes := #[] }
def k1m1 : Method := { name := "law", desc := "(IIIII)Z", sig := { parameters := [.int, .int, .int, .int, .int], returnType := some .boolean }, accessFlags := 9, code := some k1c1 }
def k1c2 : Code := { maxStack := 5, maxLocals := 4, code := method_3_code, exceptionTable := #[], attributes := #[] }
def k1m2 : Method := { name := "ext", desc := "([III)[I", sig := { parameters := [(.array .int), .int, .int], returnType := some (.array .int) }, accessFlags := 10, code := some k1c2 }
def k1c3 : Code := { maxStack := 3, maxLocals := 3, code := method_4_code, exceptionTable := #[], attributes := #[] }
def k1m3 : Method := { name := "same", desc := "([I[II)Z", sig := { parameters := [(.array .int), (.array .int), .int], returnType := some .boolean }, accessFlags := 10, code := some k1c3 }
/-- com/example/tapir/tapir/sampling/PathTreePathPinLaw -/
def k1 : Class := { plain "com/example/tapir/tapir/sampling/PathTreePathPinLaw" (some 0) with
  accessFlags := 49
  interfaces := #[]
  cf := some (fileOf pool1 19 #[] #[{ accessFlags := 1, nameIndex := 5, descriptorIndex := 6, attributes := #[] }, { accessFlags := 9, nameIndex := 34, descriptorIndex := 35, attributes := #[] }, { accessFlags := 10, nameIndex := 22, descriptorIndex := 23, attributes := #[] }, { accessFlags := 10, nameIndex := 30, descriptorIndex := 31, attributes := #[] }] 49 2 #[] #[])
  fields := #[]
  methods := #[k1m0, k1m1, k1m2, k1m3]
  instanceTypes := #[]
  staticTypes := #[]
  resolved := Array.replicate 41 none
  statics := none }

def pool2 : Array CpInfo := pool [(1, .methodref 2 3), (0, .class_ 4), (0, .nameAndType 5 6), (0, u "java/lang/Object"), (0, u "<init>"), (0, u "()V"), (0, .fieldref 8 9), (0, .class_ 10), (0, .nameAndType 11 12), (0, u "com/example/tapir/tapir/sampling/PathTree"), (0, u "nodeId"), (0, u "[I"), (0, .fieldref 8 14), (0, .nameAndType 15 12), (0, u "previous"), (0, .fieldref 8 17), (0, .nameAndType 18 12), (0, u "length"), (0, .methodref 8 20), (0, .nameAndType 21 22), (0, u "add"), (0, u "(III)I"), (0, .fieldref 8 24), (0, .nameAndType 25 26), (0, u "size"), (0, u "I"), (5, u "(II)I"), (6, u "NONE"), (4, u "addRoot"), (0, u "(I)I"), (0, u "addAfter"), (0, u "path"), (0, u "(I)[I")] 4

def k2c0 : Code := { maxStack := 2, maxLocals := 1, code := prog_49_method_1_code, exceptionTable := #[], attributes := #[] }
def k2m0 : Method := { name := "<init>", desc := "()V", sig := { parameters := [], returnType := none }, accessFlags := 0, code := some k2c0 }
def k2c1 : Code := { maxStack := 4, maxLocals := 2, code := prog_49_method_2_code, exceptionTable := #[], attributes := #[] }
def k2m1 : Method := { name := "addRoot", desc := "(I)I", sig := { parameters := [.int], returnType := some .int }, accessFlags := 0, code := some k2c1 }
def k2c2 : Code := { maxStack := 5, maxLocals := 3, code := prog_49_method_3_code, exceptionTable := #[], attributes := #[] }
def k2m2 : Method := { name := "addAfter", desc := "(II)I", sig := { parameters := [.int, .int], returnType := some .int }, accessFlags := 0, code := some k2c2 }
def k2c3 : Code := { maxStack := 4, maxLocals := 5, code := prog_49_method_5_code, exceptionTable := #[], attributes := #[] }
def k2m3 : Method := { name := "path", desc := "(I)[I", sig := { parameters := [.int], returnType := some (.array .int) }, accessFlags := 0, code := some k2c3 }
def k2c4 : Code := { maxStack := 4, maxLocals := 5, code := prog_49_method_6_code, exceptionTable := #[], attributes := #[] }
def k2m4 : Method := { name := "add", desc := "(III)I", sig := { parameters := [.int, .int, .int], returnType := some .int }, accessFlags := 2, code := some k2c4 }
/-- com/example/tapir/tapir/sampling/PathTree -/
def k2 : Class := { plain "com/example/tapir/tapir/sampling/PathTree" (some 0) with
  accessFlags := 48
  interfaces := #[]
  cf := some (fileOf pool2 8 #[] #[{ accessFlags := 0, nameIndex := 5, descriptorIndex := 6, attributes := #[] }, { accessFlags := 0, nameIndex := 44, descriptorIndex := 45, attributes := #[] }, { accessFlags := 0, nameIndex := 46, descriptorIndex := 32, attributes := #[] }, { accessFlags := 0, nameIndex := 47, descriptorIndex := 48, attributes := #[] }, { accessFlags := 2, nameIndex := 21, descriptorIndex := 22, attributes := #[] }] 48 2 #[] #[{ accessFlags := 26, nameIndex := 39, descriptorIndex := 26, attributes := #[] }, { accessFlags := 2, nameIndex := 11, descriptorIndex := 12, attributes := #[] }, { accessFlags := 2, nameIndex := 15, descriptorIndex := 12, attributes := #[] }, { accessFlags := 2, nameIndex := 18, descriptorIndex := 12, attributes := #[] }, { accessFlags := 2, nameIndex := 25, descriptorIndex := 26, attributes := #[] }])
  fields := #[{ name := "NONE", type := .int, accessFlags := 26, slot := 0, constantValue := 0 }, { name := "nodeId", type := (.array .int), accessFlags := 2, slot := 0, constantValue := 0 }, { name := "previous", type := (.array .int), accessFlags := 2, slot := 1, constantValue := 0 }, { name := "length", type := (.array .int), accessFlags := 2, slot := 2, constantValue := 0 }, { name := "size", type := .int, accessFlags := 2, slot := 3, constantValue := 0 }]
  methods := #[k2m0, k2m1, k2m2, k2m3, k2m4]
  instanceTypes := #[(.array .int), (.array .int), (.array .int), .int]
  staticTypes := #[.int]
  resolved := Array.replicate 53 none
  statics := none }

def pool3 : Array CpInfo := pool [(1, u "java/lang/Cloneable"), (0, .class_ 1), (0, u "java/lang/Object"), (0, .class_ 3)] 3

/-- java/lang/Cloneable -/
def k3 : Class := { plain "java/lang/Cloneable" (some 0) with
  accessFlags := 1537
  interfaces := #[]
  cf := some (fileOf pool3 2 #[] #[] 1537 4 #[] #[])
  fields := #[]
  methods := #[]
  instanceTypes := #[]
  staticTypes := #[]
  resolved := Array.replicate 8 none
  statics := none }

def pool4 : Array CpInfo := pool [(1, u "java/io/Serializable"), (0, .class_ 1), (0, u "java/lang/Object"), (0, .class_ 3)] 3

/-- java/io/Serializable -/
def k4 : Class := { plain "java/io/Serializable" (some 0) with
  accessFlags := 1537
  interfaces := #[]
  cf := some (fileOf pool4 2 #[] #[] 1537 4 #[] #[])
  fields := #[]
  methods := #[]
  instanceTypes := #[]
  staticTypes := #[]
  resolved := Array.replicate 8 none
  statics := none }

/-- the primitive byte -/
def k5 : Class := { plain "byte" none with kind := .primitive 'B', accessFlags := 0x411 }
/-- [B -/
def k6 : Class := { plain "[B" (some 0) with kind := .array 5 .byte, interfaces := #[3, 4], accessFlags := 1041 }

/-- the primitive int -/
def k7 : Class := { plain "int" none with kind := .primitive 'I', accessFlags := 0x411 }
/-- [I -/
def k8 : Class := { plain "[I" (some 0) with kind := .array 7 .int, interfaces := #[3, 4], accessFlags := 1041 }

def heap : Heap := #[]
def classes : Array Class := #[k0, k1, k2, k3, k4, k5, k6, k7, k8]
def interned : List (Array UInt16 × Addr) := []
def slotsUsed : Nat := 0
def theMethod : MethodId := ⟨1, 1⟩
def args0 : Array Value := #[.int 5, .int 30, .int 77, .int 7, .int 8]
def aboutOver (below : List Frame) : State where
  vm := { classes := classes, interned := interned.toArray }
  heap := heap
  slotsUsed := slotsUsed
  threads := #[{ frames := .invoking theMethod args0 :: below }]
def below0 : List Frame := [.native { method := ⟨0, 0⟩, args := #[] }]
def about1 : State := aboutOver below0
def p0 : Program := .bare "" "" ""
def e0 : Env := launch0.env 0 0 0
theorem w_frames : about1.frames = Frame.invoking theMethod args0 :: below0 := rfl
set_option maxRecDepth 65536 in
theorem w_args : argsFit about1.vm theMethod args0 = true := by decide +kernel
set_option maxRecDepth 65536 in
theorem w_heap : heapFits about1 = true := by decide +kernel
set_option maxRecDepth 65536 in
theorem w_runnable : about1.curStatus? = some .runnable := by decide +kernel
set_option maxRecDepth 65536 in
theorem w_alone : about1.alone = true := by decide +kernel
set_option maxRecDepth 65536 in
theorem w_named : about1.methodNamed? x = some theMethod := by decide +kernel
set_option maxRecDepth 65536 in
theorem w_hears : about1.hears theMethod below0 = true := by decide +kernel
set_option maxRecDepth 65536 in
theorem w_ripe : about1.ripe theMethod args0 below0 = true := by decide +kernel
theorem w_running : about1.status = .running := rfl
set_option maxRecDepth 65536 in
theorem w_room : about1.hasRoom e0.platform room_1 = true :=
  launch0.hasRoom_least _ room_1 (by decide +kernel) (by decide +kernel) (by decide +kernel) (by decide +kernel) (by decide +kernel) (by decide +kernel)
theorem allAtoms_all (ts : List Jvm.Cond) (a : Array Jvm.Value) (st : Jvm.State) : (allAtoms ts).before a st = ts.all (fun c => c.before a st) := by
  induction ts with
  | nil => rfl
  | cons c t ih =>
    show (Jvm.Cond.and c (allAtoms t)).before a st = _
    rw [Jvm.Cond.before_and, ih, List.all_cons]
def words1 : List Jvm.Cond := Jvm.Cond.code x code maxLocals ret :: tables_1
/-- a 'code' word, met by the world's own term for the bytes: nothing is compared byte by byte -/
theorem code_word {y : MethodName} {bytes : ByteArray} {mx : Nat} {rt : Option FieldType} {a : Array Value} {s : State} {m : MethodId} {meth : Method} {c : Code} (h1 : s.methodNamed? y = some m) (h2 : s.vm.method? m = some meth) (h3 : meth.code = some c) (h4 : c.code = bytes)
    (h5 : (c.maxLocals == mx && c.exceptionTable.isEmpty && decide (c.maxStack ≤ mostOperands) && decide (meth.sig.returnType = rt) && !meth.locks && decide (parseMethodDescriptor y.desc = some meth.sig)) = true) : (Jvm.Cond.code y bytes mx rt).before a s = true := by
  simp only [Bool.and_eq_true, beq_iff_eq, Bool.not_eq_true', decide_eq_true_eq] at h5
  obtain ⟨⟨⟨⟨⟨g1, g2⟩, g3⟩, g4⟩, g5⟩, g6⟩ := h5
  simp [Cond.before, Cond.holds, Cond.value, h1, h2, h3, h4, g1, g2, g3, g4, g5, g6]
def isCode : Jvm.Cond → Bool
  | .code _ _ _ _ => true
  | _ => false
theorem all_split {L : List Jvm.Cond} {P : Jvm.Cond → Bool} (h1 : L.all (fun c => isCode c || P c) = true) (h2 : ∀ c ∈ L.filter isCode, P c = true) : L.all P = true := by
  refine List.all_eq_true.mpr fun c hc => ?_
  have h := List.all_eq_true.mp h1 c hc
  rcases Bool.eq_false_or_eq_true (isCode c) with hi | hi
  · exact h2 c (List.mem_filter.mpr ⟨hc, hi⟩)
  · simpa [hi] using h
set_option maxRecDepth 65536 in
theorem w_c0 : (Jvm.Cond.code x code maxLocals ret).before args0 about1 = true := code_word (m := ⟨1, 1⟩) (meth := k1m1) (c := k1c1) (by decide +kernel) rfl rfl rfl (by decide +kernel)
set_option maxRecDepth 65536 in
theorem w_c1 : (Jvm.Cond.code ({ cls := "com/example/tapir/tapir/sampling/PathTree", name := "<init>", desc := "()V" } : Jvm.MethodName) prog_49_method_1_code (1 : Nat) (Option.none : Option Jvm.ClassFile.FieldType)).before args0 about1 = true := code_word (m := ⟨2, 0⟩) (meth := k2m0) (c := k2c0) (by decide +kernel) rfl rfl rfl (by decide +kernel)
set_option maxRecDepth 65536 in
theorem w_c2 : (Jvm.Cond.code ({ cls := "java/lang/Object", name := "<init>", desc := "()V" } : Jvm.MethodName) object_method_1_code (1 : Nat) (Option.none : Option Jvm.ClassFile.FieldType)).before args0 about1 = true := code_word (m := ⟨0, 0⟩) (meth := k0m0) (c := k0c0) (by decide +kernel) rfl rfl rfl (by decide +kernel)
set_option maxRecDepth 65536 in
theorem w_c3 : (Jvm.Cond.code ({ cls := "com/example/tapir/tapir/sampling/PathTree", name := "addRoot", desc := "(I)I" } : Jvm.MethodName) prog_49_method_2_code (2 : Nat) (Option.some Jvm.ClassFile.FieldType.int)).before args0 about1 = true := code_word (m := ⟨2, 1⟩) (meth := k2m1) (c := k2c1) (by decide +kernel) rfl rfl rfl (by decide +kernel)
set_option maxRecDepth 65536 in
theorem w_c4 : (Jvm.Cond.code ({ cls := "com/example/tapir/tapir/sampling/PathTree", name := "add", desc := "(III)I" } : Jvm.MethodName) prog_49_method_6_code (5 : Nat) (Option.some Jvm.ClassFile.FieldType.int)).before args0 about1 = true := code_word (m := ⟨2, 4⟩) (meth := k2m4) (c := k2c4) (by decide +kernel) rfl rfl rfl (by decide +kernel)
set_option maxRecDepth 65536 in
theorem w_c5 : (Jvm.Cond.code ({ cls := "com/example/tapir/tapir/sampling/PathTree", name := "addAfter", desc := "(II)I" } : Jvm.MethodName) prog_49_method_3_code (3 : Nat) (Option.some Jvm.ClassFile.FieldType.int)).before args0 about1 = true := code_word (m := ⟨2, 2⟩) (meth := k2m2) (c := k2c2) (by decide +kernel) rfl rfl rfl (by decide +kernel)
set_option maxRecDepth 65536 in
theorem w_c6 : (Jvm.Cond.code ({ cls := "com/example/tapir/tapir/sampling/PathTreePathPinLaw", name := "ext", desc := "([III)[I" } : Jvm.MethodName) method_3_code (4 : Nat) (Option.some (Jvm.ClassFile.FieldType.array Jvm.ClassFile.FieldType.int))).before args0 about1 = true := code_word (m := ⟨1, 2⟩) (meth := k1m2) (c := k1c2) (by decide +kernel) rfl rfl rfl (by decide +kernel)
set_option maxRecDepth 65536 in
theorem w_c7 : (Jvm.Cond.code ({ cls := "com/example/tapir/tapir/sampling/PathTree", name := "path", desc := "(I)[I" } : Jvm.MethodName) prog_49_method_5_code (5 : Nat) (Option.some (Jvm.ClassFile.FieldType.array Jvm.ClassFile.FieldType.int))).before args0 about1 = true := code_word (m := ⟨2, 3⟩) (meth := k2m3) (c := k2c3) (by decide +kernel) rfl rfl rfl (by decide +kernel)
set_option maxRecDepth 65536 in
theorem w_c8 : (Jvm.Cond.code ({ cls := "com/example/tapir/tapir/sampling/PathTreePathPinLaw", name := "same", desc := "([I[II)Z" } : Jvm.MethodName) method_4_code (3 : Nat) (Option.some Jvm.ClassFile.FieldType.boolean)).before args0 about1 = true := code_word (m := ⟨1, 3⟩) (meth := k1m3) (c := k1c3) (by decide +kernel) rfl rfl rfl (by decide +kernel)
def codes1 : List Jvm.Cond := [Jvm.Cond.code x code maxLocals ret, Jvm.Cond.code ({ cls := "com/example/tapir/tapir/sampling/PathTree", name := "<init>", desc := "()V" } : Jvm.MethodName) prog_49_method_1_code (1 : Nat) (Option.none : Option Jvm.ClassFile.FieldType), Jvm.Cond.code ({ cls := "java/lang/Object", name := "<init>", desc := "()V" } : Jvm.MethodName) object_method_1_code (1 : Nat) (Option.none : Option Jvm.ClassFile.FieldType), Jvm.Cond.code ({ cls := "com/example/tapir/tapir/sampling/PathTree", name := "addRoot", desc := "(I)I" } : Jvm.MethodName) prog_49_method_2_code (2 : Nat) (Option.some Jvm.ClassFile.FieldType.int), Jvm.Cond.code ({ cls := "com/example/tapir/tapir/sampling/PathTree", name := "add", desc := "(III)I" } : Jvm.MethodName) prog_49_method_6_code (5 : Nat) (Option.some Jvm.ClassFile.FieldType.int), Jvm.Cond.code ({ cls := "com/example/tapir/tapir/sampling/PathTree", name := "addAfter", desc := "(II)I" } : Jvm.MethodName) prog_49_method_3_code (3 : Nat) (Option.some Jvm.ClassFile.FieldType.int), Jvm.Cond.code ({ cls := "com/example/tapir/tapir/sampling/PathTreePathPinLaw", name := "ext", desc := "([III)[I" } : Jvm.MethodName) method_3_code (4 : Nat) (Option.some (Jvm.ClassFile.FieldType.array Jvm.ClassFile.FieldType.int)), Jvm.Cond.code ({ cls := "com/example/tapir/tapir/sampling/PathTree", name := "path", desc := "(I)[I" } : Jvm.MethodName) prog_49_method_5_code (5 : Nat) (Option.some (Jvm.ClassFile.FieldType.array Jvm.ClassFile.FieldType.int)), Jvm.Cond.code ({ cls := "com/example/tapir/tapir/sampling/PathTreePathPinLaw", name := "same", desc := "([I[II)Z" } : Jvm.MethodName) method_4_code (3 : Nat) (Option.some Jvm.ClassFile.FieldType.boolean)]
set_option maxRecDepth 65536 in
theorem codes_eq : words1.filter isCode = codes1 := rfl
theorem w_codes : ∀ c ∈ words1.filter isCode, c.before args0 about1 = true := by
  rw [codes_eq]
  intro c hc
  simp only [codes1, List.mem_cons, List.not_mem_nil, or_false] at hc
  rcases hc with rfl | rfl | rfl | rfl | rfl | rfl | rfl | rfl | rfl
  · exact w_c0
  · exact w_c1
  · exact w_c2
  · exact w_c3
  · exact w_c4
  · exact w_c5
  · exact w_c6
  · exact w_c7
  · exact w_c8
set_option maxRecDepth 65536 in
theorem w_t1 : (words1.take 24).all (fun c => isCode c || c.before args0 about1) = true := by decide +kernel
set_option maxRecDepth 65536 in
theorem w_t2 : (words1.drop 24).all (fun c => isCode c || c.before args0 about1) = true := by decide +kernel
theorem w_tables : (allAtoms (Jvm.Cond.code x code maxLocals ret :: tables_1)).before args0 about1 = true := by
  rw [allAtoms_all]
  show words1.all (fun c => c.before args0 about1) = true
  refine all_split ?_ w_codes
  rw [← List.take_append_drop 24 words1, List.all_append, w_t1, w_t2]
  rfl
set_option maxRecDepth 65536 in
theorem w_case : (Jvm.Cond.and given_1 narrow_1).before args0 about1 = true := by decide +kernel
theorem w_applies : (headSpec (Jvm.Cond.code x code maxLocals ret :: tables_1) room_1).applies x e0.platform about1 = true :=
  (Spec.applies_iff w_frames).mpr ⟨w_running, w_runnable, w_alone, w_named, w_hears, w_ripe, w_room, w_tables⟩
theorem atStart : AtStart classFile x code maxLocals ret World_1 tables_1 room_1 Calls_1 rest_1 Pre_1 launch0 p0 e0 about1 theMethod args0 below0 :=
  ⟨lists_1, trivial, launch0.admits_env _ _ _, launch0.least_env, fairChoices_fair.cas, fairChoices_fair.clock, w_frames, w_args, w_heap, w_applies, trivial, trivial, w_case⟩
end start1
theorem witness_1 : WitnessClaimed_1 := ⟨start1.p0, start1.e0, start1.about1, start1.theMethod, start1.args0, start1.below0, start1.atStart⟩
end Jvm.Pilot.@@N@@
