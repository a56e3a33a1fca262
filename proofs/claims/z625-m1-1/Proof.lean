import JvmDerived
import JvmDerived.Pilot.@@N@@Statement
import JvmDerived.Pilot.@@N@@Code
set_option linter.unusedVariables false
set_option linter.unusedSimpArgs false
namespace Jvm.Pilot.@@N@@
open Jvm Jvm.ClassFile Sem Op Lib Jvm.Free Jvm.Stand Jvm.LawKit Jvm.RoadKit Bundle Jvm.Pilot.@@N@@.Jvm.D
section OwnGo
variable {p : Program} {l : Launch} {e : Env} {R : Room} {s : State} {m : MethodId} {args : Array Value} {below : List Frame} {meth : Method} {c : Code} {T T' : State} {locs : List Loc} {cells slots : Nat} {f f' : JFrame} {P : Outcome → State → Prop}
/-- what is left of a body's run: from the state T with the frame f on top it ends, and P holds of the end -/
def own_Go (p : Program) (e : Env) (below : List Frame) (T : State) (f : JFrame) (P : Outcome → State → Prop) : Prop :=
  ∃ s₂ o, Steps p.tables e below (T.setTop f) s₂ ∧ s₂.status = .running ∧ Ended s₂ below o ∧ P o s₂
theorem own_step (h : ∀ t, Steps p.tables e below (T'.setTop f') t → Steps p.tables e below (T.setTop f) t) (k : own_Go p e below T' f' P) : own_Go p e below T f P := by
  obtain ⟨s₂, o, a, b, c, d⟩ := k
  exact ⟨s₂, o, h _ a, b, c, d⟩
theorem own_Go.cast (q : f = f') (k : own_Go p e below T f' P) : own_Go p e below T f P := q ▸ k
theorem own_done (X : Stand p l e R s m args below meth c T locs cells slots) {v : Option Value} {Q : Option Value → Heap → List Loc → Prop} {C S : Nat} (hlk : meth.locks = false) (hv : meth.sig.returnType = none → v = none)
    (hs : ∀ fs, (∀ (f : JFrame) (acts : List Action), f.method = m → f.locked = none → f.entered = [] → (doReturn e (T.setTop f) acts v).1 = T.setFrames fs) → Steps p.tables e below (T.setTop f) (T.setFrames fs))
    (hC : cells ≤ C) (hS : slots ≤ S) (hQ : Q v T.heap locs) : own_Go p e below T f (fun o U' => ∃ v L, o = .returned v ∧ Q v U'.heap L ∧ FrameEnd s o U' L C S) := by
  obtain ⟨fs, hr, hrun, hended, hW, hsame⟩ := X.leave (v := v) hv hlk
  exact ⟨_, _, hs fs hr, hrun, hended, _, _, rfl, hQ, ⟨_, rfl⟩, hW, hsame.mono hC hS⟩
theorem own_retZ (X : Stand p l e R s m args below meth c T locs cells slots) (hx : p.tables.exec = Jvm.exec) {pc : Nat} {Ls : Array Slot} {z : Int32} {rest : List Value} {Q : Option Value → Heap → List Loc → Prop} {C S : Nat}
    (hret : meth.sig.returnType = some .boolean) (hlk : meth.locks = false) (hd : decode c.code pc = .ok (.ireturn, 1)) (hC : cells ≤ C) (hS : slots ≤ S) (hQ : Q (some (.int (nar .boolean z))) T.heap locs) :
    own_Go p e below T (mkF m pc Ls (.int z :: rest)) (fun o U' => ∃ v L, o = .returned v ∧ Q v U'.heap L ∧ FrameEnd s o U' L C S) :=
  own_done X hlk (fun h => by rw [hret] at h; cases h) (fun fs hr => retN X hx (t := .boolean) hret (by simp) hd hr) hC hS hQ
theorem own_retI (X : Stand p l e R s m args below meth c T locs cells slots) (hx : p.tables.exec = Jvm.exec) {pc : Nat} {Ls : Array Slot} {z : Int32} {rest : List Value} {Q : Option Value → Heap → List Loc → Prop} {C S : Nat}
    (hret : meth.sig.returnType = some .int) (hlk : meth.locks = false) (hd : decode c.code pc = .ok (.ireturn, 1)) (hC : cells ≤ C) (hS : slots ≤ S) (hQ : Q (some (.int z)) T.heap locs) :
    own_Go p e below T (mkF m pc Ls (.int z :: rest)) (fun o U' => ∃ v L, o = .returned v ∧ Q v U'.heap L ∧ FrameEnd s o U' L C S) :=
  own_done X hlk (fun h => by rw [hret] at h; cases h) (fun fs hr => retOut X hx hret rfl (Or.inl ⟨rfl, Or.inl rfl, _, rfl⟩) hd hr) hC hS hQ
theorem own_retJ (X : Stand p l e R s m args below meth c T locs cells slots) (hx : p.tables.exec = Jvm.exec) {pc : Nat} {Ls : Array Slot} {z : Int64} {rest : List Value} {Q : Option Value → Heap → List Loc → Prop} {C S : Nat}
    (hret : meth.sig.returnType = some .long) (hlk : meth.locks = false) (hd : decode c.code pc = .ok (.lreturn, 1)) (hC : cells ≤ C) (hS : slots ≤ S) (hQ : Q (some (.long z)) T.heap locs) :
    own_Go p e below T (mkF m pc Ls (.long z :: rest)) (fun o U' => ∃ v L, o = .returned v ∧ Q v U'.heap L ∧ FrameEnd s o U' L C S) :=
  own_done X hlk (fun h => by rw [hret] at h; cases h) (fun fs hr => retOut X hx hret rfl (Or.inr (Or.inl ⟨rfl, rfl, _, rfl⟩)) hd hr) hC hS hQ
theorem own_retA (X : Stand p l e R s m args below meth c T locs cells slots) (hx : p.tables.exec = Jvm.exec) {pc : Nat} {Ls : Array Slot} {a : Addr} {ty : FieldType} {rest : List Value} {Q : Option Value → Heap → List Loc → Prop} {C S : Nat}
    (hret : meth.sig.returnType = some (.array ty)) (hlk : meth.locks = false) (hd : decode c.code pc = .ok (.areturn, 1)) (hC : cells ≤ C) (hS : slots ≤ S) (hQ : Q (some (.ref a)) T.heap locs) :
    own_Go p e below T (mkF m pc Ls (.ref a :: rest)) (fun o U' => ∃ v L, o = .returned v ∧ Q v U'.heap L ∧ FrameEnd s o U' L C S) :=
  own_done X hlk (fun h => by rw [hret] at h; cases h) (fun fs hr => retOut X hx hret rfl (Or.inr (Or.inr (Or.inr (Or.inr ⟨rfl, rfl, rfl⟩)))) hd hr) hC hS hQ
theorem own_retV (X : Stand p l e R s m args below meth c T locs cells slots) (hx : p.tables.exec = Jvm.exec) {pc : Nat} {Ls : Array Slot} {Q : Option Value → Heap → List Loc → Prop} {C S : Nat}
    (hret : meth.sig.returnType = none) (hlk : meth.locks = false) (hd : decode c.code pc = .ok (.return_, 1)) (hC : cells ≤ C) (hS : slots ≤ S) (hQ : Q none T.heap locs) :
    own_Go p e below T (mkF m pc Ls []) (fun o U' => ∃ v L, o = .returned v ∧ Q v U'.heap L ∧ FrameEnd s o U' L C S) :=
  own_done X hlk (fun _ => rfl) (fun fs hr => X.returnOut hx hret hd hr) hC hS hQ
end OwnGo
/-- what the law leaves -/
def own_QL (n0 : Nat) (v : Option Value) (h : Heap) (L : List Loc) : Prop := v = some (.int 1) ∧ Fr n0 L
section OwnArr
variable {p : Program} {l : Launch} {e : Env} {R : Room} {s : State} {m : MethodId} {args : Array Value} {below : List Frame} {meth : Method} {c : Code} {T : State} {locs : List Loc} {cells slots : Nat} {Z : State} {h h' : Heap} {a b : Addr} {ty : FieldType} {n i sl : Nat} {f : Nat → Value} {v w : Value} {ws : List Addr} {j x z : Int32}
def own_upd (f : Nat → Value) (i : Nat) (v : Value) : Nat → Value := fun k => if k = i then v else f k
theorem own_upd_hit (f : Nat → Value) (i : Nat) (v : Value) : own_upd f i v i = v := if_pos rfl
theorem own_upd_miss (f : Nat → Value) {i k : Nat} (v : Value) (q : k ≠ i) : own_upd f i v k = f k := if_neg q
/-- an array of n places, place i holding f i -/
def own_A (Z : State) (h : Heap) (a : Addr) (ty : FieldType) (n : Nat) (f : Nat → Value) : Prop := ∃ c : Cell, Arr Z h a c ty ∧ c.slots.size = n ∧ ∀ i, i < n → c.slots[i]? = some (f i)
theorem own_A.lt (F : own_A Z h a ty n f) : a < h.size := by obtain ⟨c, A, -⟩ := F; exact A.lt
theorem own_A.ext (F : own_A Z h a ty n f) (E : Ext h h') : own_A Z h' a ty n f := by obtain ⟨c, A, r⟩ := F; exact ⟨c, A.ext E, r⟩
theorem own_A.other (F : own_A Z h b ty n f) (W : Wr h h' a sl v) (q : b ≠ a) : own_A Z h' b ty n f := by obtain ⟨c, A, r⟩ := F; exact ⟨c, A.other W q, r⟩
theorem own_A.keep (F : own_A Z h a ty n f) (K : Keep h h' ws) (q : a ∉ ws) : own_A Z h' a ty n f := by obtain ⟨c, A, r⟩ := F; exact ⟨c, ⟨K.2.1 a c A.1 q, A.2⟩, r⟩
theorem own_A.new {k : ClassId} {z : Int32} (A : Arr Z h a (newA k ty z) ty) (q : z.toNatClampNeg = n) : own_A Z h a ty n (fun _ => defaultValue ty) := ⟨_, A, by rw [sz_new]; exact q, fun i hi => by
  have hi' : i < z.toNatClampNeg := by rw [q]; exact hi
  simp [newA, hi']⟩
theorem own_A.put (F : own_A Z h a ty n f) (W : Wr h h' a i v) (hi : i < n) : own_A Z h' a ty n (own_upd f i v) := by
  obtain ⟨c, A, S, H⟩ := F
  refine ⟨_, A.same W, by rw [sz_set]; exact S, fun k hk => ?_⟩
  by_cases u : k = i
  · subst u; rw [own_upd_hit]; simp [Cell.setSlot, S, hi]
  · rw [own_upd_miss _ _ u, ← H k hk]; simp only [Cell.setSlot]; exact Array.getElem?_setIfInBounds_ne (Ne.symm u)
theorem own_A.cong {g : Nat → Value} (F : own_A Z h a ty n f) (q : ∀ i, i < n → f i = g i) : own_A Z h a ty n g := by
  obtain ⟨c, A, S, H⟩ := F; exact ⟨c, A, S, fun i hi => by rw [H i hi, q i hi]⟩
def own_at (j : Int32) (i : Nat) : Prop := ¬ j < 0 ∧ j.toNatClampNeg = i
theorem own_at_lit (q : j.toNatClampNeg = i) (r : ¬ j < 0) : own_at j i := ⟨r, q⟩
theorem own_at_int (q : j.toInt = (i : Int)) : own_at j i := by
  refine ⟨?_, ?_⟩
  · rw [Int32.lt_iff_toInt_lt, q, show (0 : Int32).toInt = 0 from rfl]; omega
  · simp only [Int32.toNatClampNeg, q]; rfl
theorem own_in {c : Cell} (hj : own_at j i) (S : c.slots.size = n) (hi : i < n) : ¬ (j < 0 ∨ c.slots.size ≤ j.toNatClampNeg) := by
  rintro (q | q)
  · exact hj.1 q
  · rw [hj.2, S] at q; omega
theorem own_ldI (X : Stand p l e R s m args below meth c T locs cells slots) (hx : p.tables.exec = Jvm.exec) (hZ : Z.Warmed39 s.vm) (eT : T.heap = h) (A : own_A Z h a .int n f) (hj : own_at j i) (hi : i < n) {v : Int32} (hv : f i = .int v) {g : JFrame} (hg : g.method = m) {rest : List Value} (hs : g.stack = .int j :: .ref a :: rest) (hd : decode c.code g.pc = .ok (.iaload, 1)) :
    ∀ target, Steps p.tables e below (T.setTop { g with pc := g.pc + 1, stack := .int v :: rest }) target → Steps p.tables e below (T.setTop g) target := by
  obtain ⟨cl, Ar, S, H⟩ := A
  exact X.iaload hx (j := j) (v := .int v) (by rw [eT]; exact Ar.1) (State.isArrayOf_alike hZ.alike Ar.2.1) Ar.2.2 (own_in hj S hi) (by rw [hj.2, H i hi, hv]) (g := g) hg hs hd
theorem own_ldJ (X : Stand p l e R s m args below meth c T locs cells slots) (hx : p.tables.exec = Jvm.exec) (hZ : Z.Warmed39 s.vm) (eT : T.heap = h) (A : own_A Z h a .long n f) (hj : own_at j i) (hi : i < n) {v : Int64} (hv : f i = .long v) {g : JFrame} (hg : g.method = m) {rest : List Value} (hs : g.stack = .int j :: .ref a :: rest) (hd : decode c.code g.pc = .ok (.laload, 1)) :
    ∀ target, Steps p.tables e below (T.setTop { g with pc := g.pc + 1, stack := .long v :: rest }) target → Steps p.tables e below (T.setTop g) target := by
  obtain ⟨cl, Ar, S, H⟩ := A
  exact X.laload hx (j := j) (v := .long v) (by rw [eT]; exact Ar.1) (State.isArrayOf_alike hZ.alike Ar.2.1) Ar.2.2 (own_in hj S hi) (by rw [hj.2, H i hi, hv]) (g := g) hg hs hd
theorem own_ldB (X : Stand p l e R s m args below meth c T locs cells slots) (hx : p.tables.exec = Jvm.exec) (hZ : Z.Warmed39 s.vm) (eT : T.heap = h) (A : own_A Z h a .byte n f) (hj : own_at j i) (hi : i < n) {v : Int32} (hv : f i = .int v) {g : JFrame} (hg : g.method = m) {rest : List Value} (hs : g.stack = .int j :: .ref a :: rest) (hd : decode c.code g.pc = .ok (.baload, 1)) :
    ∀ target, Steps p.tables e below (T.setTop { g with pc := g.pc + 1, stack := .int v :: rest }) target → Steps p.tables e below (T.setTop g) target := by
  obtain ⟨cl, Ar, S, H⟩ := A
  exact X.baloadBytes hx (j := j) (v := .int v) (by rw [eT]; exact Ar.1) (State.isArrayOf_alike hZ.alike Ar.2.1) Ar.2.2 (own_in hj S hi) (by rw [hj.2, H i hi, hv]) (g := g) hg hs hd
theorem own_alen (X : Stand p l e R s m args below meth c T locs cells slots) (hx : p.tables.exec = Jvm.exec) (hZ : Z.Warmed39 s.vm) (eT : T.heap = h) (A : own_A Z h a ty n f) (hz : n.toInt32 = z) {g : JFrame} (hg : g.method = m) {rest : List Value} (hs : g.stack = .ref a :: rest) (hd : decode c.code g.pc = .ok (.arraylength, 1)) :
    ∀ target, Steps p.tables e below (T.setTop { g with pc := g.pc + 1, stack := .int z :: rest }) target → Steps p.tables e below (T.setTop g) target := by
  obtain ⟨cl, Ar, S, H⟩ := A
  subst hz
  rw [← S]
  exact X.arraylength hx (by rw [eT]; exact Ar.1) (State.isArrayOf_alike hZ.alike Ar.2.1) (g := g) hg hs hd
theorem own_stI (X : Stand p l e R s m args below meth c T locs cells slots) (hx : p.tables.exec = Jvm.exec) (hZ : Z.Warmed39 s.vm) (eT : T.heap = h) (A : own_A Z h a .int n f) (hj : own_at j i) (hi : i < n) {g : JFrame} (hg : g.method = m) {rest : List Value} (hs : g.stack = .int x :: .int j :: .ref a :: rest) (hd : decode c.code g.pc = .ok (.iastore, 1)) :
    ∃ T' h', Stand p l e R s m args below meth c T' (locs ++ [⟨a, i⟩]) cells slots ∧ T'.heap = h' ∧ Wr h h' a i (.int x) ∧ own_A Z h' a .int n (own_upd f i (.int x)) ∧ ∀ target, Steps p.tables e below (T'.setTop { g with pc := g.pc + 1, stack := rest }) target → Steps p.tables e below (T.setTop g) target := by
  obtain ⟨cl, Ar, S, H⟩ := A
  obtain ⟨T', h', X', e', W, st⟩ := stI X hx hZ eT Ar (j := j) (own_in hj S hi) hg hs hd
  rw [hj.2] at X' W
  exact ⟨T', h', X', e', W, own_A.put ⟨cl, Ar, S, H⟩ W hi, st⟩
theorem own_stJ {x : Int64} (X : Stand p l e R s m args below meth c T locs cells slots) (hx : p.tables.exec = Jvm.exec) (hZ : Z.Warmed39 s.vm) (eT : T.heap = h) (A : own_A Z h a .long n f) (hj : own_at j i) (hi : i < n) {g : JFrame} (hg : g.method = m) {rest : List Value} (hs : g.stack = .long x :: .int j :: .ref a :: rest) (hd : decode c.code g.pc = .ok (.lastore, 1)) :
    ∃ T' h', Stand p l e R s m args below meth c T' (locs ++ [⟨a, i⟩]) cells slots ∧ T'.heap = h' ∧ Wr h h' a i (.long x) ∧ own_A Z h' a .long n (own_upd f i (.long x)) ∧ ∀ target, Steps p.tables e below (T'.setTop { g with pc := g.pc + 1, stack := rest }) target → Steps p.tables e below (T.setTop g) target := by
  obtain ⟨cl, Ar, S, H⟩ := A
  obtain ⟨T', h', X', e', W, st⟩ := stJ X hx hZ eT Ar (j := j) (own_in hj S hi) hg hs hd
  rw [hj.2] at X' W
  exact ⟨T', h', X', e', W, own_A.put ⟨cl, Ar, S, H⟩ W hi, st⟩
theorem own_stB (X : Stand p l e R s m args below meth c T locs cells slots) (hx : p.tables.exec = Jvm.exec) (hZ : Z.Warmed39 s.vm) (eT : T.heap = h) (A : own_A Z h a .byte n f) (hj : own_at j i) (hi : i < n) {g : JFrame} (hg : g.method = m) {rest : List Value} (hs : g.stack = .int x :: .int j :: .ref a :: rest) (hd : decode c.code g.pc = .ok (.bastore, 1)) :
    ∃ T' h', Stand p l e R s m args below meth c T' (locs ++ [⟨a, i⟩]) cells slots ∧ T'.heap = h' ∧ Wr h h' a i (.int (nar .byte x)) ∧ own_A Z h' a .byte n (own_upd f i (.int (nar .byte x))) ∧ ∀ target, Steps p.tables e below (T'.setTop { g with pc := g.pc + 1, stack := rest }) target → Steps p.tables e below (T.setTop g) target := by
  obtain ⟨cl, Ar, S, H⟩ := A
  obtain ⟨T', h', X', e', W, st⟩ := stB X hx hZ eT Ar (j := j) (own_in hj S hi) hg hs hd
  rw [hj.2] at X' W
  exact ⟨T', h', X', e', W, own_A.put ⟨cl, Ar, S, H⟩ W hi, st⟩
/-- a private method is selected by itself -/
theorem own_selp {a0 args' : Array Value} {y : MethodName} {kk : Nat} (hZ : Z.Warmed39 s.vm) (wp : (Cond.privateMethod y).before a0 Z = true) (wi : (Cond.instanceMethod y).before a0 Z = true) (wk : (Cond.instantiable y.cls kk).before a0 Z = true) (hy : y.cls ≠ "java/lang/invoke/MethodHandle" ∧ y.cls ≠ "java/lang/invoke/VarHandle") : (Cond.selects y.cls y y).before args' s = true := by
  obtain ⟨c2, k2, i1, i2, i3, i4, -⟩ := Cond.instantiable_spec (mvT hZ wk (args := args'))
  have hni : k2.isInterface = false := by simp only [Bool.or_eq_false_iff] at i4; exact i4.1
  exact Stand.selects_self_of_private i1 i2 hni (Cond.privateMethod_at (mvP hZ wp (args := args'))) (mvT hZ wi) hy
end OwnArr
theorem own_len_of {z : Int32} {n : Nat} (h : own_at z n) : n.toInt32 = z := by rw [← h.2]; exact (back32 h.1).1
theorem own_at_toInt {z : Int32} {n : Nat} (h : own_at z n) : z.toInt = (n : Int) := by
  have h1 := h.1; rw [Int32.lt_iff_toInt_lt, show (0 : Int32).toInt = 0 from rfl] at h1
  have h2 := h.2; simp only [Int32.toNatClampNeg] at h2; omega
theorem own_at_plus {z w : Int32} {n k : Nat} (h : own_at z n) (hw : own_at w k) (q : n + k ≤ 1000) : own_at (z + w) (n + k) := by
  have a := own_at_toInt h; have b := own_at_toInt hw; have e := c_iadd z w; have r := rng32 (z + w)
  exact own_at_int (by omega)
theorem own_ltI {x k : Int32} {a b : Int} (hx : x.toInt = a) (hk : k.toInt = b) : x < k ↔ a < b := by rw [Int32.lt_iff_toInt_lt, hx, hk]
theorem own_eqI {x k : Int32} {a b : Int} (hx : x.toInt = a) (hk : k.toInt = b) : x = k ↔ a = b := by rw [← Int32.toInt_inj, hx, hk]
section
variable {y a b : Int32}
theorem own_v1 (h : y < a) (q : a ≤ b) : y < b := by rw [Int32.lt_iff_toInt_lt] at *; rw [Int32.le_iff_toInt_le] at q; omega
theorem own_v2 (h : y < a) (q : a.toInt ≤ b.toInt + 1) : ¬ b < y := by rw [Int32.lt_iff_toInt_lt] at *; omega
theorem own_v3 (h : ¬ y < a) (q : b ≤ a) : ¬ y < b := by rw [Int32.lt_iff_toInt_lt] at *; rw [Int32.le_iff_toInt_le] at q; omega
theorem own_v4 (h : ¬ y < a) (q : b < a) : b < y := by rw [Int32.lt_iff_toInt_lt] at *; omega
theorem own_v5 (h : b < y) (q : a.toInt ≤ b.toInt + 1) : ¬ y < a := by rw [Int32.lt_iff_toInt_lt] at *; omega
theorem own_v6 (h : b < y) (q : a ≤ b) : a < y := by rw [Int32.lt_iff_toInt_lt] at *; rw [Int32.le_iff_toInt_le] at q; omega
theorem own_v7 (h : ¬ b < y) (q : b < a) : y < a := by rw [Int32.lt_iff_toInt_lt] at *; omega
theorem own_v8 (h : ¬ b < y) (q : b ≤ a) : ¬ a < y := by rw [Int32.lt_iff_toInt_lt] at *; rw [Int32.le_iff_toInt_le] at q; omega
end
/-- the bytes from place n on, as numbers from 0 to 255 -/
def own_u (F : Nat → Int32) (n k : Nat) : Int := (F (n + k)).toInt % 256
def own_nd (a : Int) : Int := if a ≤ 223 then 2 else if a ≤ 239 then 3 else 4
def own_lo (a : Int) : Int := if a = 224 then 160 else if a = 240 then 144 else 128
def own_hi (a : Int) : Int := if a = 237 then 159 else if a = 244 then 143 else 191
/-- one character of UTF-8 with d bytes left: how many bytes it takes, 0: it is none -/
def own_cs (u : Nat → Int) (d : Int) : Int :=
  if u 0 < 128 then 1
  else if u 0 < 194 ∨ 244 < u 0 then 0
  else if d < own_nd (u 0) then 0
  else if u 1 < own_lo (u 0) ∨ own_hi (u 0) < u 1 then 0
  else if 3 ≤ own_nd (u 0) ∧ (u 2 < 128 ∨ 191 < u 2) then 0
  else if 4 ≤ own_nd (u 0) ∧ (u 3 < 128 ∨ 191 < u 3) then 0
  else own_nd (u 0)
/-- the whole text from place i on, with so many turns at the most -/
def own_ut (F : Nat → Int32) (E : Nat) : Nat → Nat → Int32
  | 0, _ => 1
  | t + 1, i => if E ≤ i then 1 else if own_cs (own_u F i) ((E : Int) - i) = 0 then 0 else own_ut F E t (i + (own_cs (own_u F i) ((E : Int) - i)).toNat)
theorem own_byte {F : Nat → Int32} {n k : Nat} {y : Int32} (h : y = (F (n + k) &&& (255 : Int32))) : y.toInt = own_u F n k := by
  rw [h, c_mask (F (n + k)) 255 8 (by decide) (by decide)]; rfl
theorem own_u_rng (F : Nat → Int32) (n k : Nat) : 0 ≤ own_u F n k ∧ own_u F n k ≤ 255 := by simp only [own_u]; omega
theorem own_and192 (x : Int32) : ((x &&& (192 : Int32)) = (128 : Int32)) ↔ (128 ≤ x.toInt % 256 ∧ x.toInt % 256 ≤ 191) := by
  have e : (x &&& (192 : Int32)) = ((x &&& (255 : Int32)) &&& (192 : Int32)) := by rw [Int32.and_assoc]; rfl
  have c : (x &&& (255 : Int32)).toInt = x.toInt % 256 := c_mask x 255 8 (by decide) (by decide)
  rw [e]
  generalize x &&& (255 : Int32) = y at *
  have key : ∀ n : Fin 256, ((Int32.ofNat n.val &&& (192 : Int32)) = (128 : Int32)) ↔ (128 ≤ n.val ∧ n.val ≤ 191) := by decide +kernel
  have hy : y = Int32.ofNat y.toInt.toNat := by
    apply Int32.toInt_inj.mp
    rw [Int32.toInt_ofNat_of_lt (by omega)]; omega
  have k := key ⟨y.toInt.toNat, by omega⟩
  rw [← hy] at k
  rw [k, ← c]
  show 128 ≤ y.toInt.toNat ∧ y.toInt.toNat ≤ 191 ↔ _
  omega

theorem d4_0 : decode prog_72_method_42_code 0 = .ok (.iload_n 1, 1) := by decide +kernel
theorem d4_1 : decode prog_72_method_42_code 1 = .ok (.istore_n 3, 1) := by decide +kernel
theorem d4_2 : decode prog_72_method_42_code 2 = .ok (.iload_n 3, 1) := by decide +kernel
theorem d4_3 : decode prog_72_method_42_code 3 = .ok (.iload_n 2, 1) := by decide +kernel
theorem d4_4 : decode prog_72_method_42_code 4 = .ok (.if_icmp .ge 255, 3) := by decide +kernel
theorem d4_7 : decode prog_72_method_42_code 7 = .ok (.aload_n 0, 1) := by decide +kernel
theorem d4_8 : decode prog_72_method_42_code 8 = .ok (.iload_n 3, 1) := by decide +kernel
theorem d4_9 : decode prog_72_method_42_code 9 = .ok (.baload, 1) := by decide +kernel
theorem d4_10 : decode prog_72_method_42_code 10 = .ok (.sipush 255, 3) := by decide +kernel
theorem d4_13 : decode prog_72_method_42_code 13 = .ok (.iand, 1) := by decide +kernel
theorem d4_14 : decode prog_72_method_42_code 14 = .ok (.istore 4, 2) := by decide +kernel
theorem d4_16 : decode prog_72_method_42_code 16 = .ok (.iload 4, 2) := by decide +kernel
theorem d4_18 : decode prog_72_method_42_code 18 = .ok (.sipush 128, 3) := by decide +kernel
theorem d4_21 : decode prog_72_method_42_code 21 = .ok (.if_icmp .ge 9, 3) := by decide +kernel
theorem d4_24 : decode prog_72_method_42_code 24 = .ok (.iinc 3 1, 3) := by decide +kernel
theorem d4_27 : decode prog_72_method_42_code 27 = .ok (.goto (-25), 3) := by decide +kernel
theorem d4_30 : decode prog_72_method_42_code 30 = .ok (.sipush 128, 3) := by decide +kernel
theorem d4_33 : decode prog_72_method_42_code 33 = .ok (.istore 6, 2) := by decide +kernel
theorem d4_35 : decode prog_72_method_42_code 35 = .ok (.sipush 191, 3) := by decide +kernel
theorem d4_38 : decode prog_72_method_42_code 38 = .ok (.istore 7, 2) := by decide +kernel
theorem d4_40 : decode prog_72_method_42_code 40 = .ok (.iload 4, 2) := by decide +kernel
theorem d4_42 : decode prog_72_method_42_code 42 = .ok (.sipush 194, 3) := by decide +kernel
theorem d4_45 : decode prog_72_method_42_code 45 = .ok (.if_icmp .lt 17, 3) := by decide +kernel
theorem d4_48 : decode prog_72_method_42_code 48 = .ok (.iload 4, 2) := by decide +kernel
theorem d4_50 : decode prog_72_method_42_code 50 = .ok (.sipush 223, 3) := by decide +kernel
theorem d4_53 : decode prog_72_method_42_code 53 = .ok (.if_icmp .gt 9, 3) := by decide +kernel
theorem d4_56 : decode prog_72_method_42_code 56 = .ok (.iconst 2, 1) := by decide +kernel
theorem d4_57 : decode prog_72_method_42_code 57 = .ok (.istore 5, 2) := by decide +kernel
theorem d4_59 : decode prog_72_method_42_code 59 = .ok (.goto 121, 3) := by decide +kernel
theorem d4_62 : decode prog_72_method_42_code 62 = .ok (.iload 4, 2) := by decide +kernel
theorem d4_64 : decode prog_72_method_42_code 64 = .ok (.sipush 224, 3) := by decide +kernel
theorem d4_67 : decode prog_72_method_42_code 67 = .ok (.if_icmp .lt 53, 3) := by decide +kernel
theorem d4_70 : decode prog_72_method_42_code 70 = .ok (.iload 4, 2) := by decide +kernel
theorem d4_72 : decode prog_72_method_42_code 72 = .ok (.sipush 239, 3) := by decide +kernel
theorem d4_75 : decode prog_72_method_42_code 75 = .ok (.if_icmp .gt 45, 3) := by decide +kernel
theorem d4_78 : decode prog_72_method_42_code 78 = .ok (.iconst 3, 1) := by decide +kernel
theorem d4_79 : decode prog_72_method_42_code 79 = .ok (.istore 5, 2) := by decide +kernel
theorem d4_81 : decode prog_72_method_42_code 81 = .ok (.iload 4, 2) := by decide +kernel
theorem d4_83 : decode prog_72_method_42_code 83 = .ok (.sipush 224, 3) := by decide +kernel
theorem d4_86 : decode prog_72_method_42_code 86 = .ok (.if_icmp .ne 9, 3) := by decide +kernel
theorem d4_89 : decode prog_72_method_42_code 89 = .ok (.sipush 160, 3) := by decide +kernel
theorem d4_92 : decode prog_72_method_42_code 92 = .ok (.goto 5, 3) := by decide +kernel
theorem d4_95 : decode prog_72_method_42_code 95 = .ok (.iload 6, 2) := by decide +kernel
theorem d4_97 : decode prog_72_method_42_code 97 = .ok (.istore 6, 2) := by decide +kernel
theorem d4_99 : decode prog_72_method_42_code 99 = .ok (.iload 4, 2) := by decide +kernel
theorem d4_101 : decode prog_72_method_42_code 101 = .ok (.sipush 237, 3) := by decide +kernel
theorem d4_104 : decode prog_72_method_42_code 104 = .ok (.if_icmp .ne 9, 3) := by decide +kernel
theorem d4_107 : decode prog_72_method_42_code 107 = .ok (.sipush 159, 3) := by decide +kernel
theorem d4_110 : decode prog_72_method_42_code 110 = .ok (.goto 5, 3) := by decide +kernel
theorem d4_113 : decode prog_72_method_42_code 113 = .ok (.iload 7, 2) := by decide +kernel
theorem d4_115 : decode prog_72_method_42_code 115 = .ok (.istore 7, 2) := by decide +kernel
theorem d4_117 : decode prog_72_method_42_code 117 = .ok (.goto 63, 3) := by decide +kernel
theorem d4_120 : decode prog_72_method_42_code 120 = .ok (.iload 4, 2) := by decide +kernel
theorem d4_122 : decode prog_72_method_42_code 122 = .ok (.sipush 240, 3) := by decide +kernel
theorem d4_125 : decode prog_72_method_42_code 125 = .ok (.if_icmp .lt 53, 3) := by decide +kernel
theorem d4_128 : decode prog_72_method_42_code 128 = .ok (.iload 4, 2) := by decide +kernel
theorem d4_130 : decode prog_72_method_42_code 130 = .ok (.sipush 244, 3) := by decide +kernel
theorem d4_133 : decode prog_72_method_42_code 133 = .ok (.if_icmp .gt 45, 3) := by decide +kernel
theorem d4_136 : decode prog_72_method_42_code 136 = .ok (.iconst 4, 1) := by decide +kernel
theorem d4_137 : decode prog_72_method_42_code 137 = .ok (.istore 5, 2) := by decide +kernel
theorem d4_139 : decode prog_72_method_42_code 139 = .ok (.iload 4, 2) := by decide +kernel
theorem d4_141 : decode prog_72_method_42_code 141 = .ok (.sipush 240, 3) := by decide +kernel
theorem d4_144 : decode prog_72_method_42_code 144 = .ok (.if_icmp .ne 9, 3) := by decide +kernel
theorem d4_147 : decode prog_72_method_42_code 147 = .ok (.sipush 144, 3) := by decide +kernel
theorem d4_150 : decode prog_72_method_42_code 150 = .ok (.goto 5, 3) := by decide +kernel
theorem d4_153 : decode prog_72_method_42_code 153 = .ok (.iload 6, 2) := by decide +kernel
theorem d4_155 : decode prog_72_method_42_code 155 = .ok (.istore 6, 2) := by decide +kernel
theorem d4_157 : decode prog_72_method_42_code 157 = .ok (.iload 4, 2) := by decide +kernel
theorem d4_159 : decode prog_72_method_42_code 159 = .ok (.sipush 244, 3) := by decide +kernel
theorem d4_162 : decode prog_72_method_42_code 162 = .ok (.if_icmp .ne 9, 3) := by decide +kernel
theorem d4_165 : decode prog_72_method_42_code 165 = .ok (.sipush 143, 3) := by decide +kernel
theorem d4_168 : decode prog_72_method_42_code 168 = .ok (.goto 5, 3) := by decide +kernel
theorem d4_171 : decode prog_72_method_42_code 171 = .ok (.iload 7, 2) := by decide +kernel
theorem d4_173 : decode prog_72_method_42_code 173 = .ok (.istore 7, 2) := by decide +kernel
theorem d4_175 : decode prog_72_method_42_code 175 = .ok (.goto 5, 3) := by decide +kernel
theorem d4_178 : decode prog_72_method_42_code 178 = .ok (.iconst 0, 1) := by decide +kernel
theorem d4_179 : decode prog_72_method_42_code 179 = .ok (.ireturn, 1) := by decide +kernel
theorem d4_180 : decode prog_72_method_42_code 180 = .ok (.iload_n 2, 1) := by decide +kernel
theorem d4_181 : decode prog_72_method_42_code 181 = .ok (.iload_n 3, 1) := by decide +kernel
theorem d4_182 : decode prog_72_method_42_code 182 = .ok (.isub, 1) := by decide +kernel
theorem d4_183 : decode prog_72_method_42_code 183 = .ok (.iload 5, 2) := by decide +kernel
theorem d4_185 : decode prog_72_method_42_code 185 = .ok (.if_icmp .ge 5, 3) := by decide +kernel
theorem d4_188 : decode prog_72_method_42_code 188 = .ok (.iconst 0, 1) := by decide +kernel
theorem d4_189 : decode prog_72_method_42_code 189 = .ok (.ireturn, 1) := by decide +kernel
theorem d4_190 : decode prog_72_method_42_code 190 = .ok (.aload_n 0, 1) := by decide +kernel
theorem d4_191 : decode prog_72_method_42_code 191 = .ok (.iload_n 3, 1) := by decide +kernel
theorem d4_192 : decode prog_72_method_42_code 192 = .ok (.iconst 1, 1) := by decide +kernel
theorem d4_193 : decode prog_72_method_42_code 193 = .ok (.iadd, 1) := by decide +kernel
theorem d4_194 : decode prog_72_method_42_code 194 = .ok (.baload, 1) := by decide +kernel
theorem d4_195 : decode prog_72_method_42_code 195 = .ok (.sipush 255, 3) := by decide +kernel
theorem d4_198 : decode prog_72_method_42_code 198 = .ok (.iand, 1) := by decide +kernel
theorem d4_199 : decode prog_72_method_42_code 199 = .ok (.istore 8, 2) := by decide +kernel
theorem d4_201 : decode prog_72_method_42_code 201 = .ok (.iload 8, 2) := by decide +kernel
theorem d4_203 : decode prog_72_method_42_code 203 = .ok (.iload 6, 2) := by decide +kernel
theorem d4_205 : decode prog_72_method_42_code 205 = .ok (.if_icmp .lt 10, 3) := by decide +kernel
theorem d4_208 : decode prog_72_method_42_code 208 = .ok (.iload 8, 2) := by decide +kernel
theorem d4_210 : decode prog_72_method_42_code 210 = .ok (.iload 7, 2) := by decide +kernel
theorem d4_212 : decode prog_72_method_42_code 212 = .ok (.if_icmp .le 5, 3) := by decide +kernel
theorem d4_215 : decode prog_72_method_42_code 215 = .ok (.iconst 0, 1) := by decide +kernel
theorem d4_216 : decode prog_72_method_42_code 216 = .ok (.ireturn, 1) := by decide +kernel
theorem d4_217 : decode prog_72_method_42_code 217 = .ok (.iconst 2, 1) := by decide +kernel
theorem d4_218 : decode prog_72_method_42_code 218 = .ok (.istore 9, 2) := by decide +kernel
theorem d4_220 : decode prog_72_method_42_code 220 = .ok (.iload 9, 2) := by decide +kernel
theorem d4_222 : decode prog_72_method_42_code 222 = .ok (.iload 5, 2) := by decide +kernel
theorem d4_224 : decode prog_72_method_42_code 224 = .ok (.if_icmp .ge 27, 3) := by decide +kernel
theorem d4_227 : decode prog_72_method_42_code 227 = .ok (.aload_n 0, 1) := by decide +kernel
theorem d4_228 : decode prog_72_method_42_code 228 = .ok (.iload_n 3, 1) := by decide +kernel
theorem d4_229 : decode prog_72_method_42_code 229 = .ok (.iload 9, 2) := by decide +kernel
theorem d4_231 : decode prog_72_method_42_code 231 = .ok (.iadd, 1) := by decide +kernel
theorem d4_232 : decode prog_72_method_42_code 232 = .ok (.baload, 1) := by decide +kernel
theorem d4_233 : decode prog_72_method_42_code 233 = .ok (.sipush 192, 3) := by decide +kernel
theorem d4_236 : decode prog_72_method_42_code 236 = .ok (.iand, 1) := by decide +kernel
theorem d4_237 : decode prog_72_method_42_code 237 = .ok (.sipush 128, 3) := by decide +kernel
theorem d4_240 : decode prog_72_method_42_code 240 = .ok (.if_icmp .eq 5, 3) := by decide +kernel
theorem d4_243 : decode prog_72_method_42_code 243 = .ok (.iconst 0, 1) := by decide +kernel
theorem d4_244 : decode prog_72_method_42_code 244 = .ok (.ireturn, 1) := by decide +kernel
theorem d4_245 : decode prog_72_method_42_code 245 = .ok (.iinc 9 1, 3) := by decide +kernel
theorem d4_248 : decode prog_72_method_42_code 248 = .ok (.goto (-28), 3) := by decide +kernel
theorem d4_251 : decode prog_72_method_42_code 251 = .ok (.iload_n 3, 1) := by decide +kernel
theorem d4_252 : decode prog_72_method_42_code 252 = .ok (.iload 5, 2) := by decide +kernel
theorem d4_254 : decode prog_72_method_42_code 254 = .ok (.iadd, 1) := by decide +kernel
theorem d4_255 : decode prog_72_method_42_code 255 = .ok (.istore_n 3, 1) := by decide +kernel
theorem d4_256 : decode prog_72_method_42_code 256 = .ok (.goto (-254), 3) := by decide +kernel
theorem d4_259 : decode prog_72_method_42_code 259 = .ok (.iconst 1, 1) := by decide +kernel
theorem d4_260 : decode prog_72_method_42_code 260 = .ok (.ireturn, 1) := by decide +kernel
theorem own_room {p3 i : Int32} {n E k : Nat} {z : Int32} (hd : (p3 - i).toInt = (E : Int) - n) (h : ¬ (p3 - i) < z) (hk : (k : Int) < z.toInt) (hE : E ≤ 6) : n + k < 6 := by
  rw [Int32.lt_iff_toInt_lt, hd] at h; omega
section
variable {u : Int} {y v : Int32}
theorem own_lo3 (hA : y.toInt = u) (h0 : ¬ y < (128 : Int32)) (h1 : ¬ y < (194 : Int32)) (h2 : (223 : Int32) < y) (h3 : ¬ (239 : Int32) < y) (hv : v = (if y = (224 : Int32) then (160 : Int32) else (128 : Int32))) : v.toInt = own_lo u := by
  have j3 : ¬ (239 < u) := fun q => h3 ((own_ltI (show (239 : Int32).toInt = 239 from rfl) hA).mpr q)
  simp only [own_lo]
  by_cases q : y = (224 : Int32)
  · rw [hv, if_pos q, if_pos ((own_eqI hA (show (224 : Int32).toInt = 224 from rfl)).mp q)]; rfl
  · rw [hv, if_neg q, if_neg (fun z => q ((own_eqI hA (show (224 : Int32).toInt = 224 from rfl)).mpr z)), if_neg (by omega)]; rfl
theorem own_hi3 (hA : y.toInt = u) (h0 : ¬ y < (128 : Int32)) (h1 : ¬ y < (194 : Int32)) (h2 : (223 : Int32) < y) (h3 : ¬ (239 : Int32) < y) (hv : v = (if y = (237 : Int32) then (159 : Int32) else (191 : Int32))) : v.toInt = own_hi u := by
  have j3 : ¬ (239 < u) := fun q => h3 ((own_ltI (show (239 : Int32).toInt = 239 from rfl) hA).mpr q)
  simp only [own_hi]
  by_cases q : y = (237 : Int32)
  · rw [hv, if_pos q, if_pos ((own_eqI hA (show (237 : Int32).toInt = 237 from rfl)).mp q)]; rfl
  · rw [hv, if_neg q, if_neg (fun z => q ((own_eqI hA (show (237 : Int32).toInt = 237 from rfl)).mpr z)), if_neg (by omega)]; rfl
theorem own_lo4 (hA : y.toInt = u) (h0 : ¬ y < (128 : Int32)) (h1 : ¬ y < (194 : Int32)) (h2 : (223 : Int32) < y) (h3 : (239 : Int32) < y) (h4 : ¬ (244 : Int32) < y) (hv : v = (if y = (240 : Int32) then (144 : Int32) else (128 : Int32))) : v.toInt = own_lo u := by
  have j3 : 239 < u := (own_ltI (show (239 : Int32).toInt = 239 from rfl) hA).mp h3
  simp only [own_lo]
  by_cases q : y = (240 : Int32)
  · rw [hv, if_pos q, if_neg (by omega), if_pos ((own_eqI hA (show (240 : Int32).toInt = 240 from rfl)).mp q)]; rfl
  · rw [hv, if_neg q, if_neg (by omega), if_neg (fun z => q ((own_eqI hA (show (240 : Int32).toInt = 240 from rfl)).mpr z))]; rfl
theorem own_hi4 (hA : y.toInt = u) (h0 : ¬ y < (128 : Int32)) (h1 : ¬ y < (194 : Int32)) (h2 : (223 : Int32) < y) (h3 : (239 : Int32) < y) (h4 : ¬ (244 : Int32) < y) (hv : v = (if y = (244 : Int32) then (143 : Int32) else (191 : Int32))) : v.toInt = own_hi u := by
  have j3 : 239 < u := (own_ltI (show (239 : Int32).toInt = 239 from rfl) hA).mp h3
  simp only [own_hi]
  by_cases q : y = (244 : Int32)
  · rw [hv, if_pos q, if_neg (by omega), if_pos ((own_eqI hA (show (244 : Int32).toInt = 244 from rfl)).mp q)]; rfl
  · rw [hv, if_neg q, if_neg (by omega), if_neg (fun z => q ((own_eqI hA (show (244 : Int32).toInt = 244 from rfl)).mpr z))]; rfl
end

set_option maxRecDepth 65536 in
set_option maxHeartbeats 40000000 in
theorem own_turn {p : Program} {l : Launch} {e : Env} {R : Room} {s : State} {m : MethodId} {args : Array Value} {below : List Frame} {meth : Method} {c : Code} {T0 : State} {locs : List Loc} {cells slots : Nat} {Z : State} {h0 : Heap} {Q : Option Value → Heap → List Loc → Prop} {CC SS : Nat} {a1 : Addr} {p2 p3 i : Int32} {n E : Nat} {F : Nat → Int32} {s4 s5 s6 s7 s8 s9 : Slot} (X0 : Stand p l e R s m args below meth c T0 locs cells slots) (hx : p.tables.exec = Jvm.exec) (hZ : Z.Warmed39 s.vm) (hby : c.code = prog_72_method_42_code) (hret : meth.sig.returnType = some .boolean) (hlk : meth.locks = false) (e0 : T0.heap = h0) (hCC : cells ≤ CC) (hSS : slots ≤ SS) (VA : own_A Z h0 a1 .byte 6 (fun k => .int (F k))) (hi : own_at i n) (hp : own_at p3 E) (hE : E ≤ 6) (hnE : n < E) (hs4 : One s4) (hs5 : One s5) (hs6 : One s6) (hs7 : One s7) (hs8 : One s8) (hs9 : One s9)
    (hQ0 : own_cs (own_u F n) ((E : Int) - n) = 0 → Q (some (.int 0)) T0.heap locs)
    (kt : ∀ (i' : Int32) (k : Nat) (s4 s5 s6 s7 s8 s9 : Slot), One s4 → One s5 → One s6 → One s7 → One s8 → One s9 → own_cs (own_u F n) ((E : Int) - n) = (k : Int) → 0 < k → own_at i' (n + k) → own_Go p e below T0 (mkF m 2 #[.val (.ref a1), .val (.int p2), .val (.int p3), .val (.int i'), s4, s5, s6, s7, s8, s9] []) (fun o U' => ∃ v L, o = .returned v ∧ Q v U'.heap L ∧ FrameEnd s o U' L CC SS)) :
    own_Go p e below T0 (mkF m 2 #[.val (.ref a1), .val (.int p2), .val (.int p3), .val (.int i), s4, s5, s6, s7, s8, s9] []) (fun o U' => ∃ v L, o = .returned v ∧ Q v U'.heap L ∧ FrameEnd s o U' L CC SS) := by
  have hlt : i < p3 := by rw [Int32.lt_iff_toInt_lt, own_at_toInt hi, own_at_toInt hp]; omega
  have hi0 : own_at i (n + 0) := hi
  have hd : (p3 - i).toInt = (E : Int) - n := by
    have a := own_at_toInt hi; have b := own_at_toInt hp; have c := c_isub p3 i; have d := rng32 (p3 - i); omega
  have ru := own_u_rng F n
  refine own_step (T' := T0) (f' := (mkF m 9 #[.val (.ref a1), .val (.int p2), .val (.int p3), .val (.int i), s4, s5, s6, s7, s8, s9] [(.int i), (.ref a1)])) (fun tt kont => ?_) ?_
  · show Steps p.tables e below (T0.setTop (mkF m 2 #[.val (.ref a1), .val (.int p2), .val (.int p3), .val (.int i), s4, s5, s6, s7, s8, s9] [])) _
    refine XS.iloadN X0.here hx rfl (hb hby d4_2) rfl ?_
    show Steps p.tables e below (T0.setTop (mkF m 3 #[.val (.ref a1), .val (.int p2), .val (.int p3), .val (.int i), s4, s5, s6, s7, s8, s9] [(.int i)])) _
    refine XS.iloadN X0.here hx rfl (hb hby d4_3) rfl ?_
    show Steps p.tables e below (T0.setTop (mkF m 4 #[.val (.ref a1), .val (.int p2), .val (.int p3), .val (.int i), s4, s5, s6, s7, s8, s9] [(.int p3), (.int i)])) _
    refine XS.icmpNo X0.here hx rfl (hb hby d4_4) rfl (tlt hlt).2.1 ?_
    show Steps p.tables e below (T0.setTop (mkF m 7 #[.val (.ref a1), .val (.int p2), .val (.int p3), .val (.int i), s4, s5, s6, s7, s8, s9] [])) _
    refine XS.aloadN X0.here hx rfl (hb hby d4_7) rfl rfl ?_
    show Steps p.tables e below (T0.setTop (mkF m 8 #[.val (.ref a1), .val (.int p2), .val (.int p3), .val (.int i), s4, s5, s6, s7, s8, s9] [(.ref a1)])) _
    refine XS.iloadN X0.here hx rfl (hb hby d4_8) rfl ?_
    exact kont
  refine own_step (T' := T0) (f' := (mkF m 14 #[.val (.ref a1), .val (.int p2), .val (.int p3), .val (.int i), s4, s5, s6, s7, s8, s9] [(.int ((F (n + 0)) &&& (255 : Int32)))])) (fun tt kont => ?_) ?_
  · show Steps p.tables e below (T0.setTop (mkF m 9 #[.val (.ref a1), .val (.int p2), .val (.int p3), .val (.int i), s4, s5, s6, s7, s8, s9] [(.int i), (.ref a1)])) _
    refine own_ldB X0 hx hZ e0 VA (j := i) (i := (n + 0)) hi0 (by omega) (v := (F (n + 0))) rfl (g := (mkF m 9 #[.val (.ref a1), .val (.int p2), .val (.int p3), .val (.int i), s4, s5, s6, s7, s8, s9] [(.int i), (.ref a1)])) rfl rfl (hb hby d4_9) _ ?_
    show Steps p.tables e below (T0.setTop (mkF m 10 #[.val (.ref a1), .val (.int p2), .val (.int p3), .val (.int i), s4, s5, s6, s7, s8, s9] [(.int (F (n + 0)))])) _
    refine XS.sipush X0.here hx rfl (hb hby d4_10) ?_
    show Steps p.tables e below (T0.setTop (mkF m 13 #[.val (.ref a1), .val (.int p2), .val (.int p3), .val (.int i), s4, s5, s6, s7, s8, s9] [(.int (255 : Int32)), (.int (F (n + 0)))])) _
    refine XS.iand X0.here hx rfl (hb hby d4_13) rfl ?_
    exact kont
  show own_Go p e below T0 (mkF m 14 #[.val (.ref a1), .val (.int p2), .val (.int p3), .val (.int i), s4, s5, s6, s7, s8, s9] [(.int ((F (n + 0)) &&& (255 : Int32)))]) _
  obtain ⟨yA, hyA⟩ : ∃ z : Int32, z = ((F (n + 0)) &&& (255 : Int32)) := ⟨_, rfl⟩
  rw [← hyA]
  refine own_step (T' := T0) (f' := (mkF m 16 #[.val (.ref a1), .val (.int p2), .val (.int p3), .val (.int i), .val (.int yA), s5, s6, s7, s8, s9] [])) (fun tt kont => ?_) ?_
  · show Steps p.tables e below (T0.setTop (mkF m 14 #[.val (.ref a1), .val (.int p2), .val (.int p3), .val (.int i), s4, s5, s6, s7, s8, s9] [(.int yA)])) _
    refine XS.istoreS X0.here hx rfl (hb hby d4_14) rfl rfl hs4 ?_
    exact kont
  have hA : yA.toInt = own_u F n 0 := own_byte hyA
  refine own_step (T' := T0) (f' := (mkF m 21 #[.val (.ref a1), .val (.int p2), .val (.int p3), .val (.int i), .val (.int yA), s5, s6, s7, s8, s9] [(.int (128 : Int32)), (.int yA)])) (fun tt kont => ?_) ?_
  · show Steps p.tables e below (T0.setTop (mkF m 16 #[.val (.ref a1), .val (.int p2), .val (.int p3), .val (.int i), .val (.int yA), s5, s6, s7, s8, s9] [])) _
    refine XS.iload X0.here hx rfl (hb hby d4_16) rfl ?_
    show Steps p.tables e below (T0.setTop (mkF m 18 #[.val (.ref a1), .val (.int p2), .val (.int p3), .val (.int i), .val (.int yA), s5, s6, s7, s8, s9] [(.int yA)])) _
    refine XS.sipush X0.here hx rfl (hb hby d4_18) ?_
    exact kont
  by_cases hc21_3 : yA < (128 : Int32)
  · refine own_step (T' := T0) (f' := (mkF m 24 #[.val (.ref a1), .val (.int p2), .val (.int p3), .val (.int i), .val (.int yA), s5, s6, s7, s8, s9] [])) (fun tt kont => ?_) ?_
    · show Steps p.tables e below (T0.setTop (mkF m 21 #[.val (.ref a1), .val (.int p2), .val (.int p3), .val (.int i), .val (.int yA), s5, s6, s7, s8, s9] [(.int (128 : Int32)), (.int yA)])) _
      refine XS.icmpNo X0.here hx rfl (hb hby d4_21) rfl (tlt hc21_3).2.1 ?_
      exact kont
    refine own_step (T' := T0) (f' := (mkF m 2 #[.val (.ref a1), .val (.int p2), .val (.int p3), .val (.int (i + (1 : Int32))), .val (.int yA), s5, s6, s7, s8, s9] [])) (fun tt kont => ?_) ?_
    · show Steps p.tables e below (T0.setTop (mkF m 24 #[.val (.ref a1), .val (.int p2), .val (.int p3), .val (.int i), .val (.int yA), s5, s6, s7, s8, s9] [])) _
      refine XS.iinc X0.here hx rfl (hb hby d4_24) rfl (l' := #[.val (.ref a1), .val (.int p2), .val (.int p3), .val (.int (i + (1 : Int32))), .val (.int yA), s5, s6, s7, s8, s9]) rfl ?_
      show Steps p.tables e below (T0.setTop (mkF m 27 #[.val (.ref a1), .val (.int p2), .val (.int p3), .val (.int (i + (1 : Int32))), .val (.int yA), s5, s6, s7, s8, s9] [])) _
      refine XS.goto X0.here hx rfl (pc0 := 27) (pc' := 2) rfl (hb hby d4_27) (by decide) (by decide) ?_
      exact kont
    have j1 : (own_u F n 0 < 128) := (own_ltI hA (rfl : (128 : Int32).toInt = 128)).mp hc21_3
    have hst : own_cs (own_u F n) ((E : Int) - n) = 1 := by rw [own_cs, if_pos (by omega)]
    exact kt _ 1 _ _ _ _ _ _ (One.val rfl) hs5 hs6 hs7 hs8 hs9 hst (by decide) (own_at_plus hi (own_at_lit rfl (by decide) : own_at (1 : Int32) 1) (by omega))
  · refine own_step (T' := T0) (f' := (mkF m 45 #[.val (.ref a1), .val (.int p2), .val (.int p3), .val (.int i), .val (.int yA), s5, .val (.int (128 : Int32)), .val (.int (191 : Int32)), s8, s9] [(.int (194 : Int32)), (.int yA)])) (fun tt kont => ?_) ?_
    · show Steps p.tables e below (T0.setTop (mkF m 21 #[.val (.ref a1), .val (.int p2), .val (.int p3), .val (.int i), .val (.int yA), s5, s6, s7, s8, s9] [(.int (128 : Int32)), (.int yA)])) _
      refine XS.icmpYes X0.here hx rfl (pc0 := 21) (pc' := 30) rfl (hb hby d4_21) rfl (flt hc21_3).2.1 (by decide) (by decide) ?_
      show Steps p.tables e below (T0.setTop (mkF m 30 #[.val (.ref a1), .val (.int p2), .val (.int p3), .val (.int i), .val (.int yA), s5, s6, s7, s8, s9] [])) _
      refine XS.sipush X0.here hx rfl (hb hby d4_30) ?_
      show Steps p.tables e below (T0.setTop (mkF m 33 #[.val (.ref a1), .val (.int p2), .val (.int p3), .val (.int i), .val (.int yA), s5, s6, s7, s8, s9] [(.int (128 : Int32))])) _
      refine XS.istoreS X0.here hx rfl (hb hby d4_33) rfl rfl hs6 ?_
      show Steps p.tables e below (T0.setTop (mkF m 35 #[.val (.ref a1), .val (.int p2), .val (.int p3), .val (.int i), .val (.int yA), s5, .val (.int (128 : Int32)), s7, s8, s9] [])) _
      refine XS.sipush X0.here hx rfl (hb hby d4_35) ?_
      show Steps p.tables e below (T0.setTop (mkF m 38 #[.val (.ref a1), .val (.int p2), .val (.int p3), .val (.int i), .val (.int yA), s5, .val (.int (128 : Int32)), s7, s8, s9] [(.int (191 : Int32))])) _
      refine XS.istoreS X0.here hx rfl (hb hby d4_38) rfl rfl hs7 ?_
      show Steps p.tables e below (T0.setTop (mkF m 40 #[.val (.ref a1), .val (.int p2), .val (.int p3), .val (.int i), .val (.int yA), s5, .val (.int (128 : Int32)), .val (.int (191 : Int32)), s8, s9] [])) _
      refine XS.iload X0.here hx rfl (hb hby d4_40) rfl ?_
      show Steps p.tables e below (T0.setTop (mkF m 42 #[.val (.ref a1), .val (.int p2), .val (.int p3), .val (.int i), .val (.int yA), s5, .val (.int (128 : Int32)), .val (.int (191 : Int32)), s8, s9] [(.int yA)])) _
      refine XS.sipush X0.here hx rfl (hb hby d4_42) ?_
      exact kont
    by_cases hc45_4 : yA < (194 : Int32)
    · refine own_step (T' := T0) (f' := (mkF m 179 #[.val (.ref a1), .val (.int p2), .val (.int p3), .val (.int i), .val (.int yA), s5, .val (.int (128 : Int32)), .val (.int (191 : Int32)), s8, s9] [(.int (0 : Int32))])) (fun tt kont => ?_) ?_
      · show Steps p.tables e below (T0.setTop (mkF m 45 #[.val (.ref a1), .val (.int p2), .val (.int p3), .val (.int i), .val (.int yA), s5, .val (.int (128 : Int32)), .val (.int (191 : Int32)), s8, s9] [(.int (194 : Int32)), (.int yA)])) _
        refine XS.icmpYes X0.here hx rfl (pc0 := 45) (pc' := 62) rfl (hb hby d4_45) rfl (tlt hc45_4).1 (by decide) (by decide) ?_
        show Steps p.tables e below (T0.setTop (mkF m 62 #[.val (.ref a1), .val (.int p2), .val (.int p3), .val (.int i), .val (.int yA), s5, .val (.int (128 : Int32)), .val (.int (191 : Int32)), s8, s9] [])) _
        refine XS.iload X0.here hx rfl (hb hby d4_62) rfl ?_
        show Steps p.tables e below (T0.setTop (mkF m 64 #[.val (.ref a1), .val (.int p2), .val (.int p3), .val (.int i), .val (.int yA), s5, .val (.int (128 : Int32)), .val (.int (191 : Int32)), s8, s9] [(.int yA)])) _
        refine XS.sipush X0.here hx rfl (hb hby d4_64) ?_
        show Steps p.tables e below (T0.setTop (mkF m 67 #[.val (.ref a1), .val (.int p2), .val (.int p3), .val (.int i), .val (.int yA), s5, .val (.int (128 : Int32)), .val (.int (191 : Int32)), s8, s9] [(.int (224 : Int32)), (.int yA)])) _
        refine XS.icmpYes X0.here hx rfl (pc0 := 67) (pc' := 120) rfl (hb hby d4_67) rfl (tlt (own_v1 hc45_4 (by decide) : yA < (224 : Int32))).1 (by decide) (by decide) ?_
        show Steps p.tables e below (T0.setTop (mkF m 120 #[.val (.ref a1), .val (.int p2), .val (.int p3), .val (.int i), .val (.int yA), s5, .val (.int (128 : Int32)), .val (.int (191 : Int32)), s8, s9] [])) _
        refine XS.iload X0.here hx rfl (hb hby d4_120) rfl ?_
        show Steps p.tables e below (T0.setTop (mkF m 122 #[.val (.ref a1), .val (.int p2), .val (.int p3), .val (.int i), .val (.int yA), s5, .val (.int (128 : Int32)), .val (.int (191 : Int32)), s8, s9] [(.int yA)])) _
        refine XS.sipush X0.here hx rfl (hb hby d4_122) ?_
        show Steps p.tables e below (T0.setTop (mkF m 125 #[.val (.ref a1), .val (.int p2), .val (.int p3), .val (.int i), .val (.int yA), s5, .val (.int (128 : Int32)), .val (.int (191 : Int32)), s8, s9] [(.int (240 : Int32)), (.int yA)])) _
        refine XS.icmpYes X0.here hx rfl (pc0 := 125) (pc' := 178) rfl (hb hby d4_125) rfl (tlt (own_v1 hc45_4 (by decide) : yA < (240 : Int32))).1 (by decide) (by decide) ?_
        show Steps p.tables e below (T0.setTop (mkF m 178 #[.val (.ref a1), .val (.int p2), .val (.int p3), .val (.int i), .val (.int yA), s5, .val (.int (128 : Int32)), .val (.int (191 : Int32)), s8, s9] [])) _
        refine XS.iconst X0.here hx rfl (hb hby d4_178) ?_
        exact kont
      have j1 : ¬ (own_u F n 0 < 128) := fun q => hc21_3 ((own_ltI hA (rfl : (128 : Int32).toInt = 128)).mpr q)
      have j2 : (own_u F n 0 < 194) := (own_ltI hA (rfl : (194 : Int32).toInt = 194)).mp hc45_4
      have hst : own_cs (own_u F n) ((E : Int) - n) = 0 := by rw [own_cs, if_neg (by omega), if_pos (by omega)]
      exact own_retZ X0 hx hret hlk (hb hby d4_179) hCC hSS (hQ0 hst)
    · refine own_step (T' := T0) (f' := (mkF m 53 #[.val (.ref a1), .val (.int p2), .val (.int p3), .val (.int i), .val (.int yA), s5, .val (.int (128 : Int32)), .val (.int (191 : Int32)), s8, s9] [(.int (223 : Int32)), (.int yA)])) (fun tt kont => ?_) ?_
      · show Steps p.tables e below (T0.setTop (mkF m 45 #[.val (.ref a1), .val (.int p2), .val (.int p3), .val (.int i), .val (.int yA), s5, .val (.int (128 : Int32)), .val (.int (191 : Int32)), s8, s9] [(.int (194 : Int32)), (.int yA)])) _
        refine XS.icmpNo X0.here hx rfl (hb hby d4_45) rfl (flt hc45_4).1 ?_
        show Steps p.tables e below (T0.setTop (mkF m 48 #[.val (.ref a1), .val (.int p2), .val (.int p3), .val (.int i), .val (.int yA), s5, .val (.int (128 : Int32)), .val (.int (191 : Int32)), s8, s9] [])) _
        refine XS.iload X0.here hx rfl (hb hby d4_48) rfl ?_
        show Steps p.tables e below (T0.setTop (mkF m 50 #[.val (.ref a1), .val (.int p2), .val (.int p3), .val (.int i), .val (.int yA), s5, .val (.int (128 : Int32)), .val (.int (191 : Int32)), s8, s9] [(.int yA)])) _
        refine XS.sipush X0.here hx rfl (hb hby d4_50) ?_
        exact kont
      by_cases hc53_5 : (223 : Int32) < yA
      · refine own_step (T' := T0) (f' := (mkF m 75 #[.val (.ref a1), .val (.int p2), .val (.int p3), .val (.int i), .val (.int yA), s5, .val (.int (128 : Int32)), .val (.int (191 : Int32)), s8, s9] [(.int (239 : Int32)), (.int yA)])) (fun tt kont => ?_) ?_
        · show Steps p.tables e below (T0.setTop (mkF m 53 #[.val (.ref a1), .val (.int p2), .val (.int p3), .val (.int i), .val (.int yA), s5, .val (.int (128 : Int32)), .val (.int (191 : Int32)), s8, s9] [(.int (223 : Int32)), (.int yA)])) _
          refine XS.icmpYes X0.here hx rfl (pc0 := 53) (pc' := 62) rfl (hb hby d4_53) rfl (tlt hc53_5).2.2.1 (by decide) (by decide) ?_
          show Steps p.tables e below (T0.setTop (mkF m 62 #[.val (.ref a1), .val (.int p2), .val (.int p3), .val (.int i), .val (.int yA), s5, .val (.int (128 : Int32)), .val (.int (191 : Int32)), s8, s9] [])) _
          refine XS.iload X0.here hx rfl (hb hby d4_62) rfl ?_
          show Steps p.tables e below (T0.setTop (mkF m 64 #[.val (.ref a1), .val (.int p2), .val (.int p3), .val (.int i), .val (.int yA), s5, .val (.int (128 : Int32)), .val (.int (191 : Int32)), s8, s9] [(.int yA)])) _
          refine XS.sipush X0.here hx rfl (hb hby d4_64) ?_
          show Steps p.tables e below (T0.setTop (mkF m 67 #[.val (.ref a1), .val (.int p2), .val (.int p3), .val (.int i), .val (.int yA), s5, .val (.int (128 : Int32)), .val (.int (191 : Int32)), s8, s9] [(.int (224 : Int32)), (.int yA)])) _
          refine XS.icmpNo X0.here hx rfl (hb hby d4_67) rfl (flt (own_v5 hc53_5 (by decide) : ¬ (yA < (224 : Int32)))).1 ?_
          show Steps p.tables e below (T0.setTop (mkF m 70 #[.val (.ref a1), .val (.int p2), .val (.int p3), .val (.int i), .val (.int yA), s5, .val (.int (128 : Int32)), .val (.int (191 : Int32)), s8, s9] [])) _
          refine XS.iload X0.here hx rfl (hb hby d4_70) rfl ?_
          show Steps p.tables e below (T0.setTop (mkF m 72 #[.val (.ref a1), .val (.int p2), .val (.int p3), .val (.int i), .val (.int yA), s5, .val (.int (128 : Int32)), .val (.int (191 : Int32)), s8, s9] [(.int yA)])) _
          refine XS.sipush X0.here hx rfl (hb hby d4_72) ?_
          exact kont
        by_cases hc75_7 : (239 : Int32) < yA
        · refine own_step (T' := T0) (f' := (mkF m 133 #[.val (.ref a1), .val (.int p2), .val (.int p3), .val (.int i), .val (.int yA), s5, .val (.int (128 : Int32)), .val (.int (191 : Int32)), s8, s9] [(.int (244 : Int32)), (.int yA)])) (fun tt kont => ?_) ?_
          · show Steps p.tables e below (T0.setTop (mkF m 75 #[.val (.ref a1), .val (.int p2), .val (.int p3), .val (.int i), .val (.int yA), s5, .val (.int (128 : Int32)), .val (.int (191 : Int32)), s8, s9] [(.int (239 : Int32)), (.int yA)])) _
            refine XS.icmpYes X0.here hx rfl (pc0 := 75) (pc' := 120) rfl (hb hby d4_75) rfl (tlt hc75_7).2.2.1 (by decide) (by decide) ?_
            show Steps p.tables e below (T0.setTop (mkF m 120 #[.val (.ref a1), .val (.int p2), .val (.int p3), .val (.int i), .val (.int yA), s5, .val (.int (128 : Int32)), .val (.int (191 : Int32)), s8, s9] [])) _
            refine XS.iload X0.here hx rfl (hb hby d4_120) rfl ?_
            show Steps p.tables e below (T0.setTop (mkF m 122 #[.val (.ref a1), .val (.int p2), .val (.int p3), .val (.int i), .val (.int yA), s5, .val (.int (128 : Int32)), .val (.int (191 : Int32)), s8, s9] [(.int yA)])) _
            refine XS.sipush X0.here hx rfl (hb hby d4_122) ?_
            show Steps p.tables e below (T0.setTop (mkF m 125 #[.val (.ref a1), .val (.int p2), .val (.int p3), .val (.int i), .val (.int yA), s5, .val (.int (128 : Int32)), .val (.int (191 : Int32)), s8, s9] [(.int (240 : Int32)), (.int yA)])) _
            refine XS.icmpNo X0.here hx rfl (hb hby d4_125) rfl (flt (own_v5 hc75_7 (by decide) : ¬ (yA < (240 : Int32)))).1 ?_
            show Steps p.tables e below (T0.setTop (mkF m 128 #[.val (.ref a1), .val (.int p2), .val (.int p3), .val (.int i), .val (.int yA), s5, .val (.int (128 : Int32)), .val (.int (191 : Int32)), s8, s9] [])) _
            refine XS.iload X0.here hx rfl (hb hby d4_128) rfl ?_
            show Steps p.tables e below (T0.setTop (mkF m 130 #[.val (.ref a1), .val (.int p2), .val (.int p3), .val (.int i), .val (.int yA), s5, .val (.int (128 : Int32)), .val (.int (191 : Int32)), s8, s9] [(.int yA)])) _
            refine XS.sipush X0.here hx rfl (hb hby d4_130) ?_
            exact kont
          by_cases hc133_9 : (244 : Int32) < yA
          · refine own_step (T' := T0) (f' := (mkF m 179 #[.val (.ref a1), .val (.int p2), .val (.int p3), .val (.int i), .val (.int yA), s5, .val (.int (128 : Int32)), .val (.int (191 : Int32)), s8, s9] [(.int (0 : Int32))])) (fun tt kont => ?_) ?_
            · show Steps p.tables e below (T0.setTop (mkF m 133 #[.val (.ref a1), .val (.int p2), .val (.int p3), .val (.int i), .val (.int yA), s5, .val (.int (128 : Int32)), .val (.int (191 : Int32)), s8, s9] [(.int (244 : Int32)), (.int yA)])) _
              refine XS.icmpYes X0.here hx rfl (pc0 := 133) (pc' := 178) rfl (hb hby d4_133) rfl (tlt hc133_9).2.2.1 (by decide) (by decide) ?_
              show Steps p.tables e below (T0.setTop (mkF m 178 #[.val (.ref a1), .val (.int p2), .val (.int p3), .val (.int i), .val (.int yA), s5, .val (.int (128 : Int32)), .val (.int (191 : Int32)), s8, s9] [])) _
              refine XS.iconst X0.here hx rfl (hb hby d4_178) ?_
              exact kont
            have j1 : ¬ (own_u F n 0 < 128) := fun q => hc21_3 ((own_ltI hA (rfl : (128 : Int32).toInt = 128)).mpr q)
            have j2 : ¬ (own_u F n 0 < 194) := fun q => hc45_4 ((own_ltI hA (rfl : (194 : Int32).toInt = 194)).mpr q)
            have j3 : (223 < own_u F n 0) := (own_ltI (rfl : (223 : Int32).toInt = 223) hA).mp hc53_5
            have j4 : (239 < own_u F n 0) := (own_ltI (rfl : (239 : Int32).toInt = 239) hA).mp hc75_7
            have j5 : (244 < own_u F n 0) := (own_ltI (rfl : (244 : Int32).toInt = 244) hA).mp hc133_9
            have hst : own_cs (own_u F n) ((E : Int) - n) = 0 := by rw [own_cs, if_neg (by omega), if_pos (by omega)]
            exact own_retZ X0 hx hret hlk (hb hby d4_179) hCC hSS (hQ0 hst)
          · refine own_step (T' := T0) (f' := (mkF m 144 #[.val (.ref a1), .val (.int p2), .val (.int p3), .val (.int i), .val (.int yA), .val (.int (4 : Int32)), .val (.int (128 : Int32)), .val (.int (191 : Int32)), s8, s9] [(.int (240 : Int32)), (.int yA)])) (fun tt kont => ?_) ?_
            · show Steps p.tables e below (T0.setTop (mkF m 133 #[.val (.ref a1), .val (.int p2), .val (.int p3), .val (.int i), .val (.int yA), s5, .val (.int (128 : Int32)), .val (.int (191 : Int32)), s8, s9] [(.int (244 : Int32)), (.int yA)])) _
              refine XS.icmpNo X0.here hx rfl (hb hby d4_133) rfl (flt hc133_9).2.2.1 ?_
              show Steps p.tables e below (T0.setTop (mkF m 136 #[.val (.ref a1), .val (.int p2), .val (.int p3), .val (.int i), .val (.int yA), s5, .val (.int (128 : Int32)), .val (.int (191 : Int32)), s8, s9] [])) _
              refine XS.iconst X0.here hx rfl (hb hby d4_136) ?_
              show Steps p.tables e below (T0.setTop (mkF m 137 #[.val (.ref a1), .val (.int p2), .val (.int p3), .val (.int i), .val (.int yA), s5, .val (.int (128 : Int32)), .val (.int (191 : Int32)), s8, s9] [(.int (4 : Int32))])) _
              refine XS.istoreS X0.here hx rfl (hb hby d4_137) rfl rfl hs5 ?_
              show Steps p.tables e below (T0.setTop (mkF m 139 #[.val (.ref a1), .val (.int p2), .val (.int p3), .val (.int i), .val (.int yA), .val (.int (4 : Int32)), .val (.int (128 : Int32)), .val (.int (191 : Int32)), s8, s9] [])) _
              refine XS.iload X0.here hx rfl (hb hby d4_139) rfl ?_
              show Steps p.tables e below (T0.setTop (mkF m 141 #[.val (.ref a1), .val (.int p2), .val (.int p3), .val (.int i), .val (.int yA), .val (.int (4 : Int32)), .val (.int (128 : Int32)), .val (.int (191 : Int32)), s8, s9] [(.int yA)])) _
              refine XS.sipush X0.here hx rfl (hb hby d4_141) ?_
              exact kont
            obtain ⟨v101, hv101, st102⟩ : ∃ (v101 : Int32), v101 = (if yA = (240 : Int32) then (144 : Int32) else (128 : Int32)) ∧ ∀ t, Steps p.tables e below (T0.setTop (mkF m 155 #[.val (.ref a1), .val (.int p2), .val (.int p3), .val (.int i), .val (.int yA), .val (.int (4 : Int32)), .val (.int (128 : Int32)), .val (.int (191 : Int32)), s8, s9] [(.int v101)])) t → Steps p.tables e below (T0.setTop (mkF m 144 #[.val (.ref a1), .val (.int p2), .val (.int p3), .val (.int i), .val (.int yA), .val (.int (4 : Int32)), .val (.int (128 : Int32)), .val (.int (191 : Int32)), s8, s9] [(.int (240 : Int32)), (.int yA)])) t := by
              by_cases hc144_10 : yA = (240 : Int32)
              · refine ⟨(144 : Int32), (by simp only [if_pos hc144_10]), fun tt kont => ?_⟩
                show Steps p.tables e below (T0.setTop (mkF m 144 #[.val (.ref a1), .val (.int p2), .val (.int p3), .val (.int i), .val (.int yA), .val (.int (4 : Int32)), .val (.int (128 : Int32)), .val (.int (191 : Int32)), s8, s9] [(.int (240 : Int32)), (.int yA)])) _
                refine XS.icmpNo X0.here hx rfl (hb hby d4_144) rfl (teq hc144_10).2 ?_
                show Steps p.tables e below (T0.setTop (mkF m 147 #[.val (.ref a1), .val (.int p2), .val (.int p3), .val (.int i), .val (.int yA), .val (.int (4 : Int32)), .val (.int (128 : Int32)), .val (.int (191 : Int32)), s8, s9] [])) _
                refine XS.sipush X0.here hx rfl (hb hby d4_147) ?_
                show Steps p.tables e below (T0.setTop (mkF m 150 #[.val (.ref a1), .val (.int p2), .val (.int p3), .val (.int i), .val (.int yA), .val (.int (4 : Int32)), .val (.int (128 : Int32)), .val (.int (191 : Int32)), s8, s9] [(.int (144 : Int32))])) _
                refine XS.goto X0.here hx rfl (pc0 := 150) (pc' := 155) rfl (hb hby d4_150) (by decide) (by decide) ?_
                exact kont
              · refine ⟨(128 : Int32), (by simp only [if_neg hc144_10]), fun tt kont => ?_⟩
                show Steps p.tables e below (T0.setTop (mkF m 144 #[.val (.ref a1), .val (.int p2), .val (.int p3), .val (.int i), .val (.int yA), .val (.int (4 : Int32)), .val (.int (128 : Int32)), .val (.int (191 : Int32)), s8, s9] [(.int (240 : Int32)), (.int yA)])) _
                refine XS.icmpYes X0.here hx rfl (pc0 := 144) (pc' := 153) rfl (hb hby d4_144) rfl (feq hc144_10).2 (by decide) (by decide) ?_
                show Steps p.tables e below (T0.setTop (mkF m 153 #[.val (.ref a1), .val (.int p2), .val (.int p3), .val (.int i), .val (.int yA), .val (.int (4 : Int32)), .val (.int (128 : Int32)), .val (.int (191 : Int32)), s8, s9] [])) _
                refine XS.iload X0.here hx rfl (hb hby d4_153) rfl ?_
                exact kont
            refine own_step st102 ?_
            have hlv101 : v101.toInt = own_lo (own_u F n 0) := own_lo4 hA hc21_3 hc45_4 hc53_5 hc75_7 hc133_9 hv101
            refine own_step (T' := T0) (f' := (mkF m 162 #[.val (.ref a1), .val (.int p2), .val (.int p3), .val (.int i), .val (.int yA), .val (.int (4 : Int32)), .val (.int v101), .val (.int (191 : Int32)), s8, s9] [(.int (244 : Int32)), (.int yA)])) (fun tt kont => ?_) ?_
            · show Steps p.tables e below (T0.setTop (mkF m 155 #[.val (.ref a1), .val (.int p2), .val (.int p3), .val (.int i), .val (.int yA), .val (.int (4 : Int32)), .val (.int (128 : Int32)), .val (.int (191 : Int32)), s8, s9] [(.int v101)])) _
              refine XS.istore X0.here hx rfl (hb hby d4_155) rfl (l' := #[.val (.ref a1), .val (.int p2), .val (.int p3), .val (.int i), .val (.int yA), .val (.int (4 : Int32)), .val (.int v101), .val (.int (191 : Int32)), s8, s9]) rfl ?_
              show Steps p.tables e below (T0.setTop (mkF m 157 #[.val (.ref a1), .val (.int p2), .val (.int p3), .val (.int i), .val (.int yA), .val (.int (4 : Int32)), .val (.int v101), .val (.int (191 : Int32)), s8, s9] [])) _
              refine XS.iload X0.here hx rfl (hb hby d4_157) rfl ?_
              show Steps p.tables e below (T0.setTop (mkF m 159 #[.val (.ref a1), .val (.int p2), .val (.int p3), .val (.int i), .val (.int yA), .val (.int (4 : Int32)), .val (.int v101), .val (.int (191 : Int32)), s8, s9] [(.int yA)])) _
              refine XS.sipush X0.here hx rfl (hb hby d4_159) ?_
              exact kont
            obtain ⟨v103, hv103, st104⟩ : ∃ (v103 : Int32), v103 = (if yA = (244 : Int32) then (143 : Int32) else (191 : Int32)) ∧ ∀ t, Steps p.tables e below (T0.setTop (mkF m 173 #[.val (.ref a1), .val (.int p2), .val (.int p3), .val (.int i), .val (.int yA), .val (.int (4 : Int32)), .val (.int v101), .val (.int (191 : Int32)), s8, s9] [(.int v103)])) t → Steps p.tables e below (T0.setTop (mkF m 162 #[.val (.ref a1), .val (.int p2), .val (.int p3), .val (.int i), .val (.int yA), .val (.int (4 : Int32)), .val (.int v101), .val (.int (191 : Int32)), s8, s9] [(.int (244 : Int32)), (.int yA)])) t := by
              by_cases hc162_11 : yA = (244 : Int32)
              · refine ⟨(143 : Int32), (by simp only [if_pos hc162_11]), fun tt kont => ?_⟩
                show Steps p.tables e below (T0.setTop (mkF m 162 #[.val (.ref a1), .val (.int p2), .val (.int p3), .val (.int i), .val (.int yA), .val (.int (4 : Int32)), .val (.int v101), .val (.int (191 : Int32)), s8, s9] [(.int (244 : Int32)), (.int yA)])) _
                refine XS.icmpNo X0.here hx rfl (hb hby d4_162) rfl (teq hc162_11).2 ?_
                show Steps p.tables e below (T0.setTop (mkF m 165 #[.val (.ref a1), .val (.int p2), .val (.int p3), .val (.int i), .val (.int yA), .val (.int (4 : Int32)), .val (.int v101), .val (.int (191 : Int32)), s8, s9] [])) _
                refine XS.sipush X0.here hx rfl (hb hby d4_165) ?_
                show Steps p.tables e below (T0.setTop (mkF m 168 #[.val (.ref a1), .val (.int p2), .val (.int p3), .val (.int i), .val (.int yA), .val (.int (4 : Int32)), .val (.int v101), .val (.int (191 : Int32)), s8, s9] [(.int (143 : Int32))])) _
                refine XS.goto X0.here hx rfl (pc0 := 168) (pc' := 173) rfl (hb hby d4_168) (by decide) (by decide) ?_
                exact kont
              · refine ⟨(191 : Int32), (by simp only [if_neg hc162_11]), fun tt kont => ?_⟩
                show Steps p.tables e below (T0.setTop (mkF m 162 #[.val (.ref a1), .val (.int p2), .val (.int p3), .val (.int i), .val (.int yA), .val (.int (4 : Int32)), .val (.int v101), .val (.int (191 : Int32)), s8, s9] [(.int (244 : Int32)), (.int yA)])) _
                refine XS.icmpYes X0.here hx rfl (pc0 := 162) (pc' := 171) rfl (hb hby d4_162) rfl (feq hc162_11).2 (by decide) (by decide) ?_
                show Steps p.tables e below (T0.setTop (mkF m 171 #[.val (.ref a1), .val (.int p2), .val (.int p3), .val (.int i), .val (.int yA), .val (.int (4 : Int32)), .val (.int v101), .val (.int (191 : Int32)), s8, s9] [])) _
                refine XS.iload X0.here hx rfl (hb hby d4_171) rfl ?_
                exact kont
            refine own_step st104 ?_
            have hlv103 : v103.toInt = own_hi (own_u F n 0) := own_hi4 hA hc21_3 hc45_4 hc53_5 hc75_7 hc133_9 hv103
            refine own_step (T' := T0) (f' := (mkF m 180 #[.val (.ref a1), .val (.int p2), .val (.int p3), .val (.int i), .val (.int yA), .val (.int (4 : Int32)), .val (.int v101), .val (.int v103), s8, s9] [])) (fun tt kont => ?_) ?_
            · show Steps p.tables e below (T0.setTop (mkF m 173 #[.val (.ref a1), .val (.int p2), .val (.int p3), .val (.int i), .val (.int yA), .val (.int (4 : Int32)), .val (.int v101), .val (.int (191 : Int32)), s8, s9] [(.int v103)])) _
              refine XS.istore X0.here hx rfl (hb hby d4_173) rfl (l' := #[.val (.ref a1), .val (.int p2), .val (.int p3), .val (.int i), .val (.int yA), .val (.int (4 : Int32)), .val (.int v101), .val (.int v103), s8, s9]) rfl ?_
              show Steps p.tables e below (T0.setTop (mkF m 175 #[.val (.ref a1), .val (.int p2), .val (.int p3), .val (.int i), .val (.int yA), .val (.int (4 : Int32)), .val (.int v101), .val (.int v103), s8, s9] [])) _
              refine XS.goto X0.here hx rfl (pc0 := 175) (pc' := 180) rfl (hb hby d4_175) (by decide) (by decide) ?_
              exact kont
            refine own_step (T' := T0) (f' := (mkF m 185 #[.val (.ref a1), .val (.int p2), .val (.int p3), .val (.int i), .val (.int yA), .val (.int (4 : Int32)), .val (.int v101), .val (.int v103), s8, s9] [(.int (4 : Int32)), (.int (p3 - i))])) (fun tt kont => ?_) ?_
            · show Steps p.tables e below (T0.setTop (mkF m 180 #[.val (.ref a1), .val (.int p2), .val (.int p3), .val (.int i), .val (.int yA), .val (.int (4 : Int32)), .val (.int v101), .val (.int v103), s8, s9] [])) _
              refine XS.iloadN X0.here hx rfl (hb hby d4_180) rfl ?_
              show Steps p.tables e below (T0.setTop (mkF m 181 #[.val (.ref a1), .val (.int p2), .val (.int p3), .val (.int i), .val (.int yA), .val (.int (4 : Int32)), .val (.int v101), .val (.int v103), s8, s9] [(.int p3)])) _
              refine XS.iloadN X0.here hx rfl (hb hby d4_181) rfl ?_
              show Steps p.tables e below (T0.setTop (mkF m 182 #[.val (.ref a1), .val (.int p2), .val (.int p3), .val (.int i), .val (.int yA), .val (.int (4 : Int32)), .val (.int v101), .val (.int v103), s8, s9] [(.int i), (.int p3)])) _
              refine XS.isub X0.here hx rfl (hb hby d4_182) rfl ?_
              show Steps p.tables e below (T0.setTop (mkF m 183 #[.val (.ref a1), .val (.int p2), .val (.int p3), .val (.int i), .val (.int yA), .val (.int (4 : Int32)), .val (.int v101), .val (.int v103), s8, s9] [(.int (p3 - i))])) _
              refine XS.iload X0.here hx rfl (hb hby d4_183) rfl ?_
              exact kont
            by_cases hc185_12 : (p3 - i) < (4 : Int32)
            · refine own_step (T' := T0) (f' := (mkF m 189 #[.val (.ref a1), .val (.int p2), .val (.int p3), .val (.int i), .val (.int yA), .val (.int (4 : Int32)), .val (.int v101), .val (.int v103), s8, s9] [(.int (0 : Int32))])) (fun tt kont => ?_) ?_
              · show Steps p.tables e below (T0.setTop (mkF m 185 #[.val (.ref a1), .val (.int p2), .val (.int p3), .val (.int i), .val (.int yA), .val (.int (4 : Int32)), .val (.int v101), .val (.int v103), s8, s9] [(.int (4 : Int32)), (.int (p3 - i))])) _
                refine XS.icmpNo X0.here hx rfl (hb hby d4_185) rfl (tlt hc185_12).2.1 ?_
                show Steps p.tables e below (T0.setTop (mkF m 188 #[.val (.ref a1), .val (.int p2), .val (.int p3), .val (.int i), .val (.int yA), .val (.int (4 : Int32)), .val (.int v101), .val (.int v103), s8, s9] [])) _
                refine XS.iconst X0.here hx rfl (hb hby d4_188) ?_
                exact kont
              have j1 : ¬ (own_u F n 0 < 128) := fun q => hc21_3 ((own_ltI hA (rfl : (128 : Int32).toInt = 128)).mpr q)
              have j2 : ¬ (own_u F n 0 < 194) := fun q => hc45_4 ((own_ltI hA (rfl : (194 : Int32).toInt = 194)).mpr q)
              have j3 : (223 < own_u F n 0) := (own_ltI (rfl : (223 : Int32).toInt = 223) hA).mp hc53_5
              have j4 : (239 < own_u F n 0) := (own_ltI (rfl : (239 : Int32).toInt = 239) hA).mp hc75_7
              have j5 : ¬ (244 < own_u F n 0) := fun q => hc133_9 ((own_ltI (rfl : (244 : Int32).toInt = 244) hA).mpr q)
              have j6 : ((E : Int) - n < 4) := (own_ltI hd (rfl : (4 : Int32).toInt = 4)).mp hc185_12
              have hnd : own_nd (own_u F n 0) = 4 := by simp only [own_nd]; rw [if_neg (by omega), if_neg (by omega)]
              have hst : own_cs (own_u F n) ((E : Int) - n) = 0 := by rw [own_cs, if_neg (by omega), if_neg (by omega), hnd, if_pos (by omega)]
              exact own_retZ X0 hx hret hlk (hb hby d4_189) hCC hSS (hQ0 hst)
            · refine own_step (T' := T0) (f' := (mkF m 194 #[.val (.ref a1), .val (.int p2), .val (.int p3), .val (.int i), .val (.int yA), .val (.int (4 : Int32)), .val (.int v101), .val (.int v103), s8, s9] [(.int (i + (1 : Int32))), (.ref a1)])) (fun tt kont => ?_) ?_
              · show Steps p.tables e below (T0.setTop (mkF m 185 #[.val (.ref a1), .val (.int p2), .val (.int p3), .val (.int i), .val (.int yA), .val (.int (4 : Int32)), .val (.int v101), .val (.int v103), s8, s9] [(.int (4 : Int32)), (.int (p3 - i))])) _
                refine XS.icmpYes X0.here hx rfl (pc0 := 185) (pc' := 190) rfl (hb hby d4_185) rfl (flt hc185_12).2.1 (by decide) (by decide) ?_
                show Steps p.tables e below (T0.setTop (mkF m 190 #[.val (.ref a1), .val (.int p2), .val (.int p3), .val (.int i), .val (.int yA), .val (.int (4 : Int32)), .val (.int v101), .val (.int v103), s8, s9] [])) _
                refine XS.aloadN X0.here hx rfl (hb hby d4_190) rfl rfl ?_
                show Steps p.tables e below (T0.setTop (mkF m 191 #[.val (.ref a1), .val (.int p2), .val (.int p3), .val (.int i), .val (.int yA), .val (.int (4 : Int32)), .val (.int v101), .val (.int v103), s8, s9] [(.ref a1)])) _
                refine XS.iloadN X0.here hx rfl (hb hby d4_191) rfl ?_
                show Steps p.tables e below (T0.setTop (mkF m 192 #[.val (.ref a1), .val (.int p2), .val (.int p3), .val (.int i), .val (.int yA), .val (.int (4 : Int32)), .val (.int v101), .val (.int v103), s8, s9] [(.int i), (.ref a1)])) _
                refine XS.iconst X0.here hx rfl (hb hby d4_192) ?_
                show Steps p.tables e below (T0.setTop (mkF m 193 #[.val (.ref a1), .val (.int p2), .val (.int p3), .val (.int i), .val (.int yA), .val (.int (4 : Int32)), .val (.int v101), .val (.int v103), s8, s9] [(.int (1 : Int32)), (.int i), (.ref a1)])) _
                refine XS.iadd X0.here hx rfl (hb hby d4_193) rfl ?_
                exact kont
              refine own_step (T' := T0) (f' := (mkF m 199 #[.val (.ref a1), .val (.int p2), .val (.int p3), .val (.int i), .val (.int yA), .val (.int (4 : Int32)), .val (.int v101), .val (.int v103), s8, s9] [(.int ((F (n + 1)) &&& (255 : Int32)))])) (fun tt kont => ?_) ?_
              · show Steps p.tables e below (T0.setTop (mkF m 194 #[.val (.ref a1), .val (.int p2), .val (.int p3), .val (.int i), .val (.int yA), .val (.int (4 : Int32)), .val (.int v101), .val (.int v103), s8, s9] [(.int (i + (1 : Int32))), (.ref a1)])) _
                refine own_ldB X0 hx hZ e0 VA (j := (i + (1 : Int32))) (i := (n + 1)) (own_at_plus hi (own_at_lit rfl (by decide) : own_at (1 : Int32) 1) (by omega)) (own_room hd hc185_12 (by decide) hE) (v := (F (n + 1))) rfl (g := (mkF m 194 #[.val (.ref a1), .val (.int p2), .val (.int p3), .val (.int i), .val (.int yA), .val (.int (4 : Int32)), .val (.int v101), .val (.int v103), s8, s9] [(.int (i + (1 : Int32))), (.ref a1)])) rfl rfl (hb hby d4_194) _ ?_
                show Steps p.tables e below (T0.setTop (mkF m 195 #[.val (.ref a1), .val (.int p2), .val (.int p3), .val (.int i), .val (.int yA), .val (.int (4 : Int32)), .val (.int v101), .val (.int v103), s8, s9] [(.int (F (n + 1)))])) _
                refine XS.sipush X0.here hx rfl (hb hby d4_195) ?_
                show Steps p.tables e below (T0.setTop (mkF m 198 #[.val (.ref a1), .val (.int p2), .val (.int p3), .val (.int i), .val (.int yA), .val (.int (4 : Int32)), .val (.int v101), .val (.int v103), s8, s9] [(.int (255 : Int32)), (.int (F (n + 1)))])) _
                refine XS.iand X0.here hx rfl (hb hby d4_198) rfl ?_
                exact kont
              show own_Go p e below T0 (mkF m 199 #[.val (.ref a1), .val (.int p2), .val (.int p3), .val (.int i), .val (.int yA), .val (.int (4 : Int32)), .val (.int v101), .val (.int v103), s8, s9] [(.int ((F (n + 1)) &&& (255 : Int32)))]) _
              obtain ⟨yB, hyB⟩ : ∃ z : Int32, z = ((F (n + 1)) &&& (255 : Int32)) := ⟨_, rfl⟩
              rw [← hyB]
              refine own_step (T' := T0) (f' := (mkF m 201 #[.val (.ref a1), .val (.int p2), .val (.int p3), .val (.int i), .val (.int yA), .val (.int (4 : Int32)), .val (.int v101), .val (.int v103), .val (.int yB), s9] [])) (fun tt kont => ?_) ?_
              · show Steps p.tables e below (T0.setTop (mkF m 199 #[.val (.ref a1), .val (.int p2), .val (.int p3), .val (.int i), .val (.int yA), .val (.int (4 : Int32)), .val (.int v101), .val (.int v103), s8, s9] [(.int yB)])) _
                refine XS.istoreS X0.here hx rfl (hb hby d4_199) rfl rfl hs8 ?_
                exact kont
              have hB : yB.toInt = own_u F n 1 := own_byte hyB
              refine own_step (T' := T0) (f' := (mkF m 205 #[.val (.ref a1), .val (.int p2), .val (.int p3), .val (.int i), .val (.int yA), .val (.int (4 : Int32)), .val (.int v101), .val (.int v103), .val (.int yB), s9] [(.int v101), (.int yB)])) (fun tt kont => ?_) ?_
              · show Steps p.tables e below (T0.setTop (mkF m 201 #[.val (.ref a1), .val (.int p2), .val (.int p3), .val (.int i), .val (.int yA), .val (.int (4 : Int32)), .val (.int v101), .val (.int v103), .val (.int yB), s9] [])) _
                refine XS.iload X0.here hx rfl (hb hby d4_201) rfl ?_
                show Steps p.tables e below (T0.setTop (mkF m 203 #[.val (.ref a1), .val (.int p2), .val (.int p3), .val (.int i), .val (.int yA), .val (.int (4 : Int32)), .val (.int v101), .val (.int v103), .val (.int yB), s9] [(.int yB)])) _
                refine XS.iload X0.here hx rfl (hb hby d4_203) rfl ?_
                exact kont
              by_cases hc205_14 : yB < v101
              · refine own_step (T' := T0) (f' := (mkF m 216 #[.val (.ref a1), .val (.int p2), .val (.int p3), .val (.int i), .val (.int yA), .val (.int (4 : Int32)), .val (.int v101), .val (.int v103), .val (.int yB), s9] [(.int (0 : Int32))])) (fun tt kont => ?_) ?_
                · show Steps p.tables e below (T0.setTop (mkF m 205 #[.val (.ref a1), .val (.int p2), .val (.int p3), .val (.int i), .val (.int yA), .val (.int (4 : Int32)), .val (.int v101), .val (.int v103), .val (.int yB), s9] [(.int v101), (.int yB)])) _
                  refine XS.icmpYes X0.here hx rfl (pc0 := 205) (pc' := 215) rfl (hb hby d4_205) rfl (tlt hc205_14).1 (by decide) (by decide) ?_
                  show Steps p.tables e below (T0.setTop (mkF m 215 #[.val (.ref a1), .val (.int p2), .val (.int p3), .val (.int i), .val (.int yA), .val (.int (4 : Int32)), .val (.int v101), .val (.int v103), .val (.int yB), s9] [])) _
                  refine XS.iconst X0.here hx rfl (hb hby d4_215) ?_
                  exact kont
                have j1 : ¬ (own_u F n 0 < 128) := fun q => hc21_3 ((own_ltI hA (rfl : (128 : Int32).toInt = 128)).mpr q)
                have j2 : ¬ (own_u F n 0 < 194) := fun q => hc45_4 ((own_ltI hA (rfl : (194 : Int32).toInt = 194)).mpr q)
                have j3 : (223 < own_u F n 0) := (own_ltI (rfl : (223 : Int32).toInt = 223) hA).mp hc53_5
                have j4 : (239 < own_u F n 0) := (own_ltI (rfl : (239 : Int32).toInt = 239) hA).mp hc75_7
                have j5 : ¬ (244 < own_u F n 0) := fun q => hc133_9 ((own_ltI (rfl : (244 : Int32).toInt = 244) hA).mpr q)
                have j6 : ¬ ((E : Int) - n < 4) := fun q => hc185_12 ((own_ltI hd (rfl : (4 : Int32).toInt = 4)).mpr q)
                have j7 : (own_u F n 1 < own_lo (own_u F n 0)) := (own_ltI hB hlv101).mp hc205_14
                have hnd : own_nd (own_u F n 0) = 4 := by simp only [own_nd]; rw [if_neg (by omega), if_neg (by omega)]
                have hst : own_cs (own_u F n) ((E : Int) - n) = 0 := by rw [own_cs, if_neg (by omega), if_neg (by omega), hnd, if_neg (by omega), if_pos (by omega)]
                exact own_retZ X0 hx hret hlk (hb hby d4_216) hCC hSS (hQ0 hst)
              · refine own_step (T' := T0) (f' := (mkF m 212 #[.val (.ref a1), .val (.int p2), .val (.int p3), .val (.int i), .val (.int yA), .val (.int (4 : Int32)), .val (.int v101), .val (.int v103), .val (.int yB), s9] [(.int v103), (.int yB)])) (fun tt kont => ?_) ?_
                · show Steps p.tables e below (T0.setTop (mkF m 205 #[.val (.ref a1), .val (.int p2), .val (.int p3), .val (.int i), .val (.int yA), .val (.int (4 : Int32)), .val (.int v101), .val (.int v103), .val (.int yB), s9] [(.int v101), (.int yB)])) _
                  refine XS.icmpNo X0.here hx rfl (hb hby d4_205) rfl (flt hc205_14).1 ?_
                  show Steps p.tables e below (T0.setTop (mkF m 208 #[.val (.ref a1), .val (.int p2), .val (.int p3), .val (.int i), .val (.int yA), .val (.int (4 : Int32)), .val (.int v101), .val (.int v103), .val (.int yB), s9] [])) _
                  refine XS.iload X0.here hx rfl (hb hby d4_208) rfl ?_
                  show Steps p.tables e below (T0.setTop (mkF m 210 #[.val (.ref a1), .val (.int p2), .val (.int p3), .val (.int i), .val (.int yA), .val (.int (4 : Int32)), .val (.int v101), .val (.int v103), .val (.int yB), s9] [(.int yB)])) _
                  refine XS.iload X0.here hx rfl (hb hby d4_210) rfl ?_
                  exact kont
                by_cases hc212_15 : v103 < yB
                · refine own_step (T' := T0) (f' := (mkF m 216 #[.val (.ref a1), .val (.int p2), .val (.int p3), .val (.int i), .val (.int yA), .val (.int (4 : Int32)), .val (.int v101), .val (.int v103), .val (.int yB), s9] [(.int (0 : Int32))])) (fun tt kont => ?_) ?_
                  · show Steps p.tables e below (T0.setTop (mkF m 212 #[.val (.ref a1), .val (.int p2), .val (.int p3), .val (.int i), .val (.int yA), .val (.int (4 : Int32)), .val (.int v101), .val (.int v103), .val (.int yB), s9] [(.int v103), (.int yB)])) _
                    refine XS.icmpNo X0.here hx rfl (hb hby d4_212) rfl (tlt hc212_15).2.2.2 ?_
                    show Steps p.tables e below (T0.setTop (mkF m 215 #[.val (.ref a1), .val (.int p2), .val (.int p3), .val (.int i), .val (.int yA), .val (.int (4 : Int32)), .val (.int v101), .val (.int v103), .val (.int yB), s9] [])) _
                    refine XS.iconst X0.here hx rfl (hb hby d4_215) ?_
                    exact kont
                  have j1 : ¬ (own_u F n 0 < 128) := fun q => hc21_3 ((own_ltI hA (rfl : (128 : Int32).toInt = 128)).mpr q)
                  have j2 : ¬ (own_u F n 0 < 194) := fun q => hc45_4 ((own_ltI hA (rfl : (194 : Int32).toInt = 194)).mpr q)
                  have j3 : (223 < own_u F n 0) := (own_ltI (rfl : (223 : Int32).toInt = 223) hA).mp hc53_5
                  have j4 : (239 < own_u F n 0) := (own_ltI (rfl : (239 : Int32).toInt = 239) hA).mp hc75_7
                  have j5 : ¬ (244 < own_u F n 0) := fun q => hc133_9 ((own_ltI (rfl : (244 : Int32).toInt = 244) hA).mpr q)
                  have j6 : ¬ ((E : Int) - n < 4) := fun q => hc185_12 ((own_ltI hd (rfl : (4 : Int32).toInt = 4)).mpr q)
                  have j7 : ¬ (own_u F n 1 < own_lo (own_u F n 0)) := fun q => hc205_14 ((own_ltI hB hlv101).mpr q)
                  have j8 : (own_hi (own_u F n 0) < own_u F n 1) := (own_ltI hlv103 hB).mp hc212_15
                  have hnd : own_nd (own_u F n 0) = 4 := by simp only [own_nd]; rw [if_neg (by omega), if_neg (by omega)]
                  have hst : own_cs (own_u F n) ((E : Int) - n) = 0 := by rw [own_cs, if_neg (by omega), if_neg (by omega), hnd, if_neg (by omega), if_pos (by omega)]
                  exact own_retZ X0 hx hret hlk (hb hby d4_216) hCC hSS (hQ0 hst)
                · refine own_step (T' := T0) (f' := (mkF m 232 #[.val (.ref a1), .val (.int p2), .val (.int p3), .val (.int i), .val (.int yA), .val (.int (4 : Int32)), .val (.int v101), .val (.int v103), .val (.int yB), .val (.int (2 : Int32))] [(.int (i + (2 : Int32))), (.ref a1)])) (fun tt kont => ?_) ?_
                  · show Steps p.tables e below (T0.setTop (mkF m 212 #[.val (.ref a1), .val (.int p2), .val (.int p3), .val (.int i), .val (.int yA), .val (.int (4 : Int32)), .val (.int v101), .val (.int v103), .val (.int yB), s9] [(.int v103), (.int yB)])) _
                    refine XS.icmpYes X0.here hx rfl (pc0 := 212) (pc' := 217) rfl (hb hby d4_212) rfl (flt hc212_15).2.2.2 (by decide) (by decide) ?_
                    show Steps p.tables e below (T0.setTop (mkF m 217 #[.val (.ref a1), .val (.int p2), .val (.int p3), .val (.int i), .val (.int yA), .val (.int (4 : Int32)), .val (.int v101), .val (.int v103), .val (.int yB), s9] [])) _
                    refine XS.iconst X0.here hx rfl (hb hby d4_217) ?_
                    show Steps p.tables e below (T0.setTop (mkF m 218 #[.val (.ref a1), .val (.int p2), .val (.int p3), .val (.int i), .val (.int yA), .val (.int (4 : Int32)), .val (.int v101), .val (.int v103), .val (.int yB), s9] [(.int (2 : Int32))])) _
                    refine XS.istoreS X0.here hx rfl (hb hby d4_218) rfl rfl hs9 ?_
                    show Steps p.tables e below (T0.setTop (mkF m 220 #[.val (.ref a1), .val (.int p2), .val (.int p3), .val (.int i), .val (.int yA), .val (.int (4 : Int32)), .val (.int v101), .val (.int v103), .val (.int yB), .val (.int (2 : Int32))] [])) _
                    refine XS.iload X0.here hx rfl (hb hby d4_220) rfl ?_
                    show Steps p.tables e below (T0.setTop (mkF m 222 #[.val (.ref a1), .val (.int p2), .val (.int p3), .val (.int i), .val (.int yA), .val (.int (4 : Int32)), .val (.int v101), .val (.int v103), .val (.int yB), .val (.int (2 : Int32))] [(.int (2 : Int32))])) _
                    refine XS.iload X0.here hx rfl (hb hby d4_222) rfl ?_
                    show Steps p.tables e below (T0.setTop (mkF m 224 #[.val (.ref a1), .val (.int p2), .val (.int p3), .val (.int i), .val (.int yA), .val (.int (4 : Int32)), .val (.int v101), .val (.int v103), .val (.int yB), .val (.int (2 : Int32))] [(.int (4 : Int32)), (.int (2 : Int32))])) _
                    refine XS.icmpNo X0.here hx rfl (hb hby d4_224) rfl (tlt (by decide : (2 : Int32) < (4 : Int32))).2.1 ?_
                    show Steps p.tables e below (T0.setTop (mkF m 227 #[.val (.ref a1), .val (.int p2), .val (.int p3), .val (.int i), .val (.int yA), .val (.int (4 : Int32)), .val (.int v101), .val (.int v103), .val (.int yB), .val (.int (2 : Int32))] [])) _
                    refine XS.aloadN X0.here hx rfl (hb hby d4_227) rfl rfl ?_
                    show Steps p.tables e below (T0.setTop (mkF m 228 #[.val (.ref a1), .val (.int p2), .val (.int p3), .val (.int i), .val (.int yA), .val (.int (4 : Int32)), .val (.int v101), .val (.int v103), .val (.int yB), .val (.int (2 : Int32))] [(.ref a1)])) _
                    refine XS.iloadN X0.here hx rfl (hb hby d4_228) rfl ?_
                    show Steps p.tables e below (T0.setTop (mkF m 229 #[.val (.ref a1), .val (.int p2), .val (.int p3), .val (.int i), .val (.int yA), .val (.int (4 : Int32)), .val (.int v101), .val (.int v103), .val (.int yB), .val (.int (2 : Int32))] [(.int i), (.ref a1)])) _
                    refine XS.iload X0.here hx rfl (hb hby d4_229) rfl ?_
                    show Steps p.tables e below (T0.setTop (mkF m 231 #[.val (.ref a1), .val (.int p2), .val (.int p3), .val (.int i), .val (.int yA), .val (.int (4 : Int32)), .val (.int v101), .val (.int v103), .val (.int yB), .val (.int (2 : Int32))] [(.int (2 : Int32)), (.int i), (.ref a1)])) _
                    refine XS.iadd X0.here hx rfl (hb hby d4_231) rfl ?_
                    exact kont
                  refine own_step (T' := T0) (f' := (mkF m 240 #[.val (.ref a1), .val (.int p2), .val (.int p3), .val (.int i), .val (.int yA), .val (.int (4 : Int32)), .val (.int v101), .val (.int v103), .val (.int yB), .val (.int (2 : Int32))] [(.int (128 : Int32)), (.int ((F (n + 2)) &&& (192 : Int32)))])) (fun tt kont => ?_) ?_
                  · show Steps p.tables e below (T0.setTop (mkF m 232 #[.val (.ref a1), .val (.int p2), .val (.int p3), .val (.int i), .val (.int yA), .val (.int (4 : Int32)), .val (.int v101), .val (.int v103), .val (.int yB), .val (.int (2 : Int32))] [(.int (i + (2 : Int32))), (.ref a1)])) _
                    refine own_ldB X0 hx hZ e0 VA (j := (i + (2 : Int32))) (i := (n + 2)) (own_at_plus hi (own_at_lit rfl (by decide) : own_at (2 : Int32) 2) (by omega)) (own_room hd hc185_12 (by decide) hE) (v := (F (n + 2))) rfl (g := (mkF m 232 #[.val (.ref a1), .val (.int p2), .val (.int p3), .val (.int i), .val (.int yA), .val (.int (4 : Int32)), .val (.int v101), .val (.int v103), .val (.int yB), .val (.int (2 : Int32))] [(.int (i + (2 : Int32))), (.ref a1)])) rfl rfl (hb hby d4_232) _ ?_
                    show Steps p.tables e below (T0.setTop (mkF m 233 #[.val (.ref a1), .val (.int p2), .val (.int p3), .val (.int i), .val (.int yA), .val (.int (4 : Int32)), .val (.int v101), .val (.int v103), .val (.int yB), .val (.int (2 : Int32))] [(.int (F (n + 2)))])) _
                    refine XS.sipush X0.here hx rfl (hb hby d4_233) ?_
                    show Steps p.tables e below (T0.setTop (mkF m 236 #[.val (.ref a1), .val (.int p2), .val (.int p3), .val (.int i), .val (.int yA), .val (.int (4 : Int32)), .val (.int v101), .val (.int v103), .val (.int yB), .val (.int (2 : Int32))] [(.int (192 : Int32)), (.int (F (n + 2)))])) _
                    refine XS.iand X0.here hx rfl (hb hby d4_236) rfl ?_
                    show Steps p.tables e below (T0.setTop (mkF m 237 #[.val (.ref a1), .val (.int p2), .val (.int p3), .val (.int i), .val (.int yA), .val (.int (4 : Int32)), .val (.int v101), .val (.int v103), .val (.int yB), .val (.int (2 : Int32))] [(.int ((F (n + 2)) &&& (192 : Int32)))])) _
                    refine XS.sipush X0.here hx rfl (hb hby d4_237) ?_
                    exact kont
                  by_cases hc240_17 : ((F (n + 2)) &&& (192 : Int32)) = (128 : Int32)
                  · refine own_step (T' := T0) (f' := (mkF m 232 #[.val (.ref a1), .val (.int p2), .val (.int p3), .val (.int i), .val (.int yA), .val (.int (4 : Int32)), .val (.int v101), .val (.int v103), .val (.int yB), .val (.int (3 : Int32))] [(.int (i + (3 : Int32))), (.ref a1)])) (fun tt kont => ?_) ?_
                    · show Steps p.tables e below (T0.setTop (mkF m 240 #[.val (.ref a1), .val (.int p2), .val (.int p3), .val (.int i), .val (.int yA), .val (.int (4 : Int32)), .val (.int v101), .val (.int v103), .val (.int yB), .val (.int (2 : Int32))] [(.int (128 : Int32)), (.int ((F (n + 2)) &&& (192 : Int32)))])) _
                      refine XS.icmpYes X0.here hx rfl (pc0 := 240) (pc' := 245) rfl (hb hby d4_240) rfl (teq hc240_17).1 (by decide) (by decide) ?_
                      show Steps p.tables e below (T0.setTop (mkF m 245 #[.val (.ref a1), .val (.int p2), .val (.int p3), .val (.int i), .val (.int yA), .val (.int (4 : Int32)), .val (.int v101), .val (.int v103), .val (.int yB), .val (.int (2 : Int32))] [])) _
                      refine XS.iinc X0.here hx rfl (hb hby d4_245) rfl (l' := #[.val (.ref a1), .val (.int p2), .val (.int p3), .val (.int i), .val (.int yA), .val (.int (4 : Int32)), .val (.int v101), .val (.int v103), .val (.int yB), .val (.int (3 : Int32))]) rfl ?_
                      show Steps p.tables e below (T0.setTop (mkF m 248 #[.val (.ref a1), .val (.int p2), .val (.int p3), .val (.int i), .val (.int yA), .val (.int (4 : Int32)), .val (.int v101), .val (.int v103), .val (.int yB), .val (.int (3 : Int32))] [])) _
                      refine XS.goto X0.here hx rfl (pc0 := 248) (pc' := 220) rfl (hb hby d4_248) (by decide) (by decide) ?_
                      show Steps p.tables e below (T0.setTop (mkF m 220 #[.val (.ref a1), .val (.int p2), .val (.int p3), .val (.int i), .val (.int yA), .val (.int (4 : Int32)), .val (.int v101), .val (.int v103), .val (.int yB), .val (.int (3 : Int32))] [])) _
                      refine XS.iload X0.here hx rfl (hb hby d4_220) rfl ?_
                      show Steps p.tables e below (T0.setTop (mkF m 222 #[.val (.ref a1), .val (.int p2), .val (.int p3), .val (.int i), .val (.int yA), .val (.int (4 : Int32)), .val (.int v101), .val (.int v103), .val (.int yB), .val (.int (3 : Int32))] [(.int (3 : Int32))])) _
                      refine XS.iload X0.here hx rfl (hb hby d4_222) rfl ?_
                      show Steps p.tables e below (T0.setTop (mkF m 224 #[.val (.ref a1), .val (.int p2), .val (.int p3), .val (.int i), .val (.int yA), .val (.int (4 : Int32)), .val (.int v101), .val (.int v103), .val (.int yB), .val (.int (3 : Int32))] [(.int (4 : Int32)), (.int (3 : Int32))])) _
                      refine XS.icmpNo X0.here hx rfl (hb hby d4_224) rfl (tlt (by decide : (3 : Int32) < (4 : Int32))).2.1 ?_
                      show Steps p.tables e below (T0.setTop (mkF m 227 #[.val (.ref a1), .val (.int p2), .val (.int p3), .val (.int i), .val (.int yA), .val (.int (4 : Int32)), .val (.int v101), .val (.int v103), .val (.int yB), .val (.int (3 : Int32))] [])) _
                      refine XS.aloadN X0.here hx rfl (hb hby d4_227) rfl rfl ?_
                      show Steps p.tables e below (T0.setTop (mkF m 228 #[.val (.ref a1), .val (.int p2), .val (.int p3), .val (.int i), .val (.int yA), .val (.int (4 : Int32)), .val (.int v101), .val (.int v103), .val (.int yB), .val (.int (3 : Int32))] [(.ref a1)])) _
                      refine XS.iloadN X0.here hx rfl (hb hby d4_228) rfl ?_
                      show Steps p.tables e below (T0.setTop (mkF m 229 #[.val (.ref a1), .val (.int p2), .val (.int p3), .val (.int i), .val (.int yA), .val (.int (4 : Int32)), .val (.int v101), .val (.int v103), .val (.int yB), .val (.int (3 : Int32))] [(.int i), (.ref a1)])) _
                      refine XS.iload X0.here hx rfl (hb hby d4_229) rfl ?_
                      show Steps p.tables e below (T0.setTop (mkF m 231 #[.val (.ref a1), .val (.int p2), .val (.int p3), .val (.int i), .val (.int yA), .val (.int (4 : Int32)), .val (.int v101), .val (.int v103), .val (.int yB), .val (.int (3 : Int32))] [(.int (3 : Int32)), (.int i), (.ref a1)])) _
                      refine XS.iadd X0.here hx rfl (hb hby d4_231) rfl ?_
                      exact kont
                    refine own_step (T' := T0) (f' := (mkF m 240 #[.val (.ref a1), .val (.int p2), .val (.int p3), .val (.int i), .val (.int yA), .val (.int (4 : Int32)), .val (.int v101), .val (.int v103), .val (.int yB), .val (.int (3 : Int32))] [(.int (128 : Int32)), (.int ((F (n + 3)) &&& (192 : Int32)))])) (fun tt kont => ?_) ?_
                    · show Steps p.tables e below (T0.setTop (mkF m 232 #[.val (.ref a1), .val (.int p2), .val (.int p3), .val (.int i), .val (.int yA), .val (.int (4 : Int32)), .val (.int v101), .val (.int v103), .val (.int yB), .val (.int (3 : Int32))] [(.int (i + (3 : Int32))), (.ref a1)])) _
                      refine own_ldB X0 hx hZ e0 VA (j := (i + (3 : Int32))) (i := (n + 3)) (own_at_plus hi (own_at_lit rfl (by decide) : own_at (3 : Int32) 3) (by omega)) (own_room hd hc185_12 (by decide) hE) (v := (F (n + 3))) rfl (g := (mkF m 232 #[.val (.ref a1), .val (.int p2), .val (.int p3), .val (.int i), .val (.int yA), .val (.int (4 : Int32)), .val (.int v101), .val (.int v103), .val (.int yB), .val (.int (3 : Int32))] [(.int (i + (3 : Int32))), (.ref a1)])) rfl rfl (hb hby d4_232) _ ?_
                      show Steps p.tables e below (T0.setTop (mkF m 233 #[.val (.ref a1), .val (.int p2), .val (.int p3), .val (.int i), .val (.int yA), .val (.int (4 : Int32)), .val (.int v101), .val (.int v103), .val (.int yB), .val (.int (3 : Int32))] [(.int (F (n + 3)))])) _
                      refine XS.sipush X0.here hx rfl (hb hby d4_233) ?_
                      show Steps p.tables e below (T0.setTop (mkF m 236 #[.val (.ref a1), .val (.int p2), .val (.int p3), .val (.int i), .val (.int yA), .val (.int (4 : Int32)), .val (.int v101), .val (.int v103), .val (.int yB), .val (.int (3 : Int32))] [(.int (192 : Int32)), (.int (F (n + 3)))])) _
                      refine XS.iand X0.here hx rfl (hb hby d4_236) rfl ?_
                      show Steps p.tables e below (T0.setTop (mkF m 237 #[.val (.ref a1), .val (.int p2), .val (.int p3), .val (.int i), .val (.int yA), .val (.int (4 : Int32)), .val (.int v101), .val (.int v103), .val (.int yB), .val (.int (3 : Int32))] [(.int ((F (n + 3)) &&& (192 : Int32)))])) _
                      refine XS.sipush X0.here hx rfl (hb hby d4_237) ?_
                      exact kont
                    by_cases hc240_19 : ((F (n + 3)) &&& (192 : Int32)) = (128 : Int32)
                    · refine own_step (T' := T0) (f' := (mkF m 251 #[.val (.ref a1), .val (.int p2), .val (.int p3), .val (.int i), .val (.int yA), .val (.int (4 : Int32)), .val (.int v101), .val (.int v103), .val (.int yB), .val (.int (4 : Int32))] [])) (fun tt kont => ?_) ?_
                      · show Steps p.tables e below (T0.setTop (mkF m 240 #[.val (.ref a1), .val (.int p2), .val (.int p3), .val (.int i), .val (.int yA), .val (.int (4 : Int32)), .val (.int v101), .val (.int v103), .val (.int yB), .val (.int (3 : Int32))] [(.int (128 : Int32)), (.int ((F (n + 3)) &&& (192 : Int32)))])) _
                        refine XS.icmpYes X0.here hx rfl (pc0 := 240) (pc' := 245) rfl (hb hby d4_240) rfl (teq hc240_19).1 (by decide) (by decide) ?_
                        show Steps p.tables e below (T0.setTop (mkF m 245 #[.val (.ref a1), .val (.int p2), .val (.int p3), .val (.int i), .val (.int yA), .val (.int (4 : Int32)), .val (.int v101), .val (.int v103), .val (.int yB), .val (.int (3 : Int32))] [])) _
                        refine XS.iinc X0.here hx rfl (hb hby d4_245) rfl (l' := #[.val (.ref a1), .val (.int p2), .val (.int p3), .val (.int i), .val (.int yA), .val (.int (4 : Int32)), .val (.int v101), .val (.int v103), .val (.int yB), .val (.int (4 : Int32))]) rfl ?_
                        show Steps p.tables e below (T0.setTop (mkF m 248 #[.val (.ref a1), .val (.int p2), .val (.int p3), .val (.int i), .val (.int yA), .val (.int (4 : Int32)), .val (.int v101), .val (.int v103), .val (.int yB), .val (.int (4 : Int32))] [])) _
                        refine XS.goto X0.here hx rfl (pc0 := 248) (pc' := 220) rfl (hb hby d4_248) (by decide) (by decide) ?_
                        show Steps p.tables e below (T0.setTop (mkF m 220 #[.val (.ref a1), .val (.int p2), .val (.int p3), .val (.int i), .val (.int yA), .val (.int (4 : Int32)), .val (.int v101), .val (.int v103), .val (.int yB), .val (.int (4 : Int32))] [])) _
                        refine XS.iload X0.here hx rfl (hb hby d4_220) rfl ?_
                        show Steps p.tables e below (T0.setTop (mkF m 222 #[.val (.ref a1), .val (.int p2), .val (.int p3), .val (.int i), .val (.int yA), .val (.int (4 : Int32)), .val (.int v101), .val (.int v103), .val (.int yB), .val (.int (4 : Int32))] [(.int (4 : Int32))])) _
                        refine XS.iload X0.here hx rfl (hb hby d4_222) rfl ?_
                        show Steps p.tables e below (T0.setTop (mkF m 224 #[.val (.ref a1), .val (.int p2), .val (.int p3), .val (.int i), .val (.int yA), .val (.int (4 : Int32)), .val (.int v101), .val (.int v103), .val (.int yB), .val (.int (4 : Int32))] [(.int (4 : Int32)), (.int (4 : Int32))])) _
                        refine XS.icmpYes X0.here hx rfl (pc0 := 224) (pc' := 251) rfl (hb hby d4_224) rfl (flt (by decide : ¬ ((4 : Int32) < (4 : Int32)))).2.1 (by decide) (by decide) ?_
                        exact kont
                      refine own_step (T' := T0) (f' := (mkF m 2 #[.val (.ref a1), .val (.int p2), .val (.int p3), .val (.int (i + (4 : Int32))), .val (.int yA), .val (.int (4 : Int32)), .val (.int v101), .val (.int v103), .val (.int yB), .val (.int (4 : Int32))] [])) (fun tt kont => ?_) ?_
                      · show Steps p.tables e below (T0.setTop (mkF m 251 #[.val (.ref a1), .val (.int p2), .val (.int p3), .val (.int i), .val (.int yA), .val (.int (4 : Int32)), .val (.int v101), .val (.int v103), .val (.int yB), .val (.int (4 : Int32))] [])) _
                        refine XS.iloadN X0.here hx rfl (hb hby d4_251) rfl ?_
                        show Steps p.tables e below (T0.setTop (mkF m 252 #[.val (.ref a1), .val (.int p2), .val (.int p3), .val (.int i), .val (.int yA), .val (.int (4 : Int32)), .val (.int v101), .val (.int v103), .val (.int yB), .val (.int (4 : Int32))] [(.int i)])) _
                        refine XS.iload X0.here hx rfl (hb hby d4_252) rfl ?_
                        show Steps p.tables e below (T0.setTop (mkF m 254 #[.val (.ref a1), .val (.int p2), .val (.int p3), .val (.int i), .val (.int yA), .val (.int (4 : Int32)), .val (.int v101), .val (.int v103), .val (.int yB), .val (.int (4 : Int32))] [(.int (4 : Int32)), (.int i)])) _
                        refine XS.iadd X0.here hx rfl (hb hby d4_254) rfl ?_
                        show Steps p.tables e below (T0.setTop (mkF m 255 #[.val (.ref a1), .val (.int p2), .val (.int p3), .val (.int i), .val (.int yA), .val (.int (4 : Int32)), .val (.int v101), .val (.int v103), .val (.int yB), .val (.int (4 : Int32))] [(.int (i + (4 : Int32)))])) _
                        refine XS.istoreN X0.here hx rfl (hb hby d4_255) rfl (l' := #[.val (.ref a1), .val (.int p2), .val (.int p3), .val (.int (i + (4 : Int32))), .val (.int yA), .val (.int (4 : Int32)), .val (.int v101), .val (.int v103), .val (.int yB), .val (.int (4 : Int32))]) rfl ?_
                        show Steps p.tables e below (T0.setTop (mkF m 256 #[.val (.ref a1), .val (.int p2), .val (.int p3), .val (.int (i + (4 : Int32))), .val (.int yA), .val (.int (4 : Int32)), .val (.int v101), .val (.int v103), .val (.int yB), .val (.int (4 : Int32))] [])) _
                        refine XS.goto X0.here hx rfl (pc0 := 256) (pc' := 2) rfl (hb hby d4_256) (by decide) (by decide) ?_
                        exact kont
                      have j1 : ¬ (own_u F n 0 < 128) := fun q => hc21_3 ((own_ltI hA (rfl : (128 : Int32).toInt = 128)).mpr q)
                      have j2 : ¬ (own_u F n 0 < 194) := fun q => hc45_4 ((own_ltI hA (rfl : (194 : Int32).toInt = 194)).mpr q)
                      have j3 : (223 < own_u F n 0) := (own_ltI (rfl : (223 : Int32).toInt = 223) hA).mp hc53_5
                      have j4 : (239 < own_u F n 0) := (own_ltI (rfl : (239 : Int32).toInt = 239) hA).mp hc75_7
                      have j5 : ¬ (244 < own_u F n 0) := fun q => hc133_9 ((own_ltI (rfl : (244 : Int32).toInt = 244) hA).mpr q)
                      have j6 : ¬ ((E : Int) - n < 4) := fun q => hc185_12 ((own_ltI hd (rfl : (4 : Int32).toInt = 4)).mpr q)
                      have j7 : ¬ (own_u F n 1 < own_lo (own_u F n 0)) := fun q => hc205_14 ((own_ltI hB hlv101).mpr q)
                      have j8 : ¬ (own_hi (own_u F n 0) < own_u F n 1) := fun q => hc212_15 ((own_ltI hlv103 hB).mpr q)
                      have j9 : (128 ≤ own_u F n 2 ∧ own_u F n 2 ≤ 191) := (own_and192 _).mp hc240_17
                      have j10 : (128 ≤ own_u F n 3 ∧ own_u F n 3 ≤ 191) := (own_and192 _).mp hc240_19
                      have hnd : own_nd (own_u F n 0) = 4 := by simp only [own_nd]; rw [if_neg (by omega), if_neg (by omega)]
                      have hst : own_cs (own_u F n) ((E : Int) - n) = 4 := by rw [own_cs, if_neg (by omega), if_neg (by omega), hnd, if_neg (by omega), if_neg (by omega), if_neg (by omega), if_neg (by omega)]
                      exact kt _ 4 _ _ _ _ _ _ (One.val rfl) (One.val rfl) (One.val rfl) (One.val rfl) (One.val rfl) (One.val rfl) hst (by decide) (own_at_plus hi (own_at_lit rfl (by decide) : own_at (4 : Int32) 4) (by omega))
                    · refine own_step (T' := T0) (f' := (mkF m 244 #[.val (.ref a1), .val (.int p2), .val (.int p3), .val (.int i), .val (.int yA), .val (.int (4 : Int32)), .val (.int v101), .val (.int v103), .val (.int yB), .val (.int (3 : Int32))] [(.int (0 : Int32))])) (fun tt kont => ?_) ?_
                      · show Steps p.tables e below (T0.setTop (mkF m 240 #[.val (.ref a1), .val (.int p2), .val (.int p3), .val (.int i), .val (.int yA), .val (.int (4 : Int32)), .val (.int v101), .val (.int v103), .val (.int yB), .val (.int (3 : Int32))] [(.int (128 : Int32)), (.int ((F (n + 3)) &&& (192 : Int32)))])) _
                        refine XS.icmpNo X0.here hx rfl (hb hby d4_240) rfl (feq hc240_19).1 ?_
                        show Steps p.tables e below (T0.setTop (mkF m 243 #[.val (.ref a1), .val (.int p2), .val (.int p3), .val (.int i), .val (.int yA), .val (.int (4 : Int32)), .val (.int v101), .val (.int v103), .val (.int yB), .val (.int (3 : Int32))] [])) _
                        refine XS.iconst X0.here hx rfl (hb hby d4_243) ?_
                        exact kont
                      have j1 : ¬ (own_u F n 0 < 128) := fun q => hc21_3 ((own_ltI hA (rfl : (128 : Int32).toInt = 128)).mpr q)
                      have j2 : ¬ (own_u F n 0 < 194) := fun q => hc45_4 ((own_ltI hA (rfl : (194 : Int32).toInt = 194)).mpr q)
                      have j3 : (223 < own_u F n 0) := (own_ltI (rfl : (223 : Int32).toInt = 223) hA).mp hc53_5
                      have j4 : (239 < own_u F n 0) := (own_ltI (rfl : (239 : Int32).toInt = 239) hA).mp hc75_7
                      have j5 : ¬ (244 < own_u F n 0) := fun q => hc133_9 ((own_ltI (rfl : (244 : Int32).toInt = 244) hA).mpr q)
                      have j6 : ¬ ((E : Int) - n < 4) := fun q => hc185_12 ((own_ltI hd (rfl : (4 : Int32).toInt = 4)).mpr q)
                      have j7 : ¬ (own_u F n 1 < own_lo (own_u F n 0)) := fun q => hc205_14 ((own_ltI hB hlv101).mpr q)
                      have j8 : ¬ (own_hi (own_u F n 0) < own_u F n 1) := fun q => hc212_15 ((own_ltI hlv103 hB).mpr q)
                      have j9 : (128 ≤ own_u F n 2 ∧ own_u F n 2 ≤ 191) := (own_and192 _).mp hc240_17
                      have j10 : ¬ (128 ≤ own_u F n 3 ∧ own_u F n 3 ≤ 191) := fun q => hc240_19 ((own_and192 _).mpr q)
                      have hnd : own_nd (own_u F n 0) = 4 := by simp only [own_nd]; rw [if_neg (by omega), if_neg (by omega)]
                      have hst : own_cs (own_u F n) ((E : Int) - n) = 0 := by rw [own_cs, if_neg (by omega), if_neg (by omega), hnd, if_neg (by omega), if_neg (by omega), if_neg (by omega), if_pos (by omega)]
                      exact own_retZ X0 hx hret hlk (hb hby d4_244) hCC hSS (hQ0 hst)
                  · refine own_step (T' := T0) (f' := (mkF m 244 #[.val (.ref a1), .val (.int p2), .val (.int p3), .val (.int i), .val (.int yA), .val (.int (4 : Int32)), .val (.int v101), .val (.int v103), .val (.int yB), .val (.int (2 : Int32))] [(.int (0 : Int32))])) (fun tt kont => ?_) ?_
                    · show Steps p.tables e below (T0.setTop (mkF m 240 #[.val (.ref a1), .val (.int p2), .val (.int p3), .val (.int i), .val (.int yA), .val (.int (4 : Int32)), .val (.int v101), .val (.int v103), .val (.int yB), .val (.int (2 : Int32))] [(.int (128 : Int32)), (.int ((F (n + 2)) &&& (192 : Int32)))])) _
                      refine XS.icmpNo X0.here hx rfl (hb hby d4_240) rfl (feq hc240_17).1 ?_
                      show Steps p.tables e below (T0.setTop (mkF m 243 #[.val (.ref a1), .val (.int p2), .val (.int p3), .val (.int i), .val (.int yA), .val (.int (4 : Int32)), .val (.int v101), .val (.int v103), .val (.int yB), .val (.int (2 : Int32))] [])) _
                      refine XS.iconst X0.here hx rfl (hb hby d4_243) ?_
                      exact kont
                    have j1 : ¬ (own_u F n 0 < 128) := fun q => hc21_3 ((own_ltI hA (rfl : (128 : Int32).toInt = 128)).mpr q)
                    have j2 : ¬ (own_u F n 0 < 194) := fun q => hc45_4 ((own_ltI hA (rfl : (194 : Int32).toInt = 194)).mpr q)
                    have j3 : (223 < own_u F n 0) := (own_ltI (rfl : (223 : Int32).toInt = 223) hA).mp hc53_5
                    have j4 : (239 < own_u F n 0) := (own_ltI (rfl : (239 : Int32).toInt = 239) hA).mp hc75_7
                    have j5 : ¬ (244 < own_u F n 0) := fun q => hc133_9 ((own_ltI (rfl : (244 : Int32).toInt = 244) hA).mpr q)
                    have j6 : ¬ ((E : Int) - n < 4) := fun q => hc185_12 ((own_ltI hd (rfl : (4 : Int32).toInt = 4)).mpr q)
                    have j7 : ¬ (own_u F n 1 < own_lo (own_u F n 0)) := fun q => hc205_14 ((own_ltI hB hlv101).mpr q)
                    have j8 : ¬ (own_hi (own_u F n 0) < own_u F n 1) := fun q => hc212_15 ((own_ltI hlv103 hB).mpr q)
                    have j9 : ¬ (128 ≤ own_u F n 2 ∧ own_u F n 2 ≤ 191) := fun q => hc240_17 ((own_and192 _).mpr q)
                    have hnd : own_nd (own_u F n 0) = 4 := by simp only [own_nd]; rw [if_neg (by omega), if_neg (by omega)]
                    have hst : own_cs (own_u F n) ((E : Int) - n) = 0 := by rw [own_cs, if_neg (by omega), if_neg (by omega), hnd, if_neg (by omega), if_neg (by omega), if_pos (by omega)]
                    exact own_retZ X0 hx hret hlk (hb hby d4_244) hCC hSS (hQ0 hst)
        · refine own_step (T' := T0) (f' := (mkF m 86 #[.val (.ref a1), .val (.int p2), .val (.int p3), .val (.int i), .val (.int yA), .val (.int (3 : Int32)), .val (.int (128 : Int32)), .val (.int (191 : Int32)), s8, s9] [(.int (224 : Int32)), (.int yA)])) (fun tt kont => ?_) ?_
          · show Steps p.tables e below (T0.setTop (mkF m 75 #[.val (.ref a1), .val (.int p2), .val (.int p3), .val (.int i), .val (.int yA), s5, .val (.int (128 : Int32)), .val (.int (191 : Int32)), s8, s9] [(.int (239 : Int32)), (.int yA)])) _
            refine XS.icmpNo X0.here hx rfl (hb hby d4_75) rfl (flt hc75_7).2.2.1 ?_
            show Steps p.tables e below (T0.setTop (mkF m 78 #[.val (.ref a1), .val (.int p2), .val (.int p3), .val (.int i), .val (.int yA), s5, .val (.int (128 : Int32)), .val (.int (191 : Int32)), s8, s9] [])) _
            refine XS.iconst X0.here hx rfl (hb hby d4_78) ?_
            show Steps p.tables e below (T0.setTop (mkF m 79 #[.val (.ref a1), .val (.int p2), .val (.int p3), .val (.int i), .val (.int yA), s5, .val (.int (128 : Int32)), .val (.int (191 : Int32)), s8, s9] [(.int (3 : Int32))])) _
            refine XS.istoreS X0.here hx rfl (hb hby d4_79) rfl rfl hs5 ?_
            show Steps p.tables e below (T0.setTop (mkF m 81 #[.val (.ref a1), .val (.int p2), .val (.int p3), .val (.int i), .val (.int yA), .val (.int (3 : Int32)), .val (.int (128 : Int32)), .val (.int (191 : Int32)), s8, s9] [])) _
            refine XS.iload X0.here hx rfl (hb hby d4_81) rfl ?_
            show Steps p.tables e below (T0.setTop (mkF m 83 #[.val (.ref a1), .val (.int p2), .val (.int p3), .val (.int i), .val (.int yA), .val (.int (3 : Int32)), .val (.int (128 : Int32)), .val (.int (191 : Int32)), s8, s9] [(.int yA)])) _
            refine XS.sipush X0.here hx rfl (hb hby d4_83) ?_
            exact kont
          obtain ⟨v105, hv105, st106⟩ : ∃ (v105 : Int32), v105 = (if yA = (224 : Int32) then (160 : Int32) else (128 : Int32)) ∧ ∀ t, Steps p.tables e below (T0.setTop (mkF m 97 #[.val (.ref a1), .val (.int p2), .val (.int p3), .val (.int i), .val (.int yA), .val (.int (3 : Int32)), .val (.int (128 : Int32)), .val (.int (191 : Int32)), s8, s9] [(.int v105)])) t → Steps p.tables e below (T0.setTop (mkF m 86 #[.val (.ref a1), .val (.int p2), .val (.int p3), .val (.int i), .val (.int yA), .val (.int (3 : Int32)), .val (.int (128 : Int32)), .val (.int (191 : Int32)), s8, s9] [(.int (224 : Int32)), (.int yA)])) t := by
            by_cases hc86_8 : yA = (224 : Int32)
            · refine ⟨(160 : Int32), (by simp only [if_pos hc86_8]), fun tt kont => ?_⟩
              show Steps p.tables e below (T0.setTop (mkF m 86 #[.val (.ref a1), .val (.int p2), .val (.int p3), .val (.int i), .val (.int yA), .val (.int (3 : Int32)), .val (.int (128 : Int32)), .val (.int (191 : Int32)), s8, s9] [(.int (224 : Int32)), (.int yA)])) _
              refine XS.icmpNo X0.here hx rfl (hb hby d4_86) rfl (teq hc86_8).2 ?_
              show Steps p.tables e below (T0.setTop (mkF m 89 #[.val (.ref a1), .val (.int p2), .val (.int p3), .val (.int i), .val (.int yA), .val (.int (3 : Int32)), .val (.int (128 : Int32)), .val (.int (191 : Int32)), s8, s9] [])) _
              refine XS.sipush X0.here hx rfl (hb hby d4_89) ?_
              show Steps p.tables e below (T0.setTop (mkF m 92 #[.val (.ref a1), .val (.int p2), .val (.int p3), .val (.int i), .val (.int yA), .val (.int (3 : Int32)), .val (.int (128 : Int32)), .val (.int (191 : Int32)), s8, s9] [(.int (160 : Int32))])) _
              refine XS.goto X0.here hx rfl (pc0 := 92) (pc' := 97) rfl (hb hby d4_92) (by decide) (by decide) ?_
              exact kont
            · refine ⟨(128 : Int32), (by simp only [if_neg hc86_8]), fun tt kont => ?_⟩
              show Steps p.tables e below (T0.setTop (mkF m 86 #[.val (.ref a1), .val (.int p2), .val (.int p3), .val (.int i), .val (.int yA), .val (.int (3 : Int32)), .val (.int (128 : Int32)), .val (.int (191 : Int32)), s8, s9] [(.int (224 : Int32)), (.int yA)])) _
              refine XS.icmpYes X0.here hx rfl (pc0 := 86) (pc' := 95) rfl (hb hby d4_86) rfl (feq hc86_8).2 (by decide) (by decide) ?_
              show Steps p.tables e below (T0.setTop (mkF m 95 #[.val (.ref a1), .val (.int p2), .val (.int p3), .val (.int i), .val (.int yA), .val (.int (3 : Int32)), .val (.int (128 : Int32)), .val (.int (191 : Int32)), s8, s9] [])) _
              refine XS.iload X0.here hx rfl (hb hby d4_95) rfl ?_
              exact kont
          refine own_step st106 ?_
          have hlv105 : v105.toInt = own_lo (own_u F n 0) := own_lo3 hA hc21_3 hc45_4 hc53_5 hc75_7 hv105
          refine own_step (T' := T0) (f' := (mkF m 104 #[.val (.ref a1), .val (.int p2), .val (.int p3), .val (.int i), .val (.int yA), .val (.int (3 : Int32)), .val (.int v105), .val (.int (191 : Int32)), s8, s9] [(.int (237 : Int32)), (.int yA)])) (fun tt kont => ?_) ?_
          · show Steps p.tables e below (T0.setTop (mkF m 97 #[.val (.ref a1), .val (.int p2), .val (.int p3), .val (.int i), .val (.int yA), .val (.int (3 : Int32)), .val (.int (128 : Int32)), .val (.int (191 : Int32)), s8, s9] [(.int v105)])) _
            refine XS.istore X0.here hx rfl (hb hby d4_97) rfl (l' := #[.val (.ref a1), .val (.int p2), .val (.int p3), .val (.int i), .val (.int yA), .val (.int (3 : Int32)), .val (.int v105), .val (.int (191 : Int32)), s8, s9]) rfl ?_
            show Steps p.tables e below (T0.setTop (mkF m 99 #[.val (.ref a1), .val (.int p2), .val (.int p3), .val (.int i), .val (.int yA), .val (.int (3 : Int32)), .val (.int v105), .val (.int (191 : Int32)), s8, s9] [])) _
            refine XS.iload X0.here hx rfl (hb hby d4_99) rfl ?_
            show Steps p.tables e below (T0.setTop (mkF m 101 #[.val (.ref a1), .val (.int p2), .val (.int p3), .val (.int i), .val (.int yA), .val (.int (3 : Int32)), .val (.int v105), .val (.int (191 : Int32)), s8, s9] [(.int yA)])) _
            refine XS.sipush X0.here hx rfl (hb hby d4_101) ?_
            exact kont
          obtain ⟨v107, hv107, st108⟩ : ∃ (v107 : Int32), v107 = (if yA = (237 : Int32) then (159 : Int32) else (191 : Int32)) ∧ ∀ t, Steps p.tables e below (T0.setTop (mkF m 115 #[.val (.ref a1), .val (.int p2), .val (.int p3), .val (.int i), .val (.int yA), .val (.int (3 : Int32)), .val (.int v105), .val (.int (191 : Int32)), s8, s9] [(.int v107)])) t → Steps p.tables e below (T0.setTop (mkF m 104 #[.val (.ref a1), .val (.int p2), .val (.int p3), .val (.int i), .val (.int yA), .val (.int (3 : Int32)), .val (.int v105), .val (.int (191 : Int32)), s8, s9] [(.int (237 : Int32)), (.int yA)])) t := by
            by_cases hc104_9 : yA = (237 : Int32)
            · refine ⟨(159 : Int32), (by simp only [if_pos hc104_9]), fun tt kont => ?_⟩
              show Steps p.tables e below (T0.setTop (mkF m 104 #[.val (.ref a1), .val (.int p2), .val (.int p3), .val (.int i), .val (.int yA), .val (.int (3 : Int32)), .val (.int v105), .val (.int (191 : Int32)), s8, s9] [(.int (237 : Int32)), (.int yA)])) _
              refine XS.icmpNo X0.here hx rfl (hb hby d4_104) rfl (teq hc104_9).2 ?_
              show Steps p.tables e below (T0.setTop (mkF m 107 #[.val (.ref a1), .val (.int p2), .val (.int p3), .val (.int i), .val (.int yA), .val (.int (3 : Int32)), .val (.int v105), .val (.int (191 : Int32)), s8, s9] [])) _
              refine XS.sipush X0.here hx rfl (hb hby d4_107) ?_
              show Steps p.tables e below (T0.setTop (mkF m 110 #[.val (.ref a1), .val (.int p2), .val (.int p3), .val (.int i), .val (.int yA), .val (.int (3 : Int32)), .val (.int v105), .val (.int (191 : Int32)), s8, s9] [(.int (159 : Int32))])) _
              refine XS.goto X0.here hx rfl (pc0 := 110) (pc' := 115) rfl (hb hby d4_110) (by decide) (by decide) ?_
              exact kont
            · refine ⟨(191 : Int32), (by simp only [if_neg hc104_9]), fun tt kont => ?_⟩
              show Steps p.tables e below (T0.setTop (mkF m 104 #[.val (.ref a1), .val (.int p2), .val (.int p3), .val (.int i), .val (.int yA), .val (.int (3 : Int32)), .val (.int v105), .val (.int (191 : Int32)), s8, s9] [(.int (237 : Int32)), (.int yA)])) _
              refine XS.icmpYes X0.here hx rfl (pc0 := 104) (pc' := 113) rfl (hb hby d4_104) rfl (feq hc104_9).2 (by decide) (by decide) ?_
              show Steps p.tables e below (T0.setTop (mkF m 113 #[.val (.ref a1), .val (.int p2), .val (.int p3), .val (.int i), .val (.int yA), .val (.int (3 : Int32)), .val (.int v105), .val (.int (191 : Int32)), s8, s9] [])) _
              refine XS.iload X0.here hx rfl (hb hby d4_113) rfl ?_
              exact kont
          refine own_step st108 ?_
          have hlv107 : v107.toInt = own_hi (own_u F n 0) := own_hi3 hA hc21_3 hc45_4 hc53_5 hc75_7 hv107
          refine own_step (T' := T0) (f' := (mkF m 180 #[.val (.ref a1), .val (.int p2), .val (.int p3), .val (.int i), .val (.int yA), .val (.int (3 : Int32)), .val (.int v105), .val (.int v107), s8, s9] [])) (fun tt kont => ?_) ?_
          · show Steps p.tables e below (T0.setTop (mkF m 115 #[.val (.ref a1), .val (.int p2), .val (.int p3), .val (.int i), .val (.int yA), .val (.int (3 : Int32)), .val (.int v105), .val (.int (191 : Int32)), s8, s9] [(.int v107)])) _
            refine XS.istore X0.here hx rfl (hb hby d4_115) rfl (l' := #[.val (.ref a1), .val (.int p2), .val (.int p3), .val (.int i), .val (.int yA), .val (.int (3 : Int32)), .val (.int v105), .val (.int v107), s8, s9]) rfl ?_
            show Steps p.tables e below (T0.setTop (mkF m 117 #[.val (.ref a1), .val (.int p2), .val (.int p3), .val (.int i), .val (.int yA), .val (.int (3 : Int32)), .val (.int v105), .val (.int v107), s8, s9] [])) _
            refine XS.goto X0.here hx rfl (pc0 := 117) (pc' := 180) rfl (hb hby d4_117) (by decide) (by decide) ?_
            exact kont
          refine own_step (T' := T0) (f' := (mkF m 185 #[.val (.ref a1), .val (.int p2), .val (.int p3), .val (.int i), .val (.int yA), .val (.int (3 : Int32)), .val (.int v105), .val (.int v107), s8, s9] [(.int (3 : Int32)), (.int (p3 - i))])) (fun tt kont => ?_) ?_
          · show Steps p.tables e below (T0.setTop (mkF m 180 #[.val (.ref a1), .val (.int p2), .val (.int p3), .val (.int i), .val (.int yA), .val (.int (3 : Int32)), .val (.int v105), .val (.int v107), s8, s9] [])) _
            refine XS.iloadN X0.here hx rfl (hb hby d4_180) rfl ?_
            show Steps p.tables e below (T0.setTop (mkF m 181 #[.val (.ref a1), .val (.int p2), .val (.int p3), .val (.int i), .val (.int yA), .val (.int (3 : Int32)), .val (.int v105), .val (.int v107), s8, s9] [(.int p3)])) _
            refine XS.iloadN X0.here hx rfl (hb hby d4_181) rfl ?_
            show Steps p.tables e below (T0.setTop (mkF m 182 #[.val (.ref a1), .val (.int p2), .val (.int p3), .val (.int i), .val (.int yA), .val (.int (3 : Int32)), .val (.int v105), .val (.int v107), s8, s9] [(.int i), (.int p3)])) _
            refine XS.isub X0.here hx rfl (hb hby d4_182) rfl ?_
            show Steps p.tables e below (T0.setTop (mkF m 183 #[.val (.ref a1), .val (.int p2), .val (.int p3), .val (.int i), .val (.int yA), .val (.int (3 : Int32)), .val (.int v105), .val (.int v107), s8, s9] [(.int (p3 - i))])) _
            refine XS.iload X0.here hx rfl (hb hby d4_183) rfl ?_
            exact kont
          by_cases hc185_10 : (p3 - i) < (3 : Int32)
          · refine own_step (T' := T0) (f' := (mkF m 189 #[.val (.ref a1), .val (.int p2), .val (.int p3), .val (.int i), .val (.int yA), .val (.int (3 : Int32)), .val (.int v105), .val (.int v107), s8, s9] [(.int (0 : Int32))])) (fun tt kont => ?_) ?_
            · show Steps p.tables e below (T0.setTop (mkF m 185 #[.val (.ref a1), .val (.int p2), .val (.int p3), .val (.int i), .val (.int yA), .val (.int (3 : Int32)), .val (.int v105), .val (.int v107), s8, s9] [(.int (3 : Int32)), (.int (p3 - i))])) _
              refine XS.icmpNo X0.here hx rfl (hb hby d4_185) rfl (tlt hc185_10).2.1 ?_
              show Steps p.tables e below (T0.setTop (mkF m 188 #[.val (.ref a1), .val (.int p2), .val (.int p3), .val (.int i), .val (.int yA), .val (.int (3 : Int32)), .val (.int v105), .val (.int v107), s8, s9] [])) _
              refine XS.iconst X0.here hx rfl (hb hby d4_188) ?_
              exact kont
            have j1 : ¬ (own_u F n 0 < 128) := fun q => hc21_3 ((own_ltI hA (rfl : (128 : Int32).toInt = 128)).mpr q)
            have j2 : ¬ (own_u F n 0 < 194) := fun q => hc45_4 ((own_ltI hA (rfl : (194 : Int32).toInt = 194)).mpr q)
            have j3 : (223 < own_u F n 0) := (own_ltI (rfl : (223 : Int32).toInt = 223) hA).mp hc53_5
            have j4 : ¬ (239 < own_u F n 0) := fun q => hc75_7 ((own_ltI (rfl : (239 : Int32).toInt = 239) hA).mpr q)
            have j5 : ((E : Int) - n < 3) := (own_ltI hd (rfl : (3 : Int32).toInt = 3)).mp hc185_10
            have hnd : own_nd (own_u F n 0) = 3 := by simp only [own_nd]; rw [if_neg (by omega), if_pos (by omega)]
            have hst : own_cs (own_u F n) ((E : Int) - n) = 0 := by rw [own_cs, if_neg (by omega), if_neg (by omega), hnd, if_pos (by omega)]
            exact own_retZ X0 hx hret hlk (hb hby d4_189) hCC hSS (hQ0 hst)
          · refine own_step (T' := T0) (f' := (mkF m 194 #[.val (.ref a1), .val (.int p2), .val (.int p3), .val (.int i), .val (.int yA), .val (.int (3 : Int32)), .val (.int v105), .val (.int v107), s8, s9] [(.int (i + (1 : Int32))), (.ref a1)])) (fun tt kont => ?_) ?_
            · show Steps p.tables e below (T0.setTop (mkF m 185 #[.val (.ref a1), .val (.int p2), .val (.int p3), .val (.int i), .val (.int yA), .val (.int (3 : Int32)), .val (.int v105), .val (.int v107), s8, s9] [(.int (3 : Int32)), (.int (p3 - i))])) _
              refine XS.icmpYes X0.here hx rfl (pc0 := 185) (pc' := 190) rfl (hb hby d4_185) rfl (flt hc185_10).2.1 (by decide) (by decide) ?_
              show Steps p.tables e below (T0.setTop (mkF m 190 #[.val (.ref a1), .val (.int p2), .val (.int p3), .val (.int i), .val (.int yA), .val (.int (3 : Int32)), .val (.int v105), .val (.int v107), s8, s9] [])) _
              refine XS.aloadN X0.here hx rfl (hb hby d4_190) rfl rfl ?_
              show Steps p.tables e below (T0.setTop (mkF m 191 #[.val (.ref a1), .val (.int p2), .val (.int p3), .val (.int i), .val (.int yA), .val (.int (3 : Int32)), .val (.int v105), .val (.int v107), s8, s9] [(.ref a1)])) _
              refine XS.iloadN X0.here hx rfl (hb hby d4_191) rfl ?_
              show Steps p.tables e below (T0.setTop (mkF m 192 #[.val (.ref a1), .val (.int p2), .val (.int p3), .val (.int i), .val (.int yA), .val (.int (3 : Int32)), .val (.int v105), .val (.int v107), s8, s9] [(.int i), (.ref a1)])) _
              refine XS.iconst X0.here hx rfl (hb hby d4_192) ?_
              show Steps p.tables e below (T0.setTop (mkF m 193 #[.val (.ref a1), .val (.int p2), .val (.int p3), .val (.int i), .val (.int yA), .val (.int (3 : Int32)), .val (.int v105), .val (.int v107), s8, s9] [(.int (1 : Int32)), (.int i), (.ref a1)])) _
              refine XS.iadd X0.here hx rfl (hb hby d4_193) rfl ?_
              exact kont
            refine own_step (T' := T0) (f' := (mkF m 199 #[.val (.ref a1), .val (.int p2), .val (.int p3), .val (.int i), .val (.int yA), .val (.int (3 : Int32)), .val (.int v105), .val (.int v107), s8, s9] [(.int ((F (n + 1)) &&& (255 : Int32)))])) (fun tt kont => ?_) ?_
            · show Steps p.tables e below (T0.setTop (mkF m 194 #[.val (.ref a1), .val (.int p2), .val (.int p3), .val (.int i), .val (.int yA), .val (.int (3 : Int32)), .val (.int v105), .val (.int v107), s8, s9] [(.int (i + (1 : Int32))), (.ref a1)])) _
              refine own_ldB X0 hx hZ e0 VA (j := (i + (1 : Int32))) (i := (n + 1)) (own_at_plus hi (own_at_lit rfl (by decide) : own_at (1 : Int32) 1) (by omega)) (own_room hd hc185_10 (by decide) hE) (v := (F (n + 1))) rfl (g := (mkF m 194 #[.val (.ref a1), .val (.int p2), .val (.int p3), .val (.int i), .val (.int yA), .val (.int (3 : Int32)), .val (.int v105), .val (.int v107), s8, s9] [(.int (i + (1 : Int32))), (.ref a1)])) rfl rfl (hb hby d4_194) _ ?_
              show Steps p.tables e below (T0.setTop (mkF m 195 #[.val (.ref a1), .val (.int p2), .val (.int p3), .val (.int i), .val (.int yA), .val (.int (3 : Int32)), .val (.int v105), .val (.int v107), s8, s9] [(.int (F (n + 1)))])) _
              refine XS.sipush X0.here hx rfl (hb hby d4_195) ?_
              show Steps p.tables e below (T0.setTop (mkF m 198 #[.val (.ref a1), .val (.int p2), .val (.int p3), .val (.int i), .val (.int yA), .val (.int (3 : Int32)), .val (.int v105), .val (.int v107), s8, s9] [(.int (255 : Int32)), (.int (F (n + 1)))])) _
              refine XS.iand X0.here hx rfl (hb hby d4_198) rfl ?_
              exact kont
            show own_Go p e below T0 (mkF m 199 #[.val (.ref a1), .val (.int p2), .val (.int p3), .val (.int i), .val (.int yA), .val (.int (3 : Int32)), .val (.int v105), .val (.int v107), s8, s9] [(.int ((F (n + 1)) &&& (255 : Int32)))]) _
            obtain ⟨yB, hyB⟩ : ∃ z : Int32, z = ((F (n + 1)) &&& (255 : Int32)) := ⟨_, rfl⟩
            rw [← hyB]
            refine own_step (T' := T0) (f' := (mkF m 201 #[.val (.ref a1), .val (.int p2), .val (.int p3), .val (.int i), .val (.int yA), .val (.int (3 : Int32)), .val (.int v105), .val (.int v107), .val (.int yB), s9] [])) (fun tt kont => ?_) ?_
            · show Steps p.tables e below (T0.setTop (mkF m 199 #[.val (.ref a1), .val (.int p2), .val (.int p3), .val (.int i), .val (.int yA), .val (.int (3 : Int32)), .val (.int v105), .val (.int v107), s8, s9] [(.int yB)])) _
              refine XS.istoreS X0.here hx rfl (hb hby d4_199) rfl rfl hs8 ?_
              exact kont
            have hB : yB.toInt = own_u F n 1 := own_byte hyB
            refine own_step (T' := T0) (f' := (mkF m 205 #[.val (.ref a1), .val (.int p2), .val (.int p3), .val (.int i), .val (.int yA), .val (.int (3 : Int32)), .val (.int v105), .val (.int v107), .val (.int yB), s9] [(.int v105), (.int yB)])) (fun tt kont => ?_) ?_
            · show Steps p.tables e below (T0.setTop (mkF m 201 #[.val (.ref a1), .val (.int p2), .val (.int p3), .val (.int i), .val (.int yA), .val (.int (3 : Int32)), .val (.int v105), .val (.int v107), .val (.int yB), s9] [])) _
              refine XS.iload X0.here hx rfl (hb hby d4_201) rfl ?_
              show Steps p.tables e below (T0.setTop (mkF m 203 #[.val (.ref a1), .val (.int p2), .val (.int p3), .val (.int i), .val (.int yA), .val (.int (3 : Int32)), .val (.int v105), .val (.int v107), .val (.int yB), s9] [(.int yB)])) _
              refine XS.iload X0.here hx rfl (hb hby d4_203) rfl ?_
              exact kont
            by_cases hc205_12 : yB < v105
            · refine own_step (T' := T0) (f' := (mkF m 216 #[.val (.ref a1), .val (.int p2), .val (.int p3), .val (.int i), .val (.int yA), .val (.int (3 : Int32)), .val (.int v105), .val (.int v107), .val (.int yB), s9] [(.int (0 : Int32))])) (fun tt kont => ?_) ?_
              · show Steps p.tables e below (T0.setTop (mkF m 205 #[.val (.ref a1), .val (.int p2), .val (.int p3), .val (.int i), .val (.int yA), .val (.int (3 : Int32)), .val (.int v105), .val (.int v107), .val (.int yB), s9] [(.int v105), (.int yB)])) _
                refine XS.icmpYes X0.here hx rfl (pc0 := 205) (pc' := 215) rfl (hb hby d4_205) rfl (tlt hc205_12).1 (by decide) (by decide) ?_
                show Steps p.tables e below (T0.setTop (mkF m 215 #[.val (.ref a1), .val (.int p2), .val (.int p3), .val (.int i), .val (.int yA), .val (.int (3 : Int32)), .val (.int v105), .val (.int v107), .val (.int yB), s9] [])) _
                refine XS.iconst X0.here hx rfl (hb hby d4_215) ?_
                exact kont
              have j1 : ¬ (own_u F n 0 < 128) := fun q => hc21_3 ((own_ltI hA (rfl : (128 : Int32).toInt = 128)).mpr q)
              have j2 : ¬ (own_u F n 0 < 194) := fun q => hc45_4 ((own_ltI hA (rfl : (194 : Int32).toInt = 194)).mpr q)
              have j3 : (223 < own_u F n 0) := (own_ltI (rfl : (223 : Int32).toInt = 223) hA).mp hc53_5
              have j4 : ¬ (239 < own_u F n 0) := fun q => hc75_7 ((own_ltI (rfl : (239 : Int32).toInt = 239) hA).mpr q)
              have j5 : ¬ ((E : Int) - n < 3) := fun q => hc185_10 ((own_ltI hd (rfl : (3 : Int32).toInt = 3)).mpr q)
              have j6 : (own_u F n 1 < own_lo (own_u F n 0)) := (own_ltI hB hlv105).mp hc205_12
              have hnd : own_nd (own_u F n 0) = 3 := by simp only [own_nd]; rw [if_neg (by omega), if_pos (by omega)]
              have hst : own_cs (own_u F n) ((E : Int) - n) = 0 := by rw [own_cs, if_neg (by omega), if_neg (by omega), hnd, if_neg (by omega), if_pos (by omega)]
              exact own_retZ X0 hx hret hlk (hb hby d4_216) hCC hSS (hQ0 hst)
            · refine own_step (T' := T0) (f' := (mkF m 212 #[.val (.ref a1), .val (.int p2), .val (.int p3), .val (.int i), .val (.int yA), .val (.int (3 : Int32)), .val (.int v105), .val (.int v107), .val (.int yB), s9] [(.int v107), (.int yB)])) (fun tt kont => ?_) ?_
              · show Steps p.tables e below (T0.setTop (mkF m 205 #[.val (.ref a1), .val (.int p2), .val (.int p3), .val (.int i), .val (.int yA), .val (.int (3 : Int32)), .val (.int v105), .val (.int v107), .val (.int yB), s9] [(.int v105), (.int yB)])) _
                refine XS.icmpNo X0.here hx rfl (hb hby d4_205) rfl (flt hc205_12).1 ?_
                show Steps p.tables e below (T0.setTop (mkF m 208 #[.val (.ref a1), .val (.int p2), .val (.int p3), .val (.int i), .val (.int yA), .val (.int (3 : Int32)), .val (.int v105), .val (.int v107), .val (.int yB), s9] [])) _
                refine XS.iload X0.here hx rfl (hb hby d4_208) rfl ?_
                show Steps p.tables e below (T0.setTop (mkF m 210 #[.val (.ref a1), .val (.int p2), .val (.int p3), .val (.int i), .val (.int yA), .val (.int (3 : Int32)), .val (.int v105), .val (.int v107), .val (.int yB), s9] [(.int yB)])) _
                refine XS.iload X0.here hx rfl (hb hby d4_210) rfl ?_
                exact kont
              by_cases hc212_13 : v107 < yB
              · refine own_step (T' := T0) (f' := (mkF m 216 #[.val (.ref a1), .val (.int p2), .val (.int p3), .val (.int i), .val (.int yA), .val (.int (3 : Int32)), .val (.int v105), .val (.int v107), .val (.int yB), s9] [(.int (0 : Int32))])) (fun tt kont => ?_) ?_
                · show Steps p.tables e below (T0.setTop (mkF m 212 #[.val (.ref a1), .val (.int p2), .val (.int p3), .val (.int i), .val (.int yA), .val (.int (3 : Int32)), .val (.int v105), .val (.int v107), .val (.int yB), s9] [(.int v107), (.int yB)])) _
                  refine XS.icmpNo X0.here hx rfl (hb hby d4_212) rfl (tlt hc212_13).2.2.2 ?_
                  show Steps p.tables e below (T0.setTop (mkF m 215 #[.val (.ref a1), .val (.int p2), .val (.int p3), .val (.int i), .val (.int yA), .val (.int (3 : Int32)), .val (.int v105), .val (.int v107), .val (.int yB), s9] [])) _
                  refine XS.iconst X0.here hx rfl (hb hby d4_215) ?_
                  exact kont
                have j1 : ¬ (own_u F n 0 < 128) := fun q => hc21_3 ((own_ltI hA (rfl : (128 : Int32).toInt = 128)).mpr q)
                have j2 : ¬ (own_u F n 0 < 194) := fun q => hc45_4 ((own_ltI hA (rfl : (194 : Int32).toInt = 194)).mpr q)
                have j3 : (223 < own_u F n 0) := (own_ltI (rfl : (223 : Int32).toInt = 223) hA).mp hc53_5
                have j4 : ¬ (239 < own_u F n 0) := fun q => hc75_7 ((own_ltI (rfl : (239 : Int32).toInt = 239) hA).mpr q)
                have j5 : ¬ ((E : Int) - n < 3) := fun q => hc185_10 ((own_ltI hd (rfl : (3 : Int32).toInt = 3)).mpr q)
                have j6 : ¬ (own_u F n 1 < own_lo (own_u F n 0)) := fun q => hc205_12 ((own_ltI hB hlv105).mpr q)
                have j7 : (own_hi (own_u F n 0) < own_u F n 1) := (own_ltI hlv107 hB).mp hc212_13
                have hnd : own_nd (own_u F n 0) = 3 := by simp only [own_nd]; rw [if_neg (by omega), if_pos (by omega)]
                have hst : own_cs (own_u F n) ((E : Int) - n) = 0 := by rw [own_cs, if_neg (by omega), if_neg (by omega), hnd, if_neg (by omega), if_pos (by omega)]
                exact own_retZ X0 hx hret hlk (hb hby d4_216) hCC hSS (hQ0 hst)
              · refine own_step (T' := T0) (f' := (mkF m 232 #[.val (.ref a1), .val (.int p2), .val (.int p3), .val (.int i), .val (.int yA), .val (.int (3 : Int32)), .val (.int v105), .val (.int v107), .val (.int yB), .val (.int (2 : Int32))] [(.int (i + (2 : Int32))), (.ref a1)])) (fun tt kont => ?_) ?_
                · show Steps p.tables e below (T0.setTop (mkF m 212 #[.val (.ref a1), .val (.int p2), .val (.int p3), .val (.int i), .val (.int yA), .val (.int (3 : Int32)), .val (.int v105), .val (.int v107), .val (.int yB), s9] [(.int v107), (.int yB)])) _
                  refine XS.icmpYes X0.here hx rfl (pc0 := 212) (pc' := 217) rfl (hb hby d4_212) rfl (flt hc212_13).2.2.2 (by decide) (by decide) ?_
                  show Steps p.tables e below (T0.setTop (mkF m 217 #[.val (.ref a1), .val (.int p2), .val (.int p3), .val (.int i), .val (.int yA), .val (.int (3 : Int32)), .val (.int v105), .val (.int v107), .val (.int yB), s9] [])) _
                  refine XS.iconst X0.here hx rfl (hb hby d4_217) ?_
                  show Steps p.tables e below (T0.setTop (mkF m 218 #[.val (.ref a1), .val (.int p2), .val (.int p3), .val (.int i), .val (.int yA), .val (.int (3 : Int32)), .val (.int v105), .val (.int v107), .val (.int yB), s9] [(.int (2 : Int32))])) _
                  refine XS.istoreS X0.here hx rfl (hb hby d4_218) rfl rfl hs9 ?_
                  show Steps p.tables e below (T0.setTop (mkF m 220 #[.val (.ref a1), .val (.int p2), .val (.int p3), .val (.int i), .val (.int yA), .val (.int (3 : Int32)), .val (.int v105), .val (.int v107), .val (.int yB), .val (.int (2 : Int32))] [])) _
                  refine XS.iload X0.here hx rfl (hb hby d4_220) rfl ?_
                  show Steps p.tables e below (T0.setTop (mkF m 222 #[.val (.ref a1), .val (.int p2), .val (.int p3), .val (.int i), .val (.int yA), .val (.int (3 : Int32)), .val (.int v105), .val (.int v107), .val (.int yB), .val (.int (2 : Int32))] [(.int (2 : Int32))])) _
                  refine XS.iload X0.here hx rfl (hb hby d4_222) rfl ?_
                  show Steps p.tables e below (T0.setTop (mkF m 224 #[.val (.ref a1), .val (.int p2), .val (.int p3), .val (.int i), .val (.int yA), .val (.int (3 : Int32)), .val (.int v105), .val (.int v107), .val (.int yB), .val (.int (2 : Int32))] [(.int (3 : Int32)), (.int (2 : Int32))])) _
                  refine XS.icmpNo X0.here hx rfl (hb hby d4_224) rfl (tlt (by decide : (2 : Int32) < (3 : Int32))).2.1 ?_
                  show Steps p.tables e below (T0.setTop (mkF m 227 #[.val (.ref a1), .val (.int p2), .val (.int p3), .val (.int i), .val (.int yA), .val (.int (3 : Int32)), .val (.int v105), .val (.int v107), .val (.int yB), .val (.int (2 : Int32))] [])) _
                  refine XS.aloadN X0.here hx rfl (hb hby d4_227) rfl rfl ?_
                  show Steps p.tables e below (T0.setTop (mkF m 228 #[.val (.ref a1), .val (.int p2), .val (.int p3), .val (.int i), .val (.int yA), .val (.int (3 : Int32)), .val (.int v105), .val (.int v107), .val (.int yB), .val (.int (2 : Int32))] [(.ref a1)])) _
                  refine XS.iloadN X0.here hx rfl (hb hby d4_228) rfl ?_
                  show Steps p.tables e below (T0.setTop (mkF m 229 #[.val (.ref a1), .val (.int p2), .val (.int p3), .val (.int i), .val (.int yA), .val (.int (3 : Int32)), .val (.int v105), .val (.int v107), .val (.int yB), .val (.int (2 : Int32))] [(.int i), (.ref a1)])) _
                  refine XS.iload X0.here hx rfl (hb hby d4_229) rfl ?_
                  show Steps p.tables e below (T0.setTop (mkF m 231 #[.val (.ref a1), .val (.int p2), .val (.int p3), .val (.int i), .val (.int yA), .val (.int (3 : Int32)), .val (.int v105), .val (.int v107), .val (.int yB), .val (.int (2 : Int32))] [(.int (2 : Int32)), (.int i), (.ref a1)])) _
                  refine XS.iadd X0.here hx rfl (hb hby d4_231) rfl ?_
                  exact kont
                refine own_step (T' := T0) (f' := (mkF m 240 #[.val (.ref a1), .val (.int p2), .val (.int p3), .val (.int i), .val (.int yA), .val (.int (3 : Int32)), .val (.int v105), .val (.int v107), .val (.int yB), .val (.int (2 : Int32))] [(.int (128 : Int32)), (.int ((F (n + 2)) &&& (192 : Int32)))])) (fun tt kont => ?_) ?_
                · show Steps p.tables e below (T0.setTop (mkF m 232 #[.val (.ref a1), .val (.int p2), .val (.int p3), .val (.int i), .val (.int yA), .val (.int (3 : Int32)), .val (.int v105), .val (.int v107), .val (.int yB), .val (.int (2 : Int32))] [(.int (i + (2 : Int32))), (.ref a1)])) _
                  refine own_ldB X0 hx hZ e0 VA (j := (i + (2 : Int32))) (i := (n + 2)) (own_at_plus hi (own_at_lit rfl (by decide) : own_at (2 : Int32) 2) (by omega)) (own_room hd hc185_10 (by decide) hE) (v := (F (n + 2))) rfl (g := (mkF m 232 #[.val (.ref a1), .val (.int p2), .val (.int p3), .val (.int i), .val (.int yA), .val (.int (3 : Int32)), .val (.int v105), .val (.int v107), .val (.int yB), .val (.int (2 : Int32))] [(.int (i + (2 : Int32))), (.ref a1)])) rfl rfl (hb hby d4_232) _ ?_
                  show Steps p.tables e below (T0.setTop (mkF m 233 #[.val (.ref a1), .val (.int p2), .val (.int p3), .val (.int i), .val (.int yA), .val (.int (3 : Int32)), .val (.int v105), .val (.int v107), .val (.int yB), .val (.int (2 : Int32))] [(.int (F (n + 2)))])) _
                  refine XS.sipush X0.here hx rfl (hb hby d4_233) ?_
                  show Steps p.tables e below (T0.setTop (mkF m 236 #[.val (.ref a1), .val (.int p2), .val (.int p3), .val (.int i), .val (.int yA), .val (.int (3 : Int32)), .val (.int v105), .val (.int v107), .val (.int yB), .val (.int (2 : Int32))] [(.int (192 : Int32)), (.int (F (n + 2)))])) _
                  refine XS.iand X0.here hx rfl (hb hby d4_236) rfl ?_
                  show Steps p.tables e below (T0.setTop (mkF m 237 #[.val (.ref a1), .val (.int p2), .val (.int p3), .val (.int i), .val (.int yA), .val (.int (3 : Int32)), .val (.int v105), .val (.int v107), .val (.int yB), .val (.int (2 : Int32))] [(.int ((F (n + 2)) &&& (192 : Int32)))])) _
                  refine XS.sipush X0.here hx rfl (hb hby d4_237) ?_
                  exact kont
                by_cases hc240_15 : ((F (n + 2)) &&& (192 : Int32)) = (128 : Int32)
                · refine own_step (T' := T0) (f' := (mkF m 251 #[.val (.ref a1), .val (.int p2), .val (.int p3), .val (.int i), .val (.int yA), .val (.int (3 : Int32)), .val (.int v105), .val (.int v107), .val (.int yB), .val (.int (3 : Int32))] [])) (fun tt kont => ?_) ?_
                  · show Steps p.tables e below (T0.setTop (mkF m 240 #[.val (.ref a1), .val (.int p2), .val (.int p3), .val (.int i), .val (.int yA), .val (.int (3 : Int32)), .val (.int v105), .val (.int v107), .val (.int yB), .val (.int (2 : Int32))] [(.int (128 : Int32)), (.int ((F (n + 2)) &&& (192 : Int32)))])) _
                    refine XS.icmpYes X0.here hx rfl (pc0 := 240) (pc' := 245) rfl (hb hby d4_240) rfl (teq hc240_15).1 (by decide) (by decide) ?_
                    show Steps p.tables e below (T0.setTop (mkF m 245 #[.val (.ref a1), .val (.int p2), .val (.int p3), .val (.int i), .val (.int yA), .val (.int (3 : Int32)), .val (.int v105), .val (.int v107), .val (.int yB), .val (.int (2 : Int32))] [])) _
                    refine XS.iinc X0.here hx rfl (hb hby d4_245) rfl (l' := #[.val (.ref a1), .val (.int p2), .val (.int p3), .val (.int i), .val (.int yA), .val (.int (3 : Int32)), .val (.int v105), .val (.int v107), .val (.int yB), .val (.int (3 : Int32))]) rfl ?_
                    show Steps p.tables e below (T0.setTop (mkF m 248 #[.val (.ref a1), .val (.int p2), .val (.int p3), .val (.int i), .val (.int yA), .val (.int (3 : Int32)), .val (.int v105), .val (.int v107), .val (.int yB), .val (.int (3 : Int32))] [])) _
                    refine XS.goto X0.here hx rfl (pc0 := 248) (pc' := 220) rfl (hb hby d4_248) (by decide) (by decide) ?_
                    show Steps p.tables e below (T0.setTop (mkF m 220 #[.val (.ref a1), .val (.int p2), .val (.int p3), .val (.int i), .val (.int yA), .val (.int (3 : Int32)), .val (.int v105), .val (.int v107), .val (.int yB), .val (.int (3 : Int32))] [])) _
                    refine XS.iload X0.here hx rfl (hb hby d4_220) rfl ?_
                    show Steps p.tables e below (T0.setTop (mkF m 222 #[.val (.ref a1), .val (.int p2), .val (.int p3), .val (.int i), .val (.int yA), .val (.int (3 : Int32)), .val (.int v105), .val (.int v107), .val (.int yB), .val (.int (3 : Int32))] [(.int (3 : Int32))])) _
                    refine XS.iload X0.here hx rfl (hb hby d4_222) rfl ?_
                    show Steps p.tables e below (T0.setTop (mkF m 224 #[.val (.ref a1), .val (.int p2), .val (.int p3), .val (.int i), .val (.int yA), .val (.int (3 : Int32)), .val (.int v105), .val (.int v107), .val (.int yB), .val (.int (3 : Int32))] [(.int (3 : Int32)), (.int (3 : Int32))])) _
                    refine XS.icmpYes X0.here hx rfl (pc0 := 224) (pc' := 251) rfl (hb hby d4_224) rfl (flt (by decide : ¬ ((3 : Int32) < (3 : Int32)))).2.1 (by decide) (by decide) ?_
                    exact kont
                  refine own_step (T' := T0) (f' := (mkF m 2 #[.val (.ref a1), .val (.int p2), .val (.int p3), .val (.int (i + (3 : Int32))), .val (.int yA), .val (.int (3 : Int32)), .val (.int v105), .val (.int v107), .val (.int yB), .val (.int (3 : Int32))] [])) (fun tt kont => ?_) ?_
                  · show Steps p.tables e below (T0.setTop (mkF m 251 #[.val (.ref a1), .val (.int p2), .val (.int p3), .val (.int i), .val (.int yA), .val (.int (3 : Int32)), .val (.int v105), .val (.int v107), .val (.int yB), .val (.int (3 : Int32))] [])) _
                    refine XS.iloadN X0.here hx rfl (hb hby d4_251) rfl ?_
                    show Steps p.tables e below (T0.setTop (mkF m 252 #[.val (.ref a1), .val (.int p2), .val (.int p3), .val (.int i), .val (.int yA), .val (.int (3 : Int32)), .val (.int v105), .val (.int v107), .val (.int yB), .val (.int (3 : Int32))] [(.int i)])) _
                    refine XS.iload X0.here hx rfl (hb hby d4_252) rfl ?_
                    show Steps p.tables e below (T0.setTop (mkF m 254 #[.val (.ref a1), .val (.int p2), .val (.int p3), .val (.int i), .val (.int yA), .val (.int (3 : Int32)), .val (.int v105), .val (.int v107), .val (.int yB), .val (.int (3 : Int32))] [(.int (3 : Int32)), (.int i)])) _
                    refine XS.iadd X0.here hx rfl (hb hby d4_254) rfl ?_
                    show Steps p.tables e below (T0.setTop (mkF m 255 #[.val (.ref a1), .val (.int p2), .val (.int p3), .val (.int i), .val (.int yA), .val (.int (3 : Int32)), .val (.int v105), .val (.int v107), .val (.int yB), .val (.int (3 : Int32))] [(.int (i + (3 : Int32)))])) _
                    refine XS.istoreN X0.here hx rfl (hb hby d4_255) rfl (l' := #[.val (.ref a1), .val (.int p2), .val (.int p3), .val (.int (i + (3 : Int32))), .val (.int yA), .val (.int (3 : Int32)), .val (.int v105), .val (.int v107), .val (.int yB), .val (.int (3 : Int32))]) rfl ?_
                    show Steps p.tables e below (T0.setTop (mkF m 256 #[.val (.ref a1), .val (.int p2), .val (.int p3), .val (.int (i + (3 : Int32))), .val (.int yA), .val (.int (3 : Int32)), .val (.int v105), .val (.int v107), .val (.int yB), .val (.int (3 : Int32))] [])) _
                    refine XS.goto X0.here hx rfl (pc0 := 256) (pc' := 2) rfl (hb hby d4_256) (by decide) (by decide) ?_
                    exact kont
                  have j1 : ¬ (own_u F n 0 < 128) := fun q => hc21_3 ((own_ltI hA (rfl : (128 : Int32).toInt = 128)).mpr q)
                  have j2 : ¬ (own_u F n 0 < 194) := fun q => hc45_4 ((own_ltI hA (rfl : (194 : Int32).toInt = 194)).mpr q)
                  have j3 : (223 < own_u F n 0) := (own_ltI (rfl : (223 : Int32).toInt = 223) hA).mp hc53_5
                  have j4 : ¬ (239 < own_u F n 0) := fun q => hc75_7 ((own_ltI (rfl : (239 : Int32).toInt = 239) hA).mpr q)
                  have j5 : ¬ ((E : Int) - n < 3) := fun q => hc185_10 ((own_ltI hd (rfl : (3 : Int32).toInt = 3)).mpr q)
                  have j6 : ¬ (own_u F n 1 < own_lo (own_u F n 0)) := fun q => hc205_12 ((own_ltI hB hlv105).mpr q)
                  have j7 : ¬ (own_hi (own_u F n 0) < own_u F n 1) := fun q => hc212_13 ((own_ltI hlv107 hB).mpr q)
                  have j8 : (128 ≤ own_u F n 2 ∧ own_u F n 2 ≤ 191) := (own_and192 _).mp hc240_15
                  have hnd : own_nd (own_u F n 0) = 3 := by simp only [own_nd]; rw [if_neg (by omega), if_pos (by omega)]
                  have hst : own_cs (own_u F n) ((E : Int) - n) = 3 := by rw [own_cs, if_neg (by omega), if_neg (by omega), hnd, if_neg (by omega), if_neg (by omega), if_neg (by omega), if_neg (by omega)]
                  exact kt _ 3 _ _ _ _ _ _ (One.val rfl) (One.val rfl) (One.val rfl) (One.val rfl) (One.val rfl) (One.val rfl) hst (by decide) (own_at_plus hi (own_at_lit rfl (by decide) : own_at (3 : Int32) 3) (by omega))
                · refine own_step (T' := T0) (f' := (mkF m 244 #[.val (.ref a1), .val (.int p2), .val (.int p3), .val (.int i), .val (.int yA), .val (.int (3 : Int32)), .val (.int v105), .val (.int v107), .val (.int yB), .val (.int (2 : Int32))] [(.int (0 : Int32))])) (fun tt kont => ?_) ?_
                  · show Steps p.tables e below (T0.setTop (mkF m 240 #[.val (.ref a1), .val (.int p2), .val (.int p3), .val (.int i), .val (.int yA), .val (.int (3 : Int32)), .val (.int v105), .val (.int v107), .val (.int yB), .val (.int (2 : Int32))] [(.int (128 : Int32)), (.int ((F (n + 2)) &&& (192 : Int32)))])) _
                    refine XS.icmpNo X0.here hx rfl (hb hby d4_240) rfl (feq hc240_15).1 ?_
                    show Steps p.tables e below (T0.setTop (mkF m 243 #[.val (.ref a1), .val (.int p2), .val (.int p3), .val (.int i), .val (.int yA), .val (.int (3 : Int32)), .val (.int v105), .val (.int v107), .val (.int yB), .val (.int (2 : Int32))] [])) _
                    refine XS.iconst X0.here hx rfl (hb hby d4_243) ?_
                    exact kont
                  have j1 : ¬ (own_u F n 0 < 128) := fun q => hc21_3 ((own_ltI hA (rfl : (128 : Int32).toInt = 128)).mpr q)
                  have j2 : ¬ (own_u F n 0 < 194) := fun q => hc45_4 ((own_ltI hA (rfl : (194 : Int32).toInt = 194)).mpr q)
                  have j3 : (223 < own_u F n 0) := (own_ltI (rfl : (223 : Int32).toInt = 223) hA).mp hc53_5
                  have j4 : ¬ (239 < own_u F n 0) := fun q => hc75_7 ((own_ltI (rfl : (239 : Int32).toInt = 239) hA).mpr q)
                  have j5 : ¬ ((E : Int) - n < 3) := fun q => hc185_10 ((own_ltI hd (rfl : (3 : Int32).toInt = 3)).mpr q)
                  have j6 : ¬ (own_u F n 1 < own_lo (own_u F n 0)) := fun q => hc205_12 ((own_ltI hB hlv105).mpr q)
                  have j7 : ¬ (own_hi (own_u F n 0) < own_u F n 1) := fun q => hc212_13 ((own_ltI hlv107 hB).mpr q)
                  have j8 : ¬ (128 ≤ own_u F n 2 ∧ own_u F n 2 ≤ 191) := fun q => hc240_15 ((own_and192 _).mpr q)
                  have hnd : own_nd (own_u F n 0) = 3 := by simp only [own_nd]; rw [if_neg (by omega), if_pos (by omega)]
                  have hst : own_cs (own_u F n) ((E : Int) - n) = 0 := by rw [own_cs, if_neg (by omega), if_neg (by omega), hnd, if_neg (by omega), if_neg (by omega), if_pos (by omega)]
                  exact own_retZ X0 hx hret hlk (hb hby d4_244) hCC hSS (hQ0 hst)
      · refine own_step (T' := T0) (f' := (mkF m 180 #[.val (.ref a1), .val (.int p2), .val (.int p3), .val (.int i), .val (.int yA), .val (.int (2 : Int32)), .val (.int (128 : Int32)), .val (.int (191 : Int32)), s8, s9] [])) (fun tt kont => ?_) ?_
        · show Steps p.tables e below (T0.setTop (mkF m 53 #[.val (.ref a1), .val (.int p2), .val (.int p3), .val (.int i), .val (.int yA), s5, .val (.int (128 : Int32)), .val (.int (191 : Int32)), s8, s9] [(.int (223 : Int32)), (.int yA)])) _
          refine XS.icmpNo X0.here hx rfl (hb hby d4_53) rfl (flt hc53_5).2.2.1 ?_
          show Steps p.tables e below (T0.setTop (mkF m 56 #[.val (.ref a1), .val (.int p2), .val (.int p3), .val (.int i), .val (.int yA), s5, .val (.int (128 : Int32)), .val (.int (191 : Int32)), s8, s9] [])) _
          refine XS.iconst X0.here hx rfl (hb hby d4_56) ?_
          show Steps p.tables e below (T0.setTop (mkF m 57 #[.val (.ref a1), .val (.int p2), .val (.int p3), .val (.int i), .val (.int yA), s5, .val (.int (128 : Int32)), .val (.int (191 : Int32)), s8, s9] [(.int (2 : Int32))])) _
          refine XS.istoreS X0.here hx rfl (hb hby d4_57) rfl rfl hs5 ?_
          show Steps p.tables e below (T0.setTop (mkF m 59 #[.val (.ref a1), .val (.int p2), .val (.int p3), .val (.int i), .val (.int yA), .val (.int (2 : Int32)), .val (.int (128 : Int32)), .val (.int (191 : Int32)), s8, s9] [])) _
          refine XS.goto X0.here hx rfl (pc0 := 59) (pc' := 180) rfl (hb hby d4_59) (by decide) (by decide) ?_
          exact kont
        refine own_step (T' := T0) (f' := (mkF m 185 #[.val (.ref a1), .val (.int p2), .val (.int p3), .val (.int i), .val (.int yA), .val (.int (2 : Int32)), .val (.int (128 : Int32)), .val (.int (191 : Int32)), s8, s9] [(.int (2 : Int32)), (.int (p3 - i))])) (fun tt kont => ?_) ?_
        · show Steps p.tables e below (T0.setTop (mkF m 180 #[.val (.ref a1), .val (.int p2), .val (.int p3), .val (.int i), .val (.int yA), .val (.int (2 : Int32)), .val (.int (128 : Int32)), .val (.int (191 : Int32)), s8, s9] [])) _
          refine XS.iloadN X0.here hx rfl (hb hby d4_180) rfl ?_
          show Steps p.tables e below (T0.setTop (mkF m 181 #[.val (.ref a1), .val (.int p2), .val (.int p3), .val (.int i), .val (.int yA), .val (.int (2 : Int32)), .val (.int (128 : Int32)), .val (.int (191 : Int32)), s8, s9] [(.int p3)])) _
          refine XS.iloadN X0.here hx rfl (hb hby d4_181) rfl ?_
          show Steps p.tables e below (T0.setTop (mkF m 182 #[.val (.ref a1), .val (.int p2), .val (.int p3), .val (.int i), .val (.int yA), .val (.int (2 : Int32)), .val (.int (128 : Int32)), .val (.int (191 : Int32)), s8, s9] [(.int i), (.int p3)])) _
          refine XS.isub X0.here hx rfl (hb hby d4_182) rfl ?_
          show Steps p.tables e below (T0.setTop (mkF m 183 #[.val (.ref a1), .val (.int p2), .val (.int p3), .val (.int i), .val (.int yA), .val (.int (2 : Int32)), .val (.int (128 : Int32)), .val (.int (191 : Int32)), s8, s9] [(.int (p3 - i))])) _
          refine XS.iload X0.here hx rfl (hb hby d4_183) rfl ?_
          exact kont
        by_cases hc185_6 : (p3 - i) < (2 : Int32)
        · refine own_step (T' := T0) (f' := (mkF m 189 #[.val (.ref a1), .val (.int p2), .val (.int p3), .val (.int i), .val (.int yA), .val (.int (2 : Int32)), .val (.int (128 : Int32)), .val (.int (191 : Int32)), s8, s9] [(.int (0 : Int32))])) (fun tt kont => ?_) ?_
          · show Steps p.tables e below (T0.setTop (mkF m 185 #[.val (.ref a1), .val (.int p2), .val (.int p3), .val (.int i), .val (.int yA), .val (.int (2 : Int32)), .val (.int (128 : Int32)), .val (.int (191 : Int32)), s8, s9] [(.int (2 : Int32)), (.int (p3 - i))])) _
            refine XS.icmpNo X0.here hx rfl (hb hby d4_185) rfl (tlt hc185_6).2.1 ?_
            show Steps p.tables e below (T0.setTop (mkF m 188 #[.val (.ref a1), .val (.int p2), .val (.int p3), .val (.int i), .val (.int yA), .val (.int (2 : Int32)), .val (.int (128 : Int32)), .val (.int (191 : Int32)), s8, s9] [])) _
            refine XS.iconst X0.here hx rfl (hb hby d4_188) ?_
            exact kont
          have j1 : ¬ (own_u F n 0 < 128) := fun q => hc21_3 ((own_ltI hA (rfl : (128 : Int32).toInt = 128)).mpr q)
          have j2 : ¬ (own_u F n 0 < 194) := fun q => hc45_4 ((own_ltI hA (rfl : (194 : Int32).toInt = 194)).mpr q)
          have j3 : ¬ (223 < own_u F n 0) := fun q => hc53_5 ((own_ltI (rfl : (223 : Int32).toInt = 223) hA).mpr q)
          have j4 : ((E : Int) - n < 2) := (own_ltI hd (rfl : (2 : Int32).toInt = 2)).mp hc185_6
          have hnd : own_nd (own_u F n 0) = 2 := by simp only [own_nd]; rw [if_pos (by omega)]
          have hlo : own_lo (own_u F n 0) = 128 := by simp only [own_lo]; rw [if_neg (by omega), if_neg (by omega)]
          have hhi : own_hi (own_u F n 0) = 191 := by simp only [own_hi]; rw [if_neg (by omega), if_neg (by omega)]
          have hst : own_cs (own_u F n) ((E : Int) - n) = 0 := by rw [own_cs, if_neg (by omega), if_neg (by omega), hnd, if_pos (by omega)]
          exact own_retZ X0 hx hret hlk (hb hby d4_189) hCC hSS (hQ0 hst)
        · refine own_step (T' := T0) (f' := (mkF m 194 #[.val (.ref a1), .val (.int p2), .val (.int p3), .val (.int i), .val (.int yA), .val (.int (2 : Int32)), .val (.int (128 : Int32)), .val (.int (191 : Int32)), s8, s9] [(.int (i + (1 : Int32))), (.ref a1)])) (fun tt kont => ?_) ?_
          · show Steps p.tables e below (T0.setTop (mkF m 185 #[.val (.ref a1), .val (.int p2), .val (.int p3), .val (.int i), .val (.int yA), .val (.int (2 : Int32)), .val (.int (128 : Int32)), .val (.int (191 : Int32)), s8, s9] [(.int (2 : Int32)), (.int (p3 - i))])) _
            refine XS.icmpYes X0.here hx rfl (pc0 := 185) (pc' := 190) rfl (hb hby d4_185) rfl (flt hc185_6).2.1 (by decide) (by decide) ?_
            show Steps p.tables e below (T0.setTop (mkF m 190 #[.val (.ref a1), .val (.int p2), .val (.int p3), .val (.int i), .val (.int yA), .val (.int (2 : Int32)), .val (.int (128 : Int32)), .val (.int (191 : Int32)), s8, s9] [])) _
            refine XS.aloadN X0.here hx rfl (hb hby d4_190) rfl rfl ?_
            show Steps p.tables e below (T0.setTop (mkF m 191 #[.val (.ref a1), .val (.int p2), .val (.int p3), .val (.int i), .val (.int yA), .val (.int (2 : Int32)), .val (.int (128 : Int32)), .val (.int (191 : Int32)), s8, s9] [(.ref a1)])) _
            refine XS.iloadN X0.here hx rfl (hb hby d4_191) rfl ?_
            show Steps p.tables e below (T0.setTop (mkF m 192 #[.val (.ref a1), .val (.int p2), .val (.int p3), .val (.int i), .val (.int yA), .val (.int (2 : Int32)), .val (.int (128 : Int32)), .val (.int (191 : Int32)), s8, s9] [(.int i), (.ref a1)])) _
            refine XS.iconst X0.here hx rfl (hb hby d4_192) ?_
            show Steps p.tables e below (T0.setTop (mkF m 193 #[.val (.ref a1), .val (.int p2), .val (.int p3), .val (.int i), .val (.int yA), .val (.int (2 : Int32)), .val (.int (128 : Int32)), .val (.int (191 : Int32)), s8, s9] [(.int (1 : Int32)), (.int i), (.ref a1)])) _
            refine XS.iadd X0.here hx rfl (hb hby d4_193) rfl ?_
            exact kont
          refine own_step (T' := T0) (f' := (mkF m 199 #[.val (.ref a1), .val (.int p2), .val (.int p3), .val (.int i), .val (.int yA), .val (.int (2 : Int32)), .val (.int (128 : Int32)), .val (.int (191 : Int32)), s8, s9] [(.int ((F (n + 1)) &&& (255 : Int32)))])) (fun tt kont => ?_) ?_
          · show Steps p.tables e below (T0.setTop (mkF m 194 #[.val (.ref a1), .val (.int p2), .val (.int p3), .val (.int i), .val (.int yA), .val (.int (2 : Int32)), .val (.int (128 : Int32)), .val (.int (191 : Int32)), s8, s9] [(.int (i + (1 : Int32))), (.ref a1)])) _
            refine own_ldB X0 hx hZ e0 VA (j := (i + (1 : Int32))) (i := (n + 1)) (own_at_plus hi (own_at_lit rfl (by decide) : own_at (1 : Int32) 1) (by omega)) (own_room hd hc185_6 (by decide) hE) (v := (F (n + 1))) rfl (g := (mkF m 194 #[.val (.ref a1), .val (.int p2), .val (.int p3), .val (.int i), .val (.int yA), .val (.int (2 : Int32)), .val (.int (128 : Int32)), .val (.int (191 : Int32)), s8, s9] [(.int (i + (1 : Int32))), (.ref a1)])) rfl rfl (hb hby d4_194) _ ?_
            show Steps p.tables e below (T0.setTop (mkF m 195 #[.val (.ref a1), .val (.int p2), .val (.int p3), .val (.int i), .val (.int yA), .val (.int (2 : Int32)), .val (.int (128 : Int32)), .val (.int (191 : Int32)), s8, s9] [(.int (F (n + 1)))])) _
            refine XS.sipush X0.here hx rfl (hb hby d4_195) ?_
            show Steps p.tables e below (T0.setTop (mkF m 198 #[.val (.ref a1), .val (.int p2), .val (.int p3), .val (.int i), .val (.int yA), .val (.int (2 : Int32)), .val (.int (128 : Int32)), .val (.int (191 : Int32)), s8, s9] [(.int (255 : Int32)), (.int (F (n + 1)))])) _
            refine XS.iand X0.here hx rfl (hb hby d4_198) rfl ?_
            exact kont
          show own_Go p e below T0 (mkF m 199 #[.val (.ref a1), .val (.int p2), .val (.int p3), .val (.int i), .val (.int yA), .val (.int (2 : Int32)), .val (.int (128 : Int32)), .val (.int (191 : Int32)), s8, s9] [(.int ((F (n + 1)) &&& (255 : Int32)))]) _
          obtain ⟨yB, hyB⟩ : ∃ z : Int32, z = ((F (n + 1)) &&& (255 : Int32)) := ⟨_, rfl⟩
          rw [← hyB]
          refine own_step (T' := T0) (f' := (mkF m 201 #[.val (.ref a1), .val (.int p2), .val (.int p3), .val (.int i), .val (.int yA), .val (.int (2 : Int32)), .val (.int (128 : Int32)), .val (.int (191 : Int32)), .val (.int yB), s9] [])) (fun tt kont => ?_) ?_
          · show Steps p.tables e below (T0.setTop (mkF m 199 #[.val (.ref a1), .val (.int p2), .val (.int p3), .val (.int i), .val (.int yA), .val (.int (2 : Int32)), .val (.int (128 : Int32)), .val (.int (191 : Int32)), s8, s9] [(.int yB)])) _
            refine XS.istoreS X0.here hx rfl (hb hby d4_199) rfl rfl hs8 ?_
            exact kont
          have hB : yB.toInt = own_u F n 1 := own_byte hyB
          refine own_step (T' := T0) (f' := (mkF m 205 #[.val (.ref a1), .val (.int p2), .val (.int p3), .val (.int i), .val (.int yA), .val (.int (2 : Int32)), .val (.int (128 : Int32)), .val (.int (191 : Int32)), .val (.int yB), s9] [(.int (128 : Int32)), (.int yB)])) (fun tt kont => ?_) ?_
          · show Steps p.tables e below (T0.setTop (mkF m 201 #[.val (.ref a1), .val (.int p2), .val (.int p3), .val (.int i), .val (.int yA), .val (.int (2 : Int32)), .val (.int (128 : Int32)), .val (.int (191 : Int32)), .val (.int yB), s9] [])) _
            refine XS.iload X0.here hx rfl (hb hby d4_201) rfl ?_
            show Steps p.tables e below (T0.setTop (mkF m 203 #[.val (.ref a1), .val (.int p2), .val (.int p3), .val (.int i), .val (.int yA), .val (.int (2 : Int32)), .val (.int (128 : Int32)), .val (.int (191 : Int32)), .val (.int yB), s9] [(.int yB)])) _
            refine XS.iload X0.here hx rfl (hb hby d4_203) rfl ?_
            exact kont
          by_cases hc205_8 : yB < (128 : Int32)
          · refine own_step (T' := T0) (f' := (mkF m 216 #[.val (.ref a1), .val (.int p2), .val (.int p3), .val (.int i), .val (.int yA), .val (.int (2 : Int32)), .val (.int (128 : Int32)), .val (.int (191 : Int32)), .val (.int yB), s9] [(.int (0 : Int32))])) (fun tt kont => ?_) ?_
            · show Steps p.tables e below (T0.setTop (mkF m 205 #[.val (.ref a1), .val (.int p2), .val (.int p3), .val (.int i), .val (.int yA), .val (.int (2 : Int32)), .val (.int (128 : Int32)), .val (.int (191 : Int32)), .val (.int yB), s9] [(.int (128 : Int32)), (.int yB)])) _
              refine XS.icmpYes X0.here hx rfl (pc0 := 205) (pc' := 215) rfl (hb hby d4_205) rfl (tlt hc205_8).1 (by decide) (by decide) ?_
              show Steps p.tables e below (T0.setTop (mkF m 215 #[.val (.ref a1), .val (.int p2), .val (.int p3), .val (.int i), .val (.int yA), .val (.int (2 : Int32)), .val (.int (128 : Int32)), .val (.int (191 : Int32)), .val (.int yB), s9] [])) _
              refine XS.iconst X0.here hx rfl (hb hby d4_215) ?_
              exact kont
            have j1 : ¬ (own_u F n 0 < 128) := fun q => hc21_3 ((own_ltI hA (rfl : (128 : Int32).toInt = 128)).mpr q)
            have j2 : ¬ (own_u F n 0 < 194) := fun q => hc45_4 ((own_ltI hA (rfl : (194 : Int32).toInt = 194)).mpr q)
            have j3 : ¬ (223 < own_u F n 0) := fun q => hc53_5 ((own_ltI (rfl : (223 : Int32).toInt = 223) hA).mpr q)
            have j4 : ¬ ((E : Int) - n < 2) := fun q => hc185_6 ((own_ltI hd (rfl : (2 : Int32).toInt = 2)).mpr q)
            have j5 : (own_u F n 1 < 128) := (own_ltI hB (rfl : (128 : Int32).toInt = 128)).mp hc205_8
            have hnd : own_nd (own_u F n 0) = 2 := by simp only [own_nd]; rw [if_pos (by omega)]
            have hlo : own_lo (own_u F n 0) = 128 := by simp only [own_lo]; rw [if_neg (by omega), if_neg (by omega)]
            have hhi : own_hi (own_u F n 0) = 191 := by simp only [own_hi]; rw [if_neg (by omega), if_neg (by omega)]
            have hst : own_cs (own_u F n) ((E : Int) - n) = 0 := by rw [own_cs, if_neg (by omega), if_neg (by omega), hnd, if_neg (by omega), hlo, hhi, if_pos (by omega)]
            exact own_retZ X0 hx hret hlk (hb hby d4_216) hCC hSS (hQ0 hst)
          · refine own_step (T' := T0) (f' := (mkF m 212 #[.val (.ref a1), .val (.int p2), .val (.int p3), .val (.int i), .val (.int yA), .val (.int (2 : Int32)), .val (.int (128 : Int32)), .val (.int (191 : Int32)), .val (.int yB), s9] [(.int (191 : Int32)), (.int yB)])) (fun tt kont => ?_) ?_
            · show Steps p.tables e below (T0.setTop (mkF m 205 #[.val (.ref a1), .val (.int p2), .val (.int p3), .val (.int i), .val (.int yA), .val (.int (2 : Int32)), .val (.int (128 : Int32)), .val (.int (191 : Int32)), .val (.int yB), s9] [(.int (128 : Int32)), (.int yB)])) _
              refine XS.icmpNo X0.here hx rfl (hb hby d4_205) rfl (flt hc205_8).1 ?_
              show Steps p.tables e below (T0.setTop (mkF m 208 #[.val (.ref a1), .val (.int p2), .val (.int p3), .val (.int i), .val (.int yA), .val (.int (2 : Int32)), .val (.int (128 : Int32)), .val (.int (191 : Int32)), .val (.int yB), s9] [])) _
              refine XS.iload X0.here hx rfl (hb hby d4_208) rfl ?_
              show Steps p.tables e below (T0.setTop (mkF m 210 #[.val (.ref a1), .val (.int p2), .val (.int p3), .val (.int i), .val (.int yA), .val (.int (2 : Int32)), .val (.int (128 : Int32)), .val (.int (191 : Int32)), .val (.int yB), s9] [(.int yB)])) _
              refine XS.iload X0.here hx rfl (hb hby d4_210) rfl ?_
              exact kont
            by_cases hc212_9 : (191 : Int32) < yB
            · refine own_step (T' := T0) (f' := (mkF m 216 #[.val (.ref a1), .val (.int p2), .val (.int p3), .val (.int i), .val (.int yA), .val (.int (2 : Int32)), .val (.int (128 : Int32)), .val (.int (191 : Int32)), .val (.int yB), s9] [(.int (0 : Int32))])) (fun tt kont => ?_) ?_
              · show Steps p.tables e below (T0.setTop (mkF m 212 #[.val (.ref a1), .val (.int p2), .val (.int p3), .val (.int i), .val (.int yA), .val (.int (2 : Int32)), .val (.int (128 : Int32)), .val (.int (191 : Int32)), .val (.int yB), s9] [(.int (191 : Int32)), (.int yB)])) _
                refine XS.icmpNo X0.here hx rfl (hb hby d4_212) rfl (tlt hc212_9).2.2.2 ?_
                show Steps p.tables e below (T0.setTop (mkF m 215 #[.val (.ref a1), .val (.int p2), .val (.int p3), .val (.int i), .val (.int yA), .val (.int (2 : Int32)), .val (.int (128 : Int32)), .val (.int (191 : Int32)), .val (.int yB), s9] [])) _
                refine XS.iconst X0.here hx rfl (hb hby d4_215) ?_
                exact kont
              have j1 : ¬ (own_u F n 0 < 128) := fun q => hc21_3 ((own_ltI hA (rfl : (128 : Int32).toInt = 128)).mpr q)
              have j2 : ¬ (own_u F n 0 < 194) := fun q => hc45_4 ((own_ltI hA (rfl : (194 : Int32).toInt = 194)).mpr q)
              have j3 : ¬ (223 < own_u F n 0) := fun q => hc53_5 ((own_ltI (rfl : (223 : Int32).toInt = 223) hA).mpr q)
              have j4 : ¬ ((E : Int) - n < 2) := fun q => hc185_6 ((own_ltI hd (rfl : (2 : Int32).toInt = 2)).mpr q)
              have j5 : ¬ (own_u F n 1 < 128) := fun q => hc205_8 ((own_ltI hB (rfl : (128 : Int32).toInt = 128)).mpr q)
              have j6 : (191 < own_u F n 1) := (own_ltI (rfl : (191 : Int32).toInt = 191) hB).mp hc212_9
              have hnd : own_nd (own_u F n 0) = 2 := by simp only [own_nd]; rw [if_pos (by omega)]
              have hlo : own_lo (own_u F n 0) = 128 := by simp only [own_lo]; rw [if_neg (by omega), if_neg (by omega)]
              have hhi : own_hi (own_u F n 0) = 191 := by simp only [own_hi]; rw [if_neg (by omega), if_neg (by omega)]
              have hst : own_cs (own_u F n) ((E : Int) - n) = 0 := by rw [own_cs, if_neg (by omega), if_neg (by omega), hnd, if_neg (by omega), hlo, hhi, if_pos (by omega)]
              exact own_retZ X0 hx hret hlk (hb hby d4_216) hCC hSS (hQ0 hst)
            · refine own_step (T' := T0) (f' := (mkF m 251 #[.val (.ref a1), .val (.int p2), .val (.int p3), .val (.int i), .val (.int yA), .val (.int (2 : Int32)), .val (.int (128 : Int32)), .val (.int (191 : Int32)), .val (.int yB), .val (.int (2 : Int32))] [])) (fun tt kont => ?_) ?_
              · show Steps p.tables e below (T0.setTop (mkF m 212 #[.val (.ref a1), .val (.int p2), .val (.int p3), .val (.int i), .val (.int yA), .val (.int (2 : Int32)), .val (.int (128 : Int32)), .val (.int (191 : Int32)), .val (.int yB), s9] [(.int (191 : Int32)), (.int yB)])) _
                refine XS.icmpYes X0.here hx rfl (pc0 := 212) (pc' := 217) rfl (hb hby d4_212) rfl (flt hc212_9).2.2.2 (by decide) (by decide) ?_
                show Steps p.tables e below (T0.setTop (mkF m 217 #[.val (.ref a1), .val (.int p2), .val (.int p3), .val (.int i), .val (.int yA), .val (.int (2 : Int32)), .val (.int (128 : Int32)), .val (.int (191 : Int32)), .val (.int yB), s9] [])) _
                refine XS.iconst X0.here hx rfl (hb hby d4_217) ?_
                show Steps p.tables e below (T0.setTop (mkF m 218 #[.val (.ref a1), .val (.int p2), .val (.int p3), .val (.int i), .val (.int yA), .val (.int (2 : Int32)), .val (.int (128 : Int32)), .val (.int (191 : Int32)), .val (.int yB), s9] [(.int (2 : Int32))])) _
                refine XS.istoreS X0.here hx rfl (hb hby d4_218) rfl rfl hs9 ?_
                show Steps p.tables e below (T0.setTop (mkF m 220 #[.val (.ref a1), .val (.int p2), .val (.int p3), .val (.int i), .val (.int yA), .val (.int (2 : Int32)), .val (.int (128 : Int32)), .val (.int (191 : Int32)), .val (.int yB), .val (.int (2 : Int32))] [])) _
                refine XS.iload X0.here hx rfl (hb hby d4_220) rfl ?_
                show Steps p.tables e below (T0.setTop (mkF m 222 #[.val (.ref a1), .val (.int p2), .val (.int p3), .val (.int i), .val (.int yA), .val (.int (2 : Int32)), .val (.int (128 : Int32)), .val (.int (191 : Int32)), .val (.int yB), .val (.int (2 : Int32))] [(.int (2 : Int32))])) _
                refine XS.iload X0.here hx rfl (hb hby d4_222) rfl ?_
                show Steps p.tables e below (T0.setTop (mkF m 224 #[.val (.ref a1), .val (.int p2), .val (.int p3), .val (.int i), .val (.int yA), .val (.int (2 : Int32)), .val (.int (128 : Int32)), .val (.int (191 : Int32)), .val (.int yB), .val (.int (2 : Int32))] [(.int (2 : Int32)), (.int (2 : Int32))])) _
                refine XS.icmpYes X0.here hx rfl (pc0 := 224) (pc' := 251) rfl (hb hby d4_224) rfl (flt (by decide : ¬ ((2 : Int32) < (2 : Int32)))).2.1 (by decide) (by decide) ?_
                exact kont
              refine own_step (T' := T0) (f' := (mkF m 2 #[.val (.ref a1), .val (.int p2), .val (.int p3), .val (.int (i + (2 : Int32))), .val (.int yA), .val (.int (2 : Int32)), .val (.int (128 : Int32)), .val (.int (191 : Int32)), .val (.int yB), .val (.int (2 : Int32))] [])) (fun tt kont => ?_) ?_
              · show Steps p.tables e below (T0.setTop (mkF m 251 #[.val (.ref a1), .val (.int p2), .val (.int p3), .val (.int i), .val (.int yA), .val (.int (2 : Int32)), .val (.int (128 : Int32)), .val (.int (191 : Int32)), .val (.int yB), .val (.int (2 : Int32))] [])) _
                refine XS.iloadN X0.here hx rfl (hb hby d4_251) rfl ?_
                show Steps p.tables e below (T0.setTop (mkF m 252 #[.val (.ref a1), .val (.int p2), .val (.int p3), .val (.int i), .val (.int yA), .val (.int (2 : Int32)), .val (.int (128 : Int32)), .val (.int (191 : Int32)), .val (.int yB), .val (.int (2 : Int32))] [(.int i)])) _
                refine XS.iload X0.here hx rfl (hb hby d4_252) rfl ?_
                show Steps p.tables e below (T0.setTop (mkF m 254 #[.val (.ref a1), .val (.int p2), .val (.int p3), .val (.int i), .val (.int yA), .val (.int (2 : Int32)), .val (.int (128 : Int32)), .val (.int (191 : Int32)), .val (.int yB), .val (.int (2 : Int32))] [(.int (2 : Int32)), (.int i)])) _
                refine XS.iadd X0.here hx rfl (hb hby d4_254) rfl ?_
                show Steps p.tables e below (T0.setTop (mkF m 255 #[.val (.ref a1), .val (.int p2), .val (.int p3), .val (.int i), .val (.int yA), .val (.int (2 : Int32)), .val (.int (128 : Int32)), .val (.int (191 : Int32)), .val (.int yB), .val (.int (2 : Int32))] [(.int (i + (2 : Int32)))])) _
                refine XS.istoreN X0.here hx rfl (hb hby d4_255) rfl (l' := #[.val (.ref a1), .val (.int p2), .val (.int p3), .val (.int (i + (2 : Int32))), .val (.int yA), .val (.int (2 : Int32)), .val (.int (128 : Int32)), .val (.int (191 : Int32)), .val (.int yB), .val (.int (2 : Int32))]) rfl ?_
                show Steps p.tables e below (T0.setTop (mkF m 256 #[.val (.ref a1), .val (.int p2), .val (.int p3), .val (.int (i + (2 : Int32))), .val (.int yA), .val (.int (2 : Int32)), .val (.int (128 : Int32)), .val (.int (191 : Int32)), .val (.int yB), .val (.int (2 : Int32))] [])) _
                refine XS.goto X0.here hx rfl (pc0 := 256) (pc' := 2) rfl (hb hby d4_256) (by decide) (by decide) ?_
                exact kont
              have j1 : ¬ (own_u F n 0 < 128) := fun q => hc21_3 ((own_ltI hA (rfl : (128 : Int32).toInt = 128)).mpr q)
              have j2 : ¬ (own_u F n 0 < 194) := fun q => hc45_4 ((own_ltI hA (rfl : (194 : Int32).toInt = 194)).mpr q)
              have j3 : ¬ (223 < own_u F n 0) := fun q => hc53_5 ((own_ltI (rfl : (223 : Int32).toInt = 223) hA).mpr q)
              have j4 : ¬ ((E : Int) - n < 2) := fun q => hc185_6 ((own_ltI hd (rfl : (2 : Int32).toInt = 2)).mpr q)
              have j5 : ¬ (own_u F n 1 < 128) := fun q => hc205_8 ((own_ltI hB (rfl : (128 : Int32).toInt = 128)).mpr q)
              have j6 : ¬ (191 < own_u F n 1) := fun q => hc212_9 ((own_ltI (rfl : (191 : Int32).toInt = 191) hB).mpr q)
              have hnd : own_nd (own_u F n 0) = 2 := by simp only [own_nd]; rw [if_pos (by omega)]
              have hlo : own_lo (own_u F n 0) = 128 := by simp only [own_lo]; rw [if_neg (by omega), if_neg (by omega)]
              have hhi : own_hi (own_u F n 0) = 191 := by simp only [own_hi]; rw [if_neg (by omega), if_neg (by omega)]
              have hst : own_cs (own_u F n) ((E : Int) - n) = 2 := by rw [own_cs, if_neg (by omega), if_neg (by omega), hnd, if_neg (by omega), hlo, hhi, if_neg (by omega), if_neg (by omega), if_neg (by omega)]
              exact kt _ 2 _ _ _ _ _ _ (One.val rfl) (One.val rfl) (One.val rfl) (One.val rfl) (One.val rfl) (One.val rfl) hst (by decide) (own_at_plus hi (own_at_lit rfl (by decide) : own_at (2 : Int32) 2) (by omega))
set_option maxRecDepth 65536 in
set_option maxHeartbeats 40000000 in
theorem own_whole {p : Program} {l : Launch} {e : Env} {R : Room} {s : State} {m : MethodId} {args : Array Value} {below : List Frame} {meth : Method} {c : Code} {T0 : State} {locs : List Loc} {cells slots : Nat} {Z : State} {h0 : Heap} {Q : Option Value → Heap → List Loc → Prop} {CC SS : Nat} {a1 : Addr} {p2 p3 : Int32} {E : Nat} {F : Nat → Int32} (X0 : Stand p l e R s m args below meth c T0 locs cells slots) (hx : p.tables.exec = Jvm.exec) (hZ : Z.Warmed39 s.vm) (hby : c.code = prog_72_method_42_code) (hret : meth.sig.returnType = some .boolean) (hlk : meth.locks = false) (e0 : T0.heap = h0) (hCC : cells ≤ CC) (hSS : slots ≤ SS) (VA : own_A Z h0 a1 .byte 6 (fun k => .int (F k))) (hp : own_at p3 E) (hE : E ≤ 6) :
    ∀ (t n : Nat) (i : Int32) (s4 s5 s6 s7 s8 s9 : Slot), E ≤ n + t → own_at i n → One s4 → One s5 → One s6 → One s7 → One s8 → One s9 → Q (some (.int (own_ut F E t n))) T0.heap locs →
      own_Go p e below T0 (mkF m 2 #[.val (.ref a1), .val (.int p2), .val (.int p3), .val (.int i), s4, s5, s6, s7, s8, s9] []) (fun o U' => ∃ v L, o = .returned v ∧ Q v U'.heap L ∧ FrameEnd s o U' L CC SS) := by
  intro t
  induction t with
  | zero =>
    intro n i s4 s5 s6 s7 s8 s9 hn hi hs4 hs5 hs6 hs7 hs8 hs9 hQ
    have hge : ¬ (i < p3) := by rw [Int32.lt_iff_toInt_lt, own_at_toInt hi, own_at_toInt hp]; omega
    refine own_step (T' := T0) (f' := (mkF m 260 #[.val (.ref a1), .val (.int p2), .val (.int p3), .val (.int i), s4, s5, s6, s7, s8, s9] [(.int (1 : Int32))])) (fun tt kont => ?_) ?_
    · show Steps p.tables e below (T0.setTop (mkF m 2 #[.val (.ref a1), .val (.int p2), .val (.int p3), .val (.int i), s4, s5, s6, s7, s8, s9] [])) _
      refine XS.iloadN X0.here hx rfl (hb hby d4_2) rfl ?_
      show Steps p.tables e below (T0.setTop (mkF m 3 #[.val (.ref a1), .val (.int p2), .val (.int p3), .val (.int i), s4, s5, s6, s7, s8, s9] [(.int i)])) _
      refine XS.iloadN X0.here hx rfl (hb hby d4_3) rfl ?_
      show Steps p.tables e below (T0.setTop (mkF m 4 #[.val (.ref a1), .val (.int p2), .val (.int p3), .val (.int i), s4, s5, s6, s7, s8, s9] [(.int p3), (.int i)])) _
      refine XS.icmpYes X0.here hx rfl (pc0 := 4) (pc' := 259) rfl (hb hby d4_4) rfl (flt hge).2.1 (by decide) (by decide) ?_
      show Steps p.tables e below (T0.setTop (mkF m 259 #[.val (.ref a1), .val (.int p2), .val (.int p3), .val (.int i), s4, s5, s6, s7, s8, s9] [])) _
      refine XS.iconst X0.here hx rfl (hb hby d4_259) ?_
      exact kont
    exact own_retZ X0 hx hret hlk (hb hby d4_260) hCC hSS hQ
  | succ t ih =>
    intro n i s4 s5 s6 s7 s8 s9 hn hi hs4 hs5 hs6 hs7 hs8 hs9 hQ
    rw [own_ut] at hQ
    by_cases q : E ≤ n
    · rw [if_pos q] at hQ
      have hge : ¬ (i < p3) := by rw [Int32.lt_iff_toInt_lt, own_at_toInt hi, own_at_toInt hp]; omega
      refine own_step (T' := T0) (f' := (mkF m 260 #[.val (.ref a1), .val (.int p2), .val (.int p3), .val (.int i), s4, s5, s6, s7, s8, s9] [(.int (1 : Int32))])) (fun tt kont => ?_) ?_
      · show Steps p.tables e below (T0.setTop (mkF m 2 #[.val (.ref a1), .val (.int p2), .val (.int p3), .val (.int i), s4, s5, s6, s7, s8, s9] [])) _
        refine XS.iloadN X0.here hx rfl (hb hby d4_2) rfl ?_
        show Steps p.tables e below (T0.setTop (mkF m 3 #[.val (.ref a1), .val (.int p2), .val (.int p3), .val (.int i), s4, s5, s6, s7, s8, s9] [(.int i)])) _
        refine XS.iloadN X0.here hx rfl (hb hby d4_3) rfl ?_
        show Steps p.tables e below (T0.setTop (mkF m 4 #[.val (.ref a1), .val (.int p2), .val (.int p3), .val (.int i), s4, s5, s6, s7, s8, s9] [(.int p3), (.int i)])) _
        refine XS.icmpYes X0.here hx rfl (pc0 := 4) (pc' := 259) rfl (hb hby d4_4) rfl (flt hge).2.1 (by decide) (by decide) ?_
        show Steps p.tables e below (T0.setTop (mkF m 259 #[.val (.ref a1), .val (.int p2), .val (.int p3), .val (.int i), s4, s5, s6, s7, s8, s9] [])) _
        refine XS.iconst X0.here hx rfl (hb hby d4_259) ?_
        exact kont
      exact own_retZ X0 hx hret hlk (hb hby d4_260) hCC hSS hQ
    · rw [if_neg q] at hQ
      refine own_turn X0 hx hZ hby hret hlk e0 hCC hSS VA hi hp hE (by omega) hs4 hs5 hs6 hs7 hs8 hs9 (fun h => by rw [if_pos h] at hQ; exact hQ) ?_
      intro i' k u4 u5 u6 u7 u8 u9 o4 o5 o6 o7 o8 o9 hst hk hi'
      rw [if_neg (by omega), hst] at hQ
      exact ih (n + k) i' _ _ _ _ _ _ (by omega) hi' o4 o5 o6 o7 o8 o9 hQ
theorem own_pn0 : plainName "com/example/tallymark/tallymark/model/EstateFileReader" = true := by first | (simp [plainName, overriddenIn]; done) | decide +kernel
theorem own_ef_own_rmU (m : MethodId) (x0 : Addr) (x1 : Int32) (x2 : Int32) : entryFrame m #[(.ref x0), (.int x1), (.int x2)] 10 = mkF m 0 #[.val (.ref x0), .val (.int x1), .val (.int x2), .unset, .unset, .unset, .unset, .unset, .unset, .unset] [] := by first | (simp [entryFrame, mkF, argsToLocals, Value.category]; done) | rfl
def own_Q_rmU (Z : State) (a1 : Addr) (p2 : Int32) (p3 : Int32) (n E : Nat) (F : Nat → Int32) (h0 : Heap) (n0 : Nat) (v : Option Value) (h : Heap) (L : List Loc) : Prop := v = some (.int (own_ut F E 6 n)) ∧ Fr n0 L ∧ h = h0
set_option maxRecDepth 65536 in
set_option maxHeartbeats 40000000 in
theorem own_rmU (l : Launch) (Z : State) (a0 : Array Value) (hw : ∀ d ∈ tables_1, d.before a0 Z = true) (a1 : Addr) (p2 : Int32) (p3 : Int32) (n E : Nat) (F : Nat → Int32) (h0 : Heap) (n0 : Nat) (VA : own_A Z h0 a1 .byte 6 (fun k => .int (F k))) (hn : own_at p2 n) (hp : own_at p3 E) (hE : E ≤ 6) :
    MetFree l (⟨"com/example/tallymark/tallymark/model/EstateFileReader", "isUtf8", "([BII)Z"⟩ : MethodName) (head1 [Jvm.Cond.code (⟨"com/example/tallymark/tallymark/model/EstateFileReader", "isUtf8", "([BII)Z"⟩ : MethodName) prog_72_method_42_code 10 (some .boolean)] ({ frames := 0, cells := 0, slots := 0, locals := 0 } : Room)) (fun a U => a = #[(.ref a1), (.int p2), (.int p3)] ∧ Z.Warmed39 U.vm ∧ U.heap = h0) (fun _ _ _ _ _ => True) (fun _ U o U' => ∃ v L, o = .returned v ∧ own_Q_rmU Z a1 p2 p3 n E F h0 n0 v U'.heap L ∧ FrameEnd U o U' L ({ frames := 0, cells := 0, slots := 0, locals := 0 } : Room).cells ({ frames := 0, cells := 0, slots := 0, locals := 0 } : Room).slots) := by
  refine MetFree.of_bodySF (plainFor_of_name own_pn0) hisR ?_
  intro p e s m args below meth c s₁ Bd hml0 hP hK
  obtain ⟨rfl, hZ, hh⟩ := hP
  have hx := Bd.exec
  have hby := Bd.bytes
  have hret := Bd.returns
  have hlk := Bd.notSynchronized
  have hml : c.maxLocals = 10 := hml0
  have hown : s.vm.findClass "com/example/tallymark/tallymark/model/EstateFileReader" = some m.cls := findClass_of_methodNamed Bd.named
  have hnm := (name_of_methodNamed Bd.named Bd.method).1
  have X0 : Stand p l e ({ frames := 0, cells := 0, slots := 0, locals := 0 } : Room) s m #[(.ref a1), (.int p2), (.int p3)] below meth c s₁ [] 0 0 := Stand.of_body Bd
  have e0 : s₁.heap = h0 := by rw [← hh, Bd.state]; rfl
  have N0 := Fr.nil n0
  refine own_Go.cast (own_ef_own_rmU m a1 p2 p3) ?_
  refine own_step (T' := s₁) (f' := (mkF m 2 #[.val (.ref a1), .val (.int p2), .val (.int p3), .val (.int p2), .unset, .unset, .unset, .unset, .unset, .unset] [])) (fun tt kont => ?_) ?_
  · show Steps p.tables e below (s₁.setTop (mkF m 0 #[.val (.ref a1), .val (.int p2), .val (.int p3), .unset, .unset, .unset, .unset, .unset, .unset, .unset] [])) _
    refine XS.iloadN X0.here hx rfl (hb hby d4_0) rfl ?_
    show Steps p.tables e below (s₁.setTop (mkF m 1 #[.val (.ref a1), .val (.int p2), .val (.int p3), .unset, .unset, .unset, .unset, .unset, .unset, .unset] [(.int p2)])) _
    refine XS.istoreN X0.here hx rfl (hb hby d4_1) rfl (l' := #[.val (.ref a1), .val (.int p2), .val (.int p3), .val (.int p2), .unset, .unset, .unset, .unset, .unset, .unset]) rfl ?_
    exact kont
  exact own_whole X0 hx hZ hby hret hlk e0 (by decide) (by decide) VA hp hE 6 n p2 _ _ _ _ _ _ (by omega) hn One.u One.u One.u One.u One.u One.u ⟨rfl, N0, e0⟩
def own_fL (p1 : Int32) : Int32 := (if p1 < (128 : Int32) then (1 : Int32) else (if p1 < (2048 : Int32) then (2 : Int32) else (if p1 < (65536 : Int32) then (3 : Int32) else (4 : Int32))))
theorem d1_0 : decode method_2_code 0 = .ok (.iload_n 0, 1) := by decide +kernel
theorem d1_1 : decode method_2_code 1 = .ok (.sipush 128, 3) := by decide +kernel
theorem d1_4 : decode method_2_code 4 = .ok (.if_icmp .ge 5, 3) := by decide +kernel
theorem d1_7 : decode method_2_code 7 = .ok (.iconst 1, 1) := by decide +kernel
theorem d1_8 : decode method_2_code 8 = .ok (.ireturn, 1) := by decide +kernel
theorem d1_9 : decode method_2_code 9 = .ok (.iload_n 0, 1) := by decide +kernel
theorem d1_10 : decode method_2_code 10 = .ok (.sipush 2048, 3) := by decide +kernel
theorem d1_13 : decode method_2_code 13 = .ok (.if_icmp .ge 5, 3) := by decide +kernel
theorem d1_16 : decode method_2_code 16 = .ok (.iconst 2, 1) := by decide +kernel
theorem d1_17 : decode method_2_code 17 = .ok (.ireturn, 1) := by decide +kernel
theorem d1_18 : decode method_2_code 18 = .ok (.iload_n 0, 1) := by decide +kernel
theorem d1_19 : decode method_2_code 19 = .ok (.ldc 7, 2) := by decide +kernel
theorem d1_21 : decode method_2_code 21 = .ok (.if_icmp .ge 5, 3) := by decide +kernel
theorem d1_24 : decode method_2_code 24 = .ok (.iconst 3, 1) := by decide +kernel
theorem d1_25 : decode method_2_code 25 = .ok (.ireturn, 1) := by decide +kernel
theorem d1_26 : decode method_2_code 26 = .ok (.iconst 4, 1) := by decide +kernel
theorem d1_27 : decode method_2_code 27 = .ok (.ireturn, 1) := by decide +kernel
theorem own_pn1 : plainName "com/example/tallymark/tallymark/model/EstateFileReaderIsUtf8PinLaw" = true := by first | (simp [plainName, overriddenIn]; done) | decide +kernel
theorem own_ef_own_rmL (m : MethodId) (x0 : Int32) : entryFrame m #[(.int x0)] 1 = mkF m 0 #[.val (.int x0)] [] := by first | (simp [entryFrame, mkF, argsToLocals, Value.category]; done) | rfl
def own_Q_rmL (Z : State) (p1 : Int32) (h0 : Heap) (n0 : Nat) (v : Option Value) (h : Heap) (L : List Loc) : Prop := v = some (.int (own_fL p1)) ∧ Fr n0 L ∧ h = h0
set_option maxRecDepth 65536 in
set_option maxHeartbeats 40000000 in
theorem own_rmL (l : Launch) (Z : State) (a0 : Array Value) (hw : ∀ d ∈ tables_1, d.before a0 Z = true) (p1 : Int32) (h0 : Heap) (n0 : Nat) :
    MetFree l (⟨"com/example/tallymark/tallymark/model/EstateFileReaderIsUtf8PinLaw", "minLen", "(I)I"⟩ : MethodName) (head1 [Jvm.Cond.code (⟨"com/example/tallymark/tallymark/model/EstateFileReaderIsUtf8PinLaw", "minLen", "(I)I"⟩ : MethodName) method_2_code 1 (some .int)] ({ frames := 0, cells := 0, slots := 0, locals := 0 } : Room)) (fun a U => a = #[(.int p1)] ∧ Z.Warmed39 U.vm ∧ U.heap = h0) (fun _ _ _ _ _ => True) (fun _ U o U' => ∃ v L, o = .returned v ∧ own_Q_rmL Z p1 h0 n0 v U'.heap L ∧ FrameEnd U o U' L ({ frames := 0, cells := 0, slots := 0, locals := 0 } : Room).cells ({ frames := 0, cells := 0, slots := 0, locals := 0 } : Room).slots) := by
  refine MetFree.of_bodySF (plainFor_of_name own_pn1) hisR ?_
  intro p e s m args below meth c s₁ Bd hml0 hP hK
  obtain ⟨rfl, hZ, hh⟩ := hP
  have hx := Bd.exec
  have hby := Bd.bytes
  have hret := Bd.returns
  have hlk := Bd.notSynchronized
  have hml : c.maxLocals = 1 := hml0
  have hown : s.vm.findClass "com/example/tallymark/tallymark/model/EstateFileReaderIsUtf8PinLaw" = some m.cls := findClass_of_methodNamed Bd.named
  have hnm := (name_of_methodNamed Bd.named Bd.method).1
  have X0 : Stand p l e ({ frames := 0, cells := 0, slots := 0, locals := 0 } : Room) s m #[(.int p1)] below meth c s₁ [] 0 0 := Stand.of_body Bd
  have e0 : s₁.heap = h0 := by rw [← hh, Bd.state]; rfl
  have N0 := Fr.nil n0
  refine own_Go.cast (own_ef_own_rmL m p1) ?_
  refine own_step (T' := s₁) (f' := (mkF m 4 #[.val (.int p1)] [(.int (128 : Int32)), (.int p1)])) (fun tt kont => ?_) ?_
  · show Steps p.tables e below (s₁.setTop (mkF m 0 #[.val (.int p1)] [])) _
    refine XS.iloadN X0.here hx rfl (hb hby d1_0) rfl ?_
    show Steps p.tables e below (s₁.setTop (mkF m 1 #[.val (.int p1)] [(.int p1)])) _
    refine XS.sipush X0.here hx rfl (hb hby d1_1) ?_
    exact kont
  by_cases hc4_0 : p1 < (128 : Int32)
  · refine own_step (T' := s₁) (f' := (mkF m 8 #[.val (.int p1)] [(.int (1 : Int32))])) (fun tt kont => ?_) ?_
    · show Steps p.tables e below (s₁.setTop (mkF m 4 #[.val (.int p1)] [(.int (128 : Int32)), (.int p1)])) _
      refine XS.icmpNo X0.here hx rfl (hb hby d1_4) rfl (tlt hc4_0).2.1 ?_
      show Steps p.tables e below (s₁.setTop (mkF m 7 #[.val (.int p1)] [])) _
      refine XS.iconst X0.here hx rfl (hb hby d1_7) ?_
      exact kont
    exact own_retI X0 hx hret hlk (hb hby d1_8) (by decide) (by decide) ⟨(congrArg (fun z => some (Value.int z)) (show (1 : Int32) = own_fL p1 from (by rw [own_fL, if_pos hc4_0]))), N0, e0⟩
  · refine own_step (T' := s₁) (f' := (mkF m 13 #[.val (.int p1)] [(.int (2048 : Int32)), (.int p1)])) (fun tt kont => ?_) ?_
    · show Steps p.tables e below (s₁.setTop (mkF m 4 #[.val (.int p1)] [(.int (128 : Int32)), (.int p1)])) _
      refine XS.icmpYes X0.here hx rfl (pc0 := 4) (pc' := 9) rfl (hb hby d1_4) rfl (flt hc4_0).2.1 (by decide) (by decide) ?_
      show Steps p.tables e below (s₁.setTop (mkF m 9 #[.val (.int p1)] [])) _
      refine XS.iloadN X0.here hx rfl (hb hby d1_9) rfl ?_
      show Steps p.tables e below (s₁.setTop (mkF m 10 #[.val (.int p1)] [(.int p1)])) _
      refine XS.sipush X0.here hx rfl (hb hby d1_10) ?_
      exact kont
    by_cases hc13_1 : p1 < (2048 : Int32)
    · refine own_step (T' := s₁) (f' := (mkF m 17 #[.val (.int p1)] [(.int (2 : Int32))])) (fun tt kont => ?_) ?_
      · show Steps p.tables e below (s₁.setTop (mkF m 13 #[.val (.int p1)] [(.int (2048 : Int32)), (.int p1)])) _
        refine XS.icmpNo X0.here hx rfl (hb hby d1_13) rfl (tlt hc13_1).2.1 ?_
        show Steps p.tables e below (s₁.setTop (mkF m 16 #[.val (.int p1)] [])) _
        refine XS.iconst X0.here hx rfl (hb hby d1_16) ?_
        exact kont
      exact own_retI X0 hx hret hlk (hb hby d1_17) (by decide) (by decide) ⟨(congrArg (fun z => some (Value.int z)) (show (2 : Int32) = own_fL p1 from (by rw [own_fL, if_neg hc4_0, if_pos hc13_1]))), N0, e0⟩
    · refine own_step (T' := s₁) (f' := (mkF m 21 #[.val (.int p1)] [(.int (65536 : Int32)), (.int p1)])) (fun tt kont => ?_) ?_
      · show Steps p.tables e below (s₁.setTop (mkF m 13 #[.val (.int p1)] [(.int (2048 : Int32)), (.int p1)])) _
        refine XS.icmpYes X0.here hx rfl (pc0 := 13) (pc' := 18) rfl (hb hby d1_13) rfl (flt hc13_1).2.1 (by decide) (by decide) ?_
        show Steps p.tables e below (s₁.setTop (mkF m 18 #[.val (.int p1)] [])) _
        refine XS.iloadN X0.here hx rfl (hb hby d1_18) rfl ?_
        show Steps p.tables e below (s₁.setTop (mkF m 19 #[.val (.int p1)] [(.int p1)])) _
        refine X0.ldcInt hx hown (mvT hZ (hw _ (List.mem_of_getElem? (i := 17) rfl))) (g := (mkF m 19 #[.val (.int p1)] [(.int p1)])) rfl (hb hby d1_19) _ ?_
        exact kont
      by_cases hc21_2 : p1 < (65536 : Int32)
      · refine own_step (T' := s₁) (f' := (mkF m 25 #[.val (.int p1)] [(.int (3 : Int32))])) (fun tt kont => ?_) ?_
        · show Steps p.tables e below (s₁.setTop (mkF m 21 #[.val (.int p1)] [(.int (65536 : Int32)), (.int p1)])) _
          refine XS.icmpNo X0.here hx rfl (hb hby d1_21) rfl (tlt hc21_2).2.1 ?_
          show Steps p.tables e below (s₁.setTop (mkF m 24 #[.val (.int p1)] [])) _
          refine XS.iconst X0.here hx rfl (hb hby d1_24) ?_
          exact kont
        exact own_retI X0 hx hret hlk (hb hby d1_25) (by decide) (by decide) ⟨(congrArg (fun z => some (Value.int z)) (show (3 : Int32) = own_fL p1 from (by rw [own_fL, if_neg hc4_0, if_neg hc13_1, if_pos hc21_2]))), N0, e0⟩
      · refine own_step (T' := s₁) (f' := (mkF m 27 #[.val (.int p1)] [(.int (4 : Int32))])) (fun tt kont => ?_) ?_
        · show Steps p.tables e below (s₁.setTop (mkF m 21 #[.val (.int p1)] [(.int (65536 : Int32)), (.int p1)])) _
          refine XS.icmpYes X0.here hx rfl (pc0 := 21) (pc' := 26) rfl (hb hby d1_21) rfl (flt hc21_2).2.1 (by decide) (by decide) ?_
          show Steps p.tables e below (s₁.setTop (mkF m 26 #[.val (.int p1)] [])) _
          refine XS.iconst X0.here hx rfl (hb hby d1_26) ?_
          exact kont
        exact own_retI X0 hx hret hlk (hb hby d1_27) (by decide) (by decide) ⟨(congrArg (fun z => some (Value.int z)) (show (4 : Int32) = own_fL p1 from (by rw [own_fL, if_neg hc4_0, if_neg hc13_1, if_neg hc21_2]))), N0, e0⟩
def own_fX (p1 : Int32) (p2 : Int32) : Int32 := (if p1 < p2 then p2 else p1)
theorem d2_0 : decode jdk_29_method_65_code 0 = .ok (.iload_n 0, 1) := by decide +kernel
theorem d2_1 : decode jdk_29_method_65_code 1 = .ok (.iload_n 1, 1) := by decide +kernel
theorem d2_2 : decode jdk_29_method_65_code 2 = .ok (.if_icmp .lt 7, 3) := by decide +kernel
theorem d2_5 : decode jdk_29_method_65_code 5 = .ok (.iload_n 0, 1) := by decide +kernel
theorem d2_6 : decode jdk_29_method_65_code 6 = .ok (.goto 4, 3) := by decide +kernel
theorem d2_9 : decode jdk_29_method_65_code 9 = .ok (.iload_n 1, 1) := by decide +kernel
theorem d2_10 : decode jdk_29_method_65_code 10 = .ok (.ireturn, 1) := by decide +kernel
theorem own_ef_own_rmX (m : MethodId) (x0 : Int32) (x1 : Int32) : entryFrame m #[(.int x0), (.int x1)] 2 = mkF m 0 #[.val (.int x0), .val (.int x1)] [] := by first | (simp [entryFrame, mkF, argsToLocals, Value.category]; done) | rfl
def own_Q_rmX (Z : State) (p1 : Int32) (p2 : Int32) (h0 : Heap) (n0 : Nat) (v : Option Value) (h : Heap) (L : List Loc) : Prop := v = some (.int (own_fX p1 p2)) ∧ Fr n0 L ∧ h = h0
set_option maxRecDepth 65536 in
set_option maxHeartbeats 40000000 in
theorem own_rmX (l : Launch) (Z : State) (a0 : Array Value) (hw : ∀ d ∈ tables_1, d.before a0 Z = true) (p1 : Int32) (p2 : Int32) (h0 : Heap) (n0 : Nat) :
    MetFree l (⟨"java/lang/Math", "max", "(II)I"⟩ : MethodName) (head1 [Jvm.Cond.code (⟨"java/lang/Math", "max", "(II)I"⟩ : MethodName) jdk_29_method_65_code 2 (some .int)] ({ frames := 0, cells := 0, slots := 0, locals := 0 } : Room)) (fun a U => a = #[(.int p1), (.int p2)] ∧ Z.Warmed39 U.vm ∧ U.heap = h0) (fun _ _ _ _ _ => True) (fun _ U o U' => ∃ v L, o = .returned v ∧ own_Q_rmX Z p1 p2 h0 n0 v U'.heap L ∧ FrameEnd U o U' L ({ frames := 0, cells := 0, slots := 0, locals := 0 } : Room).cells ({ frames := 0, cells := 0, slots := 0, locals := 0 } : Room).slots) := by
  refine MetFree.of_bodySF (Jvm.Free.JP.mathPlain rfl (by decide +kernel)) hisR ?_
  intro p e s m args below meth c s₁ Bd hml0 hP hK
  obtain ⟨rfl, hZ, hh⟩ := hP
  have hx := Bd.exec
  have hby := Bd.bytes
  have hret := Bd.returns
  have hlk := Bd.notSynchronized
  have hml : c.maxLocals = 2 := hml0
  have hown : s.vm.findClass "java/lang/Math" = some m.cls := findClass_of_methodNamed Bd.named
  have hnm := (name_of_methodNamed Bd.named Bd.method).1
  have X0 : Stand p l e ({ frames := 0, cells := 0, slots := 0, locals := 0 } : Room) s m #[(.int p1), (.int p2)] below meth c s₁ [] 0 0 := Stand.of_body Bd
  have e0 : s₁.heap = h0 := by rw [← hh, Bd.state]; rfl
  have N0 := Fr.nil n0
  refine own_Go.cast (own_ef_own_rmX m p1 p2) ?_
  refine own_step (T' := s₁) (f' := (mkF m 2 #[.val (.int p1), .val (.int p2)] [(.int p2), (.int p1)])) (fun tt kont => ?_) ?_
  · show Steps p.tables e below (s₁.setTop (mkF m 0 #[.val (.int p1), .val (.int p2)] [])) _
    refine XS.iloadN X0.here hx rfl (hb hby d2_0) rfl ?_
    show Steps p.tables e below (s₁.setTop (mkF m 1 #[.val (.int p1), .val (.int p2)] [(.int p1)])) _
    refine XS.iloadN X0.here hx rfl (hb hby d2_1) rfl ?_
    exact kont
  by_cases hc2_0 : p1 < p2
  · refine own_step (T' := s₁) (f' := (mkF m 10 #[.val (.int p1), .val (.int p2)] [(.int p2)])) (fun tt kont => ?_) ?_
    · show Steps p.tables e below (s₁.setTop (mkF m 2 #[.val (.int p1), .val (.int p2)] [(.int p2), (.int p1)])) _
      refine XS.icmpYes X0.here hx rfl (pc0 := 2) (pc' := 9) rfl (hb hby d2_2) rfl (tlt hc2_0).1 (by decide) (by decide) ?_
      show Steps p.tables e below (s₁.setTop (mkF m 9 #[.val (.int p1), .val (.int p2)] [])) _
      refine XS.iloadN X0.here hx rfl (hb hby d2_9) rfl ?_
      exact kont
    exact own_retI X0 hx hret hlk (hb hby d2_10) (by decide) (by decide) ⟨(congrArg (fun z => some (Value.int z)) (show p2 = own_fX p1 p2 from (by rw [own_fX, if_pos hc2_0]))), N0, e0⟩
  · refine own_step (T' := s₁) (f' := (mkF m 10 #[.val (.int p1), .val (.int p2)] [(.int p1)])) (fun tt kont => ?_) ?_
    · show Steps p.tables e below (s₁.setTop (mkF m 2 #[.val (.int p1), .val (.int p2)] [(.int p2), (.int p1)])) _
      refine XS.icmpNo X0.here hx rfl (hb hby d2_2) rfl (flt hc2_0).1 ?_
      show Steps p.tables e below (s₁.setTop (mkF m 5 #[.val (.int p1), .val (.int p2)] [])) _
      refine XS.iloadN X0.here hx rfl (hb hby d2_5) rfl ?_
      show Steps p.tables e below (s₁.setTop (mkF m 6 #[.val (.int p1), .val (.int p2)] [(.int p1)])) _
      refine XS.goto X0.here hx rfl (pc0 := 6) (pc' := 10) rfl (hb hby d2_6) (by decide) (by decide) ?_
      exact kont
    exact own_retI X0 hx hret hlk (hb hby d2_10) (by decide) (by decide) ⟨(congrArg (fun z => some (Value.int z)) (show p1 = own_fX p1 p2 from (by rw [own_fX, if_neg hc2_0]))), N0, e0⟩
def own_fV (p1 : Int32) (p2 : Int32) : Int32 := (if p2 = (own_fL p1) then (if (1114111 : Int32) < p1 then (0 : Int32) else (if p1 < (55296 : Int32) then (1 : Int32) else (if (57343 : Int32) < p1 then (1 : Int32) else (0 : Int32)))) else (0 : Int32))
theorem d3_0 : decode method_3_code 0 = .ok (.iload_n 1, 1) := by decide +kernel
theorem d3_1 : decode method_3_code 1 = .ok (.iload_n 0, 1) := by decide +kernel
theorem d3_2 : decode method_3_code 2 = .ok (.invokestatic 8, 3) := by decide +kernel
theorem d3_5 : decode method_3_code 5 = .ok (.if_icmp .ne 25, 3) := by decide +kernel
theorem d3_8 : decode method_3_code 8 = .ok (.iload_n 0, 1) := by decide +kernel
theorem d3_9 : decode method_3_code 9 = .ok (.ldc 14, 2) := by decide +kernel
theorem d3_11 : decode method_3_code 11 = .ok (.if_icmp .gt 19, 3) := by decide +kernel
theorem d3_14 : decode method_3_code 14 = .ok (.iload_n 0, 1) := by decide +kernel
theorem d3_15 : decode method_3_code 15 = .ok (.ldc 15, 2) := by decide +kernel
theorem d3_17 : decode method_3_code 17 = .ok (.if_icmp .lt 9, 3) := by decide +kernel
theorem d3_20 : decode method_3_code 20 = .ok (.iload_n 0, 1) := by decide +kernel
theorem d3_21 : decode method_3_code 21 = .ok (.ldc 16, 2) := by decide +kernel
theorem d3_23 : decode method_3_code 23 = .ok (.if_icmp .le 7, 3) := by decide +kernel
theorem d3_26 : decode method_3_code 26 = .ok (.iconst 1, 1) := by decide +kernel
theorem d3_27 : decode method_3_code 27 = .ok (.goto 4, 3) := by decide +kernel
theorem d3_30 : decode method_3_code 30 = .ok (.iconst 0, 1) := by decide +kernel
theorem d3_31 : decode method_3_code 31 = .ok (.ireturn, 1) := by decide +kernel
theorem own_ef_own_rmV (m : MethodId) (x0 : Int32) (x1 : Int32) : entryFrame m #[(.int x0), (.int x1)] 2 = mkF m 0 #[.val (.int x0), .val (.int x1)] [] := by first | (simp [entryFrame, mkF, argsToLocals, Value.category]; done) | rfl
theorem own_pd0 : parseMethodDescriptor "(I)I" = some ⟨[.int], some .int⟩ := by decide +kernel
def own_Q_rmV (Z : State) (p1 : Int32) (p2 : Int32) (h0 : Heap) (n0 : Nat) (v : Option Value) (h : Heap) (L : List Loc) : Prop := v = some (.int (own_fV p1 p2)) ∧ Fr n0 L ∧ h = h0
set_option maxRecDepth 65536 in
set_option maxHeartbeats 40000000 in
theorem own_rmV (l : Launch) (Z : State) (a0 : Array Value) (hw : ∀ d ∈ tables_1, d.before a0 Z = true) (p1 : Int32) (p2 : Int32) (h0 : Heap) (n0 : Nat) :
    MetFree l (⟨"com/example/tallymark/tallymark/model/EstateFileReaderIsUtf8PinLaw", "valid", "(II)Z"⟩ : MethodName) (head1 [Jvm.Cond.code (⟨"com/example/tallymark/tallymark/model/EstateFileReaderIsUtf8PinLaw", "valid", "(II)Z"⟩ : MethodName) method_3_code 2 (some .boolean)] ({ frames := 1, cells := 0, slots := 0, locals := 13 } : Room)) (fun a U => a = #[(.int p1), (.int p2)] ∧ Z.Warmed39 U.vm ∧ U.heap = h0) (fun _ _ _ _ _ => True) (fun _ U o U' => ∃ v L, o = .returned v ∧ own_Q_rmV Z p1 p2 h0 n0 v U'.heap L ∧ FrameEnd U o U' L ({ frames := 1, cells := 0, slots := 0, locals := 13 } : Room).cells ({ frames := 1, cells := 0, slots := 0, locals := 13 } : Room).slots) := by
  refine MetFree.of_bodySF (plainFor_of_name own_pn1) hisR ?_
  intro p e s m args below meth c s₁ Bd hml0 hP hK
  obtain ⟨rfl, hZ, hh⟩ := hP
  have hx := Bd.exec
  have hby := Bd.bytes
  have hret := Bd.returns
  have hlk := Bd.notSynchronized
  have hml : c.maxLocals = 2 := hml0
  have hown : s.vm.findClass "com/example/tallymark/tallymark/model/EstateFileReaderIsUtf8PinLaw" = some m.cls := findClass_of_methodNamed Bd.named
  have hnm := (name_of_methodNamed Bd.named Bd.method).1
  have X0 : Stand p l e ({ frames := 1, cells := 0, slots := 0, locals := 13 } : Room) s m #[(.int p1), (.int p2)] below meth c s₁ [] 0 0 := Stand.of_body Bd
  have e0 : s₁.heap = h0 := by rw [← hh, Bd.state]; rfl
  have N0 := Fr.nil n0
  refine own_Go.cast (own_ef_own_rmV m p1 p2) ?_
  refine own_step (T' := s₁) (f' := (mkF m 2 #[.val (.int p1), .val (.int p2)] [(.int p1), (.int p2)])) (fun tt kont => ?_) ?_
  · show Steps p.tables e below (s₁.setTop (mkF m 0 #[.val (.int p1), .val (.int p2)] [])) _
    refine XS.iloadN X0.here hx rfl (hb hby d3_0) rfl ?_
    show Steps p.tables e below (s₁.setTop (mkF m 1 #[.val (.int p1), .val (.int p2)] [(.int p2)])) _
    refine XS.iloadN X0.here hx rfl (hb hby d3_1) rfl ?_
    exact kont
  obtain ⟨_, _, ⟨T101, L101, k101, n101⟩, -, X101, ⟨Lc101, hQ101, l101, y101, z101⟩, st101⟩ := Jvm.LawKit.callS X0 hx (y := (⟨"com/example/tallymark/tallymark/model/EstateFileReaderIsUtf8PinLaw", "minLen", "(I)I"⟩ : MethodName)) hown (mvT hZ (hw _ (List.mem_of_getElem? (i := 1) rfl))) (mvT hZ (hw _ (List.mem_of_getElem? (i := 2) rfl))) (mvT hZ (hw _ (List.mem_of_getElem? (i := 3) rfl))) (mvT hZ (hw _ (List.mem_of_getElem? (i := 4) rfl))) (by decide) (backOf (W := 1) (own_rmL l Z a0 hw p1 h0 n0) hZ (hw _ (List.mem_of_getElem? (i := 4) rfl)) (hw _ (List.mem_of_getElem? (i := 3) rfl)) (by decide) (by decide)) (g := (mkF m 2 #[.val (.int p1), .val (.int p2)] [(.int p1), (.int p2)])) rfl (by rw [hml]; rfl) (argsL := [(.int p1)]) (rest := [(.int p2)]) (lenOf own_pd0 rfl) rfl (by show 2 * 0 + _ ≤ _; exact Nat.le_of_eq rfl) (hb hby d3_2) (fun _ _ => ⟨rfl, e0, (by decide : 0 + 0 ≤ _), (by decide : 0 + 0 ≤ _)⟩)
  dsimp only [Pt.U, Pt.locs, Pt.cells, Pt.slots] at X101 l101 y101 z101 st101 hQ101
  subst l101 y101 z101
  obtain ⟨rfl, N101q, e101⟩ := hQ101
  have N101 := Fr.app N0 N101q
  refine own_step (fun tt kont => st101 _ kont) ?_
  by_cases hc5_0 : p2 = (own_fL p1)
  · refine own_step (T' := T101) (f' := (mkF m 11 #[.val (.int p1), .val (.int p2)] [(.int (1114111 : Int32)), (.int p1)])) (fun tt kont => ?_) ?_
    · show Steps p.tables e below (T101.setTop (mkF m 5 #[.val (.int p1), .val (.int p2)] [(.int (own_fL p1)), (.int p2)])) _
      refine XS.icmpNo X101.here hx rfl (hb hby d3_5) rfl (teq hc5_0).2 ?_
      show Steps p.tables e below (T101.setTop (mkF m 8 #[.val (.int p1), .val (.int p2)] [])) _
      refine XS.iloadN X101.here hx rfl (hb hby d3_8) rfl ?_
      show Steps p.tables e below (T101.setTop (mkF m 9 #[.val (.int p1), .val (.int p2)] [(.int p1)])) _
      refine X101.ldcInt hx hown (mvT hZ (hw _ (List.mem_of_getElem? (i := 18) rfl))) (g := (mkF m 9 #[.val (.int p1), .val (.int p2)] [(.int p1)])) rfl (hb hby d3_9) _ ?_
      exact kont
    by_cases hc11_1 : (1114111 : Int32) < p1
    · refine own_step (T' := T101) (f' := (mkF m 31 #[.val (.int p1), .val (.int p2)] [(.int (0 : Int32))])) (fun tt kont => ?_) ?_
      · show Steps p.tables e below (T101.setTop (mkF m 11 #[.val (.int p1), .val (.int p2)] [(.int (1114111 : Int32)), (.int p1)])) _
        refine XS.icmpYes X101.here hx rfl (pc0 := 11) (pc' := 30) rfl (hb hby d3_11) rfl (tlt hc11_1).2.2.1 (by decide) (by decide) ?_
        show Steps p.tables e below (T101.setTop (mkF m 30 #[.val (.int p1), .val (.int p2)] [])) _
        refine XS.iconst X101.here hx rfl (hb hby d3_30) ?_
        exact kont
      exact own_retZ X101 hx hret hlk (hb hby d3_31) (by decide) (by decide) ⟨(congrArg (fun z => some (Value.int z)) ((show nar .boolean (0 : Int32) = (0 : Int32) from rfl).trans (show (0 : Int32) = own_fV p1 p2 from (by rw [own_fV, if_pos hc5_0, if_pos hc11_1])))), N101, e101⟩
    · refine own_step (T' := T101) (f' := (mkF m 17 #[.val (.int p1), .val (.int p2)] [(.int (55296 : Int32)), (.int p1)])) (fun tt kont => ?_) ?_
      · show Steps p.tables e below (T101.setTop (mkF m 11 #[.val (.int p1), .val (.int p2)] [(.int (1114111 : Int32)), (.int p1)])) _
        refine XS.icmpNo X101.here hx rfl (hb hby d3_11) rfl (flt hc11_1).2.2.1 ?_
        show Steps p.tables e below (T101.setTop (mkF m 14 #[.val (.int p1), .val (.int p2)] [])) _
        refine XS.iloadN X101.here hx rfl (hb hby d3_14) rfl ?_
        show Steps p.tables e below (T101.setTop (mkF m 15 #[.val (.int p1), .val (.int p2)] [(.int p1)])) _
        refine X101.ldcInt hx hown (mvT hZ (hw _ (List.mem_of_getElem? (i := 19) rfl))) (g := (mkF m 15 #[.val (.int p1), .val (.int p2)] [(.int p1)])) rfl (hb hby d3_15) _ ?_
        exact kont
      by_cases hc17_2 : p1 < (55296 : Int32)
      · refine own_step (T' := T101) (f' := (mkF m 31 #[.val (.int p1), .val (.int p2)] [(.int (1 : Int32))])) (fun tt kont => ?_) ?_
        · show Steps p.tables e below (T101.setTop (mkF m 17 #[.val (.int p1), .val (.int p2)] [(.int (55296 : Int32)), (.int p1)])) _
          refine XS.icmpYes X101.here hx rfl (pc0 := 17) (pc' := 26) rfl (hb hby d3_17) rfl (tlt hc17_2).1 (by decide) (by decide) ?_
          show Steps p.tables e below (T101.setTop (mkF m 26 #[.val (.int p1), .val (.int p2)] [])) _
          refine XS.iconst X101.here hx rfl (hb hby d3_26) ?_
          show Steps p.tables e below (T101.setTop (mkF m 27 #[.val (.int p1), .val (.int p2)] [(.int (1 : Int32))])) _
          refine XS.goto X101.here hx rfl (pc0 := 27) (pc' := 31) rfl (hb hby d3_27) (by decide) (by decide) ?_
          exact kont
        exact own_retZ X101 hx hret hlk (hb hby d3_31) (by decide) (by decide) ⟨(congrArg (fun z => some (Value.int z)) ((show nar .boolean (1 : Int32) = (1 : Int32) from rfl).trans (show (1 : Int32) = own_fV p1 p2 from (by rw [own_fV, if_pos hc5_0, if_neg hc11_1, if_pos hc17_2])))), N101, e101⟩
      · refine own_step (T' := T101) (f' := (mkF m 23 #[.val (.int p1), .val (.int p2)] [(.int (57343 : Int32)), (.int p1)])) (fun tt kont => ?_) ?_
        · show Steps p.tables e below (T101.setTop (mkF m 17 #[.val (.int p1), .val (.int p2)] [(.int (55296 : Int32)), (.int p1)])) _
          refine XS.icmpNo X101.here hx rfl (hb hby d3_17) rfl (flt hc17_2).1 ?_
          show Steps p.tables e below (T101.setTop (mkF m 20 #[.val (.int p1), .val (.int p2)] [])) _
          refine XS.iloadN X101.here hx rfl (hb hby d3_20) rfl ?_
          show Steps p.tables e below (T101.setTop (mkF m 21 #[.val (.int p1), .val (.int p2)] [(.int p1)])) _
          refine X101.ldcInt hx hown (mvT hZ (hw _ (List.mem_of_getElem? (i := 20) rfl))) (g := (mkF m 21 #[.val (.int p1), .val (.int p2)] [(.int p1)])) rfl (hb hby d3_21) _ ?_
          exact kont
        by_cases hc23_3 : (57343 : Int32) < p1
        · refine own_step (T' := T101) (f' := (mkF m 31 #[.val (.int p1), .val (.int p2)] [(.int (1 : Int32))])) (fun tt kont => ?_) ?_
          · show Steps p.tables e below (T101.setTop (mkF m 23 #[.val (.int p1), .val (.int p2)] [(.int (57343 : Int32)), (.int p1)])) _
            refine XS.icmpNo X101.here hx rfl (hb hby d3_23) rfl (tlt hc23_3).2.2.2 ?_
            show Steps p.tables e below (T101.setTop (mkF m 26 #[.val (.int p1), .val (.int p2)] [])) _
            refine XS.iconst X101.here hx rfl (hb hby d3_26) ?_
            show Steps p.tables e below (T101.setTop (mkF m 27 #[.val (.int p1), .val (.int p2)] [(.int (1 : Int32))])) _
            refine XS.goto X101.here hx rfl (pc0 := 27) (pc' := 31) rfl (hb hby d3_27) (by decide) (by decide) ?_
            exact kont
          exact own_retZ X101 hx hret hlk (hb hby d3_31) (by decide) (by decide) ⟨(congrArg (fun z => some (Value.int z)) ((show nar .boolean (1 : Int32) = (1 : Int32) from rfl).trans (show (1 : Int32) = own_fV p1 p2 from (by rw [own_fV, if_pos hc5_0, if_neg hc11_1, if_neg hc17_2, if_pos hc23_3])))), N101, e101⟩
        · refine own_step (T' := T101) (f' := (mkF m 31 #[.val (.int p1), .val (.int p2)] [(.int (0 : Int32))])) (fun tt kont => ?_) ?_
          · show Steps p.tables e below (T101.setTop (mkF m 23 #[.val (.int p1), .val (.int p2)] [(.int (57343 : Int32)), (.int p1)])) _
            refine XS.icmpYes X101.here hx rfl (pc0 := 23) (pc' := 30) rfl (hb hby d3_23) rfl (flt hc23_3).2.2.2 (by decide) (by decide) ?_
            show Steps p.tables e below (T101.setTop (mkF m 30 #[.val (.int p1), .val (.int p2)] [])) _
            refine XS.iconst X101.here hx rfl (hb hby d3_30) ?_
            exact kont
          exact own_retZ X101 hx hret hlk (hb hby d3_31) (by decide) (by decide) ⟨(congrArg (fun z => some (Value.int z)) ((show nar .boolean (0 : Int32) = (0 : Int32) from rfl).trans (show (0 : Int32) = own_fV p1 p2 from (by rw [own_fV, if_pos hc5_0, if_neg hc11_1, if_neg hc17_2, if_neg hc23_3])))), N101, e101⟩
  · refine own_step (T' := T101) (f' := (mkF m 31 #[.val (.int p1), .val (.int p2)] [(.int (0 : Int32))])) (fun tt kont => ?_) ?_
    · show Steps p.tables e below (T101.setTop (mkF m 5 #[.val (.int p1), .val (.int p2)] [(.int (own_fL p1)), (.int p2)])) _
      refine XS.icmpYes X101.here hx rfl (pc0 := 5) (pc' := 30) rfl (hb hby d3_5) rfl (feq hc5_0).2 (by decide) (by decide) ?_
      show Steps p.tables e below (T101.setTop (mkF m 30 #[.val (.int p1), .val (.int p2)] [])) _
      refine XS.iconst X101.here hx rfl (hb hby d3_30) ?_
      exact kont
    exact own_retZ X101 hx hret hlk (hb hby d3_31) (by decide) (by decide) ⟨(congrArg (fun z => some (Value.int z)) ((show nar .boolean (0 : Int32) = (0 : Int32) from rfl).trans (show (0 : Int32) = own_fV p1 p2 from (by rw [own_fV, if_neg hc5_0])))), N101, e101⟩
def own_updI (F : Nat → Int32) (i : Nat) (x : Int32) : Nat → Int32 := fun k => if k = i then x else F k
theorem own_toI {Z : State} {h : Heap} {a : Addr} {ty : FieldType} {n i : Nat} {F : Nat → Int32} {x : Int32} (A : own_A Z h a ty n (own_upd (fun k => .int (F k)) i (.int x))) : own_A Z h a ty n (fun k => .int ((own_updI F i x) k)) :=
  A.cong fun k _ => by simp only [own_upd, own_updI]; split <;> rfl
theorem own_ui_hit (F : Nat → Int32) (i : Nat) (x : Int32) : own_updI F i x i = x := if_pos rfl
theorem own_ui_miss (F : Nat → Int32) {i k : Nat} (x : Int32) (q : k ≠ i) : own_updI F i x k = F k := if_neg q
theorem own_bu (x : Int32) : (nar .byte (x.toInt8.toInt32)).toInt % 256 = x.toInt % 256 := by
  have a := (c_i2b x).1
  have b := (c_i2b (x.toInt8.toInt32)).1
  show (x.toInt8.toInt32.toInt8.toInt32).toInt % 256 = _
  omega
theorem own_bs (x : Int32) (h : 0 ≤ x.toInt ∧ x.toInt < 128) : (nar .byte (x.toInt8.toInt32)).toInt = x.toInt := by
  have a := c_i2b x
  have b := c_i2b (x.toInt8.toInt32)
  show (x.toInt8.toInt32.toInt8.toInt32).toInt = _
  omega
section
variable {F : Nat → Int32} {vS x v : Int32} {L i : Nat}
theorem own_S_upd (h : (vS = (0 : Int32) ∧ 0 ≤ (F 0).toInt ∧ (F 0).toInt < 128) ∨ vS = (1 : Int32)) (q : i ≠ 0) : (vS = (0 : Int32) ∧ 0 ≤ (own_updI F i x 0).toInt ∧ (own_updI F i x 0).toInt < 128) ∨ vS = (1 : Int32) := by
  rw [own_ui_miss F x (Ne.symm q)]; exact h
theorem own_nS (h : (vS = (0 : Int32) ∧ 0 ≤ (F 0).toInt ∧ (F 0).toInt < 128) ∨ vS = (1 : Int32)) : ∃ n, own_at vS n ∧ ((n = 0 ∧ 0 ≤ (F 0).toInt ∧ (F 0).toInt < 128) ∨ n = 1) := by
  rcases h with ⟨rfl, h⟩ | rfl
  · exact ⟨0, own_at_lit rfl (by decide), Or.inl ⟨rfl, h⟩⟩
  · exact ⟨1, own_at_lit rfl (by decide), Or.inr rfl⟩
end
/-- the character of L bytes from place 1 on is taken, is refused, is refused where it is cut off -/
def own_good (L : Nat) (F : Nat → Int32) : Prop := ∀ G : Nat → Int32, (∀ j, 1 ≤ j → j ≤ L → G j = F j) → ∀ d : Int, (L : Int) ≤ d → own_cs (own_u G 1) d = (L : Int)
def own_bad (L : Nat) (F : Nat → Int32) : Prop := ∀ G : Nat → Int32, (∀ j, 1 ≤ j → j ≤ L → G j = F j) → ∀ d : Int, (L : Int) ≤ d → own_cs (own_u G 1) d = 0
def own_tr (L : Nat) (F : Nat → Int32) : Prop := ∀ d : Int, 0 < d → d < (L : Int) → own_cs (own_u F 1) d = 0
/-! the ends -/
theorem own_from1 {F : Nat → Int32} {E n : Nat} (hE : 1 ≤ E) (h : (n = 0 ∧ 0 ≤ (F 0).toInt ∧ (F 0).toInt < 128) ∨ n = 1) : ∃ t, 5 ≤ t ∧ own_ut F E 6 n = own_ut F E t 1 := by
  rcases h with ⟨rfl, h0, h1⟩ | rfl
  · refine ⟨5, by decide, ?_⟩
    have e : own_cs (own_u F 0) ((E : Int) - (0 : Nat)) = 1 := by
      rw [own_cs, if_pos]; show (F 0).toInt % 256 < 128; omega
    rw [own_ut, if_neg (by omega), e, if_neg (by decide)]; rfl
  · exact ⟨6, by decide, rfl⟩
theorem own_out {F : Nat → Int32} {E i : Nat} (h : E ≤ i) : ∀ t, own_ut F E t i = 1
  | 0 => rfl
  | t + 1 => by rw [own_ut, if_pos h]
theorem own_endB {F : Nat → Int32} {L n : Nat} {vO : Int32} (hS : (n = 0 ∧ 0 ≤ (F 0).toInt ∧ (F 0).toInt < 128) ∨ n = 1) (hL1 : 1 ≤ L) (hok : (vO = (1 : Int32) ∧ own_good L F) ∨ (vO = (0 : Int32) ∧ own_bad L F)) : own_ut F (L + 1) 6 n = vO := by
  obtain ⟨t, ht, e⟩ := own_from1 (E := L + 1) (by omega) hS
  obtain ⟨t, rfl⟩ : ∃ k, t = k + 1 := ⟨t - 1, by omega⟩
  rw [e, own_ut, if_neg (by omega)]
  rcases hok with ⟨rfl, g⟩ | ⟨rfl, g⟩
  · rw [g F (fun _ _ _ => rfl) _ (by omega), if_neg (by omega)]
    exact own_out (by omega) _
  · rw [g F (fun _ _ _ => rfl) _ (by omega), if_pos rfl]
theorem own_endA {F : Nat → Int32} {L n : Nat} {vO y : Int32} (hS : (n = 0 ∧ 0 ≤ (F 0).toInt ∧ (F 0).toInt < 128) ∨ n = 1) (hL1 : 1 ≤ L) (hQ : 0 ≤ y.toInt ∧ y.toInt < 128) (hok : (vO = (1 : Int32) ∧ own_good L F) ∨ (vO = (0 : Int32) ∧ own_bad L F)) :
    own_ut (own_updI F (L + 1) (nar .byte (y.toInt8.toInt32))) (L + 2) 6 n = vO := by
  have hG : ∀ j, 1 ≤ j → j ≤ L → own_updI F (L + 1) (nar .byte (y.toInt8.toInt32)) j = F j := fun j _ _ => own_ui_miss _ _ (by omega)
  have hS' : (n = 0 ∧ 0 ≤ (own_updI F (L + 1) (nar .byte (y.toInt8.toInt32)) 0).toInt ∧ (own_updI F (L + 1) (nar .byte (y.toInt8.toInt32)) 0).toInt < 128) ∨ n = 1 := by
    rw [own_ui_miss _ _ (by omega)]; exact hS
  have hQ' : own_u (own_updI F (L + 1) (nar .byte (y.toInt8.toInt32))) (1 + L) 0 < 128 := by
    show (own_updI F (L + 1) (nar .byte (y.toInt8.toInt32)) (1 + L)).toInt % 256 < 128
    rw [Nat.add_comm 1 L, own_ui_hit, own_bu]; omega
  generalize own_updI F (L + 1) (nar .byte (y.toInt8.toInt32)) = G at *
  obtain ⟨t, ht, e⟩ := own_from1 (E := L + 2) (by omega) hS'
  obtain ⟨t, rfl⟩ : ∃ k, t = k + 2 := ⟨t - 2, by omega⟩
  rw [e, own_ut, if_neg (by omega)]
  rcases hok with ⟨rfl, g⟩ | ⟨rfl, g⟩
  · rw [g G hG _ (by omega), if_neg (by omega), Int.toNat_natCast, own_ut, if_neg (by omega)]
    have e1 : own_cs (own_u G (1 + L)) (((L + 2 : Nat) : Int) - ((1 + L : Nat) : Int)) = 1 := by rw [own_cs, if_pos hQ']
    rw [e1, if_neg (by decide)]
    exact own_out (by show L + 2 ≤ 1 + L + 1; omega) _
  · rw [g G hG _ (by omega), if_pos rfl]
theorem own_endC {F : Nat → Int32} {L n t : Nat} {y v : Int32} (hS : (n = 0 ∧ 0 ≤ (F 0).toInt ∧ (F 0).toInt < 128) ∨ n = 1) (htr : own_tr L F) (ht : own_at y t) (htL : t < L) (hv : v = (if y = (0 : Int32) then (1 : Int32) else (0 : Int32))) : own_ut F (1 + t) 6 n = v := by
  obtain ⟨k, hk, e⟩ := own_from1 (E := 1 + t) (by omega) hS
  obtain ⟨k, rfl⟩ : ∃ j, k = j + 1 := ⟨k - 1, by omega⟩
  have a := own_at_toInt ht
  rw [e, own_ut]
  by_cases q : t = 0
  · rw [if_pos (by omega), hv, if_pos]
    apply Int32.toInt_inj.mp; rw [a, q]; rfl
  · rw [if_neg (by omega), htr _ (by omega) (by omega), if_pos rfl, hv, if_neg]
    intro u; rw [u, show (0 : Int32).toInt = 0 from rfl] at a; omega
theorem own_Lnz {y : Int32} {L : Nat} (h : own_at y L) (h1 : 1 ≤ L) : y ≠ 0 := by
  intro q; have a := own_at_toInt h; rw [q, show (0 : Int32).toInt = 0 from rfl] at a; omega
theorem own_Lnz2 {y : Int32} {L : Nat} (h : own_at y L) (h1 : ¬ y < (2 : Int32)) : (y - (1 : Int32)) ≠ 0 := by
  intro q; have a := own_at_toInt h; have b := c_isub y 1; rw [q, show (0 : Int32).toInt = 0 from rfl, show (1 : Int32).toInt = 1 from rfl] at b
  rw [Int32.lt_iff_toInt_lt, show (2 : Int32).toInt = 2 from rfl] at h1; have := rng32 y; omega
theorem own_T {x y w : Int32} {L : Nat} (h : w = (((x.toUInt32 >>> ((2 : Int32) &&& 31).toUInt32).toInt32) - (((x.toUInt32 >>> ((2 : Int32) &&& 31).toUInt32).toInt32) / y) * y)) (hL : own_at y L) (h1 : 1 ≤ L) : ∃ t, own_at w t ∧ t < L := by
  have a := c_iushr x 2 2 rfl (by decide); have b := own_at_toInt hL
  rw [irem_eq_mod] at h
  have c := (c_iremV ((x.toUInt32 >>> ((2 : Int32) &&& 31).toUInt32).toInt32) y).1 (by omega) (by omega)
  rw [← h] at c
  exact ⟨w.toInt.toNat, own_at_int (by omega), by omega⟩
/-! the first byte -/
theorem own_lead0 {u : Nat → Int} {d : Int} (h0 : 128 ≤ u 0) (h : u 0 < 194 ∨ 244 < u 0) : own_cs u d = 0 := by
  rw [own_cs, if_neg (by omega), if_pos h]
theorem own_short {u : Nat → Int} {d : Int} (h0 : 128 ≤ u 0) (h : d < own_nd (u 0)) : own_cs u d = 0 := by
  rw [own_cs, if_neg (by omega)]
  split
  · rfl
  · first | rfl | rw [if_pos h]
theorem own_nd2 {a : Int} (h : a ≤ 223) : own_nd a = 2 := if_pos h
theorem own_nd3 {a : Int} (h : 223 < a) (h' : a ≤ 239) : own_nd a = 3 := by rw [own_nd, if_neg (by omega), if_pos h']
theorem own_nd4 {a : Int} (h : 239 < a) : own_nd a = 4 := by rw [own_nd, if_neg (by omega), if_neg (by omega)]
theorem own_Y {x y : Int32} (h : y = (((x.toUInt32 >>> ((8 : Int32) &&& 31).toUInt32).toInt32) &&& (127 : Int32))) : 0 ≤ y.toInt ∧ y.toInt < 128 := by
  have e := c_mask ((x.toUInt32 >>> ((8 : Int32) &&& 31).toUInt32).toInt32) 127 7 (by decide) (by decide); rw [← h] at e; omega
theorem own_1x {y v : Int32} (h : v = (if y < (64 : Int32) then ((128 : Int32) + y) else ((248 : Int32) + (y &&& (7 : Int32))))) (hy : 0 ≤ y.toInt ∧ y.toInt < 128) : (128 ≤ v.toInt ∧ v.toInt ≤ 191) ∨ (248 ≤ v.toInt ∧ v.toInt ≤ 255) := by
  split at h
  · rename_i q; rw [Int32.lt_iff_toInt_lt, show (64 : Int32).toInt = 64 from rfl] at q
    have a := c_iadd 128 y; have b := rng32 (128 + y); rw [← h, show (128 : Int32).toInt = 128 from rfl] at *; left; omega
  · have c := c_mask y 7 3 (by decide) (by decide)
    have a := c_iadd 248 (y &&& 7); have b := rng32 (248 + (y &&& 7)); rw [← h] at a b; rw [show (248 : Int32).toInt = 248 from rfl] at a; right; omega
theorem own_1z {F G : Nat → Int32} {L : Nat} {y v : Int32} (hL1 : 1 ≤ L) (h : v = (if y < (64 : Int32) then ((128 : Int32) + y) else ((248 : Int32) + (y &&& (7 : Int32))))) (hy : 0 ≤ y.toInt ∧ y.toInt < 128) (hG : G 1 = own_updI F 1 (nar .byte (v.toInt8.toInt32)) 1) (d : Int) : own_cs (own_u G 1) d = 0 := by
  have a := own_1x h hy
  have e : own_u G 1 0 = v.toInt % 256 := by show (G 1).toInt % 256 = _; rw [hG, own_ui_hit, own_bu]
  exact own_lead0 (by omega) (by omega)
theorem own_bad1 {F : Nat → Int32} {L : Nat} {y v : Int32} (hL1 : 1 ≤ L) (h : v = (if y < (64 : Int32) then ((128 : Int32) + y) else ((248 : Int32) + (y &&& (7 : Int32))))) (hy : 0 ≤ y.toInt ∧ y.toInt < 128) : own_bad L (own_updI F 1 (nar .byte (v.toInt8.toInt32))) :=
  fun G hG d _ => own_1z hL1 h hy (hG 1 (Nat.le_refl _) hL1) d
theorem own_tr1 {F : Nat → Int32} {L : Nat} {y v : Int32} (hL1 : 1 ≤ L) (h : v = (if y < (64 : Int32) then ((128 : Int32) + y) else ((248 : Int32) + (y &&& (7 : Int32))))) (hy : 0 ≤ y.toInt ∧ y.toInt < 128) : own_tr L (own_updI F 1 (nar .byte (v.toInt8.toInt32))) :=
  fun d _ _ => own_1z hL1 h hy rfl d
/-- the bytes of the code c in L bytes -/
def own_enc (L : Nat) (c : Int) (u : Nat → Int) : Prop :=
  (L = 1 ∧ u 0 = c ∧ c < 128) ∨ (L = 2 ∧ u 0 = 192 + c / 64 ∧ u 1 = 128 + c % 64 ∧ c < 2048) ∨
  (L = 3 ∧ u 0 = 224 + c / 4096 ∧ u 1 = 128 + c / 64 % 64 ∧ u 2 = 128 + c % 64 ∧ c < 65536) ∨
  (L = 4 ∧ u 0 = 240 + c / 262144 ∧ u 1 = 128 + c / 4096 % 64 ∧ u 2 = 128 + c / 64 % 64 ∧ u 3 = 128 + c % 64 ∧ c < 2097152)
/-- whether the code c is right in L bytes -/
def own_val (c : Int) (L : Nat) : Prop := (L = 1 ∧ c < 128) ∨ (L = 2 ∧ 128 ≤ c ∧ c < 2048) ∨ (L = 3 ∧ 2048 ≤ c ∧ c < 65536 ∧ ¬ (55296 ≤ c ∧ c ≤ 57343)) ∨ (L = 4 ∧ 65536 ≤ c ∧ c ≤ 1114111)
theorem own_fV1 {x y : Int32} {L : Nat} (hy : own_at y L) (h : own_val x.toInt L) : own_fV x y = 1 := by
  have a := own_at_toInt hy
  have k1 : (128 : Int32).toInt = 128 := rfl
  have k2 : (2048 : Int32).toInt = 2048 := rfl
  have k3 : (65536 : Int32).toInt = 65536 := rfl
  have k4 : (1114111 : Int32).toInt = 1114111 := rfl
  have k5 : (55296 : Int32).toInt = 55296 := rfl
  have k6 : (57343 : Int32).toInt = 57343 := rfl
  have e : y = own_fL x := by
    apply Int32.toInt_inj.mp
    rw [a, own_fL]
    simp only [Int32.lt_iff_toInt_lt, k1, k2, k3]
    rcases h with ⟨rfl, h⟩ | ⟨rfl, h, h'⟩ | ⟨rfl, h, h', -⟩ | ⟨rfl, h, h'⟩
    · rw [if_pos (by omega)]; rfl
    · rw [if_neg (by omega), if_pos (by omega)]; rfl
    · rw [if_neg (by omega), if_neg (by omega), if_pos (by omega)]; rfl
    · rw [if_neg (by omega), if_neg (by omega), if_neg (by omega)]; rfl
  rw [own_fV]
  simp only [Int32.lt_iff_toInt_lt, k4, k5, k6]
  rw [if_pos e, if_neg (by rcases h with ⟨-, h⟩ | ⟨-, h, h'⟩ | ⟨-, h, h', -⟩ | ⟨-, h, h'⟩ <;> omega)]
  by_cases q : x.toInt < 55296
  · rw [if_pos q]
  · rw [if_neg q, if_pos (by rcases h with ⟨-, h⟩ | ⟨-, h, h'⟩ | ⟨-, h, h', h''⟩ | ⟨-, h, h'⟩ <;> omega)]
theorem own_fV0 {x y : Int32} {L : Nat} (hy : own_at y L) (hx : 0 ≤ x.toInt) (h : ¬ own_val x.toInt L) : own_fV x y = 0 := by
  have a := own_at_toInt hy
  have k1 : (128 : Int32).toInt = 128 := rfl
  have k2 : (2048 : Int32).toInt = 2048 := rfl
  have k3 : (65536 : Int32).toInt = 65536 := rfl
  have k4 : (1114111 : Int32).toInt = 1114111 := rfl
  have k5 : (55296 : Int32).toInt = 55296 := rfl
  have k6 : (57343 : Int32).toInt = 57343 := rfl
  rw [own_fV]
  by_cases e : y = own_fL x
  · rw [if_pos e]
    have e' : (L : Int) = (own_fL x).toInt := by rw [← e, a]
    rw [own_fL] at e'
    simp only [Int32.lt_iff_toInt_lt, k1, k2, k3] at e'
    simp only [Int32.lt_iff_toInt_lt, k4, k5, k6]
    by_cases q1 : x.toInt < 128
    · exfalso; rw [if_pos q1] at e'
      have : L = 1 := by have z : (1 : Int32).toInt = 1 := rfl; omega
      exact h (Or.inl ⟨this, q1⟩)
    · rw [if_neg q1] at e'
      by_cases q2 : x.toInt < 2048
      · exfalso; rw [if_pos q2] at e'
        have : L = 2 := by have z : (2 : Int32).toInt = 2 := rfl; omega
        exact h (Or.inr (Or.inl ⟨this, by omega, q2⟩))
      · rw [if_neg q2] at e'
        by_cases q3 : x.toInt < 65536
        · rw [if_pos q3] at e'
          have hL : L = 3 := by have z : (3 : Int32).toInt = 3 := rfl; omega
          by_cases q4 : 55296 ≤ x.toInt ∧ x.toInt ≤ 57343
          · rw [if_neg (by omega), if_neg (by omega), if_neg (by omega)]
          · exact absurd (Or.inr (Or.inr (Or.inl ⟨hL, by omega, q3, q4⟩))) h
        · rw [if_neg q3] at e'
          have hL : L = 4 := by have z : (4 : Int32).toInt = 4 := rfl; omega
          by_cases q4 : x.toInt ≤ 1114111
          · exact absurd (Or.inr (Or.inr (Or.inr ⟨hL, by omega, q4⟩))) h
          · rw [if_pos (by omega)]
  · rw [if_neg e]
/-- own_cs behind a first byte that may stand -/
theorem own_go {u : Nat → Int} {d : Int} (h0 : 194 ≤ u 0) (h1 : u 0 ≤ 244) (hd : own_nd (u 0) ≤ d) : own_cs u d = (if u 1 < own_lo (u 0) ∨ own_hi (u 0) < u 1 then 0
  else if 3 ≤ own_nd (u 0) ∧ (u 2 < 128 ∨ 191 < u 2) then 0 else if 4 ≤ own_nd (u 0) ∧ (u 3 < 128 ∨ 191 < u 3) then 0 else own_nd (u 0)) := by
  rw [own_cs, if_neg (by omega), if_neg (by omega), if_neg (by omega)]
theorem own_encS {L : Nat} {c d : Int} {u : Nat → Int} (hc : 0 ≤ c) (h : own_enc L c u) (hd : (L : Int) ≤ d) : (own_val c L → own_cs u d = (L : Int)) ∧ (¬ own_val c L → own_cs u d = 0) := by
  rcases h with ⟨rfl, a, b⟩ | ⟨rfl, a, a', b⟩ | ⟨rfl, a, a', a'', b⟩ | ⟨rfl, a, a', a'', a3, b⟩
  · refine ⟨fun _ => by rw [own_cs, if_pos (by omega)]; rfl, fun q => absurd (Or.inl ⟨rfl, b⟩) q⟩
  · by_cases q : 128 ≤ c
    · refine ⟨fun _ => ?_, fun z => absurd (Or.inr (Or.inl ⟨rfl, q, b⟩)) z⟩
      rw [own_go (by omega) (by omega) (by rw [own_nd2 (by omega)]; omega), own_nd2 (by omega)]
      have hlo : own_lo (u 0) = 128 := by rw [own_lo, if_neg (by omega), if_neg (by omega)]
      have hhi : own_hi (u 0) = 191 := by rw [own_hi, if_neg (by omega), if_neg (by omega)]
      rw [if_neg (by omega), if_neg (by omega), if_neg (by omega)]; rfl
    · refine ⟨fun z => ?_, fun _ => own_lead0 (by omega) (by omega)⟩
      rcases z with ⟨z, -⟩ | ⟨-, z, -⟩ | ⟨z, -⟩ | ⟨z, -⟩ <;> omega
  · have nd : own_nd (u 0) = 3 := own_nd3 (by omega) (by omega)
    have hg := own_go (u := u) (d := d) (by omega) (by omega) (by omega)
    rw [nd] at hg
    have key : (u 1 < own_lo (u 0) ∨ own_hi (u 0) < u 1) ↔ (c < 2048 ∨ (55296 ≤ c ∧ c ≤ 57343)) := by
      simp only [own_lo, own_hi]
      by_cases q1 : u 0 = 224
      · rw [if_pos q1, if_neg (by omega), if_neg (by omega)]; omega
      · rw [if_neg q1, if_neg (by omega)]
        by_cases q2 : u 0 = 237
        · rw [if_pos q2]; omega
        · rw [if_neg q2, if_neg (by omega)]; omega
    by_cases q : c < 2048 ∨ (55296 ≤ c ∧ c ≤ 57343)
    · refine ⟨fun z => ?_, fun _ => by rw [hg, if_pos (key.mpr q)]⟩
      rcases z with ⟨z, -⟩ | ⟨z, -⟩ | ⟨-, z, z', z''⟩ | ⟨z, -⟩ <;> omega
    · refine ⟨fun _ => ?_, fun z => absurd (Or.inr (Or.inr (Or.inl ⟨rfl, by omega, b, by omega⟩))) z⟩
      rw [hg, if_neg (fun z => q (key.mp z)), if_neg (by omega), if_neg (by omega)]; rfl
  · by_cases q0 : 244 < u 0
    · refine ⟨fun z => ?_, fun _ => own_lead0 (by omega) (by omega)⟩
      rcases z with ⟨z, -⟩ | ⟨z, -⟩ | ⟨z, -⟩ | ⟨-, z, z'⟩ <;> omega
    · have nd : own_nd (u 0) = 4 := own_nd4 (by omega)
      have hg := own_go (u := u) (d := d) (by omega) (by omega) (by omega)
      rw [nd] at hg
      have key : (u 1 < own_lo (u 0) ∨ own_hi (u 0) < u 1) ↔ (c < 65536 ∨ 1114111 < c) := by
        simp only [own_lo, own_hi]
        by_cases q1 : u 0 = 240
        · rw [if_neg (by omega), if_pos q1, if_neg (by omega), if_neg (by omega)]; omega
        · rw [if_neg (by omega), if_neg q1, if_neg (by omega)]
          by_cases q2 : u 0 = 244
          · rw [if_pos q2]; omega
          · rw [if_neg q2]; omega
      by_cases q : c < 65536 ∨ 1114111 < c
      · refine ⟨fun z => ?_, fun _ => by rw [hg, if_pos (key.mpr q)]⟩
        rcases z with ⟨z, -⟩ | ⟨z, -⟩ | ⟨z, -⟩ | ⟨-, z, z'⟩ <;> omega
      · refine ⟨fun _ => ?_, fun z => absurd (Or.inr (Or.inr (Or.inr ⟨rfl, by omega, by omega⟩))) z⟩
        rw [hg, if_neg (fun z => q (key.mp z)), if_neg (by omega), if_neg (by omega)]; rfl
/-- a place that is written apart, the first one standing -/
theorem own_encT {L : Nat} {c d : Int} {u : Nat → Int} {F : Nat → Int32} (hc : 0 ≤ c) (h : own_enc L c (own_u F 1)) (h0 : u 0 = own_u F 1 0) (hd0 : 0 < d) (hd : d < (L : Int)) : own_cs u d = 0 := by
  rcases h with ⟨rfl, a, b⟩ | ⟨rfl, a, a', b⟩ | ⟨rfl, a, a', a'', b⟩ | ⟨rfl, a, a', a'', a3, b⟩
  · omega
  · exact own_short (by omega) (by rw [own_nd2 (by omega)]; omega)
  · exact own_short (by omega) (by rw [own_nd3 (by omega) (by omega)]; omega)
  · exact own_short (by omega) (by rw [own_nd4 (by omega)]; omega)
theorem own_tr0 {L : Nat} {c : Int} {F : Nat → Int32} (hc : 0 ≤ c) (h : own_enc L c (own_u F 1)) : own_tr L F := fun d h0 h1 => own_encT hc h rfl h0 h1
theorem own_tr2 {L k : Nat} {c : Int} {F : Nat → Int32} {x : Int32} (hc : 0 ≤ c) (h : own_enc L c (own_u F 1)) (hk : 1 ≤ k) : own_tr L (own_updI F (1 + k) x) := fun d h0 h1 =>
  own_encT hc h (by show (own_updI F (1 + k) x (1 + 0)).toInt % 256 = _; rw [own_ui_miss _ _ (by omega)]; rfl) h0 h1
theorem own_encG {L : Nat} {c : Int} {F G : Nat → Int32} (h : own_enc L c (own_u F 1)) (hG : ∀ j, 1 ≤ j → j ≤ L → G j = F j) : own_enc L c (own_u G 1) := by
  have g : ∀ k, k < L → own_u G 1 k = own_u F 1 k := fun k hk => by show (G (1 + k)).toInt % 256 = (F (1 + k)).toInt % 256; rw [hG _ (by omega) (by omega)]
  rcases h with ⟨rfl, a, b⟩ | ⟨rfl, a, a', b⟩ | ⟨rfl, a, a', a'', b⟩ | ⟨rfl, a, a', a'', a3, b⟩
  · exact Or.inl ⟨rfl, by rw [g 0 (by omega)]; exact a, b⟩
  · exact Or.inr (Or.inl ⟨rfl, by rw [g 0 (by omega)]; exact a, by rw [g 1 (by omega)]; exact a', b⟩)
  · exact Or.inr (Or.inr (Or.inl ⟨rfl, by rw [g 0 (by omega)]; exact a, by rw [g 1 (by omega)]; exact a', by rw [g 2 (by omega)]; exact a'', b⟩))
  · exact Or.inr (Or.inr (Or.inr ⟨rfl, by rw [g 0 (by omega)]; exact a, by rw [g 1 (by omega)]; exact a', by rw [g 2 (by omega)]; exact a'', by rw [g 3 (by omega)]; exact a3, b⟩))
theorem own_okE {x y : Int32} {L : Nat} {F : Nat → Int32} (hx : 0 ≤ x.toInt) (hy : own_at y L) (h : own_enc L x.toInt (own_u F 1)) : (own_fV x y = (1 : Int32) ∧ own_good L F) ∨ (own_fV x y = (0 : Int32) ∧ own_bad L F) := by
  by_cases q : own_val x.toInt L
  · exact Or.inl ⟨own_fV1 hy q, fun G hG d hd => (own_encS hx (own_encG h hG) hd).1 q⟩
  · exact Or.inr ⟨own_fV0 hy hx q, fun G hG d hd => (own_encS hx (own_encG h hG) hd).2 q⟩
/-! a later byte that is written over -/
theorem own_KK {x y w : Int32} {L : Nat} (h : w = ((1 : Int32) + (((x.toUInt32 >>> ((16 : Int32) &&& 31).toUInt32).toInt32) - (((x.toUInt32 >>> ((16 : Int32) &&& 31).toUInt32).toInt32) / (y - (1 : Int32))) * (y - (1 : Int32))))) (hL : own_at y L) (h2 : ¬ y < (2 : Int32)) : ∃ k, own_at w k ∧ 1 ≤ k ∧ k < L := by
  have a := c_iushr x 16 16 rfl (by decide); have b := own_at_toInt hL
  rw [Int32.lt_iff_toInt_lt, show (2 : Int32).toInt = 2 from rfl] at h2
  have e := c_isub y 1; have r := rng32 (y - 1); have r' := rng32 y
  rw [show (1 : Int32).toInt = 1 from rfl] at e
  rw [irem_eq_mod] at h
  have c := (c_iremV ((x.toUInt32 >>> ((16 : Int32) &&& 31).toUInt32).toInt32) (y - 1)).1 (by omega) (by omega)
  generalize ((x.toUInt32 >>> ((16 : Int32) &&& 31).toUInt32).toInt32) % (y - 1) = z at *
  have f := c_iadd 1 z; have g := rng32 (1 + z)
  rw [← h] at f g; rw [show (1 : Int32).toInt = 1 from rfl] at f
  exact ⟨w.toInt.toNat, own_at_int (by omega), by omega, by omega⟩
theorem own_X {x y : Int32} (h : y = (((x.toUInt32 >>> ((8 : Int32) &&& 31).toUInt32).toInt32) &&& (255 : Int32))) : 0 ≤ y.toInt ∧ y.toInt ≤ 255 := by
  have e := c_mask ((x.toUInt32 >>> ((8 : Int32) &&& 31).toUInt32).toInt32) 255 8 (by decide) (by decide); rw [← h] at e; omega
theorem own_xb1 {y : Int32} (h : 0 ≤ y.toInt ∧ y.toInt ≤ 255) (q : y < (128 : Int32)) : (0 ≤ y.toInt ∧ y.toInt ≤ 255) ∧ (y.toInt < 128 ∨ 191 < y.toInt) := by
  rw [Int32.lt_iff_toInt_lt, show (128 : Int32).toInt = 128 from rfl] at q; omega
theorem own_xb2 {y : Int32} (h : 0 ≤ y.toInt ∧ y.toInt ≤ 255) (q : (191 : Int32) < y) : (0 ≤ y.toInt ∧ y.toInt ≤ 255) ∧ (y.toInt < 128 ∨ 191 < y.toInt) := by
  rw [Int32.lt_iff_toInt_lt, show (191 : Int32).toInt = 191 from rfl] at q; omega
theorem own_bad2 {L k : Nat} {c : Int} {F : Nat → Int32} {x : Int32} (hc : 0 ≤ c) (h : own_enc L c (own_u F 1)) (hk : 1 ≤ k) (hkL : k < L) (hx : (0 ≤ x.toInt ∧ x.toInt ≤ 255) ∧ (x.toInt < 128 ∨ 191 < x.toInt)) : own_bad L (own_updI F (1 + k) (nar .byte (x.toInt8.toInt32))) := by
  intro G hG d hd
  have g0 : own_u G 1 0 = own_u F 1 0 := by show (G 1).toInt % 256 = (F 1).toInt % 256; rw [hG 1 (by omega) (by omega), own_ui_miss _ _ (by omega)]
  have gk : own_u G 1 k = x.toInt := by show (G (1 + k)).toInt % 256 = _; rw [hG (1 + k) (by omega) (by omega), own_ui_hit, own_bu]; omega
  have lo : 128 ≤ own_lo (own_u G 1 0) := by simp only [own_lo]; split <;> (try split) <;> omega
  have hi : own_hi (own_u G 1 0) ≤ 191 := by simp only [own_hi]; split <;> (try split) <;> omega
  have n4 : own_nd (own_u G 1 0) = (L : Int) ∧ 128 ≤ own_u G 1 0 := by
    rcases h with ⟨rfl, a, b⟩ | ⟨rfl, a, a', b⟩ | ⟨rfl, a, a', a'', b⟩ | ⟨rfl, a, a', a'', a3, b⟩
    · omega
    · exact ⟨own_nd2 (by omega), by omega⟩
    · exact ⟨own_nd3 (by omega) (by omega), by omega⟩
    · exact ⟨own_nd4 (by omega), by omega⟩
  have hL : L ≤ 4 := by rcases h with ⟨rfl, -⟩ | ⟨rfl, -⟩ | ⟨rfl, -⟩ | ⟨rfl, -⟩ <;> omega
  by_cases q : own_u G 1 0 < 194 ∨ 244 < own_u G 1 0
  · exact own_lead0 n4.2 q
  · rw [own_go (by omega) (by omega) (by omega), n4.1]
    by_cases q1 : own_u G 1 1 < own_lo (own_u G 1 0) ∨ own_hi (own_u G 1 0) < own_u G 1 1
    · rw [if_pos q1]
    · rw [if_neg q1]
      have k1 : k ≠ 1 := by rintro rfl; omega
      by_cases q2 : k = 2
      · subst q2; rw [if_pos (by omega)]
      · obtain rfl : k = 3 := by omega
        split
        · rfl
        · rw [if_pos (by omega)]
/-! bits -/
theorem own_hib (x : Int32) (m n : Int32) (k : Nat) (P : Int) (hk : k ≤ 31) (hP : P = (2 ^ k : Nat)) (hn : n.toBitVec.toNat = 2 ^ k - 1) (h1 : m &&& n = 0) (h2 : m ||| n = -1) : ((x &&& m).toInt - (x.toInt - x.toInt % P)) % 4294967296 = 0 ∧ (x &&& m).toInt % P = 0 := by
  have a := c_mask x n k hk hn
  have b := c_mask (x &&& m) n k hk hn
  have e : (x &&& m) &&& n = 0 := by rw [Int32.and_assoc, h1, Int32.and_zero]
  rw [e, show (0 : Int32).toInt = 0 from rfl] at b
  have f : (x &&& m) ||| (x &&& n) = x := by
    apply Int32.toBitVec_inj.mp
    have h2' : m.toBitVec ||| n.toBitVec = (-1 : Int32).toBitVec := by rw [← Int32.toBitVec_or, h2]
    rw [Int32.toBitVec_or, Int32.toBitVec_and, Int32.toBitVec_and, ← BitVec.and_or_distrib_left, h2']
    show x.toBitVec &&& (-1 : Int32).toBitVec = x.toBitVec
    rw [show (-1 : Int32).toBitVec = BitVec.allOnes 32 from by decide, BitVec.and_allOnes]
  have pos : 0 < P := by rw [hP]; exact_mod_cast Nat.two_pow_pos k
  rw [← hP] at a b
  have r1 := Int.emod_nonneg x.toInt (show P ≠ 0 by omega)
  have r2 := Int.emod_lt_of_pos x.toInt pos
  have c := c_or (x &&& m) (x &&& n) k hk P hP b.symm (by omega) (by omega)
  rw [f] at c
  exact ⟨by omega, b.symm⟩
theorem own_lob {x m : Int32} (k : Nat) (hk : k ≤ 31) (hm : m.toBitVec.toNat = 2 ^ k - 1) : (x &&& m).toInt = x.toInt % (2 ^ k : Nat) := c_mask x m k hk hm
theorem own_x63 {x : Int32} (hx : 128 ≤ x.toInt ∧ x.toInt ≤ 191) : (x &&& (63 : Int32)).toInt = x.toInt - 128 := by
  have := c_mask x 63 6 (by decide) (by decide); omega
/-- six bits of c written over, at place 0 -/
theorem own_c2a {c x y : Int32} (hc : 0 ≤ c.toInt) (hx : 128 ≤ x.toInt ∧ x.toInt ≤ 191) (h : y = ((c &&& ((((63 : Int32) <<< ((0 : Int32) &&& 31))) ^^^ (-1 : Int32))) ||| ((x &&& (63 : Int32)) <<< ((0 : Int32) &&& 31)))) : y.toInt = c.toInt - c.toInt % 64 + (x.toInt - 128) := by
  have e := own_x63 hx
  have s := c_ishl (x &&& (63 : Int32)) 0 0 rfl
  have rs := rng32 ((x &&& (63 : Int32)) <<< ((0 : Int32) &&& 31))
  have m : ((((63 : Int32) <<< ((0 : Int32) &&& 31))) ^^^ (-1 : Int32)) = (-64 : Int32) := by decide
  rw [m] at h
  obtain ⟨a1, a2⟩ := own_hib c (-64) 63 6 64 (by decide) rfl (by decide) (by decide) (by decide)
  have ra := rng32 (c &&& (-64 : Int32)); have rc := rng32 c; have ry := rng32 y
  generalize (x &&& (63 : Int32)) <<< ((0 : Int32) &&& 31) = w at *
  have o := c_or (c &&& (-64 : Int32)) w 6 (by decide) 64 rfl a2 (by omega) (by omega)
  rw [← h] at o
  omega
/-- at the place 6 or 12 -/
theorem own_c2b {c x y q : Int32} (k : Nat) (P R : Int) (mh ml m : Int32) (hk : k = 6 ∧ P = 64 ∧ R = 4096 ∧ q = 6 ∧ mh = -4096 ∧ ml = 63 ∧ m = -4033 ∨ k = 12 ∧ P = 4096 ∧ R = 262144 ∧ q = 12 ∧ mh = -262144 ∧ ml = 4095 ∧ m = -258049)
    (hc : 0 ≤ c.toInt) (hx : 128 ≤ x.toInt ∧ x.toInt ≤ 191) (h : y = ((c &&& ((((63 : Int32) <<< (q &&& 31))) ^^^ (-1 : Int32))) ||| ((x &&& (63 : Int32)) <<< (q &&& 31)))) : y.toInt = c.toInt - c.toInt % R + (x.toInt - 128) * P + c.toInt % P := by
  have e := own_x63 hx
  have hm : ((((63 : Int32) <<< (q &&& 31))) ^^^ (-1 : Int32)) = m := by rcases hk with ⟨-, -, -, rfl, -, -, rfl⟩ | ⟨-, -, -, rfl, -, -, rfl⟩ <;> decide
  have hor : m = mh ||| ml := by rcases hk with ⟨-, -, -, -, rfl, rfl, rfl⟩ | ⟨-, -, -, -, rfl, rfl, rfl⟩ <;> decide
  have hd : c &&& m = (c &&& mh) ||| (c &&& ml) := by
    apply Int32.toBitVec_inj.mp
    rw [hor, Int32.toBitVec_and, Int32.toBitVec_or, Int32.toBitVec_or, Int32.toBitVec_and, Int32.toBitVec_and, BitVec.and_or_distrib_left]
  rw [hm, hd, Int32.or_assoc] at h
  have s : (((x &&& (63 : Int32)) <<< (q &&& 31)).toInt - (x &&& (63 : Int32)).toInt * P) % 4294967296 = 0 := by
    rcases hk with ⟨-, rfl, -, rfl, -⟩ | ⟨-, rfl, -, rfl, -⟩
    · exact c_ishl (x &&& (63 : Int32)) 6 6 rfl
    · exact c_ishl (x &&& (63 : Int32)) 12 12 rfl
  have rs := rng32 ((x &&& (63 : Int32)) <<< (q &&& 31))
  generalize (x &&& (63 : Int32)) <<< (q &&& 31) = w at *
  have ah : ((c &&& mh).toInt - (c.toInt - c.toInt % R)) % 4294967296 = 0 ∧ (c &&& mh).toInt % R = 0 := by
    rcases hk with ⟨-, -, rfl, -, rfl, -⟩ | ⟨-, -, rfl, -, rfl, -⟩
    · exact own_hib c (-4096) 4095 12 4096 (by decide) rfl (by decide) (by decide) (by decide)
    · exact own_hib c (-262144) 262143 18 262144 (by decide) rfl (by decide) (by decide) (by decide)
  have al : (c &&& ml).toInt = c.toInt % P := by
    rcases hk with ⟨-, rfl, -, -, -, rfl, -⟩ | ⟨-, rfl, -, -, -, rfl, -⟩
    · exact c_mask c 63 6 (by decide) (by decide)
    · exact c_mask c 4095 12 (by decide) (by decide)
  have ra := rng32 (c &&& mh); have rc := rng32 c; have ry := rng32 y
  generalize c &&& mh = A at *
  generalize c &&& ml = B at *
  have ro := rng32 (w ||| B)
  rw [Int32.or_comm B w] at h
  have ow : ((w ||| B).toInt - (w.toInt + B.toInt)) % 4294967296 = 0 := by
    rcases hk with ⟨rfl, rfl, rfl, -⟩ | ⟨rfl, rfl, rfl, -⟩
    · exact c_or w B 6 (by decide) 64 rfl (by omega) (by omega) (by omega)
    · exact c_or w B 12 (by decide) 4096 rfl (by omega) (by omega) (by omega)
  generalize w ||| B = D at *
  have oa : ((A ||| D).toInt - (A.toInt + D.toInt)) % 4294967296 = 0 := by
    rcases hk with ⟨rfl, rfl, rfl, -⟩ | ⟨rfl, rfl, rfl, -⟩
    · exact c_or A D 12 (by decide) 4096 rfl ah.2 (by omega) (by omega)
    · exact c_or A D 18 (by decide) 262144 rfl ah.2 (by omega) (by omega)
  rw [← h] at oa
  rcases hk with ⟨rfl, rfl, rfl, -⟩ | ⟨rfl, rfl, rfl, -⟩ <;> omega
theorem own_at_eq {z z' : Int32} {n : Nat} (h : own_at z n) (h' : own_at z' n) : z = z' := Int32.toInt_inj.mp (by rw [own_at_toInt h, own_at_toInt h'])
theorem own_ok2 {c x y l n : Int32} {L k : Nat} {F : Nat → Int32} (hc : 0 ≤ c.toInt) (h : own_enc L c.toInt (own_u F 1)) (hk : 1 ≤ k) (hkL : k < L) (hl : own_at l L) (hn : own_at n k) (hx : 0 ≤ x.toInt ∧ x.toInt ≤ 255) (h1 : ¬ x < (128 : Int32)) (h2 : ¬ (191 : Int32) < x)
    (hy : y = ((c &&& ((((63 : Int32) <<< (((6 : Int32) * ((l - (1 : Int32)) - n)) &&& 31))) ^^^ (-1 : Int32))) ||| ((x &&& (63 : Int32)) <<< (((6 : Int32) * ((l - (1 : Int32)) - n)) &&& 31)))) :
    (own_fV y l = (1 : Int32) ∧ own_good L (own_updI F (1 + k) (nar .byte (x.toInt8.toInt32)))) ∨ (own_fV y l = (0 : Int32) ∧ own_bad L (own_updI F (1 + k) (nar .byte (x.toInt8.toInt32)))) := by
  have hx' : 128 ≤ x.toInt ∧ x.toInt ≤ 191 := by
    rw [Int32.lt_iff_toInt_lt, show (128 : Int32).toInt = 128 from rfl] at h1; rw [Int32.lt_iff_toInt_lt, show (191 : Int32).toInt = 191 from rfl] at h2; omega
  have gk : own_u (own_updI F (1 + k) (nar .byte (x.toInt8.toInt32))) 1 k = x.toInt := by show (own_updI F (1 + k) _ (1 + k)).toInt % 256 = _; rw [own_ui_hit, own_bu]; omega
  have gm : ∀ j, j ≠ k → own_u (own_updI F (1 + k) (nar .byte (x.toInt8.toInt32))) 1 j = own_u F 1 j := fun j hj => by show (own_updI F (1 + k) _ (1 + j)).toInt % 256 = _; rw [own_ui_miss _ _ (by omega)]; rfl
  have key : 0 ≤ y.toInt ∧ own_enc L y.toInt (own_u (own_updI F (1 + k) (nar .byte (x.toInt8.toInt32))) 1) := by
    generalize own_updI F (1 + k) (nar .byte (x.toInt8.toInt32)) = G at *
    rcases h with ⟨rfl, a, b⟩ | ⟨rfl, a, a', b⟩ | ⟨rfl, a, a', a'', b⟩ | ⟨rfl, a, a', a'', a3, b⟩
    · omega
    · obtain rfl : k = 1 := by omega
      obtain rfl := own_at_eq hl (own_at_lit rfl (by decide) : own_at (2 : Int32) 2)
      obtain rfl := own_at_eq hn (own_at_lit rfl (by decide) : own_at (1 : Int32) 1)
      have e := own_c2a hc hx' hy
      have g0 := gm 0 (by decide)
      exact ⟨by omega, Or.inr (Or.inl ⟨rfl, by omega, by omega, by omega⟩)⟩
    · obtain rfl := own_at_eq hl (own_at_lit rfl (by decide) : own_at (3 : Int32) 3)
      have g0 := gm 0 (by omega)
      obtain rfl | rfl : k = 1 ∨ k = 2 := by omega
      · obtain rfl := own_at_eq hn (own_at_lit rfl (by decide) : own_at (1 : Int32) 1)
        have e := own_c2b (q := 6) 6 64 4096 _ _ _ (Or.inl ⟨rfl, rfl, rfl, rfl, rfl, rfl, rfl⟩) hc hx' hy
        have g2 := gm 2 (by decide)
        exact ⟨by omega, Or.inr (Or.inr (Or.inl ⟨rfl, by omega, by omega, by omega, by omega⟩))⟩
      · obtain rfl := own_at_eq hn (own_at_lit rfl (by decide) : own_at (2 : Int32) 2)
        have e := own_c2a hc hx' hy
        have g1 := gm 1 (by decide)
        exact ⟨by omega, Or.inr (Or.inr (Or.inl ⟨rfl, by omega, by omega, by omega, by omega⟩))⟩
    · obtain rfl := own_at_eq hl (own_at_lit rfl (by decide) : own_at (4 : Int32) 4)
      have g0 := gm 0 (by omega)
      obtain rfl | rfl | rfl : k = 1 ∨ k = 2 ∨ k = 3 := by omega
      · obtain rfl := own_at_eq hn (own_at_lit rfl (by decide) : own_at (1 : Int32) 1)
        have e := own_c2b (q := 12) 12 4096 262144 _ _ _ (Or.inr ⟨rfl, rfl, rfl, rfl, rfl, rfl, rfl⟩) hc hx' hy
        have g2 := gm 2 (by decide); have g3 := gm 3 (by decide)
        exact ⟨by omega, Or.inr (Or.inr (Or.inr ⟨rfl, by omega, by omega, by omega, by omega, by omega⟩))⟩
      · obtain rfl := own_at_eq hn (own_at_lit rfl (by decide) : own_at (2 : Int32) 2)
        have e := own_c2b (q := 6) 6 64 4096 _ _ _ (Or.inl ⟨rfl, rfl, rfl, rfl, rfl, rfl, rfl⟩) hc hx' hy
        have g1 := gm 1 (by decide); have g3 := gm 3 (by decide)
        exact ⟨by omega, Or.inr (Or.inr (Or.inr ⟨rfl, by omega, by omega, by omega, by omega, by omega⟩))⟩
      · obtain rfl := own_at_eq hn (own_at_lit rfl (by decide) : own_at (3 : Int32) 3)
        have e := own_c2a hc hx' hy
        have g1 := gm 1 (by decide); have g2 := gm 2 (by decide)
        exact ⟨by omega, Or.inr (Or.inr (Or.inr ⟨rfl, by omega, by omega, by omega, by omega, by omega⟩))⟩
  exact own_okE key.1 hl key.2
/-! the bytes as they are made -/
theorem own_fLle {c l : Int32} (h : (own_fL c).toInt ≤ l.toInt) : (l.toInt = 1 → c.toInt < 128) ∧ (l.toInt = 2 → c.toInt < 2048) ∧ (l.toInt = 3 → c.toInt < 65536) := by
  rw [own_fL] at h
  have k1 : (128 : Int32).toInt = 128 := rfl
  have k2 : (2048 : Int32).toInt = 2048 := rfl
  have k3 : (65536 : Int32).toInt = 65536 := rfl
  simp only [Int32.lt_iff_toInt_lt, k1, k2, k3] at h
  split at h
  · omega
  · split at h
    · rw [show (2 : Int32).toInt = 2 from rfl] at h; omega
    · split at h
      · rw [show (3 : Int32).toInt = 3 from rfl] at h; omega
      · rw [show (4 : Int32).toInt = 4 from rfl] at h; omega
theorem own_ob {a b : Int32} (k : Nat) (P : Int) (hk : k ≤ 31) (hP : P = (2 ^ k : Nat)) (ha : a.toInt % P = 0) (ha' : 0 ≤ a.toInt ∧ a.toInt ≤ 240) (hb : 0 ≤ b.toInt) (hb' : b.toInt < P) (hP' : P ≤ 256) : (a ||| b).toInt = a.toInt + b.toInt := by
  have o := c_or a b k hk P hP ha hb hb'; have r := rng32 (a ||| b); omega
section
variable {c : Int32} {F : Nat → Int32}
theorem own_enc1 (hc : 0 ≤ c.toInt ∧ c.toInt < 2097152) (hL : (own_fL c).toInt ≤ (1 : Int32).toInt) : own_enc 1 c.toInt (own_u (own_updI F 1 (nar .byte (c.toInt8.toInt32))) 1) := by
  have l := (own_fLle hL).1 rfl
  refine Or.inl ⟨rfl, ?_, l⟩
  show (own_updI F 1 _ 1).toInt % 256 = _; rw [own_ui_hit, own_bu]; omega
theorem own_enc2 (hc : 0 ≤ c.toInt ∧ c.toInt < 2097152) (hL : (own_fL c).toInt ≤ (2 : Int32).toInt) :
    own_enc 2 c.toInt (own_u (own_updI (own_updI F 1 (nar .byte (((192 : Int32) ||| ((c.toUInt32 >>> ((6 : Int32) &&& 31).toUInt32).toInt32)).toInt8.toInt32))) 2 (nar .byte (((128 : Int32) ||| (c &&& (63 : Int32))).toInt8.toInt32))) 1) := by
  have l := (own_fLle hL).2.1 rfl
  have a := c_iushr c 6 6 rfl (by decide)
  have b := c_mask c 63 6 (by decide) (by decide)
  have o1 := own_ob (a := 192) (b := ((c.toUInt32 >>> ((6 : Int32) &&& 31).toUInt32).toInt32)) 6 64 (by decide) rfl (by decide) (by decide) (by omega) (by omega) (by decide)
  have o2 := own_ob (a := 128) (b := (c &&& (63 : Int32))) 6 64 (by decide) rfl (by decide) (by decide) (by omega) (by omega) (by decide)
  rw [show (192 : Int32).toInt = 192 from rfl] at o1; rw [show (128 : Int32).toInt = 128 from rfl] at o2
  refine Or.inr (Or.inl ⟨rfl, ?_, ?_, l⟩)
  · show (own_updI _ 2 _ 1).toInt % 256 = _; rw [own_ui_miss _ _ (by decide), own_ui_hit, own_bu]; omega
  · show (own_updI _ 2 _ 2).toInt % 256 = _; rw [own_ui_hit, own_bu]; omega
theorem own_enc3 (hc : 0 ≤ c.toInt ∧ c.toInt < 2097152) (hL : (own_fL c).toInt ≤ (3 : Int32).toInt) :
    own_enc 3 c.toInt (own_u (own_updI (own_updI (own_updI F 1 (nar .byte (((224 : Int32) ||| ((c.toUInt32 >>> ((12 : Int32) &&& 31).toUInt32).toInt32)).toInt8.toInt32))) 2 (nar .byte (((128 : Int32) ||| (((c.toUInt32 >>> ((6 : Int32) &&& 31).toUInt32).toInt32) &&& (63 : Int32))).toInt8.toInt32))) 3 (nar .byte (((128 : Int32) ||| (c &&& (63 : Int32))).toInt8.toInt32))) 1) := by
  have l := (own_fLle hL).2.2 rfl
  have a0 := c_iushr c 12 12 rfl (by decide)
  have a := c_iushr c 6 6 rfl (by decide)
  have b := c_mask c 63 6 (by decide) (by decide)
  have b1 := c_mask ((c.toUInt32 >>> ((6 : Int32) &&& 31).toUInt32).toInt32) 63 6 (by decide) (by decide)
  have o0 := own_ob (a := 224) (b := ((c.toUInt32 >>> ((12 : Int32) &&& 31).toUInt32).toInt32)) 4 16 (by decide) rfl (by decide) (by decide) (by omega) (by omega) (by decide)
  have o1 := own_ob (a := 128) (b := (((c.toUInt32 >>> ((6 : Int32) &&& 31).toUInt32).toInt32) &&& (63 : Int32))) 6 64 (by decide) rfl (by decide) (by decide) (by omega) (by omega) (by decide)
  have o2 := own_ob (a := 128) (b := (c &&& (63 : Int32))) 6 64 (by decide) rfl (by decide) (by decide) (by omega) (by omega) (by decide)
  rw [show (224 : Int32).toInt = 224 from rfl] at o0; rw [show (128 : Int32).toInt = 128 from rfl] at o1 o2
  refine Or.inr (Or.inr (Or.inl ⟨rfl, ?_, ?_, ?_, l⟩))
  · show (own_updI _ 3 _ 1).toInt % 256 = _; rw [own_ui_miss _ _ (by decide), own_ui_miss _ _ (by decide), own_ui_hit, own_bu]; omega
  · show (own_updI _ 3 _ 2).toInt % 256 = _; rw [own_ui_miss _ _ (by decide), own_ui_hit, own_bu]; omega
  · show (own_updI _ 3 _ 3).toInt % 256 = _; rw [own_ui_hit, own_bu]; omega
theorem own_enc4 (hc : 0 ≤ c.toInt ∧ c.toInt < 2097152) (hL : (own_fL c).toInt ≤ (4 : Int32).toInt) :
    own_enc 4 c.toInt (own_u (own_updI (own_updI (own_updI (own_updI F 1 (nar .byte (((240 : Int32) ||| ((c.toUInt32 >>> ((18 : Int32) &&& 31).toUInt32).toInt32)).toInt8.toInt32))) 2 (nar .byte (((128 : Int32) ||| (((c.toUInt32 >>> ((12 : Int32) &&& 31).toUInt32).toInt32) &&& (63 : Int32))).toInt8.toInt32))) 3 (nar .byte (((128 : Int32) ||| (((c.toUInt32 >>> ((6 : Int32) &&& 31).toUInt32).toInt32) &&& (63 : Int32))).toInt8.toInt32))) 4 (nar .byte (((128 : Int32) ||| (c &&& (63 : Int32))).toInt8.toInt32))) 1) := by
  have a18 := c_iushr c 18 18 rfl (by decide)
  have a12 := c_iushr c 12 12 rfl (by decide)
  have a := c_iushr c 6 6 rfl (by decide)
  have b := c_mask c 63 6 (by decide) (by decide)
  have b1 := c_mask ((c.toUInt32 >>> ((6 : Int32) &&& 31).toUInt32).toInt32) 63 6 (by decide) (by decide)
  have b2 := c_mask ((c.toUInt32 >>> ((12 : Int32) &&& 31).toUInt32).toInt32) 63 6 (by decide) (by decide)
  have o0 := own_ob (a := 240) (b := ((c.toUInt32 >>> ((18 : Int32) &&& 31).toUInt32).toInt32)) 3 8 (by decide) rfl (by decide) (by decide) (by omega) (by omega) (by decide)
  have o3 := own_ob (a := 128) (b := (((c.toUInt32 >>> ((12 : Int32) &&& 31).toUInt32).toInt32) &&& (63 : Int32))) 6 64 (by decide) rfl (by decide) (by decide) (by omega) (by omega) (by decide)
  have o1 := own_ob (a := 128) (b := (((c.toUInt32 >>> ((6 : Int32) &&& 31).toUInt32).toInt32) &&& (63 : Int32))) 6 64 (by decide) rfl (by decide) (by decide) (by omega) (by omega) (by decide)
  have o2 := own_ob (a := 128) (b := (c &&& (63 : Int32))) 6 64 (by decide) rfl (by decide) (by decide) (by omega) (by omega) (by decide)
  rw [show (240 : Int32).toInt = 240 from rfl] at o0; rw [show (128 : Int32).toInt = 128 from rfl] at o1 o2 o3
  refine Or.inr (Or.inr (Or.inr ⟨rfl, ?_, ?_, ?_, ?_, hc.2⟩))
  · show (own_updI _ 4 _ 1).toInt % 256 = _; rw [own_ui_miss _ _ (by decide), own_ui_miss _ _ (by decide), own_ui_miss _ _ (by decide), own_ui_hit, own_bu]; omega
  · show (own_updI _ 4 _ 2).toInt % 256 = _; rw [own_ui_miss _ _ (by decide), own_ui_miss _ _ (by decide), own_ui_hit, own_bu]; omega
  · show (own_updI _ 4 _ 3).toInt % 256 = _; rw [own_ui_miss _ _ (by decide), own_ui_hit, own_bu]; omega
  · show (own_updI _ 4 _ 4).toInt % 256 = _; rw [own_ui_hit, own_bu]; omega
end
theorem own_is4 {y : Int32} {L : Nat} (h : own_at y L) (h1 : 1 ≤ L) (h4 : L ≤ 4) (n1 : ¬ y = (1 : Int32)) (n2 : ¬ y = (2 : Int32)) (n3 : ¬ y = (3 : Int32)) : y = (4 : Int32) := by
  have a := own_at_toInt h
  rw [← Int32.toInt_inj] at *
  rw [show (1 : Int32).toInt = 1 from rfl] at n1; rw [show (2 : Int32).toInt = 2 from rfl] at n2; rw [show (3 : Int32).toInt = 3 from rfl] at n3
  rw [show (4 : Int32).toInt = 4 from rfl]; omega
theorem own_C {x y : Int32} (h : y = (x &&& (2097151 : Int32))) : 0 ≤ y.toInt ∧ y.toInt < 2097152 := by
  have e := c_mask x 2097151 21 (by decide) (by decide); rw [← h] at e; omega
theorem own_L {c x y : Int32} (h : y = (own_fX (own_fL c) ((1 : Int32) + (x &&& (3 : Int32))))) : ∃ L, own_at y L ∧ 1 ≤ L ∧ L ≤ 4 ∧ (own_fL c).toInt ≤ y.toInt := by
  have a : 1 ≤ (own_fL c).toInt ∧ (own_fL c).toInt ≤ 4 := by
    rw [own_fL]; split
    · decide
    · split
      · decide
      · split <;> decide
  have b := c_mask x 3 2 (by decide) (by decide)
  have d := c_iadd 1 (x &&& (3 : Int32)); have r := rng32 (1 + (x &&& (3 : Int32)))
  rw [show (1 : Int32).toInt = 1 from rfl] at d
  have g : 1 ≤ y.toInt ∧ y.toInt ≤ 4 ∧ (own_fL c).toInt ≤ y.toInt := by
    rw [h, own_fX]; split
    · rename_i q; rw [Int32.lt_iff_toInt_lt] at q; omega
    · omega
  exact ⟨y.toInt.toNat, own_at_int (by omega), by omega, by omega, g.2.2⟩
theorem own_S0 {x v : Int32} (h : v = (if (x &&& (4 : Int32)) = (0 : Int32) then (0 : Int32) else (1 : Int32))) : v = (0 : Int32) ∨ v = (1 : Int32) := by
  split at h
  · exact Or.inl h
  · exact Or.inr h
theorem own_X7 {x y : Int32} (h : y = (x &&& (127 : Int32))) : 0 ≤ y.toInt ∧ y.toInt < 128 := by
  have e := c_mask x 127 7 (by decide) (by decide); rw [← h] at e; omega
theorem own_P0 {F : Nat → Int32} {y : Int32} (h : 0 ≤ y.toInt ∧ y.toInt < 128) : 0 ≤ (own_updI F 0 (nar .byte (y.toInt8.toInt32)) 0).toInt ∧ (own_updI F 0 (nar .byte (y.toInt8.toInt32)) 0).toInt < 128 := by
  rw [own_ui_hit, own_bs y h]; exact h

theorem own_pd1 : parseMethodDescriptor "([BII)Z" = some ⟨[(.array .byte), .int, .int], some .boolean⟩ := by decide +kernel
set_option maxRecDepth 65536 in
set_option maxHeartbeats 40000000 in
theorem own_s446 {p : Program} {l : Launch} {e : Env} {s : State} {m : MethodId} {args : Array Value} {below : List Frame} {meth : Method} {c : Code} {T0 : State} {locs : List Loc} {Z : State} {a0 : Array Value} {h0 : Heap} {n0 : Nat} {p1 p2 p3 p4 yC yL vS yP yQ : Int32} {bb : Addr} {F : Nat → Int32} {L : Nat} {yK vO : Int32} {s12 s13 s14 s15 : Slot} (X0 : Stand p l e room_1 s m args below meth c T0 locs 1 6) (hx : p.tables.exec = Jvm.exec) (hZ : Z.Warmed39 s.vm) (hw : ∀ d ∈ tables_1, d.before a0 Z = true) (hby : c.code = code) (hret : meth.sig.returnType = some .boolean) (hlk : meth.locks = false) (hml : c.maxLocals = 16) (hown : s.vm.findClass "com/example/tallymark/tallymark/model/EstateFileReaderIsUtf8PinLaw" = some m.cls) (e0 : T0.heap = h0) (N0 : Fr n0 locs) (Z0 : n0 ≤ h0.size) (gb : n0 ≤ bb) (VA : own_A Z h0 bb .byte 6 (fun k => .int (F k))) (hL : own_at yL L) (hL1 : 1 ≤ L) (hL4 : L ≤ 4) (hS : (vS = (0 : Int32) ∧ 0 ≤ (F 0).toInt ∧ (F 0).toInt < 128) ∨ vS = (1 : Int32)) (hs12 : One s12) (hs13 : One s13) (hs14 : One s14) (hs15 : One s15) (hQ : 0 ≤ yQ.toInt ∧ yQ.toInt < 128) (hok : (vO = (1 : Int32) ∧ own_good L F) ∨ (vO = (0 : Int32) ∧ own_bad L F)) (htr : own_tr L F) :
    own_Go p e below T0 (mkF m 446 #[.val (.int p1), .val (.int p2), .val (.int p3), .val (.int p4), .val (.int yC), .val (.int yL), .val (.int vS), .val (.int yP), .val (.int yQ), .val (.ref bb), .val (.int yK), .val (.int vO), s12, s13, s14, s15] []) (fun o U' => ∃ v L, o = .returned v ∧ own_QL n0 v U'.heap L ∧ FrameEnd s o U' L 16 128) := by
  refine own_step (T' := T0) (f' := (mkF m 449 #[.val (.int p1), .val (.int p2), .val (.int p3), .val (.int p4), .val (.int yC), .val (.int yL), .val (.int vS), .val (.int yP), .val (.int yQ), .val (.ref bb), .val (.int yK), .val (.int vO), s12, s13, s14, s15] [(.int (p4 &&& (3 : Int32)))])) (fun tt kont => ?_) ?_
  · show Steps p.tables e below (T0.setTop (mkF m 446 #[.val (.int p1), .val (.int p2), .val (.int p3), .val (.int p4), .val (.int yC), .val (.int yL), .val (.int vS), .val (.int yP), .val (.int yQ), .val (.ref bb), .val (.int yK), .val (.int vO), s12, s13, s14, s15] [])) _
    refine XS.iloadN X0.here hx rfl (hb hby at_446) rfl ?_
    show Steps p.tables e below (T0.setTop (mkF m 447 #[.val (.int p1), .val (.int p2), .val (.int p3), .val (.int p4), .val (.int yC), .val (.int yL), .val (.int vS), .val (.int yP), .val (.int yQ), .val (.ref bb), .val (.int yK), .val (.int vO), s12, s13, s14, s15] [(.int p4)])) _
    refine XS.iconst X0.here hx rfl (hb hby at_447) ?_
    show Steps p.tables e below (T0.setTop (mkF m 448 #[.val (.int p1), .val (.int p2), .val (.int p3), .val (.int p4), .val (.int yC), .val (.int yL), .val (.int vS), .val (.int yP), .val (.int yQ), .val (.ref bb), .val (.int yK), .val (.int vO), s12, s13, s14, s15] [(.int (3 : Int32)), (.int p4)])) _
    refine XS.iand X0.here hx rfl (hb hby at_448) rfl ?_
    exact kont
  show own_Go p e below T0 (mkF m 449 #[.val (.int p1), .val (.int p2), .val (.int p3), .val (.int p4), .val (.int yC), .val (.int yL), .val (.int vS), .val (.int yP), .val (.int yQ), .val (.ref bb), .val (.int yK), .val (.int vO), s12, s13, s14, s15] [(.int (p4 &&& (3 : Int32)))]) _
  obtain ⟨yM, hyM⟩ : ∃ z : Int32, z = (p4 &&& (3 : Int32)) := ⟨_, rfl⟩
  rw [← hyM]
  refine own_step (T' := T0) (f' := (mkF m 453 #[.val (.int p1), .val (.int p2), .val (.int p3), .val (.int p4), .val (.int yC), .val (.int yL), .val (.int vS), .val (.int yP), .val (.int yQ), .val (.ref bb), .val (.int yK), .val (.int vO), .val (.int yM), s13, s14, s15] [(.int yM)])) (fun tt kont => ?_) ?_
  · show Steps p.tables e below (T0.setTop (mkF m 449 #[.val (.int p1), .val (.int p2), .val (.int p3), .val (.int p4), .val (.int yC), .val (.int yL), .val (.int vS), .val (.int yP), .val (.int yQ), .val (.ref bb), .val (.int yK), .val (.int vO), s12, s13, s14, s15] [(.int yM)])) _
    refine XS.istoreS X0.here hx rfl (hb hby at_449) rfl rfl hs12 ?_
    show Steps p.tables e below (T0.setTop (mkF m 451 #[.val (.int p1), .val (.int p2), .val (.int p3), .val (.int p4), .val (.int yC), .val (.int yL), .val (.int vS), .val (.int yP), .val (.int yQ), .val (.ref bb), .val (.int yK), .val (.int vO), .val (.int yM), s13, s14, s15] [])) _
    refine XS.iload X0.here hx rfl (hb hby at_451) rfl ?_
    exact kont
  by_cases hc453_1 : yM = (0 : Int32)
  · refine own_step (T' := T0) (f' := (mkF m 456 #[.val (.int p1), .val (.int p2), .val (.int p3), .val (.int p4), .val (.int yC), .val (.int yL), .val (.int vS), .val (.int yP), .val (.int yQ), .val (.ref bb), .val (.int yK), .val (.int vO), .val (.int yM), s13, s14, s15] [])) (fun tt kont => ?_) ?_
    · show Steps p.tables e below (T0.setTop (mkF m 453 #[.val (.int p1), .val (.int p2), .val (.int p3), .val (.int p4), .val (.int yC), .val (.int yL), .val (.int vS), .val (.int yP), .val (.int yQ), .val (.ref bb), .val (.int yK), .val (.int vO), .val (.int yM), s13, s14, s15] [(.int yM)])) _
      refine XS.ifNo X0.here hx rfl (hb hby at_453) rfl ((if0 _ _).trans (teq hc453_1).2) ?_
      exact kont
    obtain ⟨nS, hnS, hS'⟩ := own_nS hS
    refine own_step (T' := T0) (f' := (mkF m 465 #[.val (.int p1), .val (.int p2), .val (.int p3), .val (.int p4), .val (.int yC), .val (.int yL), .val (.int vS), .val (.int yP), .val (.int yQ), .val (.ref bb), .val (.int yK), .val (.int vO), .val (.int yM), s13, s14, s15] [(.int (yQ.toInt8.toInt32)), (.int (yL + (1 : Int32))), (.ref bb)])) (fun tt kont => ?_) ?_
    · show Steps p.tables e below (T0.setTop (mkF m 456 #[.val (.int p1), .val (.int p2), .val (.int p3), .val (.int p4), .val (.int yC), .val (.int yL), .val (.int vS), .val (.int yP), .val (.int yQ), .val (.ref bb), .val (.int yK), .val (.int vO), .val (.int yM), s13, s14, s15] [])) _
      refine XS.aload X0.here hx rfl (hb hby at_456) rfl rfl ?_
      show Steps p.tables e below (T0.setTop (mkF m 458 #[.val (.int p1), .val (.int p2), .val (.int p3), .val (.int p4), .val (.int yC), .val (.int yL), .val (.int vS), .val (.int yP), .val (.int yQ), .val (.ref bb), .val (.int yK), .val (.int vO), .val (.int yM), s13, s14, s15] [(.ref bb)])) _
      refine XS.iload X0.here hx rfl (hb hby at_458) rfl ?_
      show Steps p.tables e below (T0.setTop (mkF m 460 #[.val (.int p1), .val (.int p2), .val (.int p3), .val (.int p4), .val (.int yC), .val (.int yL), .val (.int vS), .val (.int yP), .val (.int yQ), .val (.ref bb), .val (.int yK), .val (.int vO), .val (.int yM), s13, s14, s15] [(.int yL), (.ref bb)])) _
      refine XS.iconst X0.here hx rfl (hb hby at_460) ?_
      show Steps p.tables e below (T0.setTop (mkF m 461 #[.val (.int p1), .val (.int p2), .val (.int p3), .val (.int p4), .val (.int yC), .val (.int yL), .val (.int vS), .val (.int yP), .val (.int yQ), .val (.ref bb), .val (.int yK), .val (.int vO), .val (.int yM), s13, s14, s15] [(.int (1 : Int32)), (.int yL), (.ref bb)])) _
      refine XS.iadd X0.here hx rfl (hb hby at_461) rfl ?_
      show Steps p.tables e below (T0.setTop (mkF m 462 #[.val (.int p1), .val (.int p2), .val (.int p3), .val (.int p4), .val (.int yC), .val (.int yL), .val (.int vS), .val (.int yP), .val (.int yQ), .val (.ref bb), .val (.int yK), .val (.int vO), .val (.int yM), s13, s14, s15] [(.int (yL + (1 : Int32))), (.ref bb)])) _
      refine XS.iload X0.here hx rfl (hb hby at_462) rfl ?_
      show Steps p.tables e below (T0.setTop (mkF m 464 #[.val (.int p1), .val (.int p2), .val (.int p3), .val (.int p4), .val (.int yC), .val (.int yL), .val (.int vS), .val (.int yP), .val (.int yQ), .val (.ref bb), .val (.int yK), .val (.int vO), .val (.int yM), s13, s14, s15] [(.int yQ), (.int (yL + (1 : Int32))), (.ref bb)])) _
      refine XS.i2b X0.here hx rfl (hb hby at_464) rfl ?_
      exact kont
    obtain ⟨T1447, h1447, X1447, e1447, W1447, V_bb_1447, st1447⟩ := own_stB X0 hx hZ e0 VA (j := (yL + (1 : Int32))) (i := (L + 1)) (own_at_plus hL (own_at_lit rfl (by decide) : own_at (1 : Int32) 1) (by omega)) (by omega) (g := (mkF m 465 #[.val (.int p1), .val (.int p2), .val (.int p3), .val (.int p4), .val (.int yC), .val (.int yL), .val (.int vS), .val (.int yP), .val (.int yQ), .val (.ref bb), .val (.int yK), .val (.int vO), .val (.int yM), s13, s14, s15] [(.int (yQ.toInt8.toInt32)), (.int (yL + (1 : Int32))), (.ref bb)])) rfl rfl (hb hby at_465)
    have N1447 := Fr.snoc X1447 N0 gb
    have Z1447 : n0 ≤ h1447.size := Nat.le_trans Z0 (Keep.of_wr W1447).1
    have VI_bb_1447 : own_A Z h1447 bb .byte 6 (fun k => .int ((own_updI F (L + 1) (nar .byte (yQ.toInt8.toInt32))) k)) := own_toI V_bb_1447
    refine own_step st1447 ?_
    refine own_step (T' := T1447) (f' := (mkF m 524 #[.val (.int p1), .val (.int p2), .val (.int p3), .val (.int p4), .val (.int yC), .val (.int yL), .val (.int vS), .val (.int yP), .val (.int yQ), .val (.ref bb), .val (.int yK), .val (.int vO), .val (.int yM), .val (.int (yL + (2 : Int32))), .val (.int vO), s15] [])) (fun tt kont => ?_) ?_
    · show Steps p.tables e below (T1447.setTop (mkF m 466 #[.val (.int p1), .val (.int p2), .val (.int p3), .val (.int p4), .val (.int yC), .val (.int yL), .val (.int vS), .val (.int yP), .val (.int yQ), .val (.ref bb), .val (.int yK), .val (.int vO), .val (.int yM), s13, s14, s15] [])) _
      refine XS.iload X1447.here hx rfl (hb hby at_466) rfl ?_
      show Steps p.tables e below (T1447.setTop (mkF m 468 #[.val (.int p1), .val (.int p2), .val (.int p3), .val (.int p4), .val (.int yC), .val (.int yL), .val (.int vS), .val (.int yP), .val (.int yQ), .val (.ref bb), .val (.int yK), .val (.int vO), .val (.int yM), s13, s14, s15] [(.int yL)])) _
      refine XS.iconst X1447.here hx rfl (hb hby at_468) ?_
      show Steps p.tables e below (T1447.setTop (mkF m 469 #[.val (.int p1), .val (.int p2), .val (.int p3), .val (.int p4), .val (.int yC), .val (.int yL), .val (.int vS), .val (.int yP), .val (.int yQ), .val (.ref bb), .val (.int yK), .val (.int vO), .val (.int yM), s13, s14, s15] [(.int (2 : Int32)), (.int yL)])) _
      refine XS.iadd X1447.here hx rfl (hb hby at_469) rfl ?_
      show Steps p.tables e below (T1447.setTop (mkF m 470 #[.val (.int p1), .val (.int p2), .val (.int p3), .val (.int p4), .val (.int yC), .val (.int yL), .val (.int vS), .val (.int yP), .val (.int yQ), .val (.ref bb), .val (.int yK), .val (.int vO), .val (.int yM), s13, s14, s15] [(.int (yL + (2 : Int32)))])) _
      refine XS.istoreS X1447.here hx rfl (hb hby at_470) rfl rfl hs13 ?_
      show Steps p.tables e below (T1447.setTop (mkF m 472 #[.val (.int p1), .val (.int p2), .val (.int p3), .val (.int p4), .val (.int yC), .val (.int yL), .val (.int vS), .val (.int yP), .val (.int yQ), .val (.ref bb), .val (.int yK), .val (.int vO), .val (.int yM), .val (.int (yL + (2 : Int32))), s14, s15] [])) _
      refine XS.iload X1447.here hx rfl (hb hby at_472) rfl ?_
      show Steps p.tables e below (T1447.setTop (mkF m 474 #[.val (.int p1), .val (.int p2), .val (.int p3), .val (.int p4), .val (.int yC), .val (.int yL), .val (.int vS), .val (.int yP), .val (.int yQ), .val (.ref bb), .val (.int yK), .val (.int vO), .val (.int yM), .val (.int (yL + (2 : Int32))), s14, s15] [(.int vO)])) _
      refine XS.istoreS X1447.here hx rfl (hb hby at_474) rfl rfl hs14 ?_
      show Steps p.tables e below (T1447.setTop (mkF m 476 #[.val (.int p1), .val (.int p2), .val (.int p3), .val (.int p4), .val (.int yC), .val (.int yL), .val (.int vS), .val (.int yP), .val (.int yQ), .val (.ref bb), .val (.int yK), .val (.int vO), .val (.int yM), .val (.int (yL + (2 : Int32))), .val (.int vO), s15] [])) _
      refine XS.goto X1447.here hx rfl (pc0 := 476) (pc' := 524) rfl (hb hby at_476) (by decide) (by decide) ?_
      exact kont
    refine own_step (T' := T1447) (f' := (mkF m 530 #[.val (.int p1), .val (.int p2), .val (.int p3), .val (.int p4), .val (.int yC), .val (.int yL), .val (.int vS), .val (.int yP), .val (.int yQ), .val (.ref bb), .val (.int yK), .val (.int vO), .val (.int yM), .val (.int (yL + (2 : Int32))), .val (.int vO), s15] [(.int (yL + (2 : Int32))), (.int vS), (.ref bb)])) (fun tt kont => ?_) ?_
    · show Steps p.tables e below (T1447.setTop (mkF m 524 #[.val (.int p1), .val (.int p2), .val (.int p3), .val (.int p4), .val (.int yC), .val (.int yL), .val (.int vS), .val (.int yP), .val (.int yQ), .val (.ref bb), .val (.int yK), .val (.int vO), .val (.int yM), .val (.int (yL + (2 : Int32))), .val (.int vO), s15] [])) _
      refine XS.aload X1447.here hx rfl (hb hby at_524) rfl rfl ?_
      show Steps p.tables e below (T1447.setTop (mkF m 526 #[.val (.int p1), .val (.int p2), .val (.int p3), .val (.int p4), .val (.int yC), .val (.int yL), .val (.int vS), .val (.int yP), .val (.int yQ), .val (.ref bb), .val (.int yK), .val (.int vO), .val (.int yM), .val (.int (yL + (2 : Int32))), .val (.int vO), s15] [(.ref bb)])) _
      refine XS.iload X1447.here hx rfl (hb hby at_526) rfl ?_
      show Steps p.tables e below (T1447.setTop (mkF m 528 #[.val (.int p1), .val (.int p2), .val (.int p3), .val (.int p4), .val (.int yC), .val (.int yL), .val (.int vS), .val (.int yP), .val (.int yQ), .val (.ref bb), .val (.int yK), .val (.int vO), .val (.int yM), .val (.int (yL + (2 : Int32))), .val (.int vO), s15] [(.int vS), (.ref bb)])) _
      refine XS.iload X1447.here hx rfl (hb hby at_528) rfl ?_
      exact kont
    obtain ⟨_, _, ⟨T1448, L1448, k1448, n1448⟩, -, X1448, ⟨Lc1448, hQ1448, l1448, y1448, z1448⟩, st1448⟩ := Jvm.LawKit.callS X1447 hx (y := (⟨"com/example/tallymark/tallymark/model/EstateFileReader", "isUtf8", "([BII)Z"⟩ : MethodName)) hown (mvT hZ (hw _ (List.mem_of_getElem? (i := 13) rfl))) (mvT hZ (hw _ (List.mem_of_getElem? (i := 14) rfl))) (mvT hZ (hw _ (List.mem_of_getElem? (i := 15) rfl))) (mvT hZ (hw _ (List.mem_of_getElem? (i := 16) rfl))) (by decide) (backOf (W := 0) (own_rmU l Z a0 hw bb vS (yL + (2 : Int32)) nS (L + 2) (own_updI F (L + 1) (nar .byte (yQ.toInt8.toInt32))) h1447 n0 VI_bb_1447 hnS (own_at_plus hL (own_at_lit rfl (by decide) : own_at (2 : Int32) 2) (by omega)) (by omega)) hZ (hw _ (List.mem_of_getElem? (i := 16) rfl)) (hw _ (List.mem_of_getElem? (i := 15) rfl)) (by decide) (by decide)) (g := (mkF m 530 #[.val (.int p1), .val (.int p2), .val (.int p3), .val (.int p4), .val (.int yC), .val (.int yL), .val (.int vS), .val (.int yP), .val (.int yQ), .val (.ref bb), .val (.int yK), .val (.int vO), .val (.int yM), .val (.int (yL + (2 : Int32))), .val (.int vO), s15] [(.int (yL + (2 : Int32))), (.int vS), (.ref bb)])) rfl (by rw [hml]; rfl) (argsL := [(.ref bb), (.int vS), (.int (yL + (2 : Int32)))]) (rest := []) (lenOf own_pd1 rfl) rfl (by show 2 * 0 + _ ≤ _; exact Nat.le_of_eq rfl) (hb hby at_530) (fun _ _ => ⟨rfl, e1447, (by decide : 1 + 0 ≤ _), (by decide : 6 + 0 ≤ _)⟩)
    dsimp only [Pt.U, Pt.locs, Pt.cells, Pt.slots] at X1448 l1448 y1448 z1448 st1448 hQ1448
    subst l1448 y1448 z1448
    obtain ⟨rfl, N1448q, e1448⟩ := hQ1448
    have N1448 := Fr.app N1447 N1448q
    refine own_step (fun tt kont => st1448 _ kont) ?_
    refine own_step (T' := T1448) (f' := (mkF m 535 #[.val (.int p1), .val (.int p2), .val (.int p3), .val (.int p4), .val (.int yC), .val (.int yL), .val (.int vS), .val (.int yP), .val (.int yQ), .val (.ref bb), .val (.int yK), .val (.int vO), .val (.int yM), .val (.int (yL + (2 : Int32))), .val (.int vO), s15] [(.int vO), (.int (own_ut (own_updI F (L + 1) (nar .byte (yQ.toInt8.toInt32))) (L + 2) 6 nS))])) (fun tt kont => ?_) ?_
    · show Steps p.tables e below (T1448.setTop (mkF m 533 #[.val (.int p1), .val (.int p2), .val (.int p3), .val (.int p4), .val (.int yC), .val (.int yL), .val (.int vS), .val (.int yP), .val (.int yQ), .val (.ref bb), .val (.int yK), .val (.int vO), .val (.int yM), .val (.int (yL + (2 : Int32))), .val (.int vO), s15] [(.int (own_ut (own_updI F (L + 1) (nar .byte (yQ.toInt8.toInt32))) (L + 2) 6 nS))])) _
      refine XS.iload X1448.here hx rfl (hb hby at_533) rfl ?_
      exact kont
    have hk : (own_ut (own_updI F (L + 1) (nar .byte (yQ.toInt8.toInt32))) (L + 2) 6 nS) = vO := own_endA hS' hL1 hQ hok
    refine own_step (T' := T1448) (f' := (mkF m 543 #[.val (.int p1), .val (.int p2), .val (.int p3), .val (.int p4), .val (.int yC), .val (.int yL), .val (.int vS), .val (.int yP), .val (.int yQ), .val (.ref bb), .val (.int yK), .val (.int vO), .val (.int yM), .val (.int (yL + (2 : Int32))), .val (.int vO), s15] [(.int (1 : Int32))])) (fun tt kont => ?_) ?_
    · show Steps p.tables e below (T1448.setTop (mkF m 535 #[.val (.int p1), .val (.int p2), .val (.int p3), .val (.int p4), .val (.int yC), .val (.int yL), .val (.int vS), .val (.int yP), .val (.int yQ), .val (.ref bb), .val (.int yK), .val (.int vO), .val (.int yM), .val (.int (yL + (2 : Int32))), .val (.int vO), s15] [(.int vO), (.int (own_ut (own_updI F (L + 1) (nar .byte (yQ.toInt8.toInt32))) (L + 2) 6 nS))])) _
      refine XS.icmpNo X1448.here hx rfl (hb hby at_535) rfl (teq hk).2 ?_
      show Steps p.tables e below (T1448.setTop (mkF m 538 #[.val (.int p1), .val (.int p2), .val (.int p3), .val (.int p4), .val (.int yC), .val (.int yL), .val (.int vS), .val (.int yP), .val (.int yQ), .val (.ref bb), .val (.int yK), .val (.int vO), .val (.int yM), .val (.int (yL + (2 : Int32))), .val (.int vO), s15] [])) _
      refine XS.iconst X1448.here hx rfl (hb hby at_538) ?_
      show Steps p.tables e below (T1448.setTop (mkF m 539 #[.val (.int p1), .val (.int p2), .val (.int p3), .val (.int p4), .val (.int yC), .val (.int yL), .val (.int vS), .val (.int yP), .val (.int yQ), .val (.ref bb), .val (.int yK), .val (.int vO), .val (.int yM), .val (.int (yL + (2 : Int32))), .val (.int vO), s15] [(.int (1 : Int32))])) _
      refine XS.goto X1448.here hx rfl (pc0 := 539) (pc' := 543) rfl (hb hby at_539) (by decide) (by decide) ?_
      exact kont
    exact own_retZ X1448 hx hret hlk (hb hby at_543) (by decide) (by decide) ⟨rfl, N1448⟩
  · refine own_step (T' := T0) (f' := (mkF m 482 #[.val (.int p1), .val (.int p2), .val (.int p3), .val (.int p4), .val (.int yC), .val (.int yL), .val (.int vS), .val (.int yP), .val (.int yQ), .val (.ref bb), .val (.int yK), .val (.int vO), .val (.int yM), s13, s14, s15] [(.int (1 : Int32)), (.int yM)])) (fun tt kont => ?_) ?_
    · show Steps p.tables e below (T0.setTop (mkF m 453 #[.val (.int p1), .val (.int p2), .val (.int p3), .val (.int p4), .val (.int yC), .val (.int yL), .val (.int vS), .val (.int yP), .val (.int yQ), .val (.ref bb), .val (.int yK), .val (.int vO), .val (.int yM), s13, s14, s15] [(.int yM)])) _
      refine XS.ifYes X0.here hx rfl (pc0 := 453) (pc' := 479) rfl (hb hby at_453) rfl ((if0 _ _).trans (feq hc453_1).2) (by decide) (by decide) ?_
      show Steps p.tables e below (T0.setTop (mkF m 479 #[.val (.int p1), .val (.int p2), .val (.int p3), .val (.int p4), .val (.int yC), .val (.int yL), .val (.int vS), .val (.int yP), .val (.int yQ), .val (.ref bb), .val (.int yK), .val (.int vO), .val (.int yM), s13, s14, s15] [])) _
      refine XS.iload X0.here hx rfl (hb hby at_479) rfl ?_
      show Steps p.tables e below (T0.setTop (mkF m 481 #[.val (.int p1), .val (.int p2), .val (.int p3), .val (.int p4), .val (.int yC), .val (.int yL), .val (.int vS), .val (.int yP), .val (.int yQ), .val (.ref bb), .val (.int yK), .val (.int vO), .val (.int yM), s13, s14, s15] [(.int yM)])) _
      refine XS.iconst X0.here hx rfl (hb hby at_481) ?_
      exact kont
    by_cases hc482_2 : yM = (1 : Int32)
    · refine own_step (T' := T0) (f' := (mkF m 485 #[.val (.int p1), .val (.int p2), .val (.int p3), .val (.int p4), .val (.int yC), .val (.int yL), .val (.int vS), .val (.int yP), .val (.int yQ), .val (.ref bb), .val (.int yK), .val (.int vO), .val (.int yM), s13, s14, s15] [])) (fun tt kont => ?_) ?_
      · show Steps p.tables e below (T0.setTop (mkF m 482 #[.val (.int p1), .val (.int p2), .val (.int p3), .val (.int p4), .val (.int yC), .val (.int yL), .val (.int vS), .val (.int yP), .val (.int yQ), .val (.ref bb), .val (.int yK), .val (.int vO), .val (.int yM), s13, s14, s15] [(.int (1 : Int32)), (.int yM)])) _
        refine XS.icmpNo X0.here hx rfl (hb hby at_482) rfl (teq hc482_2).2 ?_
        exact kont
      obtain ⟨nS, hnS, hS'⟩ := own_nS hS
      refine own_step (T' := T0) (f' := (mkF m 524 #[.val (.int p1), .val (.int p2), .val (.int p3), .val (.int p4), .val (.int yC), .val (.int yL), .val (.int vS), .val (.int yP), .val (.int yQ), .val (.ref bb), .val (.int yK), .val (.int vO), .val (.int yM), .val (.int (yL + (1 : Int32))), .val (.int vO), s15] [])) (fun tt kont => ?_) ?_
      · show Steps p.tables e below (T0.setTop (mkF m 485 #[.val (.int p1), .val (.int p2), .val (.int p3), .val (.int p4), .val (.int yC), .val (.int yL), .val (.int vS), .val (.int yP), .val (.int yQ), .val (.ref bb), .val (.int yK), .val (.int vO), .val (.int yM), s13, s14, s15] [])) _
        refine XS.iload X0.here hx rfl (hb hby at_485) rfl ?_
        show Steps p.tables e below (T0.setTop (mkF m 487 #[.val (.int p1), .val (.int p2), .val (.int p3), .val (.int p4), .val (.int yC), .val (.int yL), .val (.int vS), .val (.int yP), .val (.int yQ), .val (.ref bb), .val (.int yK), .val (.int vO), .val (.int yM), s13, s14, s15] [(.int yL)])) _
        refine XS.iconst X0.here hx rfl (hb hby at_487) ?_
        show Steps p.tables e below (T0.setTop (mkF m 488 #[.val (.int p1), .val (.int p2), .val (.int p3), .val (.int p4), .val (.int yC), .val (.int yL), .val (.int vS), .val (.int yP), .val (.int yQ), .val (.ref bb), .val (.int yK), .val (.int vO), .val (.int yM), s13, s14, s15] [(.int (1 : Int32)), (.int yL)])) _
        refine XS.iadd X0.here hx rfl (hb hby at_488) rfl ?_
        show Steps p.tables e below (T0.setTop (mkF m 489 #[.val (.int p1), .val (.int p2), .val (.int p3), .val (.int p4), .val (.int yC), .val (.int yL), .val (.int vS), .val (.int yP), .val (.int yQ), .val (.ref bb), .val (.int yK), .val (.int vO), .val (.int yM), s13, s14, s15] [(.int (yL + (1 : Int32)))])) _
        refine XS.istoreS X0.here hx rfl (hb hby at_489) rfl rfl hs13 ?_
        show Steps p.tables e below (T0.setTop (mkF m 491 #[.val (.int p1), .val (.int p2), .val (.int p3), .val (.int p4), .val (.int yC), .val (.int yL), .val (.int vS), .val (.int yP), .val (.int yQ), .val (.ref bb), .val (.int yK), .val (.int vO), .val (.int yM), .val (.int (yL + (1 : Int32))), s14, s15] [])) _
        refine XS.iload X0.here hx rfl (hb hby at_491) rfl ?_
        show Steps p.tables e below (T0.setTop (mkF m 493 #[.val (.int p1), .val (.int p2), .val (.int p3), .val (.int p4), .val (.int yC), .val (.int yL), .val (.int vS), .val (.int yP), .val (.int yQ), .val (.ref bb), .val (.int yK), .val (.int vO), .val (.int yM), .val (.int (yL + (1 : Int32))), s14, s15] [(.int vO)])) _
        refine XS.istoreS X0.here hx rfl (hb hby at_493) rfl rfl hs14 ?_
        show Steps p.tables e below (T0.setTop (mkF m 495 #[.val (.int p1), .val (.int p2), .val (.int p3), .val (.int p4), .val (.int yC), .val (.int yL), .val (.int vS), .val (.int yP), .val (.int yQ), .val (.ref bb), .val (.int yK), .val (.int vO), .val (.int yM), .val (.int (yL + (1 : Int32))), .val (.int vO), s15] [])) _
        refine XS.goto X0.here hx rfl (pc0 := 495) (pc' := 524) rfl (hb hby at_495) (by decide) (by decide) ?_
        exact kont
      refine own_step (T' := T0) (f' := (mkF m 530 #[.val (.int p1), .val (.int p2), .val (.int p3), .val (.int p4), .val (.int yC), .val (.int yL), .val (.int vS), .val (.int yP), .val (.int yQ), .val (.ref bb), .val (.int yK), .val (.int vO), .val (.int yM), .val (.int (yL + (1 : Int32))), .val (.int vO), s15] [(.int (yL + (1 : Int32))), (.int vS), (.ref bb)])) (fun tt kont => ?_) ?_
      · show Steps p.tables e below (T0.setTop (mkF m 524 #[.val (.int p1), .val (.int p2), .val (.int p3), .val (.int p4), .val (.int yC), .val (.int yL), .val (.int vS), .val (.int yP), .val (.int yQ), .val (.ref bb), .val (.int yK), .val (.int vO), .val (.int yM), .val (.int (yL + (1 : Int32))), .val (.int vO), s15] [])) _
        refine XS.aload X0.here hx rfl (hb hby at_524) rfl rfl ?_
        show Steps p.tables e below (T0.setTop (mkF m 526 #[.val (.int p1), .val (.int p2), .val (.int p3), .val (.int p4), .val (.int yC), .val (.int yL), .val (.int vS), .val (.int yP), .val (.int yQ), .val (.ref bb), .val (.int yK), .val (.int vO), .val (.int yM), .val (.int (yL + (1 : Int32))), .val (.int vO), s15] [(.ref bb)])) _
        refine XS.iload X0.here hx rfl (hb hby at_526) rfl ?_
        show Steps p.tables e below (T0.setTop (mkF m 528 #[.val (.int p1), .val (.int p2), .val (.int p3), .val (.int p4), .val (.int yC), .val (.int yL), .val (.int vS), .val (.int yP), .val (.int yQ), .val (.ref bb), .val (.int yK), .val (.int vO), .val (.int yM), .val (.int (yL + (1 : Int32))), .val (.int vO), s15] [(.int vS), (.ref bb)])) _
        refine XS.iload X0.here hx rfl (hb hby at_528) rfl ?_
        exact kont
      obtain ⟨_, _, ⟨T1449, L1449, k1449, n1449⟩, -, X1449, ⟨Lc1449, hQ1449, l1449, y1449, z1449⟩, st1449⟩ := Jvm.LawKit.callS X0 hx (y := (⟨"com/example/tallymark/tallymark/model/EstateFileReader", "isUtf8", "([BII)Z"⟩ : MethodName)) hown (mvT hZ (hw _ (List.mem_of_getElem? (i := 13) rfl))) (mvT hZ (hw _ (List.mem_of_getElem? (i := 14) rfl))) (mvT hZ (hw _ (List.mem_of_getElem? (i := 15) rfl))) (mvT hZ (hw _ (List.mem_of_getElem? (i := 16) rfl))) (by decide) (backOf (W := 0) (own_rmU l Z a0 hw bb vS (yL + (1 : Int32)) nS (L + 1) F h0 n0 VA hnS (own_at_plus hL (own_at_lit rfl (by decide) : own_at (1 : Int32) 1) (by omega)) (by omega)) hZ (hw _ (List.mem_of_getElem? (i := 16) rfl)) (hw _ (List.mem_of_getElem? (i := 15) rfl)) (by decide) (by decide)) (g := (mkF m 530 #[.val (.int p1), .val (.int p2), .val (.int p3), .val (.int p4), .val (.int yC), .val (.int yL), .val (.int vS), .val (.int yP), .val (.int yQ), .val (.ref bb), .val (.int yK), .val (.int vO), .val (.int yM), .val (.int (yL + (1 : Int32))), .val (.int vO), s15] [(.int (yL + (1 : Int32))), (.int vS), (.ref bb)])) rfl (by rw [hml]; rfl) (argsL := [(.ref bb), (.int vS), (.int (yL + (1 : Int32)))]) (rest := []) (lenOf own_pd1 rfl) rfl (by show 2 * 0 + _ ≤ _; exact Nat.le_of_eq rfl) (hb hby at_530) (fun _ _ => ⟨rfl, e0, (by decide : 1 + 0 ≤ _), (by decide : 6 + 0 ≤ _)⟩)
      dsimp only [Pt.U, Pt.locs, Pt.cells, Pt.slots] at X1449 l1449 y1449 z1449 st1449 hQ1449
      subst l1449 y1449 z1449
      obtain ⟨rfl, N1449q, e1449⟩ := hQ1449
      have N1449 := Fr.app N0 N1449q
      refine own_step (fun tt kont => st1449 _ kont) ?_
      refine own_step (T' := T1449) (f' := (mkF m 535 #[.val (.int p1), .val (.int p2), .val (.int p3), .val (.int p4), .val (.int yC), .val (.int yL), .val (.int vS), .val (.int yP), .val (.int yQ), .val (.ref bb), .val (.int yK), .val (.int vO), .val (.int yM), .val (.int (yL + (1 : Int32))), .val (.int vO), s15] [(.int vO), (.int (own_ut F (L + 1) 6 nS))])) (fun tt kont => ?_) ?_
      · show Steps p.tables e below (T1449.setTop (mkF m 533 #[.val (.int p1), .val (.int p2), .val (.int p3), .val (.int p4), .val (.int yC), .val (.int yL), .val (.int vS), .val (.int yP), .val (.int yQ), .val (.ref bb), .val (.int yK), .val (.int vO), .val (.int yM), .val (.int (yL + (1 : Int32))), .val (.int vO), s15] [(.int (own_ut F (L + 1) 6 nS))])) _
        refine XS.iload X1449.here hx rfl (hb hby at_533) rfl ?_
        exact kont
      have hk : (own_ut F (L + 1) 6 nS) = vO := own_endB hS' hL1 hok
      refine own_step (T' := T1449) (f' := (mkF m 543 #[.val (.int p1), .val (.int p2), .val (.int p3), .val (.int p4), .val (.int yC), .val (.int yL), .val (.int vS), .val (.int yP), .val (.int yQ), .val (.ref bb), .val (.int yK), .val (.int vO), .val (.int yM), .val (.int (yL + (1 : Int32))), .val (.int vO), s15] [(.int (1 : Int32))])) (fun tt kont => ?_) ?_
      · show Steps p.tables e below (T1449.setTop (mkF m 535 #[.val (.int p1), .val (.int p2), .val (.int p3), .val (.int p4), .val (.int yC), .val (.int yL), .val (.int vS), .val (.int yP), .val (.int yQ), .val (.ref bb), .val (.int yK), .val (.int vO), .val (.int yM), .val (.int (yL + (1 : Int32))), .val (.int vO), s15] [(.int vO), (.int (own_ut F (L + 1) 6 nS))])) _
        refine XS.icmpNo X1449.here hx rfl (hb hby at_535) rfl (teq hk).2 ?_
        show Steps p.tables e below (T1449.setTop (mkF m 538 #[.val (.int p1), .val (.int p2), .val (.int p3), .val (.int p4), .val (.int yC), .val (.int yL), .val (.int vS), .val (.int yP), .val (.int yQ), .val (.ref bb), .val (.int yK), .val (.int vO), .val (.int yM), .val (.int (yL + (1 : Int32))), .val (.int vO), s15] [])) _
        refine XS.iconst X1449.here hx rfl (hb hby at_538) ?_
        show Steps p.tables e below (T1449.setTop (mkF m 539 #[.val (.int p1), .val (.int p2), .val (.int p3), .val (.int p4), .val (.int yC), .val (.int yL), .val (.int vS), .val (.int yP), .val (.int yQ), .val (.ref bb), .val (.int yK), .val (.int vO), .val (.int yM), .val (.int (yL + (1 : Int32))), .val (.int vO), s15] [(.int (1 : Int32))])) _
        refine XS.goto X1449.here hx rfl (pc0 := 539) (pc' := 543) rfl (hb hby at_539) (by decide) (by decide) ?_
        exact kont
      exact own_retZ X1449 hx hret hlk (hb hby at_543) (by decide) (by decide) ⟨rfl, N1449⟩
    · refine own_step (T' := T0) (f' := (mkF m 498 #[.val (.int p1), .val (.int p2), .val (.int p3), .val (.int p4), .val (.int yC), .val (.int yL), .val (.int vS), .val (.int yP), .val (.int yQ), .val (.ref bb), .val (.int yK), .val (.int vO), .val (.int yM), s13, s14, s15] [])) (fun tt kont => ?_) ?_
      · show Steps p.tables e below (T0.setTop (mkF m 482 #[.val (.int p1), .val (.int p2), .val (.int p3), .val (.int p4), .val (.int yC), .val (.int yL), .val (.int vS), .val (.int yP), .val (.int yQ), .val (.ref bb), .val (.int yK), .val (.int vO), .val (.int yM), s13, s14, s15] [(.int (1 : Int32)), (.int yM)])) _
        refine XS.icmpYes X0.here hx rfl (pc0 := 482) (pc' := 498) rfl (hb hby at_482) rfl (feq hc482_2).2 (by decide) (by decide) ?_
        exact kont
      obtain ⟨nS, hnS, hS'⟩ := own_nS hS
      refine own_step (T' := T0) (f' := (mkF m 504 #[.val (.int p1), .val (.int p2), .val (.int p3), .val (.int p4), .val (.int yC), .val (.int yL), .val (.int vS), .val (.int yP), .val (.int yQ), .val (.ref bb), .val (.int yK), .val (.int vO), .val (.int yM), s13, s14, s15] [(.int (((p4.toUInt32 >>> ((2 : Int32) &&& 31).toUInt32).toInt32) - (((p4.toUInt32 >>> ((2 : Int32) &&& 31).toUInt32).toInt32) / yL) * yL))])) (fun tt kont => ?_) ?_
      · show Steps p.tables e below (T0.setTop (mkF m 498 #[.val (.int p1), .val (.int p2), .val (.int p3), .val (.int p4), .val (.int yC), .val (.int yL), .val (.int vS), .val (.int yP), .val (.int yQ), .val (.ref bb), .val (.int yK), .val (.int vO), .val (.int yM), s13, s14, s15] [])) _
        refine XS.iloadN X0.here hx rfl (hb hby at_498) rfl ?_
        show Steps p.tables e below (T0.setTop (mkF m 499 #[.val (.int p1), .val (.int p2), .val (.int p3), .val (.int p4), .val (.int yC), .val (.int yL), .val (.int vS), .val (.int yP), .val (.int yQ), .val (.ref bb), .val (.int yK), .val (.int vO), .val (.int yM), s13, s14, s15] [(.int p4)])) _
        refine XS.iconst X0.here hx rfl (hb hby at_499) ?_
        show Steps p.tables e below (T0.setTop (mkF m 500 #[.val (.int p1), .val (.int p2), .val (.int p3), .val (.int p4), .val (.int yC), .val (.int yL), .val (.int vS), .val (.int yP), .val (.int yQ), .val (.ref bb), .val (.int yK), .val (.int vO), .val (.int yM), s13, s14, s15] [(.int (2 : Int32)), (.int p4)])) _
        refine XS.iushr X0.here hx rfl (hb hby at_500) rfl ?_
        show Steps p.tables e below (T0.setTop (mkF m 501 #[.val (.int p1), .val (.int p2), .val (.int p3), .val (.int p4), .val (.int yC), .val (.int yL), .val (.int vS), .val (.int yP), .val (.int yQ), .val (.ref bb), .val (.int yK), .val (.int vO), .val (.int yM), s13, s14, s15] [(.int ((p4.toUInt32 >>> ((2 : Int32) &&& 31).toUInt32).toInt32))])) _
        refine XS.iload X0.here hx rfl (hb hby at_501) rfl ?_
        show Steps p.tables e below (T0.setTop (mkF m 503 #[.val (.int p1), .val (.int p2), .val (.int p3), .val (.int p4), .val (.int yC), .val (.int yL), .val (.int vS), .val (.int yP), .val (.int yQ), .val (.ref bb), .val (.int yK), .val (.int vO), .val (.int yM), s13, s14, s15] [(.int yL), (.int ((p4.toUInt32 >>> ((2 : Int32) &&& 31).toUInt32).toInt32))])) _
        refine XS.irem X0.here hx rfl (hb hby at_503) rfl (own_Lnz hL hL1) ?_
        exact kont
      show own_Go p e below T0 (mkF m 504 #[.val (.int p1), .val (.int p2), .val (.int p3), .val (.int p4), .val (.int yC), .val (.int yL), .val (.int vS), .val (.int yP), .val (.int yQ), .val (.ref bb), .val (.int yK), .val (.int vO), .val (.int yM), s13, s14, s15] [(.int (((p4.toUInt32 >>> ((2 : Int32) &&& 31).toUInt32).toInt32) - (((p4.toUInt32 >>> ((2 : Int32) &&& 31).toUInt32).toInt32) / yL) * yL))]) _
      obtain ⟨yT, hyT⟩ : ∃ z : Int32, z = (((p4.toUInt32 >>> ((2 : Int32) &&& 31).toUInt32).toInt32) - (((p4.toUInt32 >>> ((2 : Int32) &&& 31).toUInt32).toInt32) / yL) * yL) := ⟨_, rfl⟩
      rw [← hyT]
      obtain ⟨t, ht, htL⟩ := own_T hyT hL hL1
      refine own_step (T' := T0) (f' := (mkF m 514 #[.val (.int p1), .val (.int p2), .val (.int p3), .val (.int p4), .val (.int yC), .val (.int yL), .val (.int vS), .val (.int yP), .val (.int yQ), .val (.ref bb), .val (.int yK), .val (.int vO), .val (.int yM), .val (.int ((1 : Int32) + yT)), s14, .val (.int yT)] [(.int yT)])) (fun tt kont => ?_) ?_
      · show Steps p.tables e below (T0.setTop (mkF m 504 #[.val (.int p1), .val (.int p2), .val (.int p3), .val (.int p4), .val (.int yC), .val (.int yL), .val (.int vS), .val (.int yP), .val (.int yQ), .val (.ref bb), .val (.int yK), .val (.int vO), .val (.int yM), s13, s14, s15] [(.int yT)])) _
        refine XS.istoreS X0.here hx rfl (hb hby at_504) rfl rfl hs15 ?_
        show Steps p.tables e below (T0.setTop (mkF m 506 #[.val (.int p1), .val (.int p2), .val (.int p3), .val (.int p4), .val (.int yC), .val (.int yL), .val (.int vS), .val (.int yP), .val (.int yQ), .val (.ref bb), .val (.int yK), .val (.int vO), .val (.int yM), s13, s14, .val (.int yT)] [])) _
        refine XS.iconst X0.here hx rfl (hb hby at_506) ?_
        show Steps p.tables e below (T0.setTop (mkF m 507 #[.val (.int p1), .val (.int p2), .val (.int p3), .val (.int p4), .val (.int yC), .val (.int yL), .val (.int vS), .val (.int yP), .val (.int yQ), .val (.ref bb), .val (.int yK), .val (.int vO), .val (.int yM), s13, s14, .val (.int yT)] [(.int (1 : Int32))])) _
        refine XS.iload X0.here hx rfl (hb hby at_507) rfl ?_
        show Steps p.tables e below (T0.setTop (mkF m 509 #[.val (.int p1), .val (.int p2), .val (.int p3), .val (.int p4), .val (.int yC), .val (.int yL), .val (.int vS), .val (.int yP), .val (.int yQ), .val (.ref bb), .val (.int yK), .val (.int vO), .val (.int yM), s13, s14, .val (.int yT)] [(.int yT), (.int (1 : Int32))])) _
        refine XS.iadd X0.here hx rfl (hb hby at_509) rfl ?_
        show Steps p.tables e below (T0.setTop (mkF m 510 #[.val (.int p1), .val (.int p2), .val (.int p3), .val (.int p4), .val (.int yC), .val (.int yL), .val (.int vS), .val (.int yP), .val (.int yQ), .val (.ref bb), .val (.int yK), .val (.int vO), .val (.int yM), s13, s14, .val (.int yT)] [(.int ((1 : Int32) + yT))])) _
        refine XS.istoreS X0.here hx rfl (hb hby at_510) rfl rfl hs13 ?_
        show Steps p.tables e below (T0.setTop (mkF m 512 #[.val (.int p1), .val (.int p2), .val (.int p3), .val (.int p4), .val (.int yC), .val (.int yL), .val (.int vS), .val (.int yP), .val (.int yQ), .val (.ref bb), .val (.int yK), .val (.int vO), .val (.int yM), .val (.int ((1 : Int32) + yT)), s14, .val (.int yT)] [])) _
        refine XS.iload X0.here hx rfl (hb hby at_512) rfl ?_
        exact kont
      obtain ⟨v1450, hv1450, st1451⟩ : ∃ (v1450 : Int32), v1450 = (if yT = (0 : Int32) then (1 : Int32) else (0 : Int32)) ∧ ∀ t, Steps p.tables e below (T0.setTop (mkF m 522 #[.val (.int p1), .val (.int p2), .val (.int p3), .val (.int p4), .val (.int yC), .val (.int yL), .val (.int vS), .val (.int yP), .val (.int yQ), .val (.ref bb), .val (.int yK), .val (.int vO), .val (.int yM), .val (.int ((1 : Int32) + yT)), s14, .val (.int yT)] [(.int v1450)])) t → Steps p.tables e below (T0.setTop (mkF m 514 #[.val (.int p1), .val (.int p2), .val (.int p3), .val (.int p4), .val (.int yC), .val (.int yL), .val (.int vS), .val (.int yP), .val (.int yQ), .val (.ref bb), .val (.int yK), .val (.int vO), .val (.int yM), .val (.int ((1 : Int32) + yT)), s14, .val (.int yT)] [(.int yT)])) t := by
        by_cases hc514_4 : yT = (0 : Int32)
        · refine ⟨(1 : Int32), (by simp only [if_pos hc514_4]), fun tt kont => ?_⟩
          show Steps p.tables e below (T0.setTop (mkF m 514 #[.val (.int p1), .val (.int p2), .val (.int p3), .val (.int p4), .val (.int yC), .val (.int yL), .val (.int vS), .val (.int yP), .val (.int yQ), .val (.ref bb), .val (.int yK), .val (.int vO), .val (.int yM), .val (.int ((1 : Int32) + yT)), s14, .val (.int yT)] [(.int yT)])) _
          refine XS.ifNo X0.here hx rfl (hb hby at_514) rfl ((if0 _ _).trans (teq hc514_4).2) ?_
          show Steps p.tables e below (T0.setTop (mkF m 517 #[.val (.int p1), .val (.int p2), .val (.int p3), .val (.int p4), .val (.int yC), .val (.int yL), .val (.int vS), .val (.int yP), .val (.int yQ), .val (.ref bb), .val (.int yK), .val (.int vO), .val (.int yM), .val (.int ((1 : Int32) + yT)), s14, .val (.int yT)] [])) _
          refine XS.iconst X0.here hx rfl (hb hby at_517) ?_
          show Steps p.tables e below (T0.setTop (mkF m 518 #[.val (.int p1), .val (.int p2), .val (.int p3), .val (.int p4), .val (.int yC), .val (.int yL), .val (.int vS), .val (.int yP), .val (.int yQ), .val (.ref bb), .val (.int yK), .val (.int vO), .val (.int yM), .val (.int ((1 : Int32) + yT)), s14, .val (.int yT)] [(.int (1 : Int32))])) _
          refine XS.goto X0.here hx rfl (pc0 := 518) (pc' := 522) rfl (hb hby at_518) (by decide) (by decide) ?_
          exact kont
        · refine ⟨(0 : Int32), (by simp only [if_neg hc514_4]), fun tt kont => ?_⟩
          show Steps p.tables e below (T0.setTop (mkF m 514 #[.val (.int p1), .val (.int p2), .val (.int p3), .val (.int p4), .val (.int yC), .val (.int yL), .val (.int vS), .val (.int yP), .val (.int yQ), .val (.ref bb), .val (.int yK), .val (.int vO), .val (.int yM), .val (.int ((1 : Int32) + yT)), s14, .val (.int yT)] [(.int yT)])) _
          refine XS.ifYes X0.here hx rfl (pc0 := 514) (pc' := 521) rfl (hb hby at_514) rfl ((if0 _ _).trans (feq hc514_4).2) (by decide) (by decide) ?_
          show Steps p.tables e below (T0.setTop (mkF m 521 #[.val (.int p1), .val (.int p2), .val (.int p3), .val (.int p4), .val (.int yC), .val (.int yL), .val (.int vS), .val (.int yP), .val (.int yQ), .val (.ref bb), .val (.int yK), .val (.int vO), .val (.int yM), .val (.int ((1 : Int32) + yT)), s14, .val (.int yT)] [])) _
          refine XS.iconst X0.here hx rfl (hb hby at_521) ?_
          exact kont
      refine own_step st1451 ?_
      refine own_step (T' := T0) (f' := (mkF m 524 #[.val (.int p1), .val (.int p2), .val (.int p3), .val (.int p4), .val (.int yC), .val (.int yL), .val (.int vS), .val (.int yP), .val (.int yQ), .val (.ref bb), .val (.int yK), .val (.int vO), .val (.int yM), .val (.int ((1 : Int32) + yT)), .val (.int v1450), .val (.int yT)] [])) (fun tt kont => ?_) ?_
      · show Steps p.tables e below (T0.setTop (mkF m 522 #[.val (.int p1), .val (.int p2), .val (.int p3), .val (.int p4), .val (.int yC), .val (.int yL), .val (.int vS), .val (.int yP), .val (.int yQ), .val (.ref bb), .val (.int yK), .val (.int vO), .val (.int yM), .val (.int ((1 : Int32) + yT)), s14, .val (.int yT)] [(.int v1450)])) _
        refine XS.istoreS X0.here hx rfl (hb hby at_522) rfl rfl hs14 ?_
        exact kont
      refine own_step (T' := T0) (f' := (mkF m 530 #[.val (.int p1), .val (.int p2), .val (.int p3), .val (.int p4), .val (.int yC), .val (.int yL), .val (.int vS), .val (.int yP), .val (.int yQ), .val (.ref bb), .val (.int yK), .val (.int vO), .val (.int yM), .val (.int ((1 : Int32) + yT)), .val (.int v1450), .val (.int yT)] [(.int ((1 : Int32) + yT)), (.int vS), (.ref bb)])) (fun tt kont => ?_) ?_
      · show Steps p.tables e below (T0.setTop (mkF m 524 #[.val (.int p1), .val (.int p2), .val (.int p3), .val (.int p4), .val (.int yC), .val (.int yL), .val (.int vS), .val (.int yP), .val (.int yQ), .val (.ref bb), .val (.int yK), .val (.int vO), .val (.int yM), .val (.int ((1 : Int32) + yT)), .val (.int v1450), .val (.int yT)] [])) _
        refine XS.aload X0.here hx rfl (hb hby at_524) rfl rfl ?_
        show Steps p.tables e below (T0.setTop (mkF m 526 #[.val (.int p1), .val (.int p2), .val (.int p3), .val (.int p4), .val (.int yC), .val (.int yL), .val (.int vS), .val (.int yP), .val (.int yQ), .val (.ref bb), .val (.int yK), .val (.int vO), .val (.int yM), .val (.int ((1 : Int32) + yT)), .val (.int v1450), .val (.int yT)] [(.ref bb)])) _
        refine XS.iload X0.here hx rfl (hb hby at_526) rfl ?_
        show Steps p.tables e below (T0.setTop (mkF m 528 #[.val (.int p1), .val (.int p2), .val (.int p3), .val (.int p4), .val (.int yC), .val (.int yL), .val (.int vS), .val (.int yP), .val (.int yQ), .val (.ref bb), .val (.int yK), .val (.int vO), .val (.int yM), .val (.int ((1 : Int32) + yT)), .val (.int v1450), .val (.int yT)] [(.int vS), (.ref bb)])) _
        refine XS.iload X0.here hx rfl (hb hby at_528) rfl ?_
        exact kont
      obtain ⟨_, _, ⟨T1452, L1452, k1452, n1452⟩, -, X1452, ⟨Lc1452, hQ1452, l1452, y1452, z1452⟩, st1452⟩ := Jvm.LawKit.callS X0 hx (y := (⟨"com/example/tallymark/tallymark/model/EstateFileReader", "isUtf8", "([BII)Z"⟩ : MethodName)) hown (mvT hZ (hw _ (List.mem_of_getElem? (i := 13) rfl))) (mvT hZ (hw _ (List.mem_of_getElem? (i := 14) rfl))) (mvT hZ (hw _ (List.mem_of_getElem? (i := 15) rfl))) (mvT hZ (hw _ (List.mem_of_getElem? (i := 16) rfl))) (by decide) (backOf (W := 0) (own_rmU l Z a0 hw bb vS ((1 : Int32) + yT) nS (1 + t) F h0 n0 VA hnS (own_at_plus (own_at_lit rfl (by decide) : own_at (1 : Int32) 1) ht (by omega)) (by omega)) hZ (hw _ (List.mem_of_getElem? (i := 16) rfl)) (hw _ (List.mem_of_getElem? (i := 15) rfl)) (by decide) (by decide)) (g := (mkF m 530 #[.val (.int p1), .val (.int p2), .val (.int p3), .val (.int p4), .val (.int yC), .val (.int yL), .val (.int vS), .val (.int yP), .val (.int yQ), .val (.ref bb), .val (.int yK), .val (.int vO), .val (.int yM), .val (.int ((1 : Int32) + yT)), .val (.int v1450), .val (.int yT)] [(.int ((1 : Int32) + yT)), (.int vS), (.ref bb)])) rfl (by rw [hml]; rfl) (argsL := [(.ref bb), (.int vS), (.int ((1 : Int32) + yT))]) (rest := []) (lenOf own_pd1 rfl) rfl (by show 2 * 0 + _ ≤ _; exact Nat.le_of_eq rfl) (hb hby at_530) (fun _ _ => ⟨rfl, e0, (by decide : 1 + 0 ≤ _), (by decide : 6 + 0 ≤ _)⟩)
      dsimp only [Pt.U, Pt.locs, Pt.cells, Pt.slots] at X1452 l1452 y1452 z1452 st1452 hQ1452
      subst l1452 y1452 z1452
      obtain ⟨rfl, N1452q, e1452⟩ := hQ1452
      have N1452 := Fr.app N0 N1452q
      refine own_step (fun tt kont => st1452 _ kont) ?_
      refine own_step (T' := T1452) (f' := (mkF m 535 #[.val (.int p1), .val (.int p2), .val (.int p3), .val (.int p4), .val (.int yC), .val (.int yL), .val (.int vS), .val (.int yP), .val (.int yQ), .val (.ref bb), .val (.int yK), .val (.int vO), .val (.int yM), .val (.int ((1 : Int32) + yT)), .val (.int v1450), .val (.int yT)] [(.int v1450), (.int (own_ut F (1 + t) 6 nS))])) (fun tt kont => ?_) ?_
      · show Steps p.tables e below (T1452.setTop (mkF m 533 #[.val (.int p1), .val (.int p2), .val (.int p3), .val (.int p4), .val (.int yC), .val (.int yL), .val (.int vS), .val (.int yP), .val (.int yQ), .val (.ref bb), .val (.int yK), .val (.int vO), .val (.int yM), .val (.int ((1 : Int32) + yT)), .val (.int v1450), .val (.int yT)] [(.int (own_ut F (1 + t) 6 nS))])) _
        refine XS.iload X1452.here hx rfl (hb hby at_533) rfl ?_
        exact kont
      have hk : (own_ut F (1 + t) 6 nS) = v1450 := own_endC hS' htr ht htL hv1450
      refine own_step (T' := T1452) (f' := (mkF m 543 #[.val (.int p1), .val (.int p2), .val (.int p3), .val (.int p4), .val (.int yC), .val (.int yL), .val (.int vS), .val (.int yP), .val (.int yQ), .val (.ref bb), .val (.int yK), .val (.int vO), .val (.int yM), .val (.int ((1 : Int32) + yT)), .val (.int v1450), .val (.int yT)] [(.int (1 : Int32))])) (fun tt kont => ?_) ?_
      · show Steps p.tables e below (T1452.setTop (mkF m 535 #[.val (.int p1), .val (.int p2), .val (.int p3), .val (.int p4), .val (.int yC), .val (.int yL), .val (.int vS), .val (.int yP), .val (.int yQ), .val (.ref bb), .val (.int yK), .val (.int vO), .val (.int yM), .val (.int ((1 : Int32) + yT)), .val (.int v1450), .val (.int yT)] [(.int v1450), (.int (own_ut F (1 + t) 6 nS))])) _
        refine XS.icmpNo X1452.here hx rfl (hb hby at_535) rfl (teq hk).2 ?_
        show Steps p.tables e below (T1452.setTop (mkF m 538 #[.val (.int p1), .val (.int p2), .val (.int p3), .val (.int p4), .val (.int yC), .val (.int yL), .val (.int vS), .val (.int yP), .val (.int yQ), .val (.ref bb), .val (.int yK), .val (.int vO), .val (.int yM), .val (.int ((1 : Int32) + yT)), .val (.int v1450), .val (.int yT)] [])) _
        refine XS.iconst X1452.here hx rfl (hb hby at_538) ?_
        show Steps p.tables e below (T1452.setTop (mkF m 539 #[.val (.int p1), .val (.int p2), .val (.int p3), .val (.int p4), .val (.int yC), .val (.int yL), .val (.int vS), .val (.int yP), .val (.int yQ), .val (.ref bb), .val (.int yK), .val (.int vO), .val (.int yM), .val (.int ((1 : Int32) + yT)), .val (.int v1450), .val (.int yT)] [(.int (1 : Int32))])) _
        refine XS.goto X1452.here hx rfl (pc0 := 539) (pc' := 543) rfl (hb hby at_539) (by decide) (by decide) ?_
        exact kont
      exact own_retZ X1452 hx hret hlk (hb hby at_543) (by decide) (by decide) ⟨rfl, N1452⟩
theorem own_pd2 : parseMethodDescriptor "(II)Z" = some ⟨[.int, .int], some .boolean⟩ := by decide +kernel
set_option maxRecDepth 65536 in
set_option maxHeartbeats 40000000 in
theorem own_s268 {p : Program} {l : Launch} {e : Env} {s : State} {m : MethodId} {args : Array Value} {below : List Frame} {meth : Method} {c : Code} {T0 : State} {locs : List Loc} {Z : State} {a0 : Array Value} {h0 : Heap} {n0 : Nat} {p1 p2 p3 p4 yC yL vS yP yQ : Int32} {bb : Addr} {F : Nat → Int32} {L : Nat}  (X0 : Stand p l e room_1 s m args below meth c T0 locs 1 6) (hx : p.tables.exec = Jvm.exec) (hZ : Z.Warmed39 s.vm) (hw : ∀ d ∈ tables_1, d.before a0 Z = true) (hby : c.code = code) (hret : meth.sig.returnType = some .boolean) (hlk : meth.locks = false) (hml : c.maxLocals = 16) (hown : s.vm.findClass "com/example/tallymark/tallymark/model/EstateFileReaderIsUtf8PinLaw" = some m.cls) (e0 : T0.heap = h0) (N0 : Fr n0 locs) (Z0 : n0 ≤ h0.size) (gb : n0 ≤ bb) (VA : own_A Z h0 bb .byte 6 (fun k => .int (F k))) (hL : own_at yL L) (hL1 : 1 ≤ L) (hL4 : L ≤ 4) (hS : (vS = (0 : Int32) ∧ 0 ≤ (F 0).toInt ∧ (F 0).toInt < 128) ∨ vS = (1 : Int32)) (hQ : 0 ≤ yQ.toInt ∧ yQ.toInt < 128) (hC : 0 ≤ yC.toInt) (henc : own_enc L yC.toInt (own_u F 1)) :
    own_Go p e below T0 (mkF m 268 #[.val (.int p1), .val (.int p2), .val (.int p3), .val (.int p4), .val (.int yC), .val (.int yL), .val (.int vS), .val (.int yP), .val (.int yQ), .val (.ref bb), .unset, .unset, .unset, .unset, .unset, .unset] []) (fun o U' => ∃ v L, o = .returned v ∧ own_QL n0 v U'.heap L ∧ FrameEnd s o U' L 16 128) := by
  refine own_step (T' := T0) (f' := (mkF m 271 #[.val (.int p1), .val (.int p2), .val (.int p3), .val (.int p4), .val (.int yC), .val (.int yL), .val (.int vS), .val (.int yP), .val (.int yQ), .val (.ref bb), .unset, .unset, .unset, .unset, .unset, .unset] [(.int (p3 &&& (3 : Int32)))])) (fun tt kont => ?_) ?_
  · show Steps p.tables e below (T0.setTop (mkF m 268 #[.val (.int p1), .val (.int p2), .val (.int p3), .val (.int p4), .val (.int yC), .val (.int yL), .val (.int vS), .val (.int yP), .val (.int yQ), .val (.ref bb), .unset, .unset, .unset, .unset, .unset, .unset] [])) _
    refine XS.iloadN X0.here hx rfl (hb hby at_268) rfl ?_
    show Steps p.tables e below (T0.setTop (mkF m 269 #[.val (.int p1), .val (.int p2), .val (.int p3), .val (.int p4), .val (.int yC), .val (.int yL), .val (.int vS), .val (.int yP), .val (.int yQ), .val (.ref bb), .unset, .unset, .unset, .unset, .unset, .unset] [(.int p3)])) _
    refine XS.iconst X0.here hx rfl (hb hby at_269) ?_
    show Steps p.tables e below (T0.setTop (mkF m 270 #[.val (.int p1), .val (.int p2), .val (.int p3), .val (.int p4), .val (.int yC), .val (.int yL), .val (.int vS), .val (.int yP), .val (.int yQ), .val (.ref bb), .unset, .unset, .unset, .unset, .unset, .unset] [(.int (3 : Int32)), (.int p3)])) _
    refine XS.iand X0.here hx rfl (hb hby at_270) rfl ?_
    exact kont
  show own_Go p e below T0 (mkF m 271 #[.val (.int p1), .val (.int p2), .val (.int p3), .val (.int p4), .val (.int yC), .val (.int yL), .val (.int vS), .val (.int yP), .val (.int yQ), .val (.ref bb), .unset, .unset, .unset, .unset, .unset, .unset] [(.int (p3 &&& (3 : Int32)))]) _
  obtain ⟨yK, hyK⟩ : ∃ z : Int32, z = (p3 &&& (3 : Int32)) := ⟨_, rfl⟩
  rw [← hyK]
  refine own_step (T' := T0) (f' := (mkF m 277 #[.val (.int p1), .val (.int p2), .val (.int p3), .val (.int p4), .val (.int yC), .val (.int yL), .val (.int vS), .val (.int yP), .val (.int yQ), .val (.ref bb), .val (.int yK), .unset, .unset, .unset, .unset, .unset] [(.int yL), (.int yC)])) (fun tt kont => ?_) ?_
  · show Steps p.tables e below (T0.setTop (mkF m 271 #[.val (.int p1), .val (.int p2), .val (.int p3), .val (.int p4), .val (.int yC), .val (.int yL), .val (.int vS), .val (.int yP), .val (.int yQ), .val (.ref bb), .unset, .unset, .unset, .unset, .unset, .unset] [(.int yK)])) _
    refine XS.istore X0.here hx rfl (hb hby at_271) rfl (l' := #[.val (.int p1), .val (.int p2), .val (.int p3), .val (.int p4), .val (.int yC), .val (.int yL), .val (.int vS), .val (.int yP), .val (.int yQ), .val (.ref bb), .val (.int yK), .unset, .unset, .unset, .unset, .unset]) rfl ?_
    show Steps p.tables e below (T0.setTop (mkF m 273 #[.val (.int p1), .val (.int p2), .val (.int p3), .val (.int p4), .val (.int yC), .val (.int yL), .val (.int vS), .val (.int yP), .val (.int yQ), .val (.ref bb), .val (.int yK), .unset, .unset, .unset, .unset, .unset] [])) _
    refine XS.iload X0.here hx rfl (hb hby at_273) rfl ?_
    show Steps p.tables e below (T0.setTop (mkF m 275 #[.val (.int p1), .val (.int p2), .val (.int p3), .val (.int p4), .val (.int yC), .val (.int yL), .val (.int vS), .val (.int yP), .val (.int yQ), .val (.ref bb), .val (.int yK), .unset, .unset, .unset, .unset, .unset] [(.int yC)])) _
    refine XS.iload X0.here hx rfl (hb hby at_275) rfl ?_
    exact kont
  obtain ⟨_, _, ⟨T1269, L1269, k1269, n1269⟩, -, X1269, ⟨Lc1269, hQ1269, l1269, y1269, z1269⟩, st1269⟩ := Jvm.LawKit.callS X0 hx (y := (⟨"com/example/tallymark/tallymark/model/EstateFileReaderIsUtf8PinLaw", "valid", "(II)Z"⟩ : MethodName)) hown (mvT hZ (hw _ (List.mem_of_getElem? (i := 10) rfl))) (mvT hZ (hw _ (List.mem_of_getElem? (i := 11) rfl))) (mvT hZ (hw _ (List.mem_of_getElem? (i := 3) rfl))) (mvT hZ (hw _ (List.mem_of_getElem? (i := 12) rfl))) (by decide) (backOf (W := 0) (own_rmV l Z a0 hw yC yL h0 n0) hZ (hw _ (List.mem_of_getElem? (i := 12) rfl)) (hw _ (List.mem_of_getElem? (i := 3) rfl)) (by decide) (by decide)) (g := (mkF m 277 #[.val (.int p1), .val (.int p2), .val (.int p3), .val (.int p4), .val (.int yC), .val (.int yL), .val (.int vS), .val (.int yP), .val (.int yQ), .val (.ref bb), .val (.int yK), .unset, .unset, .unset, .unset, .unset] [(.int yL), (.int yC)])) rfl (by rw [hml]; rfl) (argsL := [(.int yC), (.int yL)]) (rest := []) (lenOf own_pd2 rfl) rfl (by show 2 * 0 + _ ≤ _; exact Nat.le_of_eq rfl) (hb hby at_277) (fun _ _ => ⟨rfl, e0, (by decide : 1 + 0 ≤ _), (by decide : 6 + 0 ≤ _)⟩)
  dsimp only [Pt.U, Pt.locs, Pt.cells, Pt.slots] at X1269 l1269 y1269 z1269 st1269 hQ1269
  subst l1269 y1269 z1269
  obtain ⟨rfl, N1269q, e1269⟩ := hQ1269
  have N1269 := Fr.app N0 N1269q
  refine own_step (fun tt kont => st1269 _ kont) ?_
  refine own_step (T' := T1269) (f' := (mkF m 285 #[.val (.int p1), .val (.int p2), .val (.int p3), .val (.int p4), .val (.int yC), .val (.int yL), .val (.int vS), .val (.int yP), .val (.int yQ), .val (.ref bb), .val (.int yK), .val (.int (own_fV yC yL)), .unset, .unset, .unset, .unset] [(.int (1 : Int32)), (.int yK)])) (fun tt kont => ?_) ?_
  · show Steps p.tables e below (T1269.setTop (mkF m 280 #[.val (.int p1), .val (.int p2), .val (.int p3), .val (.int p4), .val (.int yC), .val (.int yL), .val (.int vS), .val (.int yP), .val (.int yQ), .val (.ref bb), .val (.int yK), .unset, .unset, .unset, .unset, .unset] [(.int (own_fV yC yL))])) _
    refine XS.istore X1269.here hx rfl (hb hby at_280) rfl (l' := #[.val (.int p1), .val (.int p2), .val (.int p3), .val (.int p4), .val (.int yC), .val (.int yL), .val (.int vS), .val (.int yP), .val (.int yQ), .val (.ref bb), .val (.int yK), .val (.int (own_fV yC yL)), .unset, .unset, .unset, .unset]) rfl ?_
    show Steps p.tables e below (T1269.setTop (mkF m 282 #[.val (.int p1), .val (.int p2), .val (.int p3), .val (.int p4), .val (.int yC), .val (.int yL), .val (.int vS), .val (.int yP), .val (.int yQ), .val (.ref bb), .val (.int yK), .val (.int (own_fV yC yL)), .unset, .unset, .unset, .unset] [])) _
    refine XS.iload X1269.here hx rfl (hb hby at_282) rfl ?_
    show Steps p.tables e below (T1269.setTop (mkF m 284 #[.val (.int p1), .val (.int p2), .val (.int p3), .val (.int p4), .val (.int yC), .val (.int yL), .val (.int vS), .val (.int yP), .val (.int yQ), .val (.ref bb), .val (.int yK), .val (.int (own_fV yC yL)), .unset, .unset, .unset, .unset] [(.int yK)])) _
    refine XS.iconst X1269.here hx rfl (hb hby at_284) ?_
    exact kont
  by_cases hc285_1 : yK = (1 : Int32)
  · refine own_step (T' := T1269) (f' := (mkF m 288 #[.val (.int p1), .val (.int p2), .val (.int p3), .val (.int p4), .val (.int yC), .val (.int yL), .val (.int vS), .val (.int yP), .val (.int yQ), .val (.ref bb), .val (.int yK), .val (.int (own_fV yC yL)), .unset, .unset, .unset, .unset] [])) (fun tt kont => ?_) ?_
    · show Steps p.tables e below (T1269.setTop (mkF m 285 #[.val (.int p1), .val (.int p2), .val (.int p3), .val (.int p4), .val (.int yC), .val (.int yL), .val (.int vS), .val (.int yP), .val (.int yQ), .val (.ref bb), .val (.int yK), .val (.int (own_fV yC yL)), .unset, .unset, .unset, .unset] [(.int (1 : Int32)), (.int yK)])) _
      refine XS.icmpNo X1269.here hx rfl (hb hby at_285) rfl (teq hc285_1).2 ?_
      exact kont
    refine own_step (T' := T1269) (f' := (mkF m 295 #[.val (.int p1), .val (.int p2), .val (.int p3), .val (.int p4), .val (.int yC), .val (.int yL), .val (.int vS), .val (.int yP), .val (.int yQ), .val (.ref bb), .val (.int yK), .val (.int (own_fV yC yL)), .unset, .unset, .unset, .unset] [(.int (((p3.toUInt32 >>> ((8 : Int32) &&& 31).toUInt32).toInt32) &&& (127 : Int32)))])) (fun tt kont => ?_) ?_
    · show Steps p.tables e below (T1269.setTop (mkF m 288 #[.val (.int p1), .val (.int p2), .val (.int p3), .val (.int p4), .val (.int yC), .val (.int yL), .val (.int vS), .val (.int yP), .val (.int yQ), .val (.ref bb), .val (.int yK), .val (.int (own_fV yC yL)), .unset, .unset, .unset, .unset] [])) _
      refine XS.iloadN X1269.here hx rfl (hb hby at_288) rfl ?_
      show Steps p.tables e below (T1269.setTop (mkF m 289 #[.val (.int p1), .val (.int p2), .val (.int p3), .val (.int p4), .val (.int yC), .val (.int yL), .val (.int vS), .val (.int yP), .val (.int yQ), .val (.ref bb), .val (.int yK), .val (.int (own_fV yC yL)), .unset, .unset, .unset, .unset] [(.int p3)])) _
      refine XS.bipush X1269.here hx rfl (hb hby at_289) ?_
      show Steps p.tables e below (T1269.setTop (mkF m 291 #[.val (.int p1), .val (.int p2), .val (.int p3), .val (.int p4), .val (.int yC), .val (.int yL), .val (.int vS), .val (.int yP), .val (.int yQ), .val (.ref bb), .val (.int yK), .val (.int (own_fV yC yL)), .unset, .unset, .unset, .unset] [(.int (8 : Int32)), (.int p3)])) _
      refine XS.iushr X1269.here hx rfl (hb hby at_291) rfl ?_
      show Steps p.tables e below (T1269.setTop (mkF m 292 #[.val (.int p1), .val (.int p2), .val (.int p3), .val (.int p4), .val (.int yC), .val (.int yL), .val (.int vS), .val (.int yP), .val (.int yQ), .val (.ref bb), .val (.int yK), .val (.int (own_fV yC yL)), .unset, .unset, .unset, .unset] [(.int ((p3.toUInt32 >>> ((8 : Int32) &&& 31).toUInt32).toInt32))])) _
      refine XS.bipush X1269.here hx rfl (hb hby at_292) ?_
      show Steps p.tables e below (T1269.setTop (mkF m 294 #[.val (.int p1), .val (.int p2), .val (.int p3), .val (.int p4), .val (.int yC), .val (.int yL), .val (.int vS), .val (.int yP), .val (.int yQ), .val (.ref bb), .val (.int yK), .val (.int (own_fV yC yL)), .unset, .unset, .unset, .unset] [(.int (127 : Int32)), (.int ((p3.toUInt32 >>> ((8 : Int32) &&& 31).toUInt32).toInt32))])) _
      refine XS.iand X1269.here hx rfl (hb hby at_294) rfl ?_
      exact kont
    show own_Go p e below T1269 (mkF m 295 #[.val (.int p1), .val (.int p2), .val (.int p3), .val (.int p4), .val (.int yC), .val (.int yL), .val (.int vS), .val (.int yP), .val (.int yQ), .val (.ref bb), .val (.int yK), .val (.int (own_fV yC yL)), .unset, .unset, .unset, .unset] [(.int (((p3.toUInt32 >>> ((8 : Int32) &&& 31).toUInt32).toInt32) &&& (127 : Int32)))]) _
    obtain ⟨yY, hyY⟩ : ∃ z : Int32, z = (((p3.toUInt32 >>> ((8 : Int32) &&& 31).toUInt32).toInt32) &&& (127 : Int32)) := ⟨_, rfl⟩
    rw [← hyY]
    refine own_step (T' := T1269) (f' := (mkF m 297 #[.val (.int p1), .val (.int p2), .val (.int p3), .val (.int p4), .val (.int yC), .val (.int yL), .val (.int vS), .val (.int yP), .val (.int yQ), .val (.ref bb), .val (.int yK), .val (.int (own_fV yC yL)), .val (.int yY), .unset, .unset, .unset] [])) (fun tt kont => ?_) ?_
    · show Steps p.tables e below (T1269.setTop (mkF m 295 #[.val (.int p1), .val (.int p2), .val (.int p3), .val (.int p4), .val (.int yC), .val (.int yL), .val (.int vS), .val (.int yP), .val (.int yQ), .val (.ref bb), .val (.int yK), .val (.int (own_fV yC yL)), .unset, .unset, .unset, .unset] [(.int yY)])) _
      refine XS.istore X1269.here hx rfl (hb hby at_295) rfl (l' := #[.val (.int p1), .val (.int p2), .val (.int p3), .val (.int p4), .val (.int yC), .val (.int yL), .val (.int vS), .val (.int yP), .val (.int yQ), .val (.ref bb), .val (.int yK), .val (.int (own_fV yC yL)), .val (.int yY), .unset, .unset, .unset]) rfl ?_
      exact kont
    have hYy := own_Y hyY
    refine own_step (T' := T1269) (f' := (mkF m 301 #[.val (.int p1), .val (.int p2), .val (.int p3), .val (.int p4), .val (.int yC), .val (.int yL), .val (.int vS), .val (.int yP), .val (.int yQ), .val (.ref bb), .val (.int yK), .val (.int (own_fV yC yL)), .val (.int yY), .unset, .unset, .unset] [(.int (64 : Int32)), (.int yY)])) (fun tt kont => ?_) ?_
    · show Steps p.tables e below (T1269.setTop (mkF m 297 #[.val (.int p1), .val (.int p2), .val (.int p3), .val (.int p4), .val (.int yC), .val (.int yL), .val (.int vS), .val (.int yP), .val (.int yQ), .val (.ref bb), .val (.int yK), .val (.int (own_fV yC yL)), .val (.int yY), .unset, .unset, .unset] [])) _
      refine XS.iload X1269.here hx rfl (hb hby at_297) rfl ?_
      show Steps p.tables e below (T1269.setTop (mkF m 299 #[.val (.int p1), .val (.int p2), .val (.int p3), .val (.int p4), .val (.int yC), .val (.int yL), .val (.int vS), .val (.int yP), .val (.int yQ), .val (.ref bb), .val (.int yK), .val (.int (own_fV yC yL)), .val (.int yY), .unset, .unset, .unset] [(.int yY)])) _
      refine XS.bipush X1269.here hx rfl (hb hby at_299) ?_
      exact kont
    obtain ⟨v1270, hv1270, st1271⟩ : ∃ (v1270 : Int32), v1270 = (if yY < (64 : Int32) then ((128 : Int32) + yY) else ((248 : Int32) + (yY &&& (7 : Int32)))) ∧ ∀ t, Steps p.tables e below (T1269.setTop (mkF m 322 #[.val (.int p1), .val (.int p2), .val (.int p3), .val (.int p4), .val (.int yC), .val (.int yL), .val (.int vS), .val (.int yP), .val (.int yQ), .val (.ref bb), .val (.int yK), .val (.int (own_fV yC yL)), .val (.int yY), .unset, .unset, .unset] [(.int v1270)])) t → Steps p.tables e below (T1269.setTop (mkF m 301 #[.val (.int p1), .val (.int p2), .val (.int p3), .val (.int p4), .val (.int yC), .val (.int yL), .val (.int vS), .val (.int yP), .val (.int yQ), .val (.ref bb), .val (.int yK), .val (.int (own_fV yC yL)), .val (.int yY), .unset, .unset, .unset] [(.int (64 : Int32)), (.int yY)])) t := by
      by_cases hc301_3 : yY < (64 : Int32)
      · refine ⟨((128 : Int32) + yY), (by simp only [if_pos hc301_3]), fun tt kont => ?_⟩
        show Steps p.tables e below (T1269.setTop (mkF m 301 #[.val (.int p1), .val (.int p2), .val (.int p3), .val (.int p4), .val (.int yC), .val (.int yL), .val (.int vS), .val (.int yP), .val (.int yQ), .val (.ref bb), .val (.int yK), .val (.int (own_fV yC yL)), .val (.int yY), .unset, .unset, .unset] [(.int (64 : Int32)), (.int yY)])) _
        refine XS.icmpNo X1269.here hx rfl (hb hby at_301) rfl (tlt hc301_3).2.1 ?_
        show Steps p.tables e below (T1269.setTop (mkF m 304 #[.val (.int p1), .val (.int p2), .val (.int p3), .val (.int p4), .val (.int yC), .val (.int yL), .val (.int vS), .val (.int yP), .val (.int yQ), .val (.ref bb), .val (.int yK), .val (.int (own_fV yC yL)), .val (.int yY), .unset, .unset, .unset] [])) _
        refine XS.sipush X1269.here hx rfl (hb hby at_304) ?_
        show Steps p.tables e below (T1269.setTop (mkF m 307 #[.val (.int p1), .val (.int p2), .val (.int p3), .val (.int p4), .val (.int yC), .val (.int yL), .val (.int vS), .val (.int yP), .val (.int yQ), .val (.ref bb), .val (.int yK), .val (.int (own_fV yC yL)), .val (.int yY), .unset, .unset, .unset] [(.int (128 : Int32))])) _
        refine XS.iload X1269.here hx rfl (hb hby at_307) rfl ?_
        show Steps p.tables e below (T1269.setTop (mkF m 309 #[.val (.int p1), .val (.int p2), .val (.int p3), .val (.int p4), .val (.int yC), .val (.int yL), .val (.int vS), .val (.int yP), .val (.int yQ), .val (.ref bb), .val (.int yK), .val (.int (own_fV yC yL)), .val (.int yY), .unset, .unset, .unset] [(.int yY), (.int (128 : Int32))])) _
        refine XS.iadd X1269.here hx rfl (hb hby at_309) rfl ?_
        show Steps p.tables e below (T1269.setTop (mkF m 310 #[.val (.int p1), .val (.int p2), .val (.int p3), .val (.int p4), .val (.int yC), .val (.int yL), .val (.int vS), .val (.int yP), .val (.int yQ), .val (.ref bb), .val (.int yK), .val (.int (own_fV yC yL)), .val (.int yY), .unset, .unset, .unset] [(.int ((128 : Int32) + yY))])) _
        refine XS.goto X1269.here hx rfl (pc0 := 310) (pc' := 322) rfl (hb hby at_310) (by decide) (by decide) ?_
        exact kont
      · refine ⟨((248 : Int32) + (yY &&& (7 : Int32))), (by simp only [if_neg hc301_3]), fun tt kont => ?_⟩
        show Steps p.tables e below (T1269.setTop (mkF m 301 #[.val (.int p1), .val (.int p2), .val (.int p3), .val (.int p4), .val (.int yC), .val (.int yL), .val (.int vS), .val (.int yP), .val (.int yQ), .val (.ref bb), .val (.int yK), .val (.int (own_fV yC yL)), .val (.int yY), .unset, .unset, .unset] [(.int (64 : Int32)), (.int yY)])) _
        refine XS.icmpYes X1269.here hx rfl (pc0 := 301) (pc' := 313) rfl (hb hby at_301) rfl (flt hc301_3).2.1 (by decide) (by decide) ?_
        show Steps p.tables e below (T1269.setTop (mkF m 313 #[.val (.int p1), .val (.int p2), .val (.int p3), .val (.int p4), .val (.int yC), .val (.int yL), .val (.int vS), .val (.int yP), .val (.int yQ), .val (.ref bb), .val (.int yK), .val (.int (own_fV yC yL)), .val (.int yY), .unset, .unset, .unset] [])) _
        refine XS.sipush X1269.here hx rfl (hb hby at_313) ?_
        show Steps p.tables e below (T1269.setTop (mkF m 316 #[.val (.int p1), .val (.int p2), .val (.int p3), .val (.int p4), .val (.int yC), .val (.int yL), .val (.int vS), .val (.int yP), .val (.int yQ), .val (.ref bb), .val (.int yK), .val (.int (own_fV yC yL)), .val (.int yY), .unset, .unset, .unset] [(.int (248 : Int32))])) _
        refine XS.iload X1269.here hx rfl (hb hby at_316) rfl ?_
        show Steps p.tables e below (T1269.setTop (mkF m 318 #[.val (.int p1), .val (.int p2), .val (.int p3), .val (.int p4), .val (.int yC), .val (.int yL), .val (.int vS), .val (.int yP), .val (.int yQ), .val (.ref bb), .val (.int yK), .val (.int (own_fV yC yL)), .val (.int yY), .unset, .unset, .unset] [(.int yY), (.int (248 : Int32))])) _
        refine XS.bipush X1269.here hx rfl (hb hby at_318) ?_
        show Steps p.tables e below (T1269.setTop (mkF m 320 #[.val (.int p1), .val (.int p2), .val (.int p3), .val (.int p4), .val (.int yC), .val (.int yL), .val (.int vS), .val (.int yP), .val (.int yQ), .val (.ref bb), .val (.int yK), .val (.int (own_fV yC yL)), .val (.int yY), .unset, .unset, .unset] [(.int (7 : Int32)), (.int yY), (.int (248 : Int32))])) _
        refine XS.iand X1269.here hx rfl (hb hby at_320) rfl ?_
        show Steps p.tables e below (T1269.setTop (mkF m 321 #[.val (.int p1), .val (.int p2), .val (.int p3), .val (.int p4), .val (.int yC), .val (.int yL), .val (.int vS), .val (.int yP), .val (.int yQ), .val (.ref bb), .val (.int yK), .val (.int (own_fV yC yL)), .val (.int yY), .unset, .unset, .unset] [(.int (yY &&& (7 : Int32))), (.int (248 : Int32))])) _
        refine XS.iadd X1269.here hx rfl (hb hby at_321) rfl ?_
        exact kont
    refine own_step st1271 ?_
    refine own_step (T' := T1269) (f' := (mkF m 330 #[.val (.int p1), .val (.int p2), .val (.int p3), .val (.int p4), .val (.int yC), .val (.int yL), .val (.int vS), .val (.int yP), .val (.int yQ), .val (.ref bb), .val (.int yK), .val (.int (own_fV yC yL)), .val (.int yY), .val (.int v1270), .unset, .unset] [(.int (v1270.toInt8.toInt32)), (.int (1 : Int32)), (.ref bb)])) (fun tt kont => ?_) ?_
    · show Steps p.tables e below (T1269.setTop (mkF m 322 #[.val (.int p1), .val (.int p2), .val (.int p3), .val (.int p4), .val (.int yC), .val (.int yL), .val (.int vS), .val (.int yP), .val (.int yQ), .val (.ref bb), .val (.int yK), .val (.int (own_fV yC yL)), .val (.int yY), .unset, .unset, .unset] [(.int v1270)])) _
      refine XS.istore X1269.here hx rfl (hb hby at_322) rfl (l' := #[.val (.int p1), .val (.int p2), .val (.int p3), .val (.int p4), .val (.int yC), .val (.int yL), .val (.int vS), .val (.int yP), .val (.int yQ), .val (.ref bb), .val (.int yK), .val (.int (own_fV yC yL)), .val (.int yY), .val (.int v1270), .unset, .unset]) rfl ?_
      show Steps p.tables e below (T1269.setTop (mkF m 324 #[.val (.int p1), .val (.int p2), .val (.int p3), .val (.int p4), .val (.int yC), .val (.int yL), .val (.int vS), .val (.int yP), .val (.int yQ), .val (.ref bb), .val (.int yK), .val (.int (own_fV yC yL)), .val (.int yY), .val (.int v1270), .unset, .unset] [])) _
      refine XS.aload X1269.here hx rfl (hb hby at_324) rfl rfl ?_
      show Steps p.tables e below (T1269.setTop (mkF m 326 #[.val (.int p1), .val (.int p2), .val (.int p3), .val (.int p4), .val (.int yC), .val (.int yL), .val (.int vS), .val (.int yP), .val (.int yQ), .val (.ref bb), .val (.int yK), .val (.int (own_fV yC yL)), .val (.int yY), .val (.int v1270), .unset, .unset] [(.ref bb)])) _
      refine XS.iconst X1269.here hx rfl (hb hby at_326) ?_
      show Steps p.tables e below (T1269.setTop (mkF m 327 #[.val (.int p1), .val (.int p2), .val (.int p3), .val (.int p4), .val (.int yC), .val (.int yL), .val (.int vS), .val (.int yP), .val (.int yQ), .val (.ref bb), .val (.int yK), .val (.int (own_fV yC yL)), .val (.int yY), .val (.int v1270), .unset, .unset] [(.int (1 : Int32)), (.ref bb)])) _
      refine XS.iload X1269.here hx rfl (hb hby at_327) rfl ?_
      show Steps p.tables e below (T1269.setTop (mkF m 329 #[.val (.int p1), .val (.int p2), .val (.int p3), .val (.int p4), .val (.int yC), .val (.int yL), .val (.int vS), .val (.int yP), .val (.int yQ), .val (.ref bb), .val (.int yK), .val (.int (own_fV yC yL)), .val (.int yY), .val (.int v1270), .unset, .unset] [(.int v1270), (.int (1 : Int32)), (.ref bb)])) _
      refine XS.i2b X1269.here hx rfl (hb hby at_329) rfl ?_
      exact kont
    obtain ⟨T1272, h1272, X1272, e1272, W1272, V_bb_1272, st1272⟩ := own_stB X1269 hx hZ e1269 VA (j := (1 : Int32)) (i := 1) (own_at_lit rfl (by decide)) (by decide) (g := (mkF m 330 #[.val (.int p1), .val (.int p2), .val (.int p3), .val (.int p4), .val (.int yC), .val (.int yL), .val (.int vS), .val (.int yP), .val (.int yQ), .val (.ref bb), .val (.int yK), .val (.int (own_fV yC yL)), .val (.int yY), .val (.int v1270), .unset, .unset] [(.int (v1270.toInt8.toInt32)), (.int (1 : Int32)), (.ref bb)])) rfl rfl (hb hby at_330)
    have N1272 := Fr.snoc X1272 N1269 gb
    have Z1272 : n0 ≤ h1272.size := Nat.le_trans Z0 (Keep.of_wr W1272).1
    have VI_bb_1272 : own_A Z h1272 bb .byte 6 (fun k => .int ((own_updI F 1 (nar .byte (v1270.toInt8.toInt32))) k)) := own_toI V_bb_1272
    refine own_step st1272 ?_
    refine own_step (T' := T1272) (f' := (mkF m 446 #[.val (.int p1), .val (.int p2), .val (.int p3), .val (.int p4), .val (.int yC), .val (.int yL), .val (.int vS), .val (.int yP), .val (.int yQ), .val (.ref bb), .val (.int yK), .val (.int (0 : Int32)), .val (.int yY), .val (.int v1270), .unset, .unset] [])) (fun tt kont => ?_) ?_
    · show Steps p.tables e below (T1272.setTop (mkF m 331 #[.val (.int p1), .val (.int p2), .val (.int p3), .val (.int p4), .val (.int yC), .val (.int yL), .val (.int vS), .val (.int yP), .val (.int yQ), .val (.ref bb), .val (.int yK), .val (.int (own_fV yC yL)), .val (.int yY), .val (.int v1270), .unset, .unset] [])) _
      refine XS.iconst X1272.here hx rfl (hb hby at_331) ?_
      show Steps p.tables e below (T1272.setTop (mkF m 332 #[.val (.int p1), .val (.int p2), .val (.int p3), .val (.int p4), .val (.int yC), .val (.int yL), .val (.int vS), .val (.int yP), .val (.int yQ), .val (.ref bb), .val (.int yK), .val (.int (own_fV yC yL)), .val (.int yY), .val (.int v1270), .unset, .unset] [(.int (0 : Int32))])) _
      refine XS.istore X1272.here hx rfl (hb hby at_332) rfl (l' := #[.val (.int p1), .val (.int p2), .val (.int p3), .val (.int p4), .val (.int yC), .val (.int yL), .val (.int vS), .val (.int yP), .val (.int yQ), .val (.ref bb), .val (.int yK), .val (.int (0 : Int32)), .val (.int yY), .val (.int v1270), .unset, .unset]) rfl ?_
      show Steps p.tables e below (T1272.setTop (mkF m 334 #[.val (.int p1), .val (.int p2), .val (.int p3), .val (.int p4), .val (.int yC), .val (.int yL), .val (.int vS), .val (.int yP), .val (.int yQ), .val (.ref bb), .val (.int yK), .val (.int (0 : Int32)), .val (.int yY), .val (.int v1270), .unset, .unset] [])) _
      refine XS.goto X1272.here hx rfl (pc0 := 334) (pc' := 446) rfl (hb hby at_334) (by decide) (by decide) ?_
      exact kont
    exact own_s446 (F := (own_updI F 1 (nar .byte (v1270.toInt8.toInt32)))) X1272 hx hZ hw hby hret hlk hml hown e1272 N1272 Z1272 gb VI_bb_1272 hL hL1 hL4 (own_S_upd hS (by decide)) (One.val rfl) (One.val rfl) One.u One.u hQ (Or.inr ⟨rfl, own_bad1 hL1 hv1270 hYy⟩) (own_tr1 hL1 hv1270 hYy)
  · refine own_step (T' := T1269) (f' := (mkF m 337 #[.val (.int p1), .val (.int p2), .val (.int p3), .val (.int p4), .val (.int yC), .val (.int yL), .val (.int vS), .val (.int yP), .val (.int yQ), .val (.ref bb), .val (.int yK), .val (.int (own_fV yC yL)), .unset, .unset, .unset, .unset] [])) (fun tt kont => ?_) ?_
    · show Steps p.tables e below (T1269.setTop (mkF m 285 #[.val (.int p1), .val (.int p2), .val (.int p3), .val (.int p4), .val (.int yC), .val (.int yL), .val (.int vS), .val (.int yP), .val (.int yQ), .val (.ref bb), .val (.int yK), .val (.int (own_fV yC yL)), .unset, .unset, .unset, .unset] [(.int (1 : Int32)), (.int yK)])) _
      refine XS.icmpYes X1269.here hx rfl (pc0 := 285) (pc' := 337) rfl (hb hby at_285) rfl (feq hc285_1).2 (by decide) (by decide) ?_
      exact kont
    refine own_step (T' := T1269) (f' := (mkF m 340 #[.val (.int p1), .val (.int p2), .val (.int p3), .val (.int p4), .val (.int yC), .val (.int yL), .val (.int vS), .val (.int yP), .val (.int yQ), .val (.ref bb), .val (.int yK), .val (.int (own_fV yC yL)), .unset, .unset, .unset, .unset] [(.int (2 : Int32)), (.int yK)])) (fun tt kont => ?_) ?_
    · show Steps p.tables e below (T1269.setTop (mkF m 337 #[.val (.int p1), .val (.int p2), .val (.int p3), .val (.int p4), .val (.int yC), .val (.int yL), .val (.int vS), .val (.int yP), .val (.int yQ), .val (.ref bb), .val (.int yK), .val (.int (own_fV yC yL)), .unset, .unset, .unset, .unset] [])) _
      refine XS.iload X1269.here hx rfl (hb hby at_337) rfl ?_
      show Steps p.tables e below (T1269.setTop (mkF m 339 #[.val (.int p1), .val (.int p2), .val (.int p3), .val (.int p4), .val (.int yC), .val (.int yL), .val (.int vS), .val (.int yP), .val (.int yQ), .val (.ref bb), .val (.int yK), .val (.int (own_fV yC yL)), .unset, .unset, .unset, .unset] [(.int yK)])) _
      refine XS.iconst X1269.here hx rfl (hb hby at_339) ?_
      exact kont
    by_cases hc340_2 : yK < (2 : Int32)
    · refine own_step (T' := T1269) (f' := (mkF m 446 #[.val (.int p1), .val (.int p2), .val (.int p3), .val (.int p4), .val (.int yC), .val (.int yL), .val (.int vS), .val (.int yP), .val (.int yQ), .val (.ref bb), .val (.int yK), .val (.int (own_fV yC yL)), .unset, .unset, .unset, .unset] [])) (fun tt kont => ?_) ?_
      · show Steps p.tables e below (T1269.setTop (mkF m 340 #[.val (.int p1), .val (.int p2), .val (.int p3), .val (.int p4), .val (.int yC), .val (.int yL), .val (.int vS), .val (.int yP), .val (.int yQ), .val (.ref bb), .val (.int yK), .val (.int (own_fV yC yL)), .unset, .unset, .unset, .unset] [(.int (2 : Int32)), (.int yK)])) _
        refine XS.icmpYes X1269.here hx rfl (pc0 := 340) (pc' := 446) rfl (hb hby at_340) rfl (tlt hc340_2).1 (by decide) (by decide) ?_
        exact kont
      exact own_s446 (F := F) X1269 hx hZ hw hby hret hlk hml hown e1269 N1269 Z0 gb VA hL hL1 hL4 hS One.u One.u One.u One.u hQ (own_okE hC hL henc) (own_tr0 hC henc)
    · refine own_step (T' := T1269) (f' := (mkF m 346 #[.val (.int p1), .val (.int p2), .val (.int p3), .val (.int p4), .val (.int yC), .val (.int yL), .val (.int vS), .val (.int yP), .val (.int yQ), .val (.ref bb), .val (.int yK), .val (.int (own_fV yC yL)), .unset, .unset, .unset, .unset] [(.int (2 : Int32)), (.int yL)])) (fun tt kont => ?_) ?_
      · show Steps p.tables e below (T1269.setTop (mkF m 340 #[.val (.int p1), .val (.int p2), .val (.int p3), .val (.int p4), .val (.int yC), .val (.int yL), .val (.int vS), .val (.int yP), .val (.int yQ), .val (.ref bb), .val (.int yK), .val (.int (own_fV yC yL)), .unset, .unset, .unset, .unset] [(.int (2 : Int32)), (.int yK)])) _
        refine XS.icmpNo X1269.here hx rfl (hb hby at_340) rfl (flt hc340_2).1 ?_
        show Steps p.tables e below (T1269.setTop (mkF m 343 #[.val (.int p1), .val (.int p2), .val (.int p3), .val (.int p4), .val (.int yC), .val (.int yL), .val (.int vS), .val (.int yP), .val (.int yQ), .val (.ref bb), .val (.int yK), .val (.int (own_fV yC yL)), .unset, .unset, .unset, .unset] [])) _
        refine XS.iload X1269.here hx rfl (hb hby at_343) rfl ?_
        show Steps p.tables e below (T1269.setTop (mkF m 345 #[.val (.int p1), .val (.int p2), .val (.int p3), .val (.int p4), .val (.int yC), .val (.int yL), .val (.int vS), .val (.int yP), .val (.int yQ), .val (.ref bb), .val (.int yK), .val (.int (own_fV yC yL)), .unset, .unset, .unset, .unset] [(.int yL)])) _
        refine XS.iconst X1269.here hx rfl (hb hby at_345) ?_
        exact kont
      by_cases hc346_3 : yL < (2 : Int32)
      · refine own_step (T' := T1269) (f' := (mkF m 446 #[.val (.int p1), .val (.int p2), .val (.int p3), .val (.int p4), .val (.int yC), .val (.int yL), .val (.int vS), .val (.int yP), .val (.int yQ), .val (.ref bb), .val (.int yK), .val (.int (own_fV yC yL)), .unset, .unset, .unset, .unset] [])) (fun tt kont => ?_) ?_
        · show Steps p.tables e below (T1269.setTop (mkF m 346 #[.val (.int p1), .val (.int p2), .val (.int p3), .val (.int p4), .val (.int yC), .val (.int yL), .val (.int vS), .val (.int yP), .val (.int yQ), .val (.ref bb), .val (.int yK), .val (.int (own_fV yC yL)), .unset, .unset, .unset, .unset] [(.int (2 : Int32)), (.int yL)])) _
          refine XS.icmpYes X1269.here hx rfl (pc0 := 346) (pc' := 446) rfl (hb hby at_346) rfl (tlt hc346_3).1 (by decide) (by decide) ?_
          exact kont
        exact own_s446 (F := F) X1269 hx hZ hw hby hret hlk hml hown e1269 N1269 Z0 gb VA hL hL1 hL4 hS One.u One.u One.u One.u hQ (own_okE hC hL henc) (own_tr0 hC henc)
      · refine own_step (T' := T1269) (f' := (mkF m 360 #[.val (.int p1), .val (.int p2), .val (.int p3), .val (.int p4), .val (.int yC), .val (.int yL), .val (.int vS), .val (.int yP), .val (.int yQ), .val (.ref bb), .val (.int yK), .val (.int (own_fV yC yL)), .unset, .unset, .unset, .unset] [(.int ((1 : Int32) + (((p3.toUInt32 >>> ((16 : Int32) &&& 31).toUInt32).toInt32) - (((p3.toUInt32 >>> ((16 : Int32) &&& 31).toUInt32).toInt32) / (yL - (1 : Int32))) * (yL - (1 : Int32)))))])) (fun tt kont => ?_) ?_
        · show Steps p.tables e below (T1269.setTop (mkF m 346 #[.val (.int p1), .val (.int p2), .val (.int p3), .val (.int p4), .val (.int yC), .val (.int yL), .val (.int vS), .val (.int yP), .val (.int yQ), .val (.ref bb), .val (.int yK), .val (.int (own_fV yC yL)), .unset, .unset, .unset, .unset] [(.int (2 : Int32)), (.int yL)])) _
          refine XS.icmpNo X1269.here hx rfl (hb hby at_346) rfl (flt hc346_3).1 ?_
          show Steps p.tables e below (T1269.setTop (mkF m 349 #[.val (.int p1), .val (.int p2), .val (.int p3), .val (.int p4), .val (.int yC), .val (.int yL), .val (.int vS), .val (.int yP), .val (.int yQ), .val (.ref bb), .val (.int yK), .val (.int (own_fV yC yL)), .unset, .unset, .unset, .unset] [])) _
          refine XS.iconst X1269.here hx rfl (hb hby at_349) ?_
          show Steps p.tables e below (T1269.setTop (mkF m 350 #[.val (.int p1), .val (.int p2), .val (.int p3), .val (.int p4), .val (.int yC), .val (.int yL), .val (.int vS), .val (.int yP), .val (.int yQ), .val (.ref bb), .val (.int yK), .val (.int (own_fV yC yL)), .unset, .unset, .unset, .unset] [(.int (1 : Int32))])) _
          refine XS.iloadN X1269.here hx rfl (hb hby at_350) rfl ?_
          show Steps p.tables e below (T1269.setTop (mkF m 351 #[.val (.int p1), .val (.int p2), .val (.int p3), .val (.int p4), .val (.int yC), .val (.int yL), .val (.int vS), .val (.int yP), .val (.int yQ), .val (.ref bb), .val (.int yK), .val (.int (own_fV yC yL)), .unset, .unset, .unset, .unset] [(.int p3), (.int (1 : Int32))])) _
          refine XS.bipush X1269.here hx rfl (hb hby at_351) ?_
          show Steps p.tables e below (T1269.setTop (mkF m 353 #[.val (.int p1), .val (.int p2), .val (.int p3), .val (.int p4), .val (.int yC), .val (.int yL), .val (.int vS), .val (.int yP), .val (.int yQ), .val (.ref bb), .val (.int yK), .val (.int (own_fV yC yL)), .unset, .unset, .unset, .unset] [(.int (16 : Int32)), (.int p3), (.int (1 : Int32))])) _
          refine XS.iushr X1269.here hx rfl (hb hby at_353) rfl ?_
          show Steps p.tables e below (T1269.setTop (mkF m 354 #[.val (.int p1), .val (.int p2), .val (.int p3), .val (.int p4), .val (.int yC), .val (.int yL), .val (.int vS), .val (.int yP), .val (.int yQ), .val (.ref bb), .val (.int yK), .val (.int (own_fV yC yL)), .unset, .unset, .unset, .unset] [(.int ((p3.toUInt32 >>> ((16 : Int32) &&& 31).toUInt32).toInt32)), (.int (1 : Int32))])) _
          refine XS.iload X1269.here hx rfl (hb hby at_354) rfl ?_
          show Steps p.tables e below (T1269.setTop (mkF m 356 #[.val (.int p1), .val (.int p2), .val (.int p3), .val (.int p4), .val (.int yC), .val (.int yL), .val (.int vS), .val (.int yP), .val (.int yQ), .val (.ref bb), .val (.int yK), .val (.int (own_fV yC yL)), .unset, .unset, .unset, .unset] [(.int yL), (.int ((p3.toUInt32 >>> ((16 : Int32) &&& 31).toUInt32).toInt32)), (.int (1 : Int32))])) _
          refine XS.iconst X1269.here hx rfl (hb hby at_356) ?_
          show Steps p.tables e below (T1269.setTop (mkF m 357 #[.val (.int p1), .val (.int p2), .val (.int p3), .val (.int p4), .val (.int yC), .val (.int yL), .val (.int vS), .val (.int yP), .val (.int yQ), .val (.ref bb), .val (.int yK), .val (.int (own_fV yC yL)), .unset, .unset, .unset, .unset] [(.int (1 : Int32)), (.int yL), (.int ((p3.toUInt32 >>> ((16 : Int32) &&& 31).toUInt32).toInt32)), (.int (1 : Int32))])) _
          refine XS.isub X1269.here hx rfl (hb hby at_357) rfl ?_
          show Steps p.tables e below (T1269.setTop (mkF m 358 #[.val (.int p1), .val (.int p2), .val (.int p3), .val (.int p4), .val (.int yC), .val (.int yL), .val (.int vS), .val (.int yP), .val (.int yQ), .val (.ref bb), .val (.int yK), .val (.int (own_fV yC yL)), .unset, .unset, .unset, .unset] [(.int (yL - (1 : Int32))), (.int ((p3.toUInt32 >>> ((16 : Int32) &&& 31).toUInt32).toInt32)), (.int (1 : Int32))])) _
          refine XS.irem X1269.here hx rfl (hb hby at_358) rfl (own_Lnz2 hL hc346_3) ?_
          show Steps p.tables e below (T1269.setTop (mkF m 359 #[.val (.int p1), .val (.int p2), .val (.int p3), .val (.int p4), .val (.int yC), .val (.int yL), .val (.int vS), .val (.int yP), .val (.int yQ), .val (.ref bb), .val (.int yK), .val (.int (own_fV yC yL)), .unset, .unset, .unset, .unset] [(.int (((p3.toUInt32 >>> ((16 : Int32) &&& 31).toUInt32).toInt32) - (((p3.toUInt32 >>> ((16 : Int32) &&& 31).toUInt32).toInt32) / (yL - (1 : Int32))) * (yL - (1 : Int32)))), (.int (1 : Int32))])) _
          refine XS.iadd X1269.here hx rfl (hb hby at_359) rfl ?_
          exact kont
        show own_Go p e below T1269 (mkF m 360 #[.val (.int p1), .val (.int p2), .val (.int p3), .val (.int p4), .val (.int yC), .val (.int yL), .val (.int vS), .val (.int yP), .val (.int yQ), .val (.ref bb), .val (.int yK), .val (.int (own_fV yC yL)), .unset, .unset, .unset, .unset] [(.int ((1 : Int32) + (((p3.toUInt32 >>> ((16 : Int32) &&& 31).toUInt32).toInt32) - (((p3.toUInt32 >>> ((16 : Int32) &&& 31).toUInt32).toInt32) / (yL - (1 : Int32))) * (yL - (1 : Int32)))))]) _
        obtain ⟨yN, hyN⟩ : ∃ z : Int32, z = ((1 : Int32) + (((p3.toUInt32 >>> ((16 : Int32) &&& 31).toUInt32).toInt32) - (((p3.toUInt32 >>> ((16 : Int32) &&& 31).toUInt32).toInt32) / (yL - (1 : Int32))) * (yL - (1 : Int32)))) := ⟨_, rfl⟩
        rw [← hyN]
        obtain ⟨kk, hk12, hkk, hkL⟩ := own_KK hyN hL hc346_3
        refine own_step (T' := T1269) (f' := (mkF m 370 #[.val (.int p1), .val (.int p2), .val (.int p3), .val (.int p4), .val (.int yC), .val (.int yL), .val (.int vS), .val (.int yP), .val (.int yQ), .val (.ref bb), .val (.int yK), .val (.int (own_fV yC yL)), .val (.int yN), .unset, .unset, .unset] [(.int (((p3.toUInt32 >>> ((8 : Int32) &&& 31).toUInt32).toInt32) &&& (255 : Int32)))])) (fun tt kont => ?_) ?_
        · show Steps p.tables e below (T1269.setTop (mkF m 360 #[.val (.int p1), .val (.int p2), .val (.int p3), .val (.int p4), .val (.int yC), .val (.int yL), .val (.int vS), .val (.int yP), .val (.int yQ), .val (.ref bb), .val (.int yK), .val (.int (own_fV yC yL)), .unset, .unset, .unset, .unset] [(.int yN)])) _
          refine XS.istore X1269.here hx rfl (hb hby at_360) rfl (l' := #[.val (.int p1), .val (.int p2), .val (.int p3), .val (.int p4), .val (.int yC), .val (.int yL), .val (.int vS), .val (.int yP), .val (.int yQ), .val (.ref bb), .val (.int yK), .val (.int (own_fV yC yL)), .val (.int yN), .unset, .unset, .unset]) rfl ?_
          show Steps p.tables e below (T1269.setTop (mkF m 362 #[.val (.int p1), .val (.int p2), .val (.int p3), .val (.int p4), .val (.int yC), .val (.int yL), .val (.int vS), .val (.int yP), .val (.int yQ), .val (.ref bb), .val (.int yK), .val (.int (own_fV yC yL)), .val (.int yN), .unset, .unset, .unset] [])) _
          refine XS.iloadN X1269.here hx rfl (hb hby at_362) rfl ?_
          show Steps p.tables e below (T1269.setTop (mkF m 363 #[.val (.int p1), .val (.int p2), .val (.int p3), .val (.int p4), .val (.int yC), .val (.int yL), .val (.int vS), .val (.int yP), .val (.int yQ), .val (.ref bb), .val (.int yK), .val (.int (own_fV yC yL)), .val (.int yN), .unset, .unset, .unset] [(.int p3)])) _
          refine XS.bipush X1269.here hx rfl (hb hby at_363) ?_
          show Steps p.tables e below (T1269.setTop (mkF m 365 #[.val (.int p1), .val (.int p2), .val (.int p3), .val (.int p4), .val (.int yC), .val (.int yL), .val (.int vS), .val (.int yP), .val (.int yQ), .val (.ref bb), .val (.int yK), .val (.int (own_fV yC yL)), .val (.int yN), .unset, .unset, .unset] [(.int (8 : Int32)), (.int p3)])) _
          refine XS.iushr X1269.here hx rfl (hb hby at_365) rfl ?_
          show Steps p.tables e below (T1269.setTop (mkF m 366 #[.val (.int p1), .val (.int p2), .val (.int p3), .val (.int p4), .val (.int yC), .val (.int yL), .val (.int vS), .val (.int yP), .val (.int yQ), .val (.ref bb), .val (.int yK), .val (.int (own_fV yC yL)), .val (.int yN), .unset, .unset, .unset] [(.int ((p3.toUInt32 >>> ((8 : Int32) &&& 31).toUInt32).toInt32))])) _
          refine XS.sipush X1269.here hx rfl (hb hby at_366) ?_
          show Steps p.tables e below (T1269.setTop (mkF m 369 #[.val (.int p1), .val (.int p2), .val (.int p3), .val (.int p4), .val (.int yC), .val (.int yL), .val (.int vS), .val (.int yP), .val (.int yQ), .val (.ref bb), .val (.int yK), .val (.int (own_fV yC yL)), .val (.int yN), .unset, .unset, .unset] [(.int (255 : Int32)), (.int ((p3.toUInt32 >>> ((8 : Int32) &&& 31).toUInt32).toInt32))])) _
          refine XS.iand X1269.here hx rfl (hb hby at_369) rfl ?_
          exact kont
        show own_Go p e below T1269 (mkF m 370 #[.val (.int p1), .val (.int p2), .val (.int p3), .val (.int p4), .val (.int yC), .val (.int yL), .val (.int vS), .val (.int yP), .val (.int yQ), .val (.ref bb), .val (.int yK), .val (.int (own_fV yC yL)), .val (.int yN), .unset, .unset, .unset] [(.int (((p3.toUInt32 >>> ((8 : Int32) &&& 31).toUInt32).toInt32) &&& (255 : Int32)))]) _
        obtain ⟨yX, hyX⟩ : ∃ z : Int32, z = (((p3.toUInt32 >>> ((8 : Int32) &&& 31).toUInt32).toInt32) &&& (255 : Int32)) := ⟨_, rfl⟩
        rw [← hyX]
        have hx13 := own_X hyX
        refine own_step (T' := T1269) (f' := (mkF m 381 #[.val (.int p1), .val (.int p2), .val (.int p3), .val (.int p4), .val (.int yC), .val (.int yL), .val (.int vS), .val (.int yP), .val (.int yQ), .val (.ref bb), .val (.int yK), .val (.int (own_fV yC yL)), .val (.int yN), .val (.int yX), .unset, .unset] [(.int (yX.toInt8.toInt32)), (.int ((1 : Int32) + yN)), (.ref bb)])) (fun tt kont => ?_) ?_
        · show Steps p.tables e below (T1269.setTop (mkF m 370 #[.val (.int p1), .val (.int p2), .val (.int p3), .val (.int p4), .val (.int yC), .val (.int yL), .val (.int vS), .val (.int yP), .val (.int yQ), .val (.ref bb), .val (.int yK), .val (.int (own_fV yC yL)), .val (.int yN), .unset, .unset, .unset] [(.int yX)])) _
          refine XS.istore X1269.here hx rfl (hb hby at_370) rfl (l' := #[.val (.int p1), .val (.int p2), .val (.int p3), .val (.int p4), .val (.int yC), .val (.int yL), .val (.int vS), .val (.int yP), .val (.int yQ), .val (.ref bb), .val (.int yK), .val (.int (own_fV yC yL)), .val (.int yN), .val (.int yX), .unset, .unset]) rfl ?_
          show Steps p.tables e below (T1269.setTop (mkF m 372 #[.val (.int p1), .val (.int p2), .val (.int p3), .val (.int p4), .val (.int yC), .val (.int yL), .val (.int vS), .val (.int yP), .val (.int yQ), .val (.ref bb), .val (.int yK), .val (.int (own_fV yC yL)), .val (.int yN), .val (.int yX), .unset, .unset] [])) _
          refine XS.aload X1269.here hx rfl (hb hby at_372) rfl rfl ?_
          show Steps p.tables e below (T1269.setTop (mkF m 374 #[.val (.int p1), .val (.int p2), .val (.int p3), .val (.int p4), .val (.int yC), .val (.int yL), .val (.int vS), .val (.int yP), .val (.int yQ), .val (.ref bb), .val (.int yK), .val (.int (own_fV yC yL)), .val (.int yN), .val (.int yX), .unset, .unset] [(.ref bb)])) _
          refine XS.iconst X1269.here hx rfl (hb hby at_374) ?_
          show Steps p.tables e below (T1269.setTop (mkF m 375 #[.val (.int p1), .val (.int p2), .val (.int p3), .val (.int p4), .val (.int yC), .val (.int yL), .val (.int vS), .val (.int yP), .val (.int yQ), .val (.ref bb), .val (.int yK), .val (.int (own_fV yC yL)), .val (.int yN), .val (.int yX), .unset, .unset] [(.int (1 : Int32)), (.ref bb)])) _
          refine XS.iload X1269.here hx rfl (hb hby at_375) rfl ?_
          show Steps p.tables e below (T1269.setTop (mkF m 377 #[.val (.int p1), .val (.int p2), .val (.int p3), .val (.int p4), .val (.int yC), .val (.int yL), .val (.int vS), .val (.int yP), .val (.int yQ), .val (.ref bb), .val (.int yK), .val (.int (own_fV yC yL)), .val (.int yN), .val (.int yX), .unset, .unset] [(.int yN), (.int (1 : Int32)), (.ref bb)])) _
          refine XS.iadd X1269.here hx rfl (hb hby at_377) rfl ?_
          show Steps p.tables e below (T1269.setTop (mkF m 378 #[.val (.int p1), .val (.int p2), .val (.int p3), .val (.int p4), .val (.int yC), .val (.int yL), .val (.int vS), .val (.int yP), .val (.int yQ), .val (.ref bb), .val (.int yK), .val (.int (own_fV yC yL)), .val (.int yN), .val (.int yX), .unset, .unset] [(.int ((1 : Int32) + yN)), (.ref bb)])) _
          refine XS.iload X1269.here hx rfl (hb hby at_378) rfl ?_
          show Steps p.tables e below (T1269.setTop (mkF m 380 #[.val (.int p1), .val (.int p2), .val (.int p3), .val (.int p4), .val (.int yC), .val (.int yL), .val (.int vS), .val (.int yP), .val (.int yQ), .val (.ref bb), .val (.int yK), .val (.int (own_fV yC yL)), .val (.int yN), .val (.int yX), .unset, .unset] [(.int yX), (.int ((1 : Int32) + yN)), (.ref bb)])) _
          refine XS.i2b X1269.here hx rfl (hb hby at_380) rfl ?_
          exact kont
        obtain ⟨T1273, h1273, X1273, e1273, W1273, V_bb_1273, st1273⟩ := own_stB X1269 hx hZ e1269 VA (j := ((1 : Int32) + yN)) (i := (1 + kk)) (own_at_plus (own_at_lit rfl (by decide) : own_at (1 : Int32) 1) hk12 (by omega)) (by omega) (g := (mkF m 381 #[.val (.int p1), .val (.int p2), .val (.int p3), .val (.int p4), .val (.int yC), .val (.int yL), .val (.int vS), .val (.int yP), .val (.int yQ), .val (.ref bb), .val (.int yK), .val (.int (own_fV yC yL)), .val (.int yN), .val (.int yX), .unset, .unset] [(.int (yX.toInt8.toInt32)), (.int ((1 : Int32) + yN)), (.ref bb)])) rfl rfl (hb hby at_381)
        have N1273 := Fr.snoc X1273 N1269 gb
        have Z1273 : n0 ≤ h1273.size := Nat.le_trans Z0 (Keep.of_wr W1273).1
        have VI_bb_1273 : own_A Z h1273 bb .byte 6 (fun k => .int ((own_updI F (1 + kk) (nar .byte (yX.toInt8.toInt32))) k)) := own_toI V_bb_1273
        refine own_step st1273 ?_
        refine own_step (T' := T1273) (f' := (mkF m 387 #[.val (.int p1), .val (.int p2), .val (.int p3), .val (.int p4), .val (.int yC), .val (.int yL), .val (.int vS), .val (.int yP), .val (.int yQ), .val (.ref bb), .val (.int yK), .val (.int (own_fV yC yL)), .val (.int yN), .val (.int yX), .unset, .unset] [(.int (128 : Int32)), (.int yX)])) (fun tt kont => ?_) ?_
        · show Steps p.tables e below (T1273.setTop (mkF m 382 #[.val (.int p1), .val (.int p2), .val (.int p3), .val (.int p4), .val (.int yC), .val (.int yL), .val (.int vS), .val (.int yP), .val (.int yQ), .val (.ref bb), .val (.int yK), .val (.int (own_fV yC yL)), .val (.int yN), .val (.int yX), .unset, .unset] [])) _
          refine XS.iload X1273.here hx rfl (hb hby at_382) rfl ?_
          show Steps p.tables e below (T1273.setTop (mkF m 384 #[.val (.int p1), .val (.int p2), .val (.int p3), .val (.int p4), .val (.int yC), .val (.int yL), .val (.int vS), .val (.int yP), .val (.int yQ), .val (.ref bb), .val (.int yK), .val (.int (own_fV yC yL)), .val (.int yN), .val (.int yX), .unset, .unset] [(.int yX)])) _
          refine XS.sipush X1273.here hx rfl (hb hby at_384) ?_
          exact kont
        by_cases hc387_6 : yX < (128 : Int32)
        · refine own_step (T' := T1273) (f' := (mkF m 443 #[.val (.int p1), .val (.int p2), .val (.int p3), .val (.int p4), .val (.int yC), .val (.int yL), .val (.int vS), .val (.int yP), .val (.int yQ), .val (.ref bb), .val (.int yK), .val (.int (own_fV yC yL)), .val (.int yN), .val (.int yX), .unset, .unset] [])) (fun tt kont => ?_) ?_
          · show Steps p.tables e below (T1273.setTop (mkF m 387 #[.val (.int p1), .val (.int p2), .val (.int p3), .val (.int p4), .val (.int yC), .val (.int yL), .val (.int vS), .val (.int yP), .val (.int yQ), .val (.ref bb), .val (.int yK), .val (.int (own_fV yC yL)), .val (.int yN), .val (.int yX), .unset, .unset] [(.int (128 : Int32)), (.int yX)])) _
            refine XS.icmpYes X1273.here hx rfl (pc0 := 387) (pc' := 443) rfl (hb hby at_387) rfl (tlt hc387_6).1 (by decide) (by decide) ?_
            exact kont
          refine own_step (T' := T1273) (f' := (mkF m 446 #[.val (.int p1), .val (.int p2), .val (.int p3), .val (.int p4), .val (.int yC), .val (.int yL), .val (.int vS), .val (.int yP), .val (.int yQ), .val (.ref bb), .val (.int yK), .val (.int (0 : Int32)), .val (.int yN), .val (.int yX), .unset, .unset] [])) (fun tt kont => ?_) ?_
          · show Steps p.tables e below (T1273.setTop (mkF m 443 #[.val (.int p1), .val (.int p2), .val (.int p3), .val (.int p4), .val (.int yC), .val (.int yL), .val (.int vS), .val (.int yP), .val (.int yQ), .val (.ref bb), .val (.int yK), .val (.int (own_fV yC yL)), .val (.int yN), .val (.int yX), .unset, .unset] [])) _
            refine XS.iconst X1273.here hx rfl (hb hby at_443) ?_
            show Steps p.tables e below (T1273.setTop (mkF m 444 #[.val (.int p1), .val (.int p2), .val (.int p3), .val (.int p4), .val (.int yC), .val (.int yL), .val (.int vS), .val (.int yP), .val (.int yQ), .val (.ref bb), .val (.int yK), .val (.int (own_fV yC yL)), .val (.int yN), .val (.int yX), .unset, .unset] [(.int (0 : Int32))])) _
            refine XS.istore X1273.here hx rfl (hb hby at_444) rfl (l' := #[.val (.int p1), .val (.int p2), .val (.int p3), .val (.int p4), .val (.int yC), .val (.int yL), .val (.int vS), .val (.int yP), .val (.int yQ), .val (.ref bb), .val (.int yK), .val (.int (0 : Int32)), .val (.int yN), .val (.int yX), .unset, .unset]) rfl ?_
            exact kont
          exact own_s446 (F := (own_updI F (1 + kk) (nar .byte (yX.toInt8.toInt32)))) X1273 hx hZ hw hby hret hlk hml hown e1273 N1273 Z1273 gb VI_bb_1273 hL hL1 hL4 (own_S_upd hS (by omega)) (One.val rfl) (One.val rfl) One.u One.u hQ (Or.inr ⟨rfl, own_bad2 hC henc hkk hkL (own_xb1 hx13 hc387_6)⟩) (own_tr2 hC henc hkk)
        · refine own_step (T' := T1273) (f' := (mkF m 395 #[.val (.int p1), .val (.int p2), .val (.int p3), .val (.int p4), .val (.int yC), .val (.int yL), .val (.int vS), .val (.int yP), .val (.int yQ), .val (.ref bb), .val (.int yK), .val (.int (own_fV yC yL)), .val (.int yN), .val (.int yX), .unset, .unset] [(.int (191 : Int32)), (.int yX)])) (fun tt kont => ?_) ?_
          · show Steps p.tables e below (T1273.setTop (mkF m 387 #[.val (.int p1), .val (.int p2), .val (.int p3), .val (.int p4), .val (.int yC), .val (.int yL), .val (.int vS), .val (.int yP), .val (.int yQ), .val (.ref bb), .val (.int yK), .val (.int (own_fV yC yL)), .val (.int yN), .val (.int yX), .unset, .unset] [(.int (128 : Int32)), (.int yX)])) _
            refine XS.icmpNo X1273.here hx rfl (hb hby at_387) rfl (flt hc387_6).1 ?_
            show Steps p.tables e below (T1273.setTop (mkF m 390 #[.val (.int p1), .val (.int p2), .val (.int p3), .val (.int p4), .val (.int yC), .val (.int yL), .val (.int vS), .val (.int yP), .val (.int yQ), .val (.ref bb), .val (.int yK), .val (.int (own_fV yC yL)), .val (.int yN), .val (.int yX), .unset, .unset] [])) _
            refine XS.iload X1273.here hx rfl (hb hby at_390) rfl ?_
            show Steps p.tables e below (T1273.setTop (mkF m 392 #[.val (.int p1), .val (.int p2), .val (.int p3), .val (.int p4), .val (.int yC), .val (.int yL), .val (.int vS), .val (.int yP), .val (.int yQ), .val (.ref bb), .val (.int yK), .val (.int (own_fV yC yL)), .val (.int yN), .val (.int yX), .unset, .unset] [(.int yX)])) _
            refine XS.sipush X1273.here hx rfl (hb hby at_392) ?_
            exact kont
          by_cases hc395_7 : (191 : Int32) < yX
          · refine own_step (T' := T1273) (f' := (mkF m 443 #[.val (.int p1), .val (.int p2), .val (.int p3), .val (.int p4), .val (.int yC), .val (.int yL), .val (.int vS), .val (.int yP), .val (.int yQ), .val (.ref bb), .val (.int yK), .val (.int (own_fV yC yL)), .val (.int yN), .val (.int yX), .unset, .unset] [])) (fun tt kont => ?_) ?_
            · show Steps p.tables e below (T1273.setTop (mkF m 395 #[.val (.int p1), .val (.int p2), .val (.int p3), .val (.int p4), .val (.int yC), .val (.int yL), .val (.int vS), .val (.int yP), .val (.int yQ), .val (.ref bb), .val (.int yK), .val (.int (own_fV yC yL)), .val (.int yN), .val (.int yX), .unset, .unset] [(.int (191 : Int32)), (.int yX)])) _
              refine XS.icmpYes X1273.here hx rfl (pc0 := 395) (pc' := 443) rfl (hb hby at_395) rfl (tlt hc395_7).2.2.1 (by decide) (by decide) ?_
              exact kont
            refine own_step (T' := T1273) (f' := (mkF m 446 #[.val (.int p1), .val (.int p2), .val (.int p3), .val (.int p4), .val (.int yC), .val (.int yL), .val (.int vS), .val (.int yP), .val (.int yQ), .val (.ref bb), .val (.int yK), .val (.int (0 : Int32)), .val (.int yN), .val (.int yX), .unset, .unset] [])) (fun tt kont => ?_) ?_
            · show Steps p.tables e below (T1273.setTop (mkF m 443 #[.val (.int p1), .val (.int p2), .val (.int p3), .val (.int p4), .val (.int yC), .val (.int yL), .val (.int vS), .val (.int yP), .val (.int yQ), .val (.ref bb), .val (.int yK), .val (.int (own_fV yC yL)), .val (.int yN), .val (.int yX), .unset, .unset] [])) _
              refine XS.iconst X1273.here hx rfl (hb hby at_443) ?_
              show Steps p.tables e below (T1273.setTop (mkF m 444 #[.val (.int p1), .val (.int p2), .val (.int p3), .val (.int p4), .val (.int yC), .val (.int yL), .val (.int vS), .val (.int yP), .val (.int yQ), .val (.ref bb), .val (.int yK), .val (.int (own_fV yC yL)), .val (.int yN), .val (.int yX), .unset, .unset] [(.int (0 : Int32))])) _
              refine XS.istore X1273.here hx rfl (hb hby at_444) rfl (l' := #[.val (.int p1), .val (.int p2), .val (.int p3), .val (.int p4), .val (.int yC), .val (.int yL), .val (.int vS), .val (.int yP), .val (.int yQ), .val (.ref bb), .val (.int yK), .val (.int (0 : Int32)), .val (.int yN), .val (.int yX), .unset, .unset]) rfl ?_
              exact kont
            exact own_s446 (F := (own_updI F (1 + kk) (nar .byte (yX.toInt8.toInt32)))) X1273 hx hZ hw hby hret hlk hml hown e1273 N1273 Z1273 gb VI_bb_1273 hL hL1 hL4 (own_S_upd hS (by omega)) (One.val rfl) (One.val rfl) One.u One.u hQ (Or.inr ⟨rfl, own_bad2 hC henc hkk hkL (own_xb2 hx13 hc395_7)⟩) (own_tr2 hC henc hkk)
          · refine own_step (T' := T1273) (f' := (mkF m 398 #[.val (.int p1), .val (.int p2), .val (.int p3), .val (.int p4), .val (.int yC), .val (.int yL), .val (.int vS), .val (.int yP), .val (.int yQ), .val (.ref bb), .val (.int yK), .val (.int (own_fV yC yL)), .val (.int yN), .val (.int yX), .unset, .unset] [])) (fun tt kont => ?_) ?_
            · show Steps p.tables e below (T1273.setTop (mkF m 395 #[.val (.int p1), .val (.int p2), .val (.int p3), .val (.int p4), .val (.int yC), .val (.int yL), .val (.int vS), .val (.int yP), .val (.int yQ), .val (.ref bb), .val (.int yK), .val (.int (own_fV yC yL)), .val (.int yN), .val (.int yX), .unset, .unset] [(.int (191 : Int32)), (.int yX)])) _
              refine XS.icmpNo X1273.here hx rfl (hb hby at_395) rfl (flt hc395_7).2.2.1 ?_
              exact kont
            refine own_step (T' := T1273) (f' := (mkF m 429 #[.val (.int p1), .val (.int p2), .val (.int p3), .val (.int p4), .val (.int yC), .val (.int yL), .val (.int vS), .val (.int yP), .val (.int yQ), .val (.ref bb), .val (.int yK), .val (.int (own_fV yC yL)), .val (.int yN), .val (.int yX), .val (.int ((6 : Int32) * ((yL - (1 : Int32)) - yN))), .unset] [(.int ((yC &&& (((63 : Int32) <<< (((6 : Int32) * ((yL - (1 : Int32)) - yN)) &&& 31)) ^^^ (-1 : Int32))) ||| ((yX &&& (63 : Int32)) <<< (((6 : Int32) * ((yL - (1 : Int32)) - yN)) &&& 31))))])) (fun tt kont => ?_) ?_
            · show Steps p.tables e below (T1273.setTop (mkF m 398 #[.val (.int p1), .val (.int p2), .val (.int p3), .val (.int p4), .val (.int yC), .val (.int yL), .val (.int vS), .val (.int yP), .val (.int yQ), .val (.ref bb), .val (.int yK), .val (.int (own_fV yC yL)), .val (.int yN), .val (.int yX), .unset, .unset] [])) _
              refine XS.bipush X1273.here hx rfl (hb hby at_398) ?_
              show Steps p.tables e below (T1273.setTop (mkF m 400 #[.val (.int p1), .val (.int p2), .val (.int p3), .val (.int p4), .val (.int yC), .val (.int yL), .val (.int vS), .val (.int yP), .val (.int yQ), .val (.ref bb), .val (.int yK), .val (.int (own_fV yC yL)), .val (.int yN), .val (.int yX), .unset, .unset] [(.int (6 : Int32))])) _
              refine XS.iload X1273.here hx rfl (hb hby at_400) rfl ?_
              show Steps p.tables e below (T1273.setTop (mkF m 402 #[.val (.int p1), .val (.int p2), .val (.int p3), .val (.int p4), .val (.int yC), .val (.int yL), .val (.int vS), .val (.int yP), .val (.int yQ), .val (.ref bb), .val (.int yK), .val (.int (own_fV yC yL)), .val (.int yN), .val (.int yX), .unset, .unset] [(.int yL), (.int (6 : Int32))])) _
              refine XS.iconst X1273.here hx rfl (hb hby at_402) ?_
              show Steps p.tables e below (T1273.setTop (mkF m 403 #[.val (.int p1), .val (.int p2), .val (.int p3), .val (.int p4), .val (.int yC), .val (.int yL), .val (.int vS), .val (.int yP), .val (.int yQ), .val (.ref bb), .val (.int yK), .val (.int (own_fV yC yL)), .val (.int yN), .val (.int yX), .unset, .unset] [(.int (1 : Int32)), (.int yL), (.int (6 : Int32))])) _
              refine XS.isub X1273.here hx rfl (hb hby at_403) rfl ?_
              show Steps p.tables e below (T1273.setTop (mkF m 404 #[.val (.int p1), .val (.int p2), .val (.int p3), .val (.int p4), .val (.int yC), .val (.int yL), .val (.int vS), .val (.int yP), .val (.int yQ), .val (.ref bb), .val (.int yK), .val (.int (own_fV yC yL)), .val (.int yN), .val (.int yX), .unset, .unset] [(.int (yL - (1 : Int32))), (.int (6 : Int32))])) _
              refine XS.iload X1273.here hx rfl (hb hby at_404) rfl ?_
              show Steps p.tables e below (T1273.setTop (mkF m 406 #[.val (.int p1), .val (.int p2), .val (.int p3), .val (.int p4), .val (.int yC), .val (.int yL), .val (.int vS), .val (.int yP), .val (.int yQ), .val (.ref bb), .val (.int yK), .val (.int (own_fV yC yL)), .val (.int yN), .val (.int yX), .unset, .unset] [(.int yN), (.int (yL - (1 : Int32))), (.int (6 : Int32))])) _
              refine XS.isub X1273.here hx rfl (hb hby at_406) rfl ?_
              show Steps p.tables e below (T1273.setTop (mkF m 407 #[.val (.int p1), .val (.int p2), .val (.int p3), .val (.int p4), .val (.int yC), .val (.int yL), .val (.int vS), .val (.int yP), .val (.int yQ), .val (.ref bb), .val (.int yK), .val (.int (own_fV yC yL)), .val (.int yN), .val (.int yX), .unset, .unset] [(.int ((yL - (1 : Int32)) - yN)), (.int (6 : Int32))])) _
              refine XS.imul X1273.here hx rfl (hb hby at_407) rfl ?_
              show Steps p.tables e below (T1273.setTop (mkF m 408 #[.val (.int p1), .val (.int p2), .val (.int p3), .val (.int p4), .val (.int yC), .val (.int yL), .val (.int vS), .val (.int yP), .val (.int yQ), .val (.ref bb), .val (.int yK), .val (.int (own_fV yC yL)), .val (.int yN), .val (.int yX), .unset, .unset] [(.int ((6 : Int32) * ((yL - (1 : Int32)) - yN)))])) _
              refine XS.istore X1273.here hx rfl (hb hby at_408) rfl (l' := #[.val (.int p1), .val (.int p2), .val (.int p3), .val (.int p4), .val (.int yC), .val (.int yL), .val (.int vS), .val (.int yP), .val (.int yQ), .val (.ref bb), .val (.int yK), .val (.int (own_fV yC yL)), .val (.int yN), .val (.int yX), .val (.int ((6 : Int32) * ((yL - (1 : Int32)) - yN))), .unset]) rfl ?_
              show Steps p.tables e below (T1273.setTop (mkF m 410 #[.val (.int p1), .val (.int p2), .val (.int p3), .val (.int p4), .val (.int yC), .val (.int yL), .val (.int vS), .val (.int yP), .val (.int yQ), .val (.ref bb), .val (.int yK), .val (.int (own_fV yC yL)), .val (.int yN), .val (.int yX), .val (.int ((6 : Int32) * ((yL - (1 : Int32)) - yN))), .unset] [])) _
              refine XS.iload X1273.here hx rfl (hb hby at_410) rfl ?_
              show Steps p.tables e below (T1273.setTop (mkF m 412 #[.val (.int p1), .val (.int p2), .val (.int p3), .val (.int p4), .val (.int yC), .val (.int yL), .val (.int vS), .val (.int yP), .val (.int yQ), .val (.ref bb), .val (.int yK), .val (.int (own_fV yC yL)), .val (.int yN), .val (.int yX), .val (.int ((6 : Int32) * ((yL - (1 : Int32)) - yN))), .unset] [(.int yC)])) _
              refine XS.bipush X1273.here hx rfl (hb hby at_412) ?_
              show Steps p.tables e below (T1273.setTop (mkF m 414 #[.val (.int p1), .val (.int p2), .val (.int p3), .val (.int p4), .val (.int yC), .val (.int yL), .val (.int vS), .val (.int yP), .val (.int yQ), .val (.ref bb), .val (.int yK), .val (.int (own_fV yC yL)), .val (.int yN), .val (.int yX), .val (.int ((6 : Int32) * ((yL - (1 : Int32)) - yN))), .unset] [(.int (63 : Int32)), (.int yC)])) _
              refine XS.iload X1273.here hx rfl (hb hby at_414) rfl ?_
              show Steps p.tables e below (T1273.setTop (mkF m 416 #[.val (.int p1), .val (.int p2), .val (.int p3), .val (.int p4), .val (.int yC), .val (.int yL), .val (.int vS), .val (.int yP), .val (.int yQ), .val (.ref bb), .val (.int yK), .val (.int (own_fV yC yL)), .val (.int yN), .val (.int yX), .val (.int ((6 : Int32) * ((yL - (1 : Int32)) - yN))), .unset] [(.int ((6 : Int32) * ((yL - (1 : Int32)) - yN))), (.int (63 : Int32)), (.int yC)])) _
              refine XS.ishl X1273.here hx rfl (hb hby at_416) rfl ?_
              show Steps p.tables e below (T1273.setTop (mkF m 417 #[.val (.int p1), .val (.int p2), .val (.int p3), .val (.int p4), .val (.int yC), .val (.int yL), .val (.int vS), .val (.int yP), .val (.int yQ), .val (.ref bb), .val (.int yK), .val (.int (own_fV yC yL)), .val (.int yN), .val (.int yX), .val (.int ((6 : Int32) * ((yL - (1 : Int32)) - yN))), .unset] [(.int ((63 : Int32) <<< (((6 : Int32) * ((yL - (1 : Int32)) - yN)) &&& 31))), (.int yC)])) _
              refine XS.iconst X1273.here hx rfl (hb hby at_417) ?_
              show Steps p.tables e below (T1273.setTop (mkF m 418 #[.val (.int p1), .val (.int p2), .val (.int p3), .val (.int p4), .val (.int yC), .val (.int yL), .val (.int vS), .val (.int yP), .val (.int yQ), .val (.ref bb), .val (.int yK), .val (.int (own_fV yC yL)), .val (.int yN), .val (.int yX), .val (.int ((6 : Int32) * ((yL - (1 : Int32)) - yN))), .unset] [(.int (-1 : Int32)), (.int ((63 : Int32) <<< (((6 : Int32) * ((yL - (1 : Int32)) - yN)) &&& 31))), (.int yC)])) _
              refine XS.ixor X1273.here hx rfl (hb hby at_418) rfl ?_
              show Steps p.tables e below (T1273.setTop (mkF m 419 #[.val (.int p1), .val (.int p2), .val (.int p3), .val (.int p4), .val (.int yC), .val (.int yL), .val (.int vS), .val (.int yP), .val (.int yQ), .val (.ref bb), .val (.int yK), .val (.int (own_fV yC yL)), .val (.int yN), .val (.int yX), .val (.int ((6 : Int32) * ((yL - (1 : Int32)) - yN))), .unset] [(.int (((63 : Int32) <<< (((6 : Int32) * ((yL - (1 : Int32)) - yN)) &&& 31)) ^^^ (-1 : Int32))), (.int yC)])) _
              refine XS.iand X1273.here hx rfl (hb hby at_419) rfl ?_
              show Steps p.tables e below (T1273.setTop (mkF m 420 #[.val (.int p1), .val (.int p2), .val (.int p3), .val (.int p4), .val (.int yC), .val (.int yL), .val (.int vS), .val (.int yP), .val (.int yQ), .val (.ref bb), .val (.int yK), .val (.int (own_fV yC yL)), .val (.int yN), .val (.int yX), .val (.int ((6 : Int32) * ((yL - (1 : Int32)) - yN))), .unset] [(.int (yC &&& (((63 : Int32) <<< (((6 : Int32) * ((yL - (1 : Int32)) - yN)) &&& 31)) ^^^ (-1 : Int32))))])) _
              refine XS.iload X1273.here hx rfl (hb hby at_420) rfl ?_
              show Steps p.tables e below (T1273.setTop (mkF m 422 #[.val (.int p1), .val (.int p2), .val (.int p3), .val (.int p4), .val (.int yC), .val (.int yL), .val (.int vS), .val (.int yP), .val (.int yQ), .val (.ref bb), .val (.int yK), .val (.int (own_fV yC yL)), .val (.int yN), .val (.int yX), .val (.int ((6 : Int32) * ((yL - (1 : Int32)) - yN))), .unset] [(.int yX), (.int (yC &&& (((63 : Int32) <<< (((6 : Int32) * ((yL - (1 : Int32)) - yN)) &&& 31)) ^^^ (-1 : Int32))))])) _
              refine XS.bipush X1273.here hx rfl (hb hby at_422) ?_
              show Steps p.tables e below (T1273.setTop (mkF m 424 #[.val (.int p1), .val (.int p2), .val (.int p3), .val (.int p4), .val (.int yC), .val (.int yL), .val (.int vS), .val (.int yP), .val (.int yQ), .val (.ref bb), .val (.int yK), .val (.int (own_fV yC yL)), .val (.int yN), .val (.int yX), .val (.int ((6 : Int32) * ((yL - (1 : Int32)) - yN))), .unset] [(.int (63 : Int32)), (.int yX), (.int (yC &&& (((63 : Int32) <<< (((6 : Int32) * ((yL - (1 : Int32)) - yN)) &&& 31)) ^^^ (-1 : Int32))))])) _
              refine XS.iand X1273.here hx rfl (hb hby at_424) rfl ?_
              show Steps p.tables e below (T1273.setTop (mkF m 425 #[.val (.int p1), .val (.int p2), .val (.int p3), .val (.int p4), .val (.int yC), .val (.int yL), .val (.int vS), .val (.int yP), .val (.int yQ), .val (.ref bb), .val (.int yK), .val (.int (own_fV yC yL)), .val (.int yN), .val (.int yX), .val (.int ((6 : Int32) * ((yL - (1 : Int32)) - yN))), .unset] [(.int (yX &&& (63 : Int32))), (.int (yC &&& (((63 : Int32) <<< (((6 : Int32) * ((yL - (1 : Int32)) - yN)) &&& 31)) ^^^ (-1 : Int32))))])) _
              refine XS.iload X1273.here hx rfl (hb hby at_425) rfl ?_
              show Steps p.tables e below (T1273.setTop (mkF m 427 #[.val (.int p1), .val (.int p2), .val (.int p3), .val (.int p4), .val (.int yC), .val (.int yL), .val (.int vS), .val (.int yP), .val (.int yQ), .val (.ref bb), .val (.int yK), .val (.int (own_fV yC yL)), .val (.int yN), .val (.int yX), .val (.int ((6 : Int32) * ((yL - (1 : Int32)) - yN))), .unset] [(.int ((6 : Int32) * ((yL - (1 : Int32)) - yN))), (.int (yX &&& (63 : Int32))), (.int (yC &&& (((63 : Int32) <<< (((6 : Int32) * ((yL - (1 : Int32)) - yN)) &&& 31)) ^^^ (-1 : Int32))))])) _
              refine XS.ishl X1273.here hx rfl (hb hby at_427) rfl ?_
              show Steps p.tables e below (T1273.setTop (mkF m 428 #[.val (.int p1), .val (.int p2), .val (.int p3), .val (.int p4), .val (.int yC), .val (.int yL), .val (.int vS), .val (.int yP), .val (.int yQ), .val (.ref bb), .val (.int yK), .val (.int (own_fV yC yL)), .val (.int yN), .val (.int yX), .val (.int ((6 : Int32) * ((yL - (1 : Int32)) - yN))), .unset] [(.int ((yX &&& (63 : Int32)) <<< (((6 : Int32) * ((yL - (1 : Int32)) - yN)) &&& 31))), (.int (yC &&& (((63 : Int32) <<< (((6 : Int32) * ((yL - (1 : Int32)) - yN)) &&& 31)) ^^^ (-1 : Int32))))])) _
              refine XS.ior X1273.here hx rfl (hb hby at_428) rfl ?_
              exact kont
            show own_Go p e below T1273 (mkF m 429 #[.val (.int p1), .val (.int p2), .val (.int p3), .val (.int p4), .val (.int yC), .val (.int yL), .val (.int vS), .val (.int yP), .val (.int yQ), .val (.ref bb), .val (.int yK), .val (.int (own_fV yC yL)), .val (.int yN), .val (.int yX), .val (.int ((6 : Int32) * ((yL - (1 : Int32)) - yN))), .unset] [(.int ((yC &&& (((63 : Int32) <<< (((6 : Int32) * ((yL - (1 : Int32)) - yN)) &&& 31)) ^^^ (-1 : Int32))) ||| ((yX &&& (63 : Int32)) <<< (((6 : Int32) * ((yL - (1 : Int32)) - yN)) &&& 31))))]) _
            obtain ⟨y15, hy15⟩ : ∃ z : Int32, z = ((yC &&& (((63 : Int32) <<< (((6 : Int32) * ((yL - (1 : Int32)) - yN)) &&& 31)) ^^^ (-1 : Int32))) ||| ((yX &&& (63 : Int32)) <<< (((6 : Int32) * ((yL - (1 : Int32)) - yN)) &&& 31))) := ⟨_, rfl⟩
            rw [← hy15]
            refine own_step (T' := T1273) (f' := (mkF m 435 #[.val (.int p1), .val (.int p2), .val (.int p3), .val (.int p4), .val (.int yC), .val (.int yL), .val (.int vS), .val (.int yP), .val (.int yQ), .val (.ref bb), .val (.int yK), .val (.int (own_fV yC yL)), .val (.int yN), .val (.int yX), .val (.int ((6 : Int32) * ((yL - (1 : Int32)) - yN))), .val (.int y15)] [(.int yL), (.int y15)])) (fun tt kont => ?_) ?_
            · show Steps p.tables e below (T1273.setTop (mkF m 429 #[.val (.int p1), .val (.int p2), .val (.int p3), .val (.int p4), .val (.int yC), .val (.int yL), .val (.int vS), .val (.int yP), .val (.int yQ), .val (.ref bb), .val (.int yK), .val (.int (own_fV yC yL)), .val (.int yN), .val (.int yX), .val (.int ((6 : Int32) * ((yL - (1 : Int32)) - yN))), .unset] [(.int y15)])) _
              refine XS.istore X1273.here hx rfl (hb hby at_429) rfl (l' := #[.val (.int p1), .val (.int p2), .val (.int p3), .val (.int p4), .val (.int yC), .val (.int yL), .val (.int vS), .val (.int yP), .val (.int yQ), .val (.ref bb), .val (.int yK), .val (.int (own_fV yC yL)), .val (.int yN), .val (.int yX), .val (.int ((6 : Int32) * ((yL - (1 : Int32)) - yN))), .val (.int y15)]) rfl ?_
              show Steps p.tables e below (T1273.setTop (mkF m 431 #[.val (.int p1), .val (.int p2), .val (.int p3), .val (.int p4), .val (.int yC), .val (.int yL), .val (.int vS), .val (.int yP), .val (.int yQ), .val (.ref bb), .val (.int yK), .val (.int (own_fV yC yL)), .val (.int yN), .val (.int yX), .val (.int ((6 : Int32) * ((yL - (1 : Int32)) - yN))), .val (.int y15)] [])) _
              refine XS.iload X1273.here hx rfl (hb hby at_431) rfl ?_
              show Steps p.tables e below (T1273.setTop (mkF m 433 #[.val (.int p1), .val (.int p2), .val (.int p3), .val (.int p4), .val (.int yC), .val (.int yL), .val (.int vS), .val (.int yP), .val (.int yQ), .val (.ref bb), .val (.int yK), .val (.int (own_fV yC yL)), .val (.int yN), .val (.int yX), .val (.int ((6 : Int32) * ((yL - (1 : Int32)) - yN))), .val (.int y15)] [(.int y15)])) _
              refine XS.iload X1273.here hx rfl (hb hby at_433) rfl ?_
              exact kont
            obtain ⟨_, _, ⟨T1274, L1274, k1274, n1274⟩, -, X1274, ⟨Lc1274, hQ1274, l1274, y1274, z1274⟩, st1274⟩ := Jvm.LawKit.callS X1273 hx (y := (⟨"com/example/tallymark/tallymark/model/EstateFileReaderIsUtf8PinLaw", "valid", "(II)Z"⟩ : MethodName)) hown (mvT hZ (hw _ (List.mem_of_getElem? (i := 10) rfl))) (mvT hZ (hw _ (List.mem_of_getElem? (i := 11) rfl))) (mvT hZ (hw _ (List.mem_of_getElem? (i := 3) rfl))) (mvT hZ (hw _ (List.mem_of_getElem? (i := 12) rfl))) (by decide) (backOf (W := 0) (own_rmV l Z a0 hw y15 yL h1273 n0) hZ (hw _ (List.mem_of_getElem? (i := 12) rfl)) (hw _ (List.mem_of_getElem? (i := 3) rfl)) (by decide) (by decide)) (g := (mkF m 435 #[.val (.int p1), .val (.int p2), .val (.int p3), .val (.int p4), .val (.int yC), .val (.int yL), .val (.int vS), .val (.int yP), .val (.int yQ), .val (.ref bb), .val (.int yK), .val (.int (own_fV yC yL)), .val (.int yN), .val (.int yX), .val (.int ((6 : Int32) * ((yL - (1 : Int32)) - yN))), .val (.int y15)] [(.int yL), (.int y15)])) rfl (by rw [hml]; rfl) (argsL := [(.int y15), (.int yL)]) (rest := []) (lenOf own_pd2 rfl) rfl (by show 2 * 0 + _ ≤ _; exact Nat.le_of_eq rfl) (hb hby at_435) (fun _ _ => ⟨rfl, e1273, (by decide : 1 + 0 ≤ _), (by decide : 6 + 0 ≤ _)⟩)
            dsimp only [Pt.U, Pt.locs, Pt.cells, Pt.slots] at X1274 l1274 y1274 z1274 st1274 hQ1274
            subst l1274 y1274 z1274
            obtain ⟨rfl, N1274q, e1274⟩ := hQ1274
            have N1274 := Fr.app N1273 N1274q
            refine own_step (fun tt kont => st1274 _ kont) ?_
            refine own_step (T' := T1274) (f' := (mkF m 446 #[.val (.int p1), .val (.int p2), .val (.int p3), .val (.int p4), .val (.int yC), .val (.int yL), .val (.int vS), .val (.int yP), .val (.int yQ), .val (.ref bb), .val (.int yK), .val (.int (own_fV y15 yL)), .val (.int yN), .val (.int yX), .val (.int ((6 : Int32) * ((yL - (1 : Int32)) - yN))), .val (.int y15)] [])) (fun tt kont => ?_) ?_
            · show Steps p.tables e below (T1274.setTop (mkF m 438 #[.val (.int p1), .val (.int p2), .val (.int p3), .val (.int p4), .val (.int yC), .val (.int yL), .val (.int vS), .val (.int yP), .val (.int yQ), .val (.ref bb), .val (.int yK), .val (.int (own_fV yC yL)), .val (.int yN), .val (.int yX), .val (.int ((6 : Int32) * ((yL - (1 : Int32)) - yN))), .val (.int y15)] [(.int (own_fV y15 yL))])) _
              refine XS.istore X1274.here hx rfl (hb hby at_438) rfl (l' := #[.val (.int p1), .val (.int p2), .val (.int p3), .val (.int p4), .val (.int yC), .val (.int yL), .val (.int vS), .val (.int yP), .val (.int yQ), .val (.ref bb), .val (.int yK), .val (.int (own_fV y15 yL)), .val (.int yN), .val (.int yX), .val (.int ((6 : Int32) * ((yL - (1 : Int32)) - yN))), .val (.int y15)]) rfl ?_
              show Steps p.tables e below (T1274.setTop (mkF m 440 #[.val (.int p1), .val (.int p2), .val (.int p3), .val (.int p4), .val (.int yC), .val (.int yL), .val (.int vS), .val (.int yP), .val (.int yQ), .val (.ref bb), .val (.int yK), .val (.int (own_fV y15 yL)), .val (.int yN), .val (.int yX), .val (.int ((6 : Int32) * ((yL - (1 : Int32)) - yN))), .val (.int y15)] [])) _
              refine XS.goto X1274.here hx rfl (pc0 := 440) (pc' := 446) rfl (hb hby at_440) (by decide) (by decide) ?_
              exact kont
            exact own_s446 (F := (own_updI F (1 + kk) (nar .byte (yX.toInt8.toInt32)))) X1274 hx hZ hw hby hret hlk hml hown e1274 N1274 Z1273 gb VI_bb_1273 hL hL1 hL4 (own_S_upd hS (by omega)) (One.val rfl) (One.val rfl) (One.val rfl) (One.val rfl) hQ (own_ok2 hC henc hkk hkL hL hk12 hx13 hc387_6 hc395_7 hy15) (own_tr2 hC henc hkk)
set_option maxRecDepth 65536 in
set_option maxHeartbeats 40000000 in
theorem own_s99 {p : Program} {l : Launch} {e : Env} {s : State} {m : MethodId} {args : Array Value} {below : List Frame} {meth : Method} {c : Code} {T0 : State} {locs : List Loc} {Z : State} {a0 : Array Value} {h0 : Heap} {n0 : Nat} {p1 p2 p3 p4 yC yL vS yP yQ : Int32} {bb : Addr} {F : Nat → Int32} {L : Nat}  (X0 : Stand p l e room_1 s m args below meth c T0 locs 1 6) (hx : p.tables.exec = Jvm.exec) (hZ : Z.Warmed39 s.vm) (hw : ∀ d ∈ tables_1, d.before a0 Z = true) (hby : c.code = code) (hret : meth.sig.returnType = some .boolean) (hlk : meth.locks = false) (hml : c.maxLocals = 16) (hown : s.vm.findClass "com/example/tallymark/tallymark/model/EstateFileReaderIsUtf8PinLaw" = some m.cls) (e0 : T0.heap = h0) (N0 : Fr n0 locs) (Z0 : n0 ≤ h0.size) (gb : n0 ≤ bb) (VA : own_A Z h0 bb .byte 6 (fun k => .int (F k))) (hL : own_at yL L) (hL1 : 1 ≤ L) (hL4 : L ≤ 4) (hS : (vS = (0 : Int32) ∧ 0 ≤ (F 0).toInt ∧ (F 0).toInt < 128) ∨ vS = (1 : Int32)) (hQ : 0 ≤ yQ.toInt ∧ yQ.toInt < 128) (hC : 0 ≤ yC.toInt ∧ yC.toInt < 2097152) (hLm : (own_fL yC).toInt ≤ yL.toInt) :
    own_Go p e below T0 (mkF m 99 #[.val (.int p1), .val (.int p2), .val (.int p3), .val (.int p4), .val (.int yC), .val (.int yL), .val (.int vS), .val (.int yP), .val (.int yQ), .val (.ref bb), .unset, .unset, .unset, .unset, .unset, .unset] []) (fun o U' => ∃ v L, o = .returned v ∧ own_QL n0 v U'.heap L ∧ FrameEnd s o U' L 16 128) := by
  refine own_step (T' := T0) (f' := (mkF m 102 #[.val (.int p1), .val (.int p2), .val (.int p3), .val (.int p4), .val (.int yC), .val (.int yL), .val (.int vS), .val (.int yP), .val (.int yQ), .val (.ref bb), .unset, .unset, .unset, .unset, .unset, .unset] [(.int (1 : Int32)), (.int yL)])) (fun tt kont => ?_) ?_
  · show Steps p.tables e below (T0.setTop (mkF m 99 #[.val (.int p1), .val (.int p2), .val (.int p3), .val (.int p4), .val (.int yC), .val (.int yL), .val (.int vS), .val (.int yP), .val (.int yQ), .val (.ref bb), .unset, .unset, .unset, .unset, .unset, .unset] [])) _
    refine XS.iload X0.here hx rfl (hb hby at_99) rfl ?_
    show Steps p.tables e below (T0.setTop (mkF m 101 #[.val (.int p1), .val (.int p2), .val (.int p3), .val (.int p4), .val (.int yC), .val (.int yL), .val (.int vS), .val (.int yP), .val (.int yQ), .val (.ref bb), .unset, .unset, .unset, .unset, .unset, .unset] [(.int yL)])) _
    refine XS.iconst X0.here hx rfl (hb hby at_101) ?_
    exact kont
  by_cases hc102_0 : yL = (1 : Int32)
  · refine own_step (T' := T0) (f' := (mkF m 105 #[.val (.int p1), .val (.int p2), .val (.int p3), .val (.int p4), .val (.int yC), .val (.int yL), .val (.int vS), .val (.int yP), .val (.int yQ), .val (.ref bb), .unset, .unset, .unset, .unset, .unset, .unset] [])) (fun tt kont => ?_) ?_
    · show Steps p.tables e below (T0.setTop (mkF m 102 #[.val (.int p1), .val (.int p2), .val (.int p3), .val (.int p4), .val (.int yC), .val (.int yL), .val (.int vS), .val (.int yP), .val (.int yQ), .val (.ref bb), .unset, .unset, .unset, .unset, .unset, .unset] [(.int (1 : Int32)), (.int yL)])) _
      refine XS.icmpNo X0.here hx rfl (hb hby at_102) rfl (teq hc102_0).2 ?_
      exact kont
    obtain rfl := hc102_0
    refine own_step (T' := T0) (f' := (mkF m 111 #[.val (.int p1), .val (.int p2), .val (.int p3), .val (.int p4), .val (.int yC), .val (.int (1 : Int32)), .val (.int vS), .val (.int yP), .val (.int yQ), .val (.ref bb), .unset, .unset, .unset, .unset, .unset, .unset] [(.int (yC.toInt8.toInt32)), (.int (1 : Int32)), (.ref bb)])) (fun tt kont => ?_) ?_
    · show Steps p.tables e below (T0.setTop (mkF m 105 #[.val (.int p1), .val (.int p2), .val (.int p3), .val (.int p4), .val (.int yC), .val (.int (1 : Int32)), .val (.int vS), .val (.int yP), .val (.int yQ), .val (.ref bb), .unset, .unset, .unset, .unset, .unset, .unset] [])) _
      refine XS.aload X0.here hx rfl (hb hby at_105) rfl rfl ?_
      show Steps p.tables e below (T0.setTop (mkF m 107 #[.val (.int p1), .val (.int p2), .val (.int p3), .val (.int p4), .val (.int yC), .val (.int (1 : Int32)), .val (.int vS), .val (.int yP), .val (.int yQ), .val (.ref bb), .unset, .unset, .unset, .unset, .unset, .unset] [(.ref bb)])) _
      refine XS.iconst X0.here hx rfl (hb hby at_107) ?_
      show Steps p.tables e below (T0.setTop (mkF m 108 #[.val (.int p1), .val (.int p2), .val (.int p3), .val (.int p4), .val (.int yC), .val (.int (1 : Int32)), .val (.int vS), .val (.int yP), .val (.int yQ), .val (.ref bb), .unset, .unset, .unset, .unset, .unset, .unset] [(.int (1 : Int32)), (.ref bb)])) _
      refine XS.iload X0.here hx rfl (hb hby at_108) rfl ?_
      show Steps p.tables e below (T0.setTop (mkF m 110 #[.val (.int p1), .val (.int p2), .val (.int p3), .val (.int p4), .val (.int yC), .val (.int (1 : Int32)), .val (.int vS), .val (.int yP), .val (.int yQ), .val (.ref bb), .unset, .unset, .unset, .unset, .unset, .unset] [(.int yC), (.int (1 : Int32)), (.ref bb)])) _
      refine XS.i2b X0.here hx rfl (hb hby at_110) rfl ?_
      exact kont
    obtain ⟨T1100, h1100, X1100, e1100, W1100, V_bb_1100, st1100⟩ := own_stB X0 hx hZ e0 VA (j := (1 : Int32)) (i := 1) (own_at_lit rfl (by decide)) (by decide) (g := (mkF m 111 #[.val (.int p1), .val (.int p2), .val (.int p3), .val (.int p4), .val (.int yC), .val (.int (1 : Int32)), .val (.int vS), .val (.int yP), .val (.int yQ), .val (.ref bb), .unset, .unset, .unset, .unset, .unset, .unset] [(.int (yC.toInt8.toInt32)), (.int (1 : Int32)), (.ref bb)])) rfl rfl (hb hby at_111)
    have N1100 := Fr.snoc X1100 N0 gb
    have Z1100 : n0 ≤ h1100.size := Nat.le_trans Z0 (Keep.of_wr W1100).1
    have VI_bb_1100 : own_A Z h1100 bb .byte 6 (fun k => .int ((own_updI F 1 (nar .byte (yC.toInt8.toInt32))) k)) := own_toI V_bb_1100
    refine own_step st1100 ?_
    refine own_step (T' := T1100) (f' := (mkF m 268 #[.val (.int p1), .val (.int p2), .val (.int p3), .val (.int p4), .val (.int yC), .val (.int (1 : Int32)), .val (.int vS), .val (.int yP), .val (.int yQ), .val (.ref bb), .unset, .unset, .unset, .unset, .unset, .unset] [])) (fun tt kont => ?_) ?_
    · show Steps p.tables e below (T1100.setTop (mkF m 112 #[.val (.int p1), .val (.int p2), .val (.int p3), .val (.int p4), .val (.int yC), .val (.int (1 : Int32)), .val (.int vS), .val (.int yP), .val (.int yQ), .val (.ref bb), .unset, .unset, .unset, .unset, .unset, .unset] [])) _
      refine XS.goto X1100.here hx rfl (pc0 := 112) (pc' := 268) rfl (hb hby at_112) (by decide) (by decide) ?_
      exact kont
    exact own_s268 (F := (own_updI F 1 (nar .byte (yC.toInt8.toInt32)))) (L := 1) X1100 hx hZ hw hby hret hlk hml hown e1100 N1100 Z1100 gb VI_bb_1100 (own_at_lit rfl (by decide)) (by decide) (by decide) (own_S_upd hS (by decide)) hQ hC.1 (own_enc1 hC hLm)
  · refine own_step (T' := T0) (f' := (mkF m 118 #[.val (.int p1), .val (.int p2), .val (.int p3), .val (.int p4), .val (.int yC), .val (.int yL), .val (.int vS), .val (.int yP), .val (.int yQ), .val (.ref bb), .unset, .unset, .unset, .unset, .unset, .unset] [(.int (2 : Int32)), (.int yL)])) (fun tt kont => ?_) ?_
    · show Steps p.tables e below (T0.setTop (mkF m 102 #[.val (.int p1), .val (.int p2), .val (.int p3), .val (.int p4), .val (.int yC), .val (.int yL), .val (.int vS), .val (.int yP), .val (.int yQ), .val (.ref bb), .unset, .unset, .unset, .unset, .unset, .unset] [(.int (1 : Int32)), (.int yL)])) _
      refine XS.icmpYes X0.here hx rfl (pc0 := 102) (pc' := 115) rfl (hb hby at_102) rfl (feq hc102_0).2 (by decide) (by decide) ?_
      show Steps p.tables e below (T0.setTop (mkF m 115 #[.val (.int p1), .val (.int p2), .val (.int p3), .val (.int p4), .val (.int yC), .val (.int yL), .val (.int vS), .val (.int yP), .val (.int yQ), .val (.ref bb), .unset, .unset, .unset, .unset, .unset, .unset] [])) _
      refine XS.iload X0.here hx rfl (hb hby at_115) rfl ?_
      show Steps p.tables e below (T0.setTop (mkF m 117 #[.val (.int p1), .val (.int p2), .val (.int p3), .val (.int p4), .val (.int yC), .val (.int yL), .val (.int vS), .val (.int yP), .val (.int yQ), .val (.ref bb), .unset, .unset, .unset, .unset, .unset, .unset] [(.int yL)])) _
      refine XS.iconst X0.here hx rfl (hb hby at_117) ?_
      exact kont
    by_cases hc118_1 : yL = (2 : Int32)
    · refine own_step (T' := T0) (f' := (mkF m 121 #[.val (.int p1), .val (.int p2), .val (.int p3), .val (.int p4), .val (.int yC), .val (.int yL), .val (.int vS), .val (.int yP), .val (.int yQ), .val (.ref bb), .unset, .unset, .unset, .unset, .unset, .unset] [])) (fun tt kont => ?_) ?_
      · show Steps p.tables e below (T0.setTop (mkF m 118 #[.val (.int p1), .val (.int p2), .val (.int p3), .val (.int p4), .val (.int yC), .val (.int yL), .val (.int vS), .val (.int yP), .val (.int yQ), .val (.ref bb), .unset, .unset, .unset, .unset, .unset, .unset] [(.int (2 : Int32)), (.int yL)])) _
        refine XS.icmpNo X0.here hx rfl (hb hby at_118) rfl (teq hc118_1).2 ?_
        exact kont
      obtain rfl := hc118_1
      refine own_step (T' := T0) (f' := (mkF m 134 #[.val (.int p1), .val (.int p2), .val (.int p3), .val (.int p4), .val (.int yC), .val (.int (2 : Int32)), .val (.int vS), .val (.int yP), .val (.int yQ), .val (.ref bb), .unset, .unset, .unset, .unset, .unset, .unset] [(.int (((192 : Int32) ||| ((yC.toUInt32 >>> ((6 : Int32) &&& 31).toUInt32).toInt32)).toInt8.toInt32)), (.int (1 : Int32)), (.ref bb)])) (fun tt kont => ?_) ?_
      · show Steps p.tables e below (T0.setTop (mkF m 121 #[.val (.int p1), .val (.int p2), .val (.int p3), .val (.int p4), .val (.int yC), .val (.int (2 : Int32)), .val (.int vS), .val (.int yP), .val (.int yQ), .val (.ref bb), .unset, .unset, .unset, .unset, .unset, .unset] [])) _
        refine XS.aload X0.here hx rfl (hb hby at_121) rfl rfl ?_
        show Steps p.tables e below (T0.setTop (mkF m 123 #[.val (.int p1), .val (.int p2), .val (.int p3), .val (.int p4), .val (.int yC), .val (.int (2 : Int32)), .val (.int vS), .val (.int yP), .val (.int yQ), .val (.ref bb), .unset, .unset, .unset, .unset, .unset, .unset] [(.ref bb)])) _
        refine XS.iconst X0.here hx rfl (hb hby at_123) ?_
        show Steps p.tables e below (T0.setTop (mkF m 124 #[.val (.int p1), .val (.int p2), .val (.int p3), .val (.int p4), .val (.int yC), .val (.int (2 : Int32)), .val (.int vS), .val (.int yP), .val (.int yQ), .val (.ref bb), .unset, .unset, .unset, .unset, .unset, .unset] [(.int (1 : Int32)), (.ref bb)])) _
        refine XS.sipush X0.here hx rfl (hb hby at_124) ?_
        show Steps p.tables e below (T0.setTop (mkF m 127 #[.val (.int p1), .val (.int p2), .val (.int p3), .val (.int p4), .val (.int yC), .val (.int (2 : Int32)), .val (.int vS), .val (.int yP), .val (.int yQ), .val (.ref bb), .unset, .unset, .unset, .unset, .unset, .unset] [(.int (192 : Int32)), (.int (1 : Int32)), (.ref bb)])) _
        refine XS.iload X0.here hx rfl (hb hby at_127) rfl ?_
        show Steps p.tables e below (T0.setTop (mkF m 129 #[.val (.int p1), .val (.int p2), .val (.int p3), .val (.int p4), .val (.int yC), .val (.int (2 : Int32)), .val (.int vS), .val (.int yP), .val (.int yQ), .val (.ref bb), .unset, .unset, .unset, .unset, .unset, .unset] [(.int yC), (.int (192 : Int32)), (.int (1 : Int32)), (.ref bb)])) _
        refine XS.bipush X0.here hx rfl (hb hby at_129) ?_
        show Steps p.tables e below (T0.setTop (mkF m 131 #[.val (.int p1), .val (.int p2), .val (.int p3), .val (.int p4), .val (.int yC), .val (.int (2 : Int32)), .val (.int vS), .val (.int yP), .val (.int yQ), .val (.ref bb), .unset, .unset, .unset, .unset, .unset, .unset] [(.int (6 : Int32)), (.int yC), (.int (192 : Int32)), (.int (1 : Int32)), (.ref bb)])) _
        refine XS.iushr X0.here hx rfl (hb hby at_131) rfl ?_
        show Steps p.tables e below (T0.setTop (mkF m 132 #[.val (.int p1), .val (.int p2), .val (.int p3), .val (.int p4), .val (.int yC), .val (.int (2 : Int32)), .val (.int vS), .val (.int yP), .val (.int yQ), .val (.ref bb), .unset, .unset, .unset, .unset, .unset, .unset] [(.int ((yC.toUInt32 >>> ((6 : Int32) &&& 31).toUInt32).toInt32)), (.int (192 : Int32)), (.int (1 : Int32)), (.ref bb)])) _
        refine XS.ior X0.here hx rfl (hb hby at_132) rfl ?_
        show Steps p.tables e below (T0.setTop (mkF m 133 #[.val (.int p1), .val (.int p2), .val (.int p3), .val (.int p4), .val (.int yC), .val (.int (2 : Int32)), .val (.int vS), .val (.int yP), .val (.int yQ), .val (.ref bb), .unset, .unset, .unset, .unset, .unset, .unset] [(.int ((192 : Int32) ||| ((yC.toUInt32 >>> ((6 : Int32) &&& 31).toUInt32).toInt32))), (.int (1 : Int32)), (.ref bb)])) _
        refine XS.i2b X0.here hx rfl (hb hby at_133) rfl ?_
        exact kont
      obtain ⟨T1101, h1101, X1101, e1101, W1101, V_bb_1101, st1101⟩ := own_stB X0 hx hZ e0 VA (j := (1 : Int32)) (i := 1) (own_at_lit rfl (by decide)) (by decide) (g := (mkF m 134 #[.val (.int p1), .val (.int p2), .val (.int p3), .val (.int p4), .val (.int yC), .val (.int (2 : Int32)), .val (.int vS), .val (.int yP), .val (.int yQ), .val (.ref bb), .unset, .unset, .unset, .unset, .unset, .unset] [(.int (((192 : Int32) ||| ((yC.toUInt32 >>> ((6 : Int32) &&& 31).toUInt32).toInt32)).toInt8.toInt32)), (.int (1 : Int32)), (.ref bb)])) rfl rfl (hb hby at_134)
      have N1101 := Fr.snoc X1101 N0 gb
      have Z1101 : n0 ≤ h1101.size := Nat.le_trans Z0 (Keep.of_wr W1101).1
      have VI_bb_1101 : own_A Z h1101 bb .byte 6 (fun k => .int ((own_updI F 1 (nar .byte (((192 : Int32) ||| ((yC.toUInt32 >>> ((6 : Int32) &&& 31).toUInt32).toInt32)).toInt8.toInt32))) k)) := own_toI V_bb_1101
      refine own_step st1101 ?_
      refine own_step (T' := T1101) (f' := (mkF m 148 #[.val (.int p1), .val (.int p2), .val (.int p3), .val (.int p4), .val (.int yC), .val (.int (2 : Int32)), .val (.int vS), .val (.int yP), .val (.int yQ), .val (.ref bb), .unset, .unset, .unset, .unset, .unset, .unset] [(.int (((128 : Int32) ||| (yC &&& (63 : Int32))).toInt8.toInt32)), (.int (2 : Int32)), (.ref bb)])) (fun tt kont => ?_) ?_
      · show Steps p.tables e below (T1101.setTop (mkF m 135 #[.val (.int p1), .val (.int p2), .val (.int p3), .val (.int p4), .val (.int yC), .val (.int (2 : Int32)), .val (.int vS), .val (.int yP), .val (.int yQ), .val (.ref bb), .unset, .unset, .unset, .unset, .unset, .unset] [])) _
        refine XS.aload X1101.here hx rfl (hb hby at_135) rfl rfl ?_
        show Steps p.tables e below (T1101.setTop (mkF m 137 #[.val (.int p1), .val (.int p2), .val (.int p3), .val (.int p4), .val (.int yC), .val (.int (2 : Int32)), .val (.int vS), .val (.int yP), .val (.int yQ), .val (.ref bb), .unset, .unset, .unset, .unset, .unset, .unset] [(.ref bb)])) _
        refine XS.iconst X1101.here hx rfl (hb hby at_137) ?_
        show Steps p.tables e below (T1101.setTop (mkF m 138 #[.val (.int p1), .val (.int p2), .val (.int p3), .val (.int p4), .val (.int yC), .val (.int (2 : Int32)), .val (.int vS), .val (.int yP), .val (.int yQ), .val (.ref bb), .unset, .unset, .unset, .unset, .unset, .unset] [(.int (2 : Int32)), (.ref bb)])) _
        refine XS.sipush X1101.here hx rfl (hb hby at_138) ?_
        show Steps p.tables e below (T1101.setTop (mkF m 141 #[.val (.int p1), .val (.int p2), .val (.int p3), .val (.int p4), .val (.int yC), .val (.int (2 : Int32)), .val (.int vS), .val (.int yP), .val (.int yQ), .val (.ref bb), .unset, .unset, .unset, .unset, .unset, .unset] [(.int (128 : Int32)), (.int (2 : Int32)), (.ref bb)])) _
        refine XS.iload X1101.here hx rfl (hb hby at_141) rfl ?_
        show Steps p.tables e below (T1101.setTop (mkF m 143 #[.val (.int p1), .val (.int p2), .val (.int p3), .val (.int p4), .val (.int yC), .val (.int (2 : Int32)), .val (.int vS), .val (.int yP), .val (.int yQ), .val (.ref bb), .unset, .unset, .unset, .unset, .unset, .unset] [(.int yC), (.int (128 : Int32)), (.int (2 : Int32)), (.ref bb)])) _
        refine XS.bipush X1101.here hx rfl (hb hby at_143) ?_
        show Steps p.tables e below (T1101.setTop (mkF m 145 #[.val (.int p1), .val (.int p2), .val (.int p3), .val (.int p4), .val (.int yC), .val (.int (2 : Int32)), .val (.int vS), .val (.int yP), .val (.int yQ), .val (.ref bb), .unset, .unset, .unset, .unset, .unset, .unset] [(.int (63 : Int32)), (.int yC), (.int (128 : Int32)), (.int (2 : Int32)), (.ref bb)])) _
        refine XS.iand X1101.here hx rfl (hb hby at_145) rfl ?_
        show Steps p.tables e below (T1101.setTop (mkF m 146 #[.val (.int p1), .val (.int p2), .val (.int p3), .val (.int p4), .val (.int yC), .val (.int (2 : Int32)), .val (.int vS), .val (.int yP), .val (.int yQ), .val (.ref bb), .unset, .unset, .unset, .unset, .unset, .unset] [(.int (yC &&& (63 : Int32))), (.int (128 : Int32)), (.int (2 : Int32)), (.ref bb)])) _
        refine XS.ior X1101.here hx rfl (hb hby at_146) rfl ?_
        show Steps p.tables e below (T1101.setTop (mkF m 147 #[.val (.int p1), .val (.int p2), .val (.int p3), .val (.int p4), .val (.int yC), .val (.int (2 : Int32)), .val (.int vS), .val (.int yP), .val (.int yQ), .val (.ref bb), .unset, .unset, .unset, .unset, .unset, .unset] [(.int ((128 : Int32) ||| (yC &&& (63 : Int32)))), (.int (2 : Int32)), (.ref bb)])) _
        refine XS.i2b X1101.here hx rfl (hb hby at_147) rfl ?_
        exact kont
      obtain ⟨T1102, h1102, X1102, e1102, W1102, V_bb_1102, st1102⟩ := own_stB X1101 hx hZ e1101 VI_bb_1101 (j := (2 : Int32)) (i := 2) (own_at_lit rfl (by decide)) (by decide) (g := (mkF m 148 #[.val (.int p1), .val (.int p2), .val (.int p3), .val (.int p4), .val (.int yC), .val (.int (2 : Int32)), .val (.int vS), .val (.int yP), .val (.int yQ), .val (.ref bb), .unset, .unset, .unset, .unset, .unset, .unset] [(.int (((128 : Int32) ||| (yC &&& (63 : Int32))).toInt8.toInt32)), (.int (2 : Int32)), (.ref bb)])) rfl rfl (hb hby at_148)
      have N1102 := Fr.snoc X1102 N1101 gb
      have Z1102 : n0 ≤ h1102.size := Nat.le_trans Z1101 (Keep.of_wr W1102).1
      have VI_bb_1102 : own_A Z h1102 bb .byte 6 (fun k => .int ((own_updI (own_updI F 1 (nar .byte (((192 : Int32) ||| ((yC.toUInt32 >>> ((6 : Int32) &&& 31).toUInt32).toInt32)).toInt8.toInt32))) 2 (nar .byte (((128 : Int32) ||| (yC &&& (63 : Int32))).toInt8.toInt32))) k)) := own_toI V_bb_1102
      refine own_step st1102 ?_
      refine own_step (T' := T1102) (f' := (mkF m 268 #[.val (.int p1), .val (.int p2), .val (.int p3), .val (.int p4), .val (.int yC), .val (.int (2 : Int32)), .val (.int vS), .val (.int yP), .val (.int yQ), .val (.ref bb), .unset, .unset, .unset, .unset, .unset, .unset] [])) (fun tt kont => ?_) ?_
      · show Steps p.tables e below (T1102.setTop (mkF m 149 #[.val (.int p1), .val (.int p2), .val (.int p3), .val (.int p4), .val (.int yC), .val (.int (2 : Int32)), .val (.int vS), .val (.int yP), .val (.int yQ), .val (.ref bb), .unset, .unset, .unset, .unset, .unset, .unset] [])) _
        refine XS.goto X1102.here hx rfl (pc0 := 149) (pc' := 268) rfl (hb hby at_149) (by decide) (by decide) ?_
        exact kont
      exact own_s268 (F := (own_updI (own_updI F 1 (nar .byte (((192 : Int32) ||| ((yC.toUInt32 >>> ((6 : Int32) &&& 31).toUInt32).toInt32)).toInt8.toInt32))) 2 (nar .byte (((128 : Int32) ||| (yC &&& (63 : Int32))).toInt8.toInt32)))) (L := 2) X1102 hx hZ hw hby hret hlk hml hown e1102 N1102 Z1102 gb VI_bb_1102 (own_at_lit rfl (by decide)) (by decide) (by decide) (own_S_upd (own_S_upd (hS) (by decide)) (by decide)) hQ hC.1 (own_enc2 hC hLm)
    · refine own_step (T' := T0) (f' := (mkF m 155 #[.val (.int p1), .val (.int p2), .val (.int p3), .val (.int p4), .val (.int yC), .val (.int yL), .val (.int vS), .val (.int yP), .val (.int yQ), .val (.ref bb), .unset, .unset, .unset, .unset, .unset, .unset] [(.int (3 : Int32)), (.int yL)])) (fun tt kont => ?_) ?_
      · show Steps p.tables e below (T0.setTop (mkF m 118 #[.val (.int p1), .val (.int p2), .val (.int p3), .val (.int p4), .val (.int yC), .val (.int yL), .val (.int vS), .val (.int yP), .val (.int yQ), .val (.ref bb), .unset, .unset, .unset, .unset, .unset, .unset] [(.int (2 : Int32)), (.int yL)])) _
        refine XS.icmpYes X0.here hx rfl (pc0 := 118) (pc' := 152) rfl (hb hby at_118) rfl (feq hc118_1).2 (by decide) (by decide) ?_
        show Steps p.tables e below (T0.setTop (mkF m 152 #[.val (.int p1), .val (.int p2), .val (.int p3), .val (.int p4), .val (.int yC), .val (.int yL), .val (.int vS), .val (.int yP), .val (.int yQ), .val (.ref bb), .unset, .unset, .unset, .unset, .unset, .unset] [])) _
        refine XS.iload X0.here hx rfl (hb hby at_152) rfl ?_
        show Steps p.tables e below (T0.setTop (mkF m 154 #[.val (.int p1), .val (.int p2), .val (.int p3), .val (.int p4), .val (.int yC), .val (.int yL), .val (.int vS), .val (.int yP), .val (.int yQ), .val (.ref bb), .unset, .unset, .unset, .unset, .unset, .unset] [(.int yL)])) _
        refine XS.iconst X0.here hx rfl (hb hby at_154) ?_
        exact kont
      by_cases hc155_2 : yL = (3 : Int32)
      · refine own_step (T' := T0) (f' := (mkF m 158 #[.val (.int p1), .val (.int p2), .val (.int p3), .val (.int p4), .val (.int yC), .val (.int yL), .val (.int vS), .val (.int yP), .val (.int yQ), .val (.ref bb), .unset, .unset, .unset, .unset, .unset, .unset] [])) (fun tt kont => ?_) ?_
        · show Steps p.tables e below (T0.setTop (mkF m 155 #[.val (.int p1), .val (.int p2), .val (.int p3), .val (.int p4), .val (.int yC), .val (.int yL), .val (.int vS), .val (.int yP), .val (.int yQ), .val (.ref bb), .unset, .unset, .unset, .unset, .unset, .unset] [(.int (3 : Int32)), (.int yL)])) _
          refine XS.icmpNo X0.here hx rfl (hb hby at_155) rfl (teq hc155_2).2 ?_
          exact kont
        obtain rfl := hc155_2
        refine own_step (T' := T0) (f' := (mkF m 171 #[.val (.int p1), .val (.int p2), .val (.int p3), .val (.int p4), .val (.int yC), .val (.int (3 : Int32)), .val (.int vS), .val (.int yP), .val (.int yQ), .val (.ref bb), .unset, .unset, .unset, .unset, .unset, .unset] [(.int (((224 : Int32) ||| ((yC.toUInt32 >>> ((12 : Int32) &&& 31).toUInt32).toInt32)).toInt8.toInt32)), (.int (1 : Int32)), (.ref bb)])) (fun tt kont => ?_) ?_
        · show Steps p.tables e below (T0.setTop (mkF m 158 #[.val (.int p1), .val (.int p2), .val (.int p3), .val (.int p4), .val (.int yC), .val (.int (3 : Int32)), .val (.int vS), .val (.int yP), .val (.int yQ), .val (.ref bb), .unset, .unset, .unset, .unset, .unset, .unset] [])) _
          refine XS.aload X0.here hx rfl (hb hby at_158) rfl rfl ?_
          show Steps p.tables e below (T0.setTop (mkF m 160 #[.val (.int p1), .val (.int p2), .val (.int p3), .val (.int p4), .val (.int yC), .val (.int (3 : Int32)), .val (.int vS), .val (.int yP), .val (.int yQ), .val (.ref bb), .unset, .unset, .unset, .unset, .unset, .unset] [(.ref bb)])) _
          refine XS.iconst X0.here hx rfl (hb hby at_160) ?_
          show Steps p.tables e below (T0.setTop (mkF m 161 #[.val (.int p1), .val (.int p2), .val (.int p3), .val (.int p4), .val (.int yC), .val (.int (3 : Int32)), .val (.int vS), .val (.int yP), .val (.int yQ), .val (.ref bb), .unset, .unset, .unset, .unset, .unset, .unset] [(.int (1 : Int32)), (.ref bb)])) _
          refine XS.sipush X0.here hx rfl (hb hby at_161) ?_
          show Steps p.tables e below (T0.setTop (mkF m 164 #[.val (.int p1), .val (.int p2), .val (.int p3), .val (.int p4), .val (.int yC), .val (.int (3 : Int32)), .val (.int vS), .val (.int yP), .val (.int yQ), .val (.ref bb), .unset, .unset, .unset, .unset, .unset, .unset] [(.int (224 : Int32)), (.int (1 : Int32)), (.ref bb)])) _
          refine XS.iload X0.here hx rfl (hb hby at_164) rfl ?_
          show Steps p.tables e below (T0.setTop (mkF m 166 #[.val (.int p1), .val (.int p2), .val (.int p3), .val (.int p4), .val (.int yC), .val (.int (3 : Int32)), .val (.int vS), .val (.int yP), .val (.int yQ), .val (.ref bb), .unset, .unset, .unset, .unset, .unset, .unset] [(.int yC), (.int (224 : Int32)), (.int (1 : Int32)), (.ref bb)])) _
          refine XS.bipush X0.here hx rfl (hb hby at_166) ?_
          show Steps p.tables e below (T0.setTop (mkF m 168 #[.val (.int p1), .val (.int p2), .val (.int p3), .val (.int p4), .val (.int yC), .val (.int (3 : Int32)), .val (.int vS), .val (.int yP), .val (.int yQ), .val (.ref bb), .unset, .unset, .unset, .unset, .unset, .unset] [(.int (12 : Int32)), (.int yC), (.int (224 : Int32)), (.int (1 : Int32)), (.ref bb)])) _
          refine XS.iushr X0.here hx rfl (hb hby at_168) rfl ?_
          show Steps p.tables e below (T0.setTop (mkF m 169 #[.val (.int p1), .val (.int p2), .val (.int p3), .val (.int p4), .val (.int yC), .val (.int (3 : Int32)), .val (.int vS), .val (.int yP), .val (.int yQ), .val (.ref bb), .unset, .unset, .unset, .unset, .unset, .unset] [(.int ((yC.toUInt32 >>> ((12 : Int32) &&& 31).toUInt32).toInt32)), (.int (224 : Int32)), (.int (1 : Int32)), (.ref bb)])) _
          refine XS.ior X0.here hx rfl (hb hby at_169) rfl ?_
          show Steps p.tables e below (T0.setTop (mkF m 170 #[.val (.int p1), .val (.int p2), .val (.int p3), .val (.int p4), .val (.int yC), .val (.int (3 : Int32)), .val (.int vS), .val (.int yP), .val (.int yQ), .val (.ref bb), .unset, .unset, .unset, .unset, .unset, .unset] [(.int ((224 : Int32) ||| ((yC.toUInt32 >>> ((12 : Int32) &&& 31).toUInt32).toInt32))), (.int (1 : Int32)), (.ref bb)])) _
          refine XS.i2b X0.here hx rfl (hb hby at_170) rfl ?_
          exact kont
        obtain ⟨T1103, h1103, X1103, e1103, W1103, V_bb_1103, st1103⟩ := own_stB X0 hx hZ e0 VA (j := (1 : Int32)) (i := 1) (own_at_lit rfl (by decide)) (by decide) (g := (mkF m 171 #[.val (.int p1), .val (.int p2), .val (.int p3), .val (.int p4), .val (.int yC), .val (.int (3 : Int32)), .val (.int vS), .val (.int yP), .val (.int yQ), .val (.ref bb), .unset, .unset, .unset, .unset, .unset, .unset] [(.int (((224 : Int32) ||| ((yC.toUInt32 >>> ((12 : Int32) &&& 31).toUInt32).toInt32)).toInt8.toInt32)), (.int (1 : Int32)), (.ref bb)])) rfl rfl (hb hby at_171)
        have N1103 := Fr.snoc X1103 N0 gb
        have Z1103 : n0 ≤ h1103.size := Nat.le_trans Z0 (Keep.of_wr W1103).1
        have VI_bb_1103 : own_A Z h1103 bb .byte 6 (fun k => .int ((own_updI F 1 (nar .byte (((224 : Int32) ||| ((yC.toUInt32 >>> ((12 : Int32) &&& 31).toUInt32).toInt32)).toInt8.toInt32))) k)) := own_toI V_bb_1103
        refine own_step st1103 ?_
        refine own_step (T' := T1103) (f' := (mkF m 188 #[.val (.int p1), .val (.int p2), .val (.int p3), .val (.int p4), .val (.int yC), .val (.int (3 : Int32)), .val (.int vS), .val (.int yP), .val (.int yQ), .val (.ref bb), .unset, .unset, .unset, .unset, .unset, .unset] [(.int (((128 : Int32) ||| (((yC.toUInt32 >>> ((6 : Int32) &&& 31).toUInt32).toInt32) &&& (63 : Int32))).toInt8.toInt32)), (.int (2 : Int32)), (.ref bb)])) (fun tt kont => ?_) ?_
        · show Steps p.tables e below (T1103.setTop (mkF m 172 #[.val (.int p1), .val (.int p2), .val (.int p3), .val (.int p4), .val (.int yC), .val (.int (3 : Int32)), .val (.int vS), .val (.int yP), .val (.int yQ), .val (.ref bb), .unset, .unset, .unset, .unset, .unset, .unset] [])) _
          refine XS.aload X1103.here hx rfl (hb hby at_172) rfl rfl ?_
          show Steps p.tables e below (T1103.setTop (mkF m 174 #[.val (.int p1), .val (.int p2), .val (.int p3), .val (.int p4), .val (.int yC), .val (.int (3 : Int32)), .val (.int vS), .val (.int yP), .val (.int yQ), .val (.ref bb), .unset, .unset, .unset, .unset, .unset, .unset] [(.ref bb)])) _
          refine XS.iconst X1103.here hx rfl (hb hby at_174) ?_
          show Steps p.tables e below (T1103.setTop (mkF m 175 #[.val (.int p1), .val (.int p2), .val (.int p3), .val (.int p4), .val (.int yC), .val (.int (3 : Int32)), .val (.int vS), .val (.int yP), .val (.int yQ), .val (.ref bb), .unset, .unset, .unset, .unset, .unset, .unset] [(.int (2 : Int32)), (.ref bb)])) _
          refine XS.sipush X1103.here hx rfl (hb hby at_175) ?_
          show Steps p.tables e below (T1103.setTop (mkF m 178 #[.val (.int p1), .val (.int p2), .val (.int p3), .val (.int p4), .val (.int yC), .val (.int (3 : Int32)), .val (.int vS), .val (.int yP), .val (.int yQ), .val (.ref bb), .unset, .unset, .unset, .unset, .unset, .unset] [(.int (128 : Int32)), (.int (2 : Int32)), (.ref bb)])) _
          refine XS.iload X1103.here hx rfl (hb hby at_178) rfl ?_
          show Steps p.tables e below (T1103.setTop (mkF m 180 #[.val (.int p1), .val (.int p2), .val (.int p3), .val (.int p4), .val (.int yC), .val (.int (3 : Int32)), .val (.int vS), .val (.int yP), .val (.int yQ), .val (.ref bb), .unset, .unset, .unset, .unset, .unset, .unset] [(.int yC), (.int (128 : Int32)), (.int (2 : Int32)), (.ref bb)])) _
          refine XS.bipush X1103.here hx rfl (hb hby at_180) ?_
          show Steps p.tables e below (T1103.setTop (mkF m 182 #[.val (.int p1), .val (.int p2), .val (.int p3), .val (.int p4), .val (.int yC), .val (.int (3 : Int32)), .val (.int vS), .val (.int yP), .val (.int yQ), .val (.ref bb), .unset, .unset, .unset, .unset, .unset, .unset] [(.int (6 : Int32)), (.int yC), (.int (128 : Int32)), (.int (2 : Int32)), (.ref bb)])) _
          refine XS.iushr X1103.here hx rfl (hb hby at_182) rfl ?_
          show Steps p.tables e below (T1103.setTop (mkF m 183 #[.val (.int p1), .val (.int p2), .val (.int p3), .val (.int p4), .val (.int yC), .val (.int (3 : Int32)), .val (.int vS), .val (.int yP), .val (.int yQ), .val (.ref bb), .unset, .unset, .unset, .unset, .unset, .unset] [(.int ((yC.toUInt32 >>> ((6 : Int32) &&& 31).toUInt32).toInt32)), (.int (128 : Int32)), (.int (2 : Int32)), (.ref bb)])) _
          refine XS.bipush X1103.here hx rfl (hb hby at_183) ?_
          show Steps p.tables e below (T1103.setTop (mkF m 185 #[.val (.int p1), .val (.int p2), .val (.int p3), .val (.int p4), .val (.int yC), .val (.int (3 : Int32)), .val (.int vS), .val (.int yP), .val (.int yQ), .val (.ref bb), .unset, .unset, .unset, .unset, .unset, .unset] [(.int (63 : Int32)), (.int ((yC.toUInt32 >>> ((6 : Int32) &&& 31).toUInt32).toInt32)), (.int (128 : Int32)), (.int (2 : Int32)), (.ref bb)])) _
          refine XS.iand X1103.here hx rfl (hb hby at_185) rfl ?_
          show Steps p.tables e below (T1103.setTop (mkF m 186 #[.val (.int p1), .val (.int p2), .val (.int p3), .val (.int p4), .val (.int yC), .val (.int (3 : Int32)), .val (.int vS), .val (.int yP), .val (.int yQ), .val (.ref bb), .unset, .unset, .unset, .unset, .unset, .unset] [(.int (((yC.toUInt32 >>> ((6 : Int32) &&& 31).toUInt32).toInt32) &&& (63 : Int32))), (.int (128 : Int32)), (.int (2 : Int32)), (.ref bb)])) _
          refine XS.ior X1103.here hx rfl (hb hby at_186) rfl ?_
          show Steps p.tables e below (T1103.setTop (mkF m 187 #[.val (.int p1), .val (.int p2), .val (.int p3), .val (.int p4), .val (.int yC), .val (.int (3 : Int32)), .val (.int vS), .val (.int yP), .val (.int yQ), .val (.ref bb), .unset, .unset, .unset, .unset, .unset, .unset] [(.int ((128 : Int32) ||| (((yC.toUInt32 >>> ((6 : Int32) &&& 31).toUInt32).toInt32) &&& (63 : Int32)))), (.int (2 : Int32)), (.ref bb)])) _
          refine XS.i2b X1103.here hx rfl (hb hby at_187) rfl ?_
          exact kont
        obtain ⟨T1104, h1104, X1104, e1104, W1104, V_bb_1104, st1104⟩ := own_stB X1103 hx hZ e1103 VI_bb_1103 (j := (2 : Int32)) (i := 2) (own_at_lit rfl (by decide)) (by decide) (g := (mkF m 188 #[.val (.int p1), .val (.int p2), .val (.int p3), .val (.int p4), .val (.int yC), .val (.int (3 : Int32)), .val (.int vS), .val (.int yP), .val (.int yQ), .val (.ref bb), .unset, .unset, .unset, .unset, .unset, .unset] [(.int (((128 : Int32) ||| (((yC.toUInt32 >>> ((6 : Int32) &&& 31).toUInt32).toInt32) &&& (63 : Int32))).toInt8.toInt32)), (.int (2 : Int32)), (.ref bb)])) rfl rfl (hb hby at_188)
        have N1104 := Fr.snoc X1104 N1103 gb
        have Z1104 : n0 ≤ h1104.size := Nat.le_trans Z1103 (Keep.of_wr W1104).1
        have VI_bb_1104 : own_A Z h1104 bb .byte 6 (fun k => .int ((own_updI (own_updI F 1 (nar .byte (((224 : Int32) ||| ((yC.toUInt32 >>> ((12 : Int32) &&& 31).toUInt32).toInt32)).toInt8.toInt32))) 2 (nar .byte (((128 : Int32) ||| (((yC.toUInt32 >>> ((6 : Int32) &&& 31).toUInt32).toInt32) &&& (63 : Int32))).toInt8.toInt32))) k)) := own_toI V_bb_1104
        refine own_step st1104 ?_
        refine own_step (T' := T1104) (f' := (mkF m 202 #[.val (.int p1), .val (.int p2), .val (.int p3), .val (.int p4), .val (.int yC), .val (.int (3 : Int32)), .val (.int vS), .val (.int yP), .val (.int yQ), .val (.ref bb), .unset, .unset, .unset, .unset, .unset, .unset] [(.int (((128 : Int32) ||| (yC &&& (63 : Int32))).toInt8.toInt32)), (.int (3 : Int32)), (.ref bb)])) (fun tt kont => ?_) ?_
        · show Steps p.tables e below (T1104.setTop (mkF m 189 #[.val (.int p1), .val (.int p2), .val (.int p3), .val (.int p4), .val (.int yC), .val (.int (3 : Int32)), .val (.int vS), .val (.int yP), .val (.int yQ), .val (.ref bb), .unset, .unset, .unset, .unset, .unset, .unset] [])) _
          refine XS.aload X1104.here hx rfl (hb hby at_189) rfl rfl ?_
          show Steps p.tables e below (T1104.setTop (mkF m 191 #[.val (.int p1), .val (.int p2), .val (.int p3), .val (.int p4), .val (.int yC), .val (.int (3 : Int32)), .val (.int vS), .val (.int yP), .val (.int yQ), .val (.ref bb), .unset, .unset, .unset, .unset, .unset, .unset] [(.ref bb)])) _
          refine XS.iconst X1104.here hx rfl (hb hby at_191) ?_
          show Steps p.tables e below (T1104.setTop (mkF m 192 #[.val (.int p1), .val (.int p2), .val (.int p3), .val (.int p4), .val (.int yC), .val (.int (3 : Int32)), .val (.int vS), .val (.int yP), .val (.int yQ), .val (.ref bb), .unset, .unset, .unset, .unset, .unset, .unset] [(.int (3 : Int32)), (.ref bb)])) _
          refine XS.sipush X1104.here hx rfl (hb hby at_192) ?_
          show Steps p.tables e below (T1104.setTop (mkF m 195 #[.val (.int p1), .val (.int p2), .val (.int p3), .val (.int p4), .val (.int yC), .val (.int (3 : Int32)), .val (.int vS), .val (.int yP), .val (.int yQ), .val (.ref bb), .unset, .unset, .unset, .unset, .unset, .unset] [(.int (128 : Int32)), (.int (3 : Int32)), (.ref bb)])) _
          refine XS.iload X1104.here hx rfl (hb hby at_195) rfl ?_
          show Steps p.tables e below (T1104.setTop (mkF m 197 #[.val (.int p1), .val (.int p2), .val (.int p3), .val (.int p4), .val (.int yC), .val (.int (3 : Int32)), .val (.int vS), .val (.int yP), .val (.int yQ), .val (.ref bb), .unset, .unset, .unset, .unset, .unset, .unset] [(.int yC), (.int (128 : Int32)), (.int (3 : Int32)), (.ref bb)])) _
          refine XS.bipush X1104.here hx rfl (hb hby at_197) ?_
          show Steps p.tables e below (T1104.setTop (mkF m 199 #[.val (.int p1), .val (.int p2), .val (.int p3), .val (.int p4), .val (.int yC), .val (.int (3 : Int32)), .val (.int vS), .val (.int yP), .val (.int yQ), .val (.ref bb), .unset, .unset, .unset, .unset, .unset, .unset] [(.int (63 : Int32)), (.int yC), (.int (128 : Int32)), (.int (3 : Int32)), (.ref bb)])) _
          refine XS.iand X1104.here hx rfl (hb hby at_199) rfl ?_
          show Steps p.tables e below (T1104.setTop (mkF m 200 #[.val (.int p1), .val (.int p2), .val (.int p3), .val (.int p4), .val (.int yC), .val (.int (3 : Int32)), .val (.int vS), .val (.int yP), .val (.int yQ), .val (.ref bb), .unset, .unset, .unset, .unset, .unset, .unset] [(.int (yC &&& (63 : Int32))), (.int (128 : Int32)), (.int (3 : Int32)), (.ref bb)])) _
          refine XS.ior X1104.here hx rfl (hb hby at_200) rfl ?_
          show Steps p.tables e below (T1104.setTop (mkF m 201 #[.val (.int p1), .val (.int p2), .val (.int p3), .val (.int p4), .val (.int yC), .val (.int (3 : Int32)), .val (.int vS), .val (.int yP), .val (.int yQ), .val (.ref bb), .unset, .unset, .unset, .unset, .unset, .unset] [(.int ((128 : Int32) ||| (yC &&& (63 : Int32)))), (.int (3 : Int32)), (.ref bb)])) _
          refine XS.i2b X1104.here hx rfl (hb hby at_201) rfl ?_
          exact kont
        obtain ⟨T1105, h1105, X1105, e1105, W1105, V_bb_1105, st1105⟩ := own_stB X1104 hx hZ e1104 VI_bb_1104 (j := (3 : Int32)) (i := 3) (own_at_lit rfl (by decide)) (by decide) (g := (mkF m 202 #[.val (.int p1), .val (.int p2), .val (.int p3), .val (.int p4), .val (.int yC), .val (.int (3 : Int32)), .val (.int vS), .val (.int yP), .val (.int yQ), .val (.ref bb), .unset, .unset, .unset, .unset, .unset, .unset] [(.int (((128 : Int32) ||| (yC &&& (63 : Int32))).toInt8.toInt32)), (.int (3 : Int32)), (.ref bb)])) rfl rfl (hb hby at_202)
        have N1105 := Fr.snoc X1105 N1104 gb
        have Z1105 : n0 ≤ h1105.size := Nat.le_trans Z1104 (Keep.of_wr W1105).1
        have VI_bb_1105 : own_A Z h1105 bb .byte 6 (fun k => .int ((own_updI (own_updI (own_updI F 1 (nar .byte (((224 : Int32) ||| ((yC.toUInt32 >>> ((12 : Int32) &&& 31).toUInt32).toInt32)).toInt8.toInt32))) 2 (nar .byte (((128 : Int32) ||| (((yC.toUInt32 >>> ((6 : Int32) &&& 31).toUInt32).toInt32) &&& (63 : Int32))).toInt8.toInt32))) 3 (nar .byte (((128 : Int32) ||| (yC &&& (63 : Int32))).toInt8.toInt32))) k)) := own_toI V_bb_1105
        refine own_step st1105 ?_
        refine own_step (T' := T1105) (f' := (mkF m 268 #[.val (.int p1), .val (.int p2), .val (.int p3), .val (.int p4), .val (.int yC), .val (.int (3 : Int32)), .val (.int vS), .val (.int yP), .val (.int yQ), .val (.ref bb), .unset, .unset, .unset, .unset, .unset, .unset] [])) (fun tt kont => ?_) ?_
        · show Steps p.tables e below (T1105.setTop (mkF m 203 #[.val (.int p1), .val (.int p2), .val (.int p3), .val (.int p4), .val (.int yC), .val (.int (3 : Int32)), .val (.int vS), .val (.int yP), .val (.int yQ), .val (.ref bb), .unset, .unset, .unset, .unset, .unset, .unset] [])) _
          refine XS.goto X1105.here hx rfl (pc0 := 203) (pc' := 268) rfl (hb hby at_203) (by decide) (by decide) ?_
          exact kont
        exact own_s268 (F := (own_updI (own_updI (own_updI F 1 (nar .byte (((224 : Int32) ||| ((yC.toUInt32 >>> ((12 : Int32) &&& 31).toUInt32).toInt32)).toInt8.toInt32))) 2 (nar .byte (((128 : Int32) ||| (((yC.toUInt32 >>> ((6 : Int32) &&& 31).toUInt32).toInt32) &&& (63 : Int32))).toInt8.toInt32))) 3 (nar .byte (((128 : Int32) ||| (yC &&& (63 : Int32))).toInt8.toInt32)))) (L := 3) X1105 hx hZ hw hby hret hlk hml hown e1105 N1105 Z1105 gb VI_bb_1105 (own_at_lit rfl (by decide)) (by decide) (by decide) (own_S_upd (own_S_upd (own_S_upd (hS) (by decide)) (by decide)) (by decide)) hQ hC.1 (own_enc3 hC hLm)
      · refine own_step (T' := T0) (f' := (mkF m 206 #[.val (.int p1), .val (.int p2), .val (.int p3), .val (.int p4), .val (.int yC), .val (.int yL), .val (.int vS), .val (.int yP), .val (.int yQ), .val (.ref bb), .unset, .unset, .unset, .unset, .unset, .unset] [])) (fun tt kont => ?_) ?_
        · show Steps p.tables e below (T0.setTop (mkF m 155 #[.val (.int p1), .val (.int p2), .val (.int p3), .val (.int p4), .val (.int yC), .val (.int yL), .val (.int vS), .val (.int yP), .val (.int yQ), .val (.ref bb), .unset, .unset, .unset, .unset, .unset, .unset] [(.int (3 : Int32)), (.int yL)])) _
          refine XS.icmpYes X0.here hx rfl (pc0 := 155) (pc' := 206) rfl (hb hby at_155) rfl (feq hc155_2).2 (by decide) (by decide) ?_
          exact kont
        obtain rfl := own_is4 hL hL1 hL4 hc102_0 hc118_1 hc155_2
        refine own_step (T' := T0) (f' := (mkF m 219 #[.val (.int p1), .val (.int p2), .val (.int p3), .val (.int p4), .val (.int yC), .val (.int (4 : Int32)), .val (.int vS), .val (.int yP), .val (.int yQ), .val (.ref bb), .unset, .unset, .unset, .unset, .unset, .unset] [(.int (((240 : Int32) ||| ((yC.toUInt32 >>> ((18 : Int32) &&& 31).toUInt32).toInt32)).toInt8.toInt32)), (.int (1 : Int32)), (.ref bb)])) (fun tt kont => ?_) ?_
        · show Steps p.tables e below (T0.setTop (mkF m 206 #[.val (.int p1), .val (.int p2), .val (.int p3), .val (.int p4), .val (.int yC), .val (.int (4 : Int32)), .val (.int vS), .val (.int yP), .val (.int yQ), .val (.ref bb), .unset, .unset, .unset, .unset, .unset, .unset] [])) _
          refine XS.aload X0.here hx rfl (hb hby at_206) rfl rfl ?_
          show Steps p.tables e below (T0.setTop (mkF m 208 #[.val (.int p1), .val (.int p2), .val (.int p3), .val (.int p4), .val (.int yC), .val (.int (4 : Int32)), .val (.int vS), .val (.int yP), .val (.int yQ), .val (.ref bb), .unset, .unset, .unset, .unset, .unset, .unset] [(.ref bb)])) _
          refine XS.iconst X0.here hx rfl (hb hby at_208) ?_
          show Steps p.tables e below (T0.setTop (mkF m 209 #[.val (.int p1), .val (.int p2), .val (.int p3), .val (.int p4), .val (.int yC), .val (.int (4 : Int32)), .val (.int vS), .val (.int yP), .val (.int yQ), .val (.ref bb), .unset, .unset, .unset, .unset, .unset, .unset] [(.int (1 : Int32)), (.ref bb)])) _
          refine XS.sipush X0.here hx rfl (hb hby at_209) ?_
          show Steps p.tables e below (T0.setTop (mkF m 212 #[.val (.int p1), .val (.int p2), .val (.int p3), .val (.int p4), .val (.int yC), .val (.int (4 : Int32)), .val (.int vS), .val (.int yP), .val (.int yQ), .val (.ref bb), .unset, .unset, .unset, .unset, .unset, .unset] [(.int (240 : Int32)), (.int (1 : Int32)), (.ref bb)])) _
          refine XS.iload X0.here hx rfl (hb hby at_212) rfl ?_
          show Steps p.tables e below (T0.setTop (mkF m 214 #[.val (.int p1), .val (.int p2), .val (.int p3), .val (.int p4), .val (.int yC), .val (.int (4 : Int32)), .val (.int vS), .val (.int yP), .val (.int yQ), .val (.ref bb), .unset, .unset, .unset, .unset, .unset, .unset] [(.int yC), (.int (240 : Int32)), (.int (1 : Int32)), (.ref bb)])) _
          refine XS.bipush X0.here hx rfl (hb hby at_214) ?_
          show Steps p.tables e below (T0.setTop (mkF m 216 #[.val (.int p1), .val (.int p2), .val (.int p3), .val (.int p4), .val (.int yC), .val (.int (4 : Int32)), .val (.int vS), .val (.int yP), .val (.int yQ), .val (.ref bb), .unset, .unset, .unset, .unset, .unset, .unset] [(.int (18 : Int32)), (.int yC), (.int (240 : Int32)), (.int (1 : Int32)), (.ref bb)])) _
          refine XS.iushr X0.here hx rfl (hb hby at_216) rfl ?_
          show Steps p.tables e below (T0.setTop (mkF m 217 #[.val (.int p1), .val (.int p2), .val (.int p3), .val (.int p4), .val (.int yC), .val (.int (4 : Int32)), .val (.int vS), .val (.int yP), .val (.int yQ), .val (.ref bb), .unset, .unset, .unset, .unset, .unset, .unset] [(.int ((yC.toUInt32 >>> ((18 : Int32) &&& 31).toUInt32).toInt32)), (.int (240 : Int32)), (.int (1 : Int32)), (.ref bb)])) _
          refine XS.ior X0.here hx rfl (hb hby at_217) rfl ?_
          show Steps p.tables e below (T0.setTop (mkF m 218 #[.val (.int p1), .val (.int p2), .val (.int p3), .val (.int p4), .val (.int yC), .val (.int (4 : Int32)), .val (.int vS), .val (.int yP), .val (.int yQ), .val (.ref bb), .unset, .unset, .unset, .unset, .unset, .unset] [(.int ((240 : Int32) ||| ((yC.toUInt32 >>> ((18 : Int32) &&& 31).toUInt32).toInt32))), (.int (1 : Int32)), (.ref bb)])) _
          refine XS.i2b X0.here hx rfl (hb hby at_218) rfl ?_
          exact kont
        obtain ⟨T1106, h1106, X1106, e1106, W1106, V_bb_1106, st1106⟩ := own_stB X0 hx hZ e0 VA (j := (1 : Int32)) (i := 1) (own_at_lit rfl (by decide)) (by decide) (g := (mkF m 219 #[.val (.int p1), .val (.int p2), .val (.int p3), .val (.int p4), .val (.int yC), .val (.int (4 : Int32)), .val (.int vS), .val (.int yP), .val (.int yQ), .val (.ref bb), .unset, .unset, .unset, .unset, .unset, .unset] [(.int (((240 : Int32) ||| ((yC.toUInt32 >>> ((18 : Int32) &&& 31).toUInt32).toInt32)).toInt8.toInt32)), (.int (1 : Int32)), (.ref bb)])) rfl rfl (hb hby at_219)
        have N1106 := Fr.snoc X1106 N0 gb
        have Z1106 : n0 ≤ h1106.size := Nat.le_trans Z0 (Keep.of_wr W1106).1
        have VI_bb_1106 : own_A Z h1106 bb .byte 6 (fun k => .int ((own_updI F 1 (nar .byte (((240 : Int32) ||| ((yC.toUInt32 >>> ((18 : Int32) &&& 31).toUInt32).toInt32)).toInt8.toInt32))) k)) := own_toI V_bb_1106
        refine own_step st1106 ?_
        refine own_step (T' := T1106) (f' := (mkF m 236 #[.val (.int p1), .val (.int p2), .val (.int p3), .val (.int p4), .val (.int yC), .val (.int (4 : Int32)), .val (.int vS), .val (.int yP), .val (.int yQ), .val (.ref bb), .unset, .unset, .unset, .unset, .unset, .unset] [(.int (((128 : Int32) ||| (((yC.toUInt32 >>> ((12 : Int32) &&& 31).toUInt32).toInt32) &&& (63 : Int32))).toInt8.toInt32)), (.int (2 : Int32)), (.ref bb)])) (fun tt kont => ?_) ?_
        · show Steps p.tables e below (T1106.setTop (mkF m 220 #[.val (.int p1), .val (.int p2), .val (.int p3), .val (.int p4), .val (.int yC), .val (.int (4 : Int32)), .val (.int vS), .val (.int yP), .val (.int yQ), .val (.ref bb), .unset, .unset, .unset, .unset, .unset, .unset] [])) _
          refine XS.aload X1106.here hx rfl (hb hby at_220) rfl rfl ?_
          show Steps p.tables e below (T1106.setTop (mkF m 222 #[.val (.int p1), .val (.int p2), .val (.int p3), .val (.int p4), .val (.int yC), .val (.int (4 : Int32)), .val (.int vS), .val (.int yP), .val (.int yQ), .val (.ref bb), .unset, .unset, .unset, .unset, .unset, .unset] [(.ref bb)])) _
          refine XS.iconst X1106.here hx rfl (hb hby at_222) ?_
          show Steps p.tables e below (T1106.setTop (mkF m 223 #[.val (.int p1), .val (.int p2), .val (.int p3), .val (.int p4), .val (.int yC), .val (.int (4 : Int32)), .val (.int vS), .val (.int yP), .val (.int yQ), .val (.ref bb), .unset, .unset, .unset, .unset, .unset, .unset] [(.int (2 : Int32)), (.ref bb)])) _
          refine XS.sipush X1106.here hx rfl (hb hby at_223) ?_
          show Steps p.tables e below (T1106.setTop (mkF m 226 #[.val (.int p1), .val (.int p2), .val (.int p3), .val (.int p4), .val (.int yC), .val (.int (4 : Int32)), .val (.int vS), .val (.int yP), .val (.int yQ), .val (.ref bb), .unset, .unset, .unset, .unset, .unset, .unset] [(.int (128 : Int32)), (.int (2 : Int32)), (.ref bb)])) _
          refine XS.iload X1106.here hx rfl (hb hby at_226) rfl ?_
          show Steps p.tables e below (T1106.setTop (mkF m 228 #[.val (.int p1), .val (.int p2), .val (.int p3), .val (.int p4), .val (.int yC), .val (.int (4 : Int32)), .val (.int vS), .val (.int yP), .val (.int yQ), .val (.ref bb), .unset, .unset, .unset, .unset, .unset, .unset] [(.int yC), (.int (128 : Int32)), (.int (2 : Int32)), (.ref bb)])) _
          refine XS.bipush X1106.here hx rfl (hb hby at_228) ?_
          show Steps p.tables e below (T1106.setTop (mkF m 230 #[.val (.int p1), .val (.int p2), .val (.int p3), .val (.int p4), .val (.int yC), .val (.int (4 : Int32)), .val (.int vS), .val (.int yP), .val (.int yQ), .val (.ref bb), .unset, .unset, .unset, .unset, .unset, .unset] [(.int (12 : Int32)), (.int yC), (.int (128 : Int32)), (.int (2 : Int32)), (.ref bb)])) _
          refine XS.iushr X1106.here hx rfl (hb hby at_230) rfl ?_
          show Steps p.tables e below (T1106.setTop (mkF m 231 #[.val (.int p1), .val (.int p2), .val (.int p3), .val (.int p4), .val (.int yC), .val (.int (4 : Int32)), .val (.int vS), .val (.int yP), .val (.int yQ), .val (.ref bb), .unset, .unset, .unset, .unset, .unset, .unset] [(.int ((yC.toUInt32 >>> ((12 : Int32) &&& 31).toUInt32).toInt32)), (.int (128 : Int32)), (.int (2 : Int32)), (.ref bb)])) _
          refine XS.bipush X1106.here hx rfl (hb hby at_231) ?_
          show Steps p.tables e below (T1106.setTop (mkF m 233 #[.val (.int p1), .val (.int p2), .val (.int p3), .val (.int p4), .val (.int yC), .val (.int (4 : Int32)), .val (.int vS), .val (.int yP), .val (.int yQ), .val (.ref bb), .unset, .unset, .unset, .unset, .unset, .unset] [(.int (63 : Int32)), (.int ((yC.toUInt32 >>> ((12 : Int32) &&& 31).toUInt32).toInt32)), (.int (128 : Int32)), (.int (2 : Int32)), (.ref bb)])) _
          refine XS.iand X1106.here hx rfl (hb hby at_233) rfl ?_
          show Steps p.tables e below (T1106.setTop (mkF m 234 #[.val (.int p1), .val (.int p2), .val (.int p3), .val (.int p4), .val (.int yC), .val (.int (4 : Int32)), .val (.int vS), .val (.int yP), .val (.int yQ), .val (.ref bb), .unset, .unset, .unset, .unset, .unset, .unset] [(.int (((yC.toUInt32 >>> ((12 : Int32) &&& 31).toUInt32).toInt32) &&& (63 : Int32))), (.int (128 : Int32)), (.int (2 : Int32)), (.ref bb)])) _
          refine XS.ior X1106.here hx rfl (hb hby at_234) rfl ?_
          show Steps p.tables e below (T1106.setTop (mkF m 235 #[.val (.int p1), .val (.int p2), .val (.int p3), .val (.int p4), .val (.int yC), .val (.int (4 : Int32)), .val (.int vS), .val (.int yP), .val (.int yQ), .val (.ref bb), .unset, .unset, .unset, .unset, .unset, .unset] [(.int ((128 : Int32) ||| (((yC.toUInt32 >>> ((12 : Int32) &&& 31).toUInt32).toInt32) &&& (63 : Int32)))), (.int (2 : Int32)), (.ref bb)])) _
          refine XS.i2b X1106.here hx rfl (hb hby at_235) rfl ?_
          exact kont
        obtain ⟨T1107, h1107, X1107, e1107, W1107, V_bb_1107, st1107⟩ := own_stB X1106 hx hZ e1106 VI_bb_1106 (j := (2 : Int32)) (i := 2) (own_at_lit rfl (by decide)) (by decide) (g := (mkF m 236 #[.val (.int p1), .val (.int p2), .val (.int p3), .val (.int p4), .val (.int yC), .val (.int (4 : Int32)), .val (.int vS), .val (.int yP), .val (.int yQ), .val (.ref bb), .unset, .unset, .unset, .unset, .unset, .unset] [(.int (((128 : Int32) ||| (((yC.toUInt32 >>> ((12 : Int32) &&& 31).toUInt32).toInt32) &&& (63 : Int32))).toInt8.toInt32)), (.int (2 : Int32)), (.ref bb)])) rfl rfl (hb hby at_236)
        have N1107 := Fr.snoc X1107 N1106 gb
        have Z1107 : n0 ≤ h1107.size := Nat.le_trans Z1106 (Keep.of_wr W1107).1
        have VI_bb_1107 : own_A Z h1107 bb .byte 6 (fun k => .int ((own_updI (own_updI F 1 (nar .byte (((240 : Int32) ||| ((yC.toUInt32 >>> ((18 : Int32) &&& 31).toUInt32).toInt32)).toInt8.toInt32))) 2 (nar .byte (((128 : Int32) ||| (((yC.toUInt32 >>> ((12 : Int32) &&& 31).toUInt32).toInt32) &&& (63 : Int32))).toInt8.toInt32))) k)) := own_toI V_bb_1107
        refine own_step st1107 ?_
        refine own_step (T' := T1107) (f' := (mkF m 253 #[.val (.int p1), .val (.int p2), .val (.int p3), .val (.int p4), .val (.int yC), .val (.int (4 : Int32)), .val (.int vS), .val (.int yP), .val (.int yQ), .val (.ref bb), .unset, .unset, .unset, .unset, .unset, .unset] [(.int (((128 : Int32) ||| (((yC.toUInt32 >>> ((6 : Int32) &&& 31).toUInt32).toInt32) &&& (63 : Int32))).toInt8.toInt32)), (.int (3 : Int32)), (.ref bb)])) (fun tt kont => ?_) ?_
        · show Steps p.tables e below (T1107.setTop (mkF m 237 #[.val (.int p1), .val (.int p2), .val (.int p3), .val (.int p4), .val (.int yC), .val (.int (4 : Int32)), .val (.int vS), .val (.int yP), .val (.int yQ), .val (.ref bb), .unset, .unset, .unset, .unset, .unset, .unset] [])) _
          refine XS.aload X1107.here hx rfl (hb hby at_237) rfl rfl ?_
          show Steps p.tables e below (T1107.setTop (mkF m 239 #[.val (.int p1), .val (.int p2), .val (.int p3), .val (.int p4), .val (.int yC), .val (.int (4 : Int32)), .val (.int vS), .val (.int yP), .val (.int yQ), .val (.ref bb), .unset, .unset, .unset, .unset, .unset, .unset] [(.ref bb)])) _
          refine XS.iconst X1107.here hx rfl (hb hby at_239) ?_
          show Steps p.tables e below (T1107.setTop (mkF m 240 #[.val (.int p1), .val (.int p2), .val (.int p3), .val (.int p4), .val (.int yC), .val (.int (4 : Int32)), .val (.int vS), .val (.int yP), .val (.int yQ), .val (.ref bb), .unset, .unset, .unset, .unset, .unset, .unset] [(.int (3 : Int32)), (.ref bb)])) _
          refine XS.sipush X1107.here hx rfl (hb hby at_240) ?_
          show Steps p.tables e below (T1107.setTop (mkF m 243 #[.val (.int p1), .val (.int p2), .val (.int p3), .val (.int p4), .val (.int yC), .val (.int (4 : Int32)), .val (.int vS), .val (.int yP), .val (.int yQ), .val (.ref bb), .unset, .unset, .unset, .unset, .unset, .unset] [(.int (128 : Int32)), (.int (3 : Int32)), (.ref bb)])) _
          refine XS.iload X1107.here hx rfl (hb hby at_243) rfl ?_
          show Steps p.tables e below (T1107.setTop (mkF m 245 #[.val (.int p1), .val (.int p2), .val (.int p3), .val (.int p4), .val (.int yC), .val (.int (4 : Int32)), .val (.int vS), .val (.int yP), .val (.int yQ), .val (.ref bb), .unset, .unset, .unset, .unset, .unset, .unset] [(.int yC), (.int (128 : Int32)), (.int (3 : Int32)), (.ref bb)])) _
          refine XS.bipush X1107.here hx rfl (hb hby at_245) ?_
          show Steps p.tables e below (T1107.setTop (mkF m 247 #[.val (.int p1), .val (.int p2), .val (.int p3), .val (.int p4), .val (.int yC), .val (.int (4 : Int32)), .val (.int vS), .val (.int yP), .val (.int yQ), .val (.ref bb), .unset, .unset, .unset, .unset, .unset, .unset] [(.int (6 : Int32)), (.int yC), (.int (128 : Int32)), (.int (3 : Int32)), (.ref bb)])) _
          refine XS.iushr X1107.here hx rfl (hb hby at_247) rfl ?_
          show Steps p.tables e below (T1107.setTop (mkF m 248 #[.val (.int p1), .val (.int p2), .val (.int p3), .val (.int p4), .val (.int yC), .val (.int (4 : Int32)), .val (.int vS), .val (.int yP), .val (.int yQ), .val (.ref bb), .unset, .unset, .unset, .unset, .unset, .unset] [(.int ((yC.toUInt32 >>> ((6 : Int32) &&& 31).toUInt32).toInt32)), (.int (128 : Int32)), (.int (3 : Int32)), (.ref bb)])) _
          refine XS.bipush X1107.here hx rfl (hb hby at_248) ?_
          show Steps p.tables e below (T1107.setTop (mkF m 250 #[.val (.int p1), .val (.int p2), .val (.int p3), .val (.int p4), .val (.int yC), .val (.int (4 : Int32)), .val (.int vS), .val (.int yP), .val (.int yQ), .val (.ref bb), .unset, .unset, .unset, .unset, .unset, .unset] [(.int (63 : Int32)), (.int ((yC.toUInt32 >>> ((6 : Int32) &&& 31).toUInt32).toInt32)), (.int (128 : Int32)), (.int (3 : Int32)), (.ref bb)])) _
          refine XS.iand X1107.here hx rfl (hb hby at_250) rfl ?_
          show Steps p.tables e below (T1107.setTop (mkF m 251 #[.val (.int p1), .val (.int p2), .val (.int p3), .val (.int p4), .val (.int yC), .val (.int (4 : Int32)), .val (.int vS), .val (.int yP), .val (.int yQ), .val (.ref bb), .unset, .unset, .unset, .unset, .unset, .unset] [(.int (((yC.toUInt32 >>> ((6 : Int32) &&& 31).toUInt32).toInt32) &&& (63 : Int32))), (.int (128 : Int32)), (.int (3 : Int32)), (.ref bb)])) _
          refine XS.ior X1107.here hx rfl (hb hby at_251) rfl ?_
          show Steps p.tables e below (T1107.setTop (mkF m 252 #[.val (.int p1), .val (.int p2), .val (.int p3), .val (.int p4), .val (.int yC), .val (.int (4 : Int32)), .val (.int vS), .val (.int yP), .val (.int yQ), .val (.ref bb), .unset, .unset, .unset, .unset, .unset, .unset] [(.int ((128 : Int32) ||| (((yC.toUInt32 >>> ((6 : Int32) &&& 31).toUInt32).toInt32) &&& (63 : Int32)))), (.int (3 : Int32)), (.ref bb)])) _
          refine XS.i2b X1107.here hx rfl (hb hby at_252) rfl ?_
          exact kont
        obtain ⟨T1108, h1108, X1108, e1108, W1108, V_bb_1108, st1108⟩ := own_stB X1107 hx hZ e1107 VI_bb_1107 (j := (3 : Int32)) (i := 3) (own_at_lit rfl (by decide)) (by decide) (g := (mkF m 253 #[.val (.int p1), .val (.int p2), .val (.int p3), .val (.int p4), .val (.int yC), .val (.int (4 : Int32)), .val (.int vS), .val (.int yP), .val (.int yQ), .val (.ref bb), .unset, .unset, .unset, .unset, .unset, .unset] [(.int (((128 : Int32) ||| (((yC.toUInt32 >>> ((6 : Int32) &&& 31).toUInt32).toInt32) &&& (63 : Int32))).toInt8.toInt32)), (.int (3 : Int32)), (.ref bb)])) rfl rfl (hb hby at_253)
        have N1108 := Fr.snoc X1108 N1107 gb
        have Z1108 : n0 ≤ h1108.size := Nat.le_trans Z1107 (Keep.of_wr W1108).1
        have VI_bb_1108 : own_A Z h1108 bb .byte 6 (fun k => .int ((own_updI (own_updI (own_updI F 1 (nar .byte (((240 : Int32) ||| ((yC.toUInt32 >>> ((18 : Int32) &&& 31).toUInt32).toInt32)).toInt8.toInt32))) 2 (nar .byte (((128 : Int32) ||| (((yC.toUInt32 >>> ((12 : Int32) &&& 31).toUInt32).toInt32) &&& (63 : Int32))).toInt8.toInt32))) 3 (nar .byte (((128 : Int32) ||| (((yC.toUInt32 >>> ((6 : Int32) &&& 31).toUInt32).toInt32) &&& (63 : Int32))).toInt8.toInt32))) k)) := own_toI V_bb_1108
        refine own_step st1108 ?_
        refine own_step (T' := T1108) (f' := (mkF m 267 #[.val (.int p1), .val (.int p2), .val (.int p3), .val (.int p4), .val (.int yC), .val (.int (4 : Int32)), .val (.int vS), .val (.int yP), .val (.int yQ), .val (.ref bb), .unset, .unset, .unset, .unset, .unset, .unset] [(.int (((128 : Int32) ||| (yC &&& (63 : Int32))).toInt8.toInt32)), (.int (4 : Int32)), (.ref bb)])) (fun tt kont => ?_) ?_
        · show Steps p.tables e below (T1108.setTop (mkF m 254 #[.val (.int p1), .val (.int p2), .val (.int p3), .val (.int p4), .val (.int yC), .val (.int (4 : Int32)), .val (.int vS), .val (.int yP), .val (.int yQ), .val (.ref bb), .unset, .unset, .unset, .unset, .unset, .unset] [])) _
          refine XS.aload X1108.here hx rfl (hb hby at_254) rfl rfl ?_
          show Steps p.tables e below (T1108.setTop (mkF m 256 #[.val (.int p1), .val (.int p2), .val (.int p3), .val (.int p4), .val (.int yC), .val (.int (4 : Int32)), .val (.int vS), .val (.int yP), .val (.int yQ), .val (.ref bb), .unset, .unset, .unset, .unset, .unset, .unset] [(.ref bb)])) _
          refine XS.iconst X1108.here hx rfl (hb hby at_256) ?_
          show Steps p.tables e below (T1108.setTop (mkF m 257 #[.val (.int p1), .val (.int p2), .val (.int p3), .val (.int p4), .val (.int yC), .val (.int (4 : Int32)), .val (.int vS), .val (.int yP), .val (.int yQ), .val (.ref bb), .unset, .unset, .unset, .unset, .unset, .unset] [(.int (4 : Int32)), (.ref bb)])) _
          refine XS.sipush X1108.here hx rfl (hb hby at_257) ?_
          show Steps p.tables e below (T1108.setTop (mkF m 260 #[.val (.int p1), .val (.int p2), .val (.int p3), .val (.int p4), .val (.int yC), .val (.int (4 : Int32)), .val (.int vS), .val (.int yP), .val (.int yQ), .val (.ref bb), .unset, .unset, .unset, .unset, .unset, .unset] [(.int (128 : Int32)), (.int (4 : Int32)), (.ref bb)])) _
          refine XS.iload X1108.here hx rfl (hb hby at_260) rfl ?_
          show Steps p.tables e below (T1108.setTop (mkF m 262 #[.val (.int p1), .val (.int p2), .val (.int p3), .val (.int p4), .val (.int yC), .val (.int (4 : Int32)), .val (.int vS), .val (.int yP), .val (.int yQ), .val (.ref bb), .unset, .unset, .unset, .unset, .unset, .unset] [(.int yC), (.int (128 : Int32)), (.int (4 : Int32)), (.ref bb)])) _
          refine XS.bipush X1108.here hx rfl (hb hby at_262) ?_
          show Steps p.tables e below (T1108.setTop (mkF m 264 #[.val (.int p1), .val (.int p2), .val (.int p3), .val (.int p4), .val (.int yC), .val (.int (4 : Int32)), .val (.int vS), .val (.int yP), .val (.int yQ), .val (.ref bb), .unset, .unset, .unset, .unset, .unset, .unset] [(.int (63 : Int32)), (.int yC), (.int (128 : Int32)), (.int (4 : Int32)), (.ref bb)])) _
          refine XS.iand X1108.here hx rfl (hb hby at_264) rfl ?_
          show Steps p.tables e below (T1108.setTop (mkF m 265 #[.val (.int p1), .val (.int p2), .val (.int p3), .val (.int p4), .val (.int yC), .val (.int (4 : Int32)), .val (.int vS), .val (.int yP), .val (.int yQ), .val (.ref bb), .unset, .unset, .unset, .unset, .unset, .unset] [(.int (yC &&& (63 : Int32))), (.int (128 : Int32)), (.int (4 : Int32)), (.ref bb)])) _
          refine XS.ior X1108.here hx rfl (hb hby at_265) rfl ?_
          show Steps p.tables e below (T1108.setTop (mkF m 266 #[.val (.int p1), .val (.int p2), .val (.int p3), .val (.int p4), .val (.int yC), .val (.int (4 : Int32)), .val (.int vS), .val (.int yP), .val (.int yQ), .val (.ref bb), .unset, .unset, .unset, .unset, .unset, .unset] [(.int ((128 : Int32) ||| (yC &&& (63 : Int32)))), (.int (4 : Int32)), (.ref bb)])) _
          refine XS.i2b X1108.here hx rfl (hb hby at_266) rfl ?_
          exact kont
        obtain ⟨T1109, h1109, X1109, e1109, W1109, V_bb_1109, st1109⟩ := own_stB X1108 hx hZ e1108 VI_bb_1108 (j := (4 : Int32)) (i := 4) (own_at_lit rfl (by decide)) (by decide) (g := (mkF m 267 #[.val (.int p1), .val (.int p2), .val (.int p3), .val (.int p4), .val (.int yC), .val (.int (4 : Int32)), .val (.int vS), .val (.int yP), .val (.int yQ), .val (.ref bb), .unset, .unset, .unset, .unset, .unset, .unset] [(.int (((128 : Int32) ||| (yC &&& (63 : Int32))).toInt8.toInt32)), (.int (4 : Int32)), (.ref bb)])) rfl rfl (hb hby at_267)
        have N1109 := Fr.snoc X1109 N1108 gb
        have Z1109 : n0 ≤ h1109.size := Nat.le_trans Z1108 (Keep.of_wr W1109).1
        have VI_bb_1109 : own_A Z h1109 bb .byte 6 (fun k => .int ((own_updI (own_updI (own_updI (own_updI F 1 (nar .byte (((240 : Int32) ||| ((yC.toUInt32 >>> ((18 : Int32) &&& 31).toUInt32).toInt32)).toInt8.toInt32))) 2 (nar .byte (((128 : Int32) ||| (((yC.toUInt32 >>> ((12 : Int32) &&& 31).toUInt32).toInt32) &&& (63 : Int32))).toInt8.toInt32))) 3 (nar .byte (((128 : Int32) ||| (((yC.toUInt32 >>> ((6 : Int32) &&& 31).toUInt32).toInt32) &&& (63 : Int32))).toInt8.toInt32))) 4 (nar .byte (((128 : Int32) ||| (yC &&& (63 : Int32))).toInt8.toInt32))) k)) := own_toI V_bb_1109
        refine own_step st1109 ?_
        exact own_s268 (F := (own_updI (own_updI (own_updI (own_updI F 1 (nar .byte (((240 : Int32) ||| ((yC.toUInt32 >>> ((18 : Int32) &&& 31).toUInt32).toInt32)).toInt8.toInt32))) 2 (nar .byte (((128 : Int32) ||| (((yC.toUInt32 >>> ((12 : Int32) &&& 31).toUInt32).toInt32) &&& (63 : Int32))).toInt8.toInt32))) 3 (nar .byte (((128 : Int32) ||| (((yC.toUInt32 >>> ((6 : Int32) &&& 31).toUInt32).toInt32) &&& (63 : Int32))).toInt8.toInt32))) 4 (nar .byte (((128 : Int32) ||| (yC &&& (63 : Int32))).toInt8.toInt32)))) (L := 4) X1109 hx hZ hw hby hret hlk hml hown e1109 N1109 Z1109 gb VI_bb_1109 (own_at_lit rfl (by decide)) (by decide) (by decide) (own_S_upd (own_S_upd (own_S_upd (own_S_upd (hS) (by decide)) (by decide)) (by decide)) (by decide)) hQ hC.1 (own_enc4 hC hLm)
theorem own_ef_own_rm0 (m : MethodId) (x0 : Int32) (x1 : Int32) (x2 : Int32) (x3 : Int32) : entryFrame m #[(.int x0), (.int x1), (.int x2), (.int x3)] maxLocals = mkF m 0 #[.val (.int x0), .val (.int x1), .val (.int x2), .val (.int x3), .unset, .unset, .unset, .unset, .unset, .unset, .unset, .unset, .unset, .unset, .unset, .unset] [] := by first | (simp [entryFrame, mkF, argsToLocals, Value.category, maxLocals]; done) | rfl
theorem own_pd3 : parseMethodDescriptor "(II)I" = some ⟨[.int, .int], some .int⟩ := by decide +kernel
def own_Q_rm0 (Z : State) (p1 : Int32) (p2 : Int32) (p3 : Int32) (p4 : Int32) (h0 : Heap) (n0 : Nat) (v : Option Value) (h : Heap) (L : List Loc) : Prop := v = some (.int 1) ∧ Fr n0 L
set_option maxRecDepth 65536 in
set_option maxHeartbeats 40000000 in
theorem own_rm0 (l : Launch) (Z : State) (a0 : Array Value) (hw : ∀ d ∈ tables_1, d.before a0 Z = true) (ws : List Jvm.Cond) (p1 : Int32) (p2 : Int32) (p3 : Int32) (p4 : Int32) (h0 : Heap) (n0 : Nat) (Z0 : n0 ≤ h0.size) :
    MetFree l x (head1 (Jvm.Cond.code x code maxLocals ret :: ws) room_1) (fun a U => a = #[(.int p1), (.int p2), (.int p3), (.int p4)] ∧ Z.Warmed39 U.vm ∧ U.heap = h0) (fun _ _ _ _ _ => True) (fun _ U o U' => ∃ v L, o = .returned v ∧ own_Q_rm0 Z p1 p2 p3 p4 h0 n0 v U'.heap L ∧ FrameEnd U o U' L 16 128) := by
  refine MetFree.of_bodySF (plainFor_of_name own_pn1) hisR ?_
  intro p e s m args below meth c s₁ Bd hml0 hP hK
  obtain ⟨rfl, hZ, hh⟩ := hP
  have hx := Bd.exec
  have hby := Bd.bytes
  have hret := Bd.returns
  have hlk := Bd.notSynchronized
  have hml : c.maxLocals = 16 := hml0
  have hown : s.vm.findClass "com/example/tallymark/tallymark/model/EstateFileReaderIsUtf8PinLaw" = some m.cls := findClass_of_methodNamed Bd.named
  have hnm := (name_of_methodNamed Bd.named Bd.method).1
  have X0 : Stand p l e room_1 s m #[(.int p1), (.int p2), (.int p3), (.int p4)] below meth c s₁ [] 0 0 := Stand.of_body Bd
  have e0 : s₁.heap = h0 := by rw [← hh, Bd.state]; rfl
  have N0 := Fr.nil n0
  refine own_Go.cast (own_ef_own_rm0 m p1 p2 p3 p4) ?_
  refine own_step (T' := s₁) (f' := (mkF m 4 #[.val (.int p1), .val (.int p2), .val (.int p3), .val (.int p4), .unset, .unset, .unset, .unset, .unset, .unset, .unset, .unset, .unset, .unset, .unset, .unset] [(.int (p1 &&& (2097151 : Int32)))])) (fun tt kont => ?_) ?_
  · show Steps p.tables e below (s₁.setTop (mkF m 0 #[.val (.int p1), .val (.int p2), .val (.int p3), .val (.int p4), .unset, .unset, .unset, .unset, .unset, .unset, .unset, .unset, .unset, .unset, .unset, .unset] [])) _
    refine XS.iloadN X0.here hx rfl (hb hby at_0) rfl ?_
    show Steps p.tables e below (s₁.setTop (mkF m 1 #[.val (.int p1), .val (.int p2), .val (.int p3), .val (.int p4), .unset, .unset, .unset, .unset, .unset, .unset, .unset, .unset, .unset, .unset, .unset, .unset] [(.int p1)])) _
    refine X0.ldcInt hx hown (mvT hZ (hw _ (List.mem_of_getElem? (i := 0) rfl))) (g := (mkF m 1 #[.val (.int p1), .val (.int p2), .val (.int p3), .val (.int p4), .unset, .unset, .unset, .unset, .unset, .unset, .unset, .unset, .unset, .unset, .unset, .unset] [(.int p1)])) rfl (hb hby at_1) _ ?_
    show Steps p.tables e below (s₁.setTop (mkF m 3 #[.val (.int p1), .val (.int p2), .val (.int p3), .val (.int p4), .unset, .unset, .unset, .unset, .unset, .unset, .unset, .unset, .unset, .unset, .unset, .unset] [(.int (2097151 : Int32)), (.int p1)])) _
    refine XS.iand X0.here hx rfl (hb hby at_3) rfl ?_
    exact kont
  show own_Go p e below s₁ (mkF m 4 #[.val (.int p1), .val (.int p2), .val (.int p3), .val (.int p4), .unset, .unset, .unset, .unset, .unset, .unset, .unset, .unset, .unset, .unset, .unset, .unset] [(.int (p1 &&& (2097151 : Int32)))]) _
  obtain ⟨yC, hyC⟩ : ∃ z : Int32, z = (p1 &&& (2097151 : Int32)) := ⟨_, rfl⟩
  rw [← hyC]
  have hC := own_C hyC
  refine own_step (T' := s₁) (f' := (mkF m 8 #[.val (.int p1), .val (.int p2), .val (.int p3), .val (.int p4), .val (.int yC), .unset, .unset, .unset, .unset, .unset, .unset, .unset, .unset, .unset, .unset, .unset] [(.int yC)])) (fun tt kont => ?_) ?_
  · show Steps p.tables e below (s₁.setTop (mkF m 4 #[.val (.int p1), .val (.int p2), .val (.int p3), .val (.int p4), .unset, .unset, .unset, .unset, .unset, .unset, .unset, .unset, .unset, .unset, .unset, .unset] [(.int yC)])) _
    refine XS.istore X0.here hx rfl (hb hby at_4) rfl (l' := #[.val (.int p1), .val (.int p2), .val (.int p3), .val (.int p4), .val (.int yC), .unset, .unset, .unset, .unset, .unset, .unset, .unset, .unset, .unset, .unset, .unset]) rfl ?_
    show Steps p.tables e below (s₁.setTop (mkF m 6 #[.val (.int p1), .val (.int p2), .val (.int p3), .val (.int p4), .val (.int yC), .unset, .unset, .unset, .unset, .unset, .unset, .unset, .unset, .unset, .unset, .unset] [])) _
    refine XS.iload X0.here hx rfl (hb hby at_6) rfl ?_
    exact kont
  obtain ⟨_, _, ⟨T101, L101, k101, n101⟩, -, X101, ⟨Lc101, hQ101, l101, y101, z101⟩, st101⟩ := Jvm.LawKit.callS X0 hx (y := (⟨"com/example/tallymark/tallymark/model/EstateFileReaderIsUtf8PinLaw", "minLen", "(I)I"⟩ : MethodName)) hown (mvT hZ (hw _ (List.mem_of_getElem? (i := 1) rfl))) (mvT hZ (hw _ (List.mem_of_getElem? (i := 2) rfl))) (mvT hZ (hw _ (List.mem_of_getElem? (i := 3) rfl))) (mvT hZ (hw _ (List.mem_of_getElem? (i := 4) rfl))) (by decide) (backOf (W := 0) (own_rmL l Z a0 hw yC h0 n0) hZ (hw _ (List.mem_of_getElem? (i := 4) rfl)) (hw _ (List.mem_of_getElem? (i := 3) rfl)) (by decide) (by decide)) (g := (mkF m 8 #[.val (.int p1), .val (.int p2), .val (.int p3), .val (.int p4), .val (.int yC), .unset, .unset, .unset, .unset, .unset, .unset, .unset, .unset, .unset, .unset, .unset] [(.int yC)])) rfl (by rw [hml]; rfl) (argsL := [(.int yC)]) (rest := []) (lenOf own_pd0 rfl) rfl (by show 2 * 0 + _ ≤ _; exact Nat.le_of_eq rfl) (hb hby at_8) (fun _ _ => ⟨rfl, e0, (by decide : 0 + 0 ≤ _), (by decide : 0 + 0 ≤ _)⟩)
  dsimp only [Pt.U, Pt.locs, Pt.cells, Pt.slots] at X101 l101 y101 z101 st101 hQ101
  subst l101 y101 z101
  obtain ⟨rfl, N101q, e101⟩ := hQ101
  have N101 := Fr.app N0 N101q
  refine own_step (fun tt kont => st101 _ kont) ?_
  refine own_step (T' := T101) (f' := (mkF m 16 #[.val (.int p1), .val (.int p2), .val (.int p3), .val (.int p4), .val (.int yC), .unset, .unset, .unset, .unset, .unset, .unset, .unset, .unset, .unset, .unset, .unset] [(.int ((1 : Int32) + (p2 &&& (3 : Int32)))), (.int (own_fL yC))])) (fun tt kont => ?_) ?_
  · show Steps p.tables e below (T101.setTop (mkF m 11 #[.val (.int p1), .val (.int p2), .val (.int p3), .val (.int p4), .val (.int yC), .unset, .unset, .unset, .unset, .unset, .unset, .unset, .unset, .unset, .unset, .unset] [(.int (own_fL yC))])) _
    refine XS.iconst X101.here hx rfl (hb hby at_11) ?_
    show Steps p.tables e below (T101.setTop (mkF m 12 #[.val (.int p1), .val (.int p2), .val (.int p3), .val (.int p4), .val (.int yC), .unset, .unset, .unset, .unset, .unset, .unset, .unset, .unset, .unset, .unset, .unset] [(.int (1 : Int32)), (.int (own_fL yC))])) _
    refine XS.iloadN X101.here hx rfl (hb hby at_12) rfl ?_
    show Steps p.tables e below (T101.setTop (mkF m 13 #[.val (.int p1), .val (.int p2), .val (.int p3), .val (.int p4), .val (.int yC), .unset, .unset, .unset, .unset, .unset, .unset, .unset, .unset, .unset, .unset, .unset] [(.int p2), (.int (1 : Int32)), (.int (own_fL yC))])) _
    refine XS.iconst X101.here hx rfl (hb hby at_13) ?_
    show Steps p.tables e below (T101.setTop (mkF m 14 #[.val (.int p1), .val (.int p2), .val (.int p3), .val (.int p4), .val (.int yC), .unset, .unset, .unset, .unset, .unset, .unset, .unset, .unset, .unset, .unset, .unset] [(.int (3 : Int32)), (.int p2), (.int (1 : Int32)), (.int (own_fL yC))])) _
    refine XS.iand X101.here hx rfl (hb hby at_14) rfl ?_
    show Steps p.tables e below (T101.setTop (mkF m 15 #[.val (.int p1), .val (.int p2), .val (.int p3), .val (.int p4), .val (.int yC), .unset, .unset, .unset, .unset, .unset, .unset, .unset, .unset, .unset, .unset, .unset] [(.int (p2 &&& (3 : Int32))), (.int (1 : Int32)), (.int (own_fL yC))])) _
    refine XS.iadd X101.here hx rfl (hb hby at_15) rfl ?_
    exact kont
  obtain ⟨_, _, ⟨T102, L102, k102, n102⟩, -, X102, ⟨Lc102, hQ102, l102, y102, z102⟩, st102⟩ := Jvm.LawKit.callS X101 hx (y := (⟨"java/lang/Math", "max", "(II)I"⟩ : MethodName)) hown (mvT hZ (hw _ (List.mem_of_getElem? (i := 5) rfl))) (mvT hZ (hw _ (List.mem_of_getElem? (i := 6) rfl))) (mvT hZ (hw _ (List.mem_of_getElem? (i := 7) rfl))) (mvT hZ (hw _ (List.mem_of_getElem? (i := 8) rfl))) (by decide) (backOf (W := 0) (own_rmX l Z a0 hw (own_fL yC) ((1 : Int32) + (p2 &&& (3 : Int32))) h0 n0) hZ (hw _ (List.mem_of_getElem? (i := 8) rfl)) (hw _ (List.mem_of_getElem? (i := 7) rfl)) (by decide) (by decide)) (g := (mkF m 16 #[.val (.int p1), .val (.int p2), .val (.int p3), .val (.int p4), .val (.int yC), .unset, .unset, .unset, .unset, .unset, .unset, .unset, .unset, .unset, .unset, .unset] [(.int ((1 : Int32) + (p2 &&& (3 : Int32)))), (.int (own_fL yC))])) rfl (by rw [hml]; rfl) (argsL := [(.int (own_fL yC)), (.int ((1 : Int32) + (p2 &&& (3 : Int32))))]) (rest := []) (lenOf own_pd3 rfl) rfl (by show 2 * 0 + _ ≤ _; exact Nat.le_of_eq rfl) (hb hby at_16) (fun _ _ => ⟨rfl, e101, (by decide : 0 + 0 ≤ _), (by decide : 0 + 0 ≤ _)⟩)
  dsimp only [Pt.U, Pt.locs, Pt.cells, Pt.slots] at X102 l102 y102 z102 st102 hQ102
  subst l102 y102 z102
  obtain ⟨rfl, N102q, e102⟩ := hQ102
  have N102 := Fr.app N101 N102q
  refine own_step (fun tt kont => st102 _ kont) ?_
  show own_Go p e below T102 (mkF m 19 #[.val (.int p1), .val (.int p2), .val (.int p3), .val (.int p4), .val (.int yC), .unset, .unset, .unset, .unset, .unset, .unset, .unset, .unset, .unset, .unset, .unset] [(.int (own_fX (own_fL yC) ((1 : Int32) + (p2 &&& (3 : Int32)))))]) _
  obtain ⟨yL, hyL⟩ : ∃ z : Int32, z = (own_fX (own_fL yC) ((1 : Int32) + (p2 &&& (3 : Int32)))) := ⟨_, rfl⟩
  rw [← hyL]
  obtain ⟨L, hL, hL1, hL4, hLm⟩ := own_L hyL
  refine own_step (T' := T102) (f' := (mkF m 24 #[.val (.int p1), .val (.int p2), .val (.int p3), .val (.int p4), .val (.int yC), .val (.int yL), .unset, .unset, .unset, .unset, .unset, .unset, .unset, .unset, .unset, .unset] [(.int (p2 &&& (4 : Int32)))])) (fun tt kont => ?_) ?_
  · show Steps p.tables e below (T102.setTop (mkF m 19 #[.val (.int p1), .val (.int p2), .val (.int p3), .val (.int p4), .val (.int yC), .unset, .unset, .unset, .unset, .unset, .unset, .unset, .unset, .unset, .unset, .unset] [(.int yL)])) _
    refine XS.istore X102.here hx rfl (hb hby at_19) rfl (l' := #[.val (.int p1), .val (.int p2), .val (.int p3), .val (.int p4), .val (.int yC), .val (.int yL), .unset, .unset, .unset, .unset, .unset, .unset, .unset, .unset, .unset, .unset]) rfl ?_
    show Steps p.tables e below (T102.setTop (mkF m 21 #[.val (.int p1), .val (.int p2), .val (.int p3), .val (.int p4), .val (.int yC), .val (.int yL), .unset, .unset, .unset, .unset, .unset, .unset, .unset, .unset, .unset, .unset] [])) _
    refine XS.iloadN X102.here hx rfl (hb hby at_21) rfl ?_
    show Steps p.tables e below (T102.setTop (mkF m 22 #[.val (.int p1), .val (.int p2), .val (.int p3), .val (.int p4), .val (.int yC), .val (.int yL), .unset, .unset, .unset, .unset, .unset, .unset, .unset, .unset, .unset, .unset] [(.int p2)])) _
    refine XS.iconst X102.here hx rfl (hb hby at_22) ?_
    show Steps p.tables e below (T102.setTop (mkF m 23 #[.val (.int p1), .val (.int p2), .val (.int p3), .val (.int p4), .val (.int yC), .val (.int yL), .unset, .unset, .unset, .unset, .unset, .unset, .unset, .unset, .unset, .unset] [(.int (4 : Int32)), (.int p2)])) _
    refine XS.iand X102.here hx rfl (hb hby at_23) rfl ?_
    exact kont
  obtain ⟨v103, hv103, st104⟩ : ∃ (v103 : Int32), v103 = (if (p2 &&& (4 : Int32)) = (0 : Int32) then (0 : Int32) else (1 : Int32)) ∧ ∀ t, Steps p.tables e below (T102.setTop (mkF m 32 #[.val (.int p1), .val (.int p2), .val (.int p3), .val (.int p4), .val (.int yC), .val (.int yL), .unset, .unset, .unset, .unset, .unset, .unset, .unset, .unset, .unset, .unset] [(.int v103)])) t → Steps p.tables e below (T102.setTop (mkF m 24 #[.val (.int p1), .val (.int p2), .val (.int p3), .val (.int p4), .val (.int yC), .val (.int yL), .unset, .unset, .unset, .unset, .unset, .unset, .unset, .unset, .unset, .unset] [(.int (p2 &&& (4 : Int32)))])) t := by
    by_cases hc24_2 : (p2 &&& (4 : Int32)) = (0 : Int32)
    · refine ⟨(0 : Int32), (by simp only [if_pos hc24_2]), fun tt kont => ?_⟩
      show Steps p.tables e below (T102.setTop (mkF m 24 #[.val (.int p1), .val (.int p2), .val (.int p3), .val (.int p4), .val (.int yC), .val (.int yL), .unset, .unset, .unset, .unset, .unset, .unset, .unset, .unset, .unset, .unset] [(.int (p2 &&& (4 : Int32)))])) _
      refine XS.ifYes X102.here hx rfl (pc0 := 24) (pc' := 31) rfl (hb hby at_24) rfl ((if0 _ _).trans (teq hc24_2).1) (by decide) (by decide) ?_
      show Steps p.tables e below (T102.setTop (mkF m 31 #[.val (.int p1), .val (.int p2), .val (.int p3), .val (.int p4), .val (.int yC), .val (.int yL), .unset, .unset, .unset, .unset, .unset, .unset, .unset, .unset, .unset, .unset] [])) _
      refine XS.iconst X102.here hx rfl (hb hby at_31) ?_
      exact kont
    · refine ⟨(1 : Int32), (by simp only [if_neg hc24_2]), fun tt kont => ?_⟩
      show Steps p.tables e below (T102.setTop (mkF m 24 #[.val (.int p1), .val (.int p2), .val (.int p3), .val (.int p4), .val (.int yC), .val (.int yL), .unset, .unset, .unset, .unset, .unset, .unset, .unset, .unset, .unset, .unset] [(.int (p2 &&& (4 : Int32)))])) _
      refine XS.ifNo X102.here hx rfl (hb hby at_24) rfl ((if0 _ _).trans (feq hc24_2).1) ?_
      show Steps p.tables e below (T102.setTop (mkF m 27 #[.val (.int p1), .val (.int p2), .val (.int p3), .val (.int p4), .val (.int yC), .val (.int yL), .unset, .unset, .unset, .unset, .unset, .unset, .unset, .unset, .unset, .unset] [])) _
      refine XS.iconst X102.here hx rfl (hb hby at_27) ?_
      show Steps p.tables e below (T102.setTop (mkF m 28 #[.val (.int p1), .val (.int p2), .val (.int p3), .val (.int p4), .val (.int yC), .val (.int yL), .unset, .unset, .unset, .unset, .unset, .unset, .unset, .unset, .unset, .unset] [(.int (1 : Int32))])) _
      refine XS.goto X102.here hx rfl (pc0 := 28) (pc' := 32) rfl (hb hby at_28) (by decide) (by decide) ?_
      exact kont
  refine own_step st104 ?_
  have hS0 := own_S0 hv103
  refine own_step (T' := T102) (f' := (mkF m 40 #[.val (.int p1), .val (.int p2), .val (.int p3), .val (.int p4), .val (.int yC), .val (.int yL), .val (.int v103), .unset, .unset, .unset, .unset, .unset, .unset, .unset, .unset, .unset] [(.int (((p2.toUInt32 >>> ((3 : Int32) &&& 31).toUInt32).toInt32) &&& (127 : Int32)))])) (fun tt kont => ?_) ?_
  · show Steps p.tables e below (T102.setTop (mkF m 32 #[.val (.int p1), .val (.int p2), .val (.int p3), .val (.int p4), .val (.int yC), .val (.int yL), .unset, .unset, .unset, .unset, .unset, .unset, .unset, .unset, .unset, .unset] [(.int v103)])) _
    refine XS.istore X102.here hx rfl (hb hby at_32) rfl (l' := #[.val (.int p1), .val (.int p2), .val (.int p3), .val (.int p4), .val (.int yC), .val (.int yL), .val (.int v103), .unset, .unset, .unset, .unset, .unset, .unset, .unset, .unset, .unset]) rfl ?_
    show Steps p.tables e below (T102.setTop (mkF m 34 #[.val (.int p1), .val (.int p2), .val (.int p3), .val (.int p4), .val (.int yC), .val (.int yL), .val (.int v103), .unset, .unset, .unset, .unset, .unset, .unset, .unset, .unset, .unset] [])) _
    refine XS.iloadN X102.here hx rfl (hb hby at_34) rfl ?_
    show Steps p.tables e below (T102.setTop (mkF m 35 #[.val (.int p1), .val (.int p2), .val (.int p3), .val (.int p4), .val (.int yC), .val (.int yL), .val (.int v103), .unset, .unset, .unset, .unset, .unset, .unset, .unset, .unset, .unset] [(.int p2)])) _
    refine XS.iconst X102.here hx rfl (hb hby at_35) ?_
    show Steps p.tables e below (T102.setTop (mkF m 36 #[.val (.int p1), .val (.int p2), .val (.int p3), .val (.int p4), .val (.int yC), .val (.int yL), .val (.int v103), .unset, .unset, .unset, .unset, .unset, .unset, .unset, .unset, .unset] [(.int (3 : Int32)), (.int p2)])) _
    refine XS.iushr X102.here hx rfl (hb hby at_36) rfl ?_
    show Steps p.tables e below (T102.setTop (mkF m 37 #[.val (.int p1), .val (.int p2), .val (.int p3), .val (.int p4), .val (.int yC), .val (.int yL), .val (.int v103), .unset, .unset, .unset, .unset, .unset, .unset, .unset, .unset, .unset] [(.int ((p2.toUInt32 >>> ((3 : Int32) &&& 31).toUInt32).toInt32))])) _
    refine XS.bipush X102.here hx rfl (hb hby at_37) ?_
    show Steps p.tables e below (T102.setTop (mkF m 39 #[.val (.int p1), .val (.int p2), .val (.int p3), .val (.int p4), .val (.int yC), .val (.int yL), .val (.int v103), .unset, .unset, .unset, .unset, .unset, .unset, .unset, .unset, .unset] [(.int (127 : Int32)), (.int ((p2.toUInt32 >>> ((3 : Int32) &&& 31).toUInt32).toInt32))])) _
    refine XS.iand X102.here hx rfl (hb hby at_39) rfl ?_
    exact kont
  show own_Go p e below T102 (mkF m 40 #[.val (.int p1), .val (.int p2), .val (.int p3), .val (.int p4), .val (.int yC), .val (.int yL), .val (.int v103), .unset, .unset, .unset, .unset, .unset, .unset, .unset, .unset, .unset] [(.int (((p2.toUInt32 >>> ((3 : Int32) &&& 31).toUInt32).toInt32) &&& (127 : Int32)))]) _
  obtain ⟨yP, hyP⟩ : ∃ z : Int32, z = (((p2.toUInt32 >>> ((3 : Int32) &&& 31).toUInt32).toInt32) &&& (127 : Int32)) := ⟨_, rfl⟩
  rw [← hyP]
  refine own_step (T' := T102) (f' := (mkF m 49 #[.val (.int p1), .val (.int p2), .val (.int p3), .val (.int p4), .val (.int yC), .val (.int yL), .val (.int v103), .val (.int yP), .unset, .unset, .unset, .unset, .unset, .unset, .unset, .unset] [(.int (((p2.toUInt32 >>> ((10 : Int32) &&& 31).toUInt32).toInt32) &&& (127 : Int32)))])) (fun tt kont => ?_) ?_
  · show Steps p.tables e below (T102.setTop (mkF m 40 #[.val (.int p1), .val (.int p2), .val (.int p3), .val (.int p4), .val (.int yC), .val (.int yL), .val (.int v103), .unset, .unset, .unset, .unset, .unset, .unset, .unset, .unset, .unset] [(.int yP)])) _
    refine XS.istore X102.here hx rfl (hb hby at_40) rfl (l' := #[.val (.int p1), .val (.int p2), .val (.int p3), .val (.int p4), .val (.int yC), .val (.int yL), .val (.int v103), .val (.int yP), .unset, .unset, .unset, .unset, .unset, .unset, .unset, .unset]) rfl ?_
    show Steps p.tables e below (T102.setTop (mkF m 42 #[.val (.int p1), .val (.int p2), .val (.int p3), .val (.int p4), .val (.int yC), .val (.int yL), .val (.int v103), .val (.int yP), .unset, .unset, .unset, .unset, .unset, .unset, .unset, .unset] [])) _
    refine XS.iloadN X102.here hx rfl (hb hby at_42) rfl ?_
    show Steps p.tables e below (T102.setTop (mkF m 43 #[.val (.int p1), .val (.int p2), .val (.int p3), .val (.int p4), .val (.int yC), .val (.int yL), .val (.int v103), .val (.int yP), .unset, .unset, .unset, .unset, .unset, .unset, .unset, .unset] [(.int p2)])) _
    refine XS.bipush X102.here hx rfl (hb hby at_43) ?_
    show Steps p.tables e below (T102.setTop (mkF m 45 #[.val (.int p1), .val (.int p2), .val (.int p3), .val (.int p4), .val (.int yC), .val (.int yL), .val (.int v103), .val (.int yP), .unset, .unset, .unset, .unset, .unset, .unset, .unset, .unset] [(.int (10 : Int32)), (.int p2)])) _
    refine XS.iushr X102.here hx rfl (hb hby at_45) rfl ?_
    show Steps p.tables e below (T102.setTop (mkF m 46 #[.val (.int p1), .val (.int p2), .val (.int p3), .val (.int p4), .val (.int yC), .val (.int yL), .val (.int v103), .val (.int yP), .unset, .unset, .unset, .unset, .unset, .unset, .unset, .unset] [(.int ((p2.toUInt32 >>> ((10 : Int32) &&& 31).toUInt32).toInt32))])) _
    refine XS.bipush X102.here hx rfl (hb hby at_46) ?_
    show Steps p.tables e below (T102.setTop (mkF m 48 #[.val (.int p1), .val (.int p2), .val (.int p3), .val (.int p4), .val (.int yC), .val (.int yL), .val (.int v103), .val (.int yP), .unset, .unset, .unset, .unset, .unset, .unset, .unset, .unset] [(.int (127 : Int32)), (.int ((p2.toUInt32 >>> ((10 : Int32) &&& 31).toUInt32).toInt32))])) _
    refine XS.iand X102.here hx rfl (hb hby at_48) rfl ?_
    exact kont
  show own_Go p e below T102 (mkF m 49 #[.val (.int p1), .val (.int p2), .val (.int p3), .val (.int p4), .val (.int yC), .val (.int yL), .val (.int v103), .val (.int yP), .unset, .unset, .unset, .unset, .unset, .unset, .unset, .unset] [(.int (((p2.toUInt32 >>> ((10 : Int32) &&& 31).toUInt32).toInt32) &&& (127 : Int32)))]) _
  obtain ⟨yQ, hyQ⟩ : ∃ z : Int32, z = (((p2.toUInt32 >>> ((10 : Int32) &&& 31).toUInt32).toInt32) &&& (127 : Int32)) := ⟨_, rfl⟩
  rw [← hyQ]
  have hP := own_X7 hyP
  have hQ := own_X7 hyQ
  refine own_step (T' := T102) (f' := (mkF m 53 #[.val (.int p1), .val (.int p2), .val (.int p3), .val (.int p4), .val (.int yC), .val (.int yL), .val (.int v103), .val (.int yP), .val (.int yQ), .unset, .unset, .unset, .unset, .unset, .unset, .unset] [(.int (6 : Int32))])) (fun tt kont => ?_) ?_
  · show Steps p.tables e below (T102.setTop (mkF m 49 #[.val (.int p1), .val (.int p2), .val (.int p3), .val (.int p4), .val (.int yC), .val (.int yL), .val (.int v103), .val (.int yP), .unset, .unset, .unset, .unset, .unset, .unset, .unset, .unset] [(.int yQ)])) _
    refine XS.istore X102.here hx rfl (hb hby at_49) rfl (l' := #[.val (.int p1), .val (.int p2), .val (.int p3), .val (.int p4), .val (.int yC), .val (.int yL), .val (.int v103), .val (.int yP), .val (.int yQ), .unset, .unset, .unset, .unset, .unset, .unset, .unset]) rfl ?_
    show Steps p.tables e below (T102.setTop (mkF m 51 #[.val (.int p1), .val (.int p2), .val (.int p3), .val (.int p4), .val (.int yC), .val (.int yL), .val (.int v103), .val (.int yP), .val (.int yQ), .unset, .unset, .unset, .unset, .unset, .unset, .unset] [])) _
    refine XS.bipush X102.here hx rfl (hb hby at_51) ?_
    exact kont
  obtain ⟨T105, h105, k105, X105, e105, E105, A105, st105⟩ := newP X102 hx hZ (hw _ (List.mem_of_getElem? (i := 9) rfl)) e102 (g := (mkF m 53 #[.val (.int p1), .val (.int p2), .val (.int p3), .val (.int p4), .val (.int yC), .val (.int yL), .val (.int v103), .val (.int yP), .val (.int yQ), .unset, .unset, .unset, .unset, .unset, .unset, .unset] [(.int (6 : Int32))])) rfl (hb hby at_53) rfl (by decide) (cap := 6) (by decide) (by decide) (by decide) (by decide)
  obtain ⟨bb, g105⟩ : ∃ z, z = h0.size := ⟨_, rfl⟩
  have g_bb : n0 ≤ bb := Nat.le_trans Z0 (Nat.le_of_eq g105.symm)
  have Z105 : n0 ≤ h105.size := Nat.le_trans Z0 E105.1
  rw [← g105] at A105 st105
  have V_bb_105 : own_A Z h105 bb .byte 6 (fun k => .int ((fun _ => (0 : Int32)) k)) := own_A.new A105 rfl
  refine own_step st105 ?_
  refine own_step (T' := T105) (f' := (mkF m 61 #[.val (.int p1), .val (.int p2), .val (.int p3), .val (.int p4), .val (.int yC), .val (.int yL), .val (.int v103), .val (.int yP), .val (.int yQ), .val (.ref bb), .unset, .unset, .unset, .unset, .unset, .unset] [(.int (-1 : Int32)), (.int (0 : Int32)), (.ref bb)])) (fun tt kont => ?_) ?_
  · show Steps p.tables e below (T105.setTop (mkF m 55 #[.val (.int p1), .val (.int p2), .val (.int p3), .val (.int p4), .val (.int yC), .val (.int yL), .val (.int v103), .val (.int yP), .val (.int yQ), .unset, .unset, .unset, .unset, .unset, .unset, .unset] [(.ref bb)])) _
    refine XS.astore X105.here hx rfl (hb hby at_55) rfl rfl (l' := #[.val (.int p1), .val (.int p2), .val (.int p3), .val (.int p4), .val (.int yC), .val (.int yL), .val (.int v103), .val (.int yP), .val (.int yQ), .val (.ref bb), .unset, .unset, .unset, .unset, .unset, .unset]) rfl ?_
    show Steps p.tables e below (T105.setTop (mkF m 57 #[.val (.int p1), .val (.int p2), .val (.int p3), .val (.int p4), .val (.int yC), .val (.int yL), .val (.int v103), .val (.int yP), .val (.int yQ), .val (.ref bb), .unset, .unset, .unset, .unset, .unset, .unset] [])) _
    refine XS.aload X105.here hx rfl (hb hby at_57) rfl rfl ?_
    show Steps p.tables e below (T105.setTop (mkF m 59 #[.val (.int p1), .val (.int p2), .val (.int p3), .val (.int p4), .val (.int yC), .val (.int yL), .val (.int v103), .val (.int yP), .val (.int yQ), .val (.ref bb), .unset, .unset, .unset, .unset, .unset, .unset] [(.ref bb)])) _
    refine XS.iconst X105.here hx rfl (hb hby at_59) ?_
    show Steps p.tables e below (T105.setTop (mkF m 60 #[.val (.int p1), .val (.int p2), .val (.int p3), .val (.int p4), .val (.int yC), .val (.int yL), .val (.int v103), .val (.int yP), .val (.int yQ), .val (.ref bb), .unset, .unset, .unset, .unset, .unset, .unset] [(.int (0 : Int32)), (.ref bb)])) _
    refine XS.iconst X105.here hx rfl (hb hby at_60) ?_
    exact kont
  obtain ⟨T106, h106, X106, e106, W106, V_bb_106, st106⟩ := own_stB X105 hx hZ e105 V_bb_105 (j := (0 : Int32)) (i := 0) (own_at_lit rfl (by decide)) (by decide) (g := (mkF m 61 #[.val (.int p1), .val (.int p2), .val (.int p3), .val (.int p4), .val (.int yC), .val (.int yL), .val (.int v103), .val (.int yP), .val (.int yQ), .val (.ref bb), .unset, .unset, .unset, .unset, .unset, .unset] [(.int (-1 : Int32)), (.int (0 : Int32)), (.ref bb)])) rfl rfl (hb hby at_61)
  have N106 := Fr.snoc X106 N102 g_bb
  have Z106 : n0 ≤ h106.size := Nat.le_trans Z105 (Keep.of_wr W106).1
  have VI_bb_106 : own_A Z h106 bb .byte 6 (fun k => .int ((own_updI (fun _ => (0 : Int32)) 0 (nar .byte (-1 : Int32))) k)) := own_toI V_bb_106
  refine own_step st106 ?_
  refine own_step (T' := T106) (f' := (mkF m 66 #[.val (.int p1), .val (.int p2), .val (.int p3), .val (.int p4), .val (.int yC), .val (.int yL), .val (.int v103), .val (.int yP), .val (.int yQ), .val (.ref bb), .unset, .unset, .unset, .unset, .unset, .unset] [(.int (-1 : Int32)), (.int (1 : Int32)), (.ref bb)])) (fun tt kont => ?_) ?_
  · show Steps p.tables e below (T106.setTop (mkF m 62 #[.val (.int p1), .val (.int p2), .val (.int p3), .val (.int p4), .val (.int yC), .val (.int yL), .val (.int v103), .val (.int yP), .val (.int yQ), .val (.ref bb), .unset, .unset, .unset, .unset, .unset, .unset] [])) _
    refine XS.aload X106.here hx rfl (hb hby at_62) rfl rfl ?_
    show Steps p.tables e below (T106.setTop (mkF m 64 #[.val (.int p1), .val (.int p2), .val (.int p3), .val (.int p4), .val (.int yC), .val (.int yL), .val (.int v103), .val (.int yP), .val (.int yQ), .val (.ref bb), .unset, .unset, .unset, .unset, .unset, .unset] [(.ref bb)])) _
    refine XS.iconst X106.here hx rfl (hb hby at_64) ?_
    show Steps p.tables e below (T106.setTop (mkF m 65 #[.val (.int p1), .val (.int p2), .val (.int p3), .val (.int p4), .val (.int yC), .val (.int yL), .val (.int v103), .val (.int yP), .val (.int yQ), .val (.ref bb), .unset, .unset, .unset, .unset, .unset, .unset] [(.int (1 : Int32)), (.ref bb)])) _
    refine XS.iconst X106.here hx rfl (hb hby at_65) ?_
    exact kont
  obtain ⟨T107, h107, X107, e107, W107, V_bb_107, st107⟩ := own_stB X106 hx hZ e106 VI_bb_106 (j := (1 : Int32)) (i := 1) (own_at_lit rfl (by decide)) (by decide) (g := (mkF m 66 #[.val (.int p1), .val (.int p2), .val (.int p3), .val (.int p4), .val (.int yC), .val (.int yL), .val (.int v103), .val (.int yP), .val (.int yQ), .val (.ref bb), .unset, .unset, .unset, .unset, .unset, .unset] [(.int (-1 : Int32)), (.int (1 : Int32)), (.ref bb)])) rfl rfl (hb hby at_66)
  have N107 := Fr.snoc X107 N106 g_bb
  have Z107 : n0 ≤ h107.size := Nat.le_trans Z106 (Keep.of_wr W107).1
  have VI_bb_107 : own_A Z h107 bb .byte 6 (fun k => .int ((own_updI (own_updI (fun _ => (0 : Int32)) 0 (nar .byte (-1 : Int32))) 1 (nar .byte (-1 : Int32))) k)) := own_toI V_bb_107
  refine own_step st107 ?_
  refine own_step (T' := T107) (f' := (mkF m 71 #[.val (.int p1), .val (.int p2), .val (.int p3), .val (.int p4), .val (.int yC), .val (.int yL), .val (.int v103), .val (.int yP), .val (.int yQ), .val (.ref bb), .unset, .unset, .unset, .unset, .unset, .unset] [(.int (-1 : Int32)), (.int (2 : Int32)), (.ref bb)])) (fun tt kont => ?_) ?_
  · show Steps p.tables e below (T107.setTop (mkF m 67 #[.val (.int p1), .val (.int p2), .val (.int p3), .val (.int p4), .val (.int yC), .val (.int yL), .val (.int v103), .val (.int yP), .val (.int yQ), .val (.ref bb), .unset, .unset, .unset, .unset, .unset, .unset] [])) _
    refine XS.aload X107.here hx rfl (hb hby at_67) rfl rfl ?_
    show Steps p.tables e below (T107.setTop (mkF m 69 #[.val (.int p1), .val (.int p2), .val (.int p3), .val (.int p4), .val (.int yC), .val (.int yL), .val (.int v103), .val (.int yP), .val (.int yQ), .val (.ref bb), .unset, .unset, .unset, .unset, .unset, .unset] [(.ref bb)])) _
    refine XS.iconst X107.here hx rfl (hb hby at_69) ?_
    show Steps p.tables e below (T107.setTop (mkF m 70 #[.val (.int p1), .val (.int p2), .val (.int p3), .val (.int p4), .val (.int yC), .val (.int yL), .val (.int v103), .val (.int yP), .val (.int yQ), .val (.ref bb), .unset, .unset, .unset, .unset, .unset, .unset] [(.int (2 : Int32)), (.ref bb)])) _
    refine XS.iconst X107.here hx rfl (hb hby at_70) ?_
    exact kont
  obtain ⟨T108, h108, X108, e108, W108, V_bb_108, st108⟩ := own_stB X107 hx hZ e107 VI_bb_107 (j := (2 : Int32)) (i := 2) (own_at_lit rfl (by decide)) (by decide) (g := (mkF m 71 #[.val (.int p1), .val (.int p2), .val (.int p3), .val (.int p4), .val (.int yC), .val (.int yL), .val (.int v103), .val (.int yP), .val (.int yQ), .val (.ref bb), .unset, .unset, .unset, .unset, .unset, .unset] [(.int (-1 : Int32)), (.int (2 : Int32)), (.ref bb)])) rfl rfl (hb hby at_71)
  have N108 := Fr.snoc X108 N107 g_bb
  have Z108 : n0 ≤ h108.size := Nat.le_trans Z107 (Keep.of_wr W108).1
  have VI_bb_108 : own_A Z h108 bb .byte 6 (fun k => .int ((own_updI (own_updI (own_updI (fun _ => (0 : Int32)) 0 (nar .byte (-1 : Int32))) 1 (nar .byte (-1 : Int32))) 2 (nar .byte (-1 : Int32))) k)) := own_toI V_bb_108
  refine own_step st108 ?_
  refine own_step (T' := T108) (f' := (mkF m 76 #[.val (.int p1), .val (.int p2), .val (.int p3), .val (.int p4), .val (.int yC), .val (.int yL), .val (.int v103), .val (.int yP), .val (.int yQ), .val (.ref bb), .unset, .unset, .unset, .unset, .unset, .unset] [(.int (-1 : Int32)), (.int (3 : Int32)), (.ref bb)])) (fun tt kont => ?_) ?_
  · show Steps p.tables e below (T108.setTop (mkF m 72 #[.val (.int p1), .val (.int p2), .val (.int p3), .val (.int p4), .val (.int yC), .val (.int yL), .val (.int v103), .val (.int yP), .val (.int yQ), .val (.ref bb), .unset, .unset, .unset, .unset, .unset, .unset] [])) _
    refine XS.aload X108.here hx rfl (hb hby at_72) rfl rfl ?_
    show Steps p.tables e below (T108.setTop (mkF m 74 #[.val (.int p1), .val (.int p2), .val (.int p3), .val (.int p4), .val (.int yC), .val (.int yL), .val (.int v103), .val (.int yP), .val (.int yQ), .val (.ref bb), .unset, .unset, .unset, .unset, .unset, .unset] [(.ref bb)])) _
    refine XS.iconst X108.here hx rfl (hb hby at_74) ?_
    show Steps p.tables e below (T108.setTop (mkF m 75 #[.val (.int p1), .val (.int p2), .val (.int p3), .val (.int p4), .val (.int yC), .val (.int yL), .val (.int v103), .val (.int yP), .val (.int yQ), .val (.ref bb), .unset, .unset, .unset, .unset, .unset, .unset] [(.int (3 : Int32)), (.ref bb)])) _
    refine XS.iconst X108.here hx rfl (hb hby at_75) ?_
    exact kont
  obtain ⟨T109, h109, X109, e109, W109, V_bb_109, st109⟩ := own_stB X108 hx hZ e108 VI_bb_108 (j := (3 : Int32)) (i := 3) (own_at_lit rfl (by decide)) (by decide) (g := (mkF m 76 #[.val (.int p1), .val (.int p2), .val (.int p3), .val (.int p4), .val (.int yC), .val (.int yL), .val (.int v103), .val (.int yP), .val (.int yQ), .val (.ref bb), .unset, .unset, .unset, .unset, .unset, .unset] [(.int (-1 : Int32)), (.int (3 : Int32)), (.ref bb)])) rfl rfl (hb hby at_76)
  have N109 := Fr.snoc X109 N108 g_bb
  have Z109 : n0 ≤ h109.size := Nat.le_trans Z108 (Keep.of_wr W109).1
  have VI_bb_109 : own_A Z h109 bb .byte 6 (fun k => .int ((own_updI (own_updI (own_updI (own_updI (fun _ => (0 : Int32)) 0 (nar .byte (-1 : Int32))) 1 (nar .byte (-1 : Int32))) 2 (nar .byte (-1 : Int32))) 3 (nar .byte (-1 : Int32))) k)) := own_toI V_bb_109
  refine own_step st109 ?_
  refine own_step (T' := T109) (f' := (mkF m 81 #[.val (.int p1), .val (.int p2), .val (.int p3), .val (.int p4), .val (.int yC), .val (.int yL), .val (.int v103), .val (.int yP), .val (.int yQ), .val (.ref bb), .unset, .unset, .unset, .unset, .unset, .unset] [(.int (-1 : Int32)), (.int (4 : Int32)), (.ref bb)])) (fun tt kont => ?_) ?_
  · show Steps p.tables e below (T109.setTop (mkF m 77 #[.val (.int p1), .val (.int p2), .val (.int p3), .val (.int p4), .val (.int yC), .val (.int yL), .val (.int v103), .val (.int yP), .val (.int yQ), .val (.ref bb), .unset, .unset, .unset, .unset, .unset, .unset] [])) _
    refine XS.aload X109.here hx rfl (hb hby at_77) rfl rfl ?_
    show Steps p.tables e below (T109.setTop (mkF m 79 #[.val (.int p1), .val (.int p2), .val (.int p3), .val (.int p4), .val (.int yC), .val (.int yL), .val (.int v103), .val (.int yP), .val (.int yQ), .val (.ref bb), .unset, .unset, .unset, .unset, .unset, .unset] [(.ref bb)])) _
    refine XS.iconst X109.here hx rfl (hb hby at_79) ?_
    show Steps p.tables e below (T109.setTop (mkF m 80 #[.val (.int p1), .val (.int p2), .val (.int p3), .val (.int p4), .val (.int yC), .val (.int yL), .val (.int v103), .val (.int yP), .val (.int yQ), .val (.ref bb), .unset, .unset, .unset, .unset, .unset, .unset] [(.int (4 : Int32)), (.ref bb)])) _
    refine XS.iconst X109.here hx rfl (hb hby at_80) ?_
    exact kont
  obtain ⟨T110, h110, X110, e110, W110, V_bb_110, st110⟩ := own_stB X109 hx hZ e109 VI_bb_109 (j := (4 : Int32)) (i := 4) (own_at_lit rfl (by decide)) (by decide) (g := (mkF m 81 #[.val (.int p1), .val (.int p2), .val (.int p3), .val (.int p4), .val (.int yC), .val (.int yL), .val (.int v103), .val (.int yP), .val (.int yQ), .val (.ref bb), .unset, .unset, .unset, .unset, .unset, .unset] [(.int (-1 : Int32)), (.int (4 : Int32)), (.ref bb)])) rfl rfl (hb hby at_81)
  have N110 := Fr.snoc X110 N109 g_bb
  have Z110 : n0 ≤ h110.size := Nat.le_trans Z109 (Keep.of_wr W110).1
  have VI_bb_110 : own_A Z h110 bb .byte 6 (fun k => .int ((own_updI (own_updI (own_updI (own_updI (own_updI (fun _ => (0 : Int32)) 0 (nar .byte (-1 : Int32))) 1 (nar .byte (-1 : Int32))) 2 (nar .byte (-1 : Int32))) 3 (nar .byte (-1 : Int32))) 4 (nar .byte (-1 : Int32))) k)) := own_toI V_bb_110
  refine own_step st110 ?_
  refine own_step (T' := T110) (f' := (mkF m 86 #[.val (.int p1), .val (.int p2), .val (.int p3), .val (.int p4), .val (.int yC), .val (.int yL), .val (.int v103), .val (.int yP), .val (.int yQ), .val (.ref bb), .unset, .unset, .unset, .unset, .unset, .unset] [(.int (-1 : Int32)), (.int (5 : Int32)), (.ref bb)])) (fun tt kont => ?_) ?_
  · show Steps p.tables e below (T110.setTop (mkF m 82 #[.val (.int p1), .val (.int p2), .val (.int p3), .val (.int p4), .val (.int yC), .val (.int yL), .val (.int v103), .val (.int yP), .val (.int yQ), .val (.ref bb), .unset, .unset, .unset, .unset, .unset, .unset] [])) _
    refine XS.aload X110.here hx rfl (hb hby at_82) rfl rfl ?_
    show Steps p.tables e below (T110.setTop (mkF m 84 #[.val (.int p1), .val (.int p2), .val (.int p3), .val (.int p4), .val (.int yC), .val (.int yL), .val (.int v103), .val (.int yP), .val (.int yQ), .val (.ref bb), .unset, .unset, .unset, .unset, .unset, .unset] [(.ref bb)])) _
    refine XS.iconst X110.here hx rfl (hb hby at_84) ?_
    show Steps p.tables e below (T110.setTop (mkF m 85 #[.val (.int p1), .val (.int p2), .val (.int p3), .val (.int p4), .val (.int yC), .val (.int yL), .val (.int v103), .val (.int yP), .val (.int yQ), .val (.ref bb), .unset, .unset, .unset, .unset, .unset, .unset] [(.int (5 : Int32)), (.ref bb)])) _
    refine XS.iconst X110.here hx rfl (hb hby at_85) ?_
    exact kont
  obtain ⟨T111, h111, X111, e111, W111, V_bb_111, st111⟩ := own_stB X110 hx hZ e110 VI_bb_110 (j := (5 : Int32)) (i := 5) (own_at_lit rfl (by decide)) (by decide) (g := (mkF m 86 #[.val (.int p1), .val (.int p2), .val (.int p3), .val (.int p4), .val (.int yC), .val (.int yL), .val (.int v103), .val (.int yP), .val (.int yQ), .val (.ref bb), .unset, .unset, .unset, .unset, .unset, .unset] [(.int (-1 : Int32)), (.int (5 : Int32)), (.ref bb)])) rfl rfl (hb hby at_86)
  have N111 := Fr.snoc X111 N110 g_bb
  have Z111 : n0 ≤ h111.size := Nat.le_trans Z110 (Keep.of_wr W111).1
  have VI_bb_111 : own_A Z h111 bb .byte 6 (fun k => .int ((own_updI (own_updI (own_updI (own_updI (own_updI (own_updI (fun _ => (0 : Int32)) 0 (nar .byte (-1 : Int32))) 1 (nar .byte (-1 : Int32))) 2 (nar .byte (-1 : Int32))) 3 (nar .byte (-1 : Int32))) 4 (nar .byte (-1 : Int32))) 5 (nar .byte (-1 : Int32))) k)) := own_toI V_bb_111
  refine own_step st111 ?_
  refine own_step (T' := T111) (f' := (mkF m 89 #[.val (.int p1), .val (.int p2), .val (.int p3), .val (.int p4), .val (.int yC), .val (.int yL), .val (.int v103), .val (.int yP), .val (.int yQ), .val (.ref bb), .unset, .unset, .unset, .unset, .unset, .unset] [(.int v103)])) (fun tt kont => ?_) ?_
  · show Steps p.tables e below (T111.setTop (mkF m 87 #[.val (.int p1), .val (.int p2), .val (.int p3), .val (.int p4), .val (.int yC), .val (.int yL), .val (.int v103), .val (.int yP), .val (.int yQ), .val (.ref bb), .unset, .unset, .unset, .unset, .unset, .unset] [])) _
    refine XS.iload X111.here hx rfl (hb hby at_87) rfl ?_
    exact kont
  by_cases hc89_5 : v103 = (0 : Int32)
  · refine own_step (T' := T111) (f' := (mkF m 98 #[.val (.int p1), .val (.int p2), .val (.int p3), .val (.int p4), .val (.int yC), .val (.int yL), .val (.int v103), .val (.int yP), .val (.int yQ), .val (.ref bb), .unset, .unset, .unset, .unset, .unset, .unset] [(.int (yP.toInt8.toInt32)), (.int (0 : Int32)), (.ref bb)])) (fun tt kont => ?_) ?_
    · show Steps p.tables e below (T111.setTop (mkF m 89 #[.val (.int p1), .val (.int p2), .val (.int p3), .val (.int p4), .val (.int yC), .val (.int yL), .val (.int v103), .val (.int yP), .val (.int yQ), .val (.ref bb), .unset, .unset, .unset, .unset, .unset, .unset] [(.int v103)])) _
      refine XS.ifNo X111.here hx rfl (hb hby at_89) rfl ((if0 _ _).trans (teq hc89_5).2) ?_
      show Steps p.tables e below (T111.setTop (mkF m 92 #[.val (.int p1), .val (.int p2), .val (.int p3), .val (.int p4), .val (.int yC), .val (.int yL), .val (.int v103), .val (.int yP), .val (.int yQ), .val (.ref bb), .unset, .unset, .unset, .unset, .unset, .unset] [])) _
      refine XS.aload X111.here hx rfl (hb hby at_92) rfl rfl ?_
      show Steps p.tables e below (T111.setTop (mkF m 94 #[.val (.int p1), .val (.int p2), .val (.int p3), .val (.int p4), .val (.int yC), .val (.int yL), .val (.int v103), .val (.int yP), .val (.int yQ), .val (.ref bb), .unset, .unset, .unset, .unset, .unset, .unset] [(.ref bb)])) _
      refine XS.iconst X111.here hx rfl (hb hby at_94) ?_
      show Steps p.tables e below (T111.setTop (mkF m 95 #[.val (.int p1), .val (.int p2), .val (.int p3), .val (.int p4), .val (.int yC), .val (.int yL), .val (.int v103), .val (.int yP), .val (.int yQ), .val (.ref bb), .unset, .unset, .unset, .unset, .unset, .unset] [(.int (0 : Int32)), (.ref bb)])) _
      refine XS.iload X111.here hx rfl (hb hby at_95) rfl ?_
      show Steps p.tables e below (T111.setTop (mkF m 97 #[.val (.int p1), .val (.int p2), .val (.int p3), .val (.int p4), .val (.int yC), .val (.int yL), .val (.int v103), .val (.int yP), .val (.int yQ), .val (.ref bb), .unset, .unset, .unset, .unset, .unset, .unset] [(.int yP), (.int (0 : Int32)), (.ref bb)])) _
      refine XS.i2b X111.here hx rfl (hb hby at_97) rfl ?_
      exact kont
    obtain ⟨T112, h112, X112, e112, W112, V_bb_112, st112⟩ := own_stB X111 hx hZ e111 VI_bb_111 (j := (0 : Int32)) (i := 0) (own_at_lit rfl (by decide)) (by decide) (g := (mkF m 98 #[.val (.int p1), .val (.int p2), .val (.int p3), .val (.int p4), .val (.int yC), .val (.int yL), .val (.int v103), .val (.int yP), .val (.int yQ), .val (.ref bb), .unset, .unset, .unset, .unset, .unset, .unset] [(.int (yP.toInt8.toInt32)), (.int (0 : Int32)), (.ref bb)])) rfl rfl (hb hby at_98)
    have N112 := Fr.snoc X112 N111 g_bb
    have Z112 : n0 ≤ h112.size := Nat.le_trans Z111 (Keep.of_wr W112).1
    have VI_bb_112 : own_A Z h112 bb .byte 6 (fun k => .int ((own_updI (own_updI (own_updI (own_updI (own_updI (own_updI (own_updI (fun _ => (0 : Int32)) 0 (nar .byte (-1 : Int32))) 1 (nar .byte (-1 : Int32))) 2 (nar .byte (-1 : Int32))) 3 (nar .byte (-1 : Int32))) 4 (nar .byte (-1 : Int32))) 5 (nar .byte (-1 : Int32))) 0 (nar .byte (yP.toInt8.toInt32))) k)) := own_toI V_bb_112
    refine own_step st112 ?_
    exact own_s99 (F := (own_updI (own_updI (own_updI (own_updI (own_updI (own_updI (own_updI (fun _ => (0 : Int32)) 0 (nar .byte (-1 : Int32))) 1 (nar .byte (-1 : Int32))) 2 (nar .byte (-1 : Int32))) 3 (nar .byte (-1 : Int32))) 4 (nar .byte (-1 : Int32))) 5 (nar .byte (-1 : Int32))) 0 (nar .byte (yP.toInt8.toInt32)))) X112 hx hZ hw hby hret hlk hml hown e112 N112 Z112 g_bb VI_bb_112 hL hL1 hL4 (Or.inl ⟨hc89_5, own_P0 hP⟩) hQ hC hLm
  · refine own_step (T' := T111) (f' := (mkF m 99 #[.val (.int p1), .val (.int p2), .val (.int p3), .val (.int p4), .val (.int yC), .val (.int yL), .val (.int v103), .val (.int yP), .val (.int yQ), .val (.ref bb), .unset, .unset, .unset, .unset, .unset, .unset] [])) (fun tt kont => ?_) ?_
    · show Steps p.tables e below (T111.setTop (mkF m 89 #[.val (.int p1), .val (.int p2), .val (.int p3), .val (.int p4), .val (.int yC), .val (.int yL), .val (.int v103), .val (.int yP), .val (.int yQ), .val (.ref bb), .unset, .unset, .unset, .unset, .unset, .unset] [(.int v103)])) _
      refine XS.ifYes X111.here hx rfl (pc0 := 89) (pc' := 99) rfl (hb hby at_89) rfl ((if0 _ _).trans (feq hc89_5).2) (by decide) (by decide) ?_
      exact kont
    exact own_s99 (F := (own_updI (own_updI (own_updI (own_updI (own_updI (own_updI (fun _ => (0 : Int32)) 0 (nar .byte (-1 : Int32))) 1 (nar .byte (-1 : Int32))) 2 (nar .byte (-1 : Int32))) 3 (nar .byte (-1 : Int32))) 4 (nar .byte (-1 : Int32))) 5 (nar .byte (-1 : Int32)))) X111 hx hZ hw hby hret hlk hml hown e111 N111 Z111 g_bb VI_bb_111 hL hL1 hL4 (Or.inr (hS0.resolve_left hc89_5)) hQ hC hLm
set_option maxRecDepth 65536 in
set_option maxHeartbeats 40000000 in
theorem comes_1 {Post : Tables → Env → Array Value → State → Outcome → State → Prop} (hpost : ∀ tb e args s v u, (limb_1_1.after args s (.returned v) u = true ∧ limb_1_2.after args s (.returned v) u = true ∧ True) → FrameEnd s (.returned v) u (Jvm.fieldLocs frame_1_writes args s ++ Jvm.arrayLocs frame_1_arrays args s ++ Jvm.staticLocs frame_1_statics s) 16 128 → Post tb e args s (.returned v) u) :
    ArmFor flags0 classFile x code maxLocals ret World_1 tables_1 room_1 Calls_1 rest_1 Pre_1 Post := by
  intro l hfl _ _ p e ha hc hk s m args below hf hA hF happ hP
  obtain ⟨hcalls, hrest, hpre⟩ := hP
  obtain ⟨-, -, -, hnamed, -, -, -, hat⟩ := (Spec.applies_iff hf).mp happ
  obtain ⟨hg, hn⟩ := and_e (Cond.before_iff.mp (show (Jvm.Cond.and given_1 narrow_1).before args s = true from hpre))
  obtain ⟨g1, g2⟩ := and_e hg
  obtain ⟨ga0, gb0⟩ := and_e g2
  obtain ⟨ga1, gb1⟩ := and_e gb0
  obtain ⟨ga2, gb2⟩ := and_e gb1
  obtain ⟨w0, w1, w2, w3, rfl⟩ : ∃ w0 w1 w2 w3 : Value, args = #[w0, w1, w2, w3] := by
    have hs : args.size = 4 := by simpa [Cond.value, given_1] using g1
    obtain ⟨L⟩ := args
    match L, hs with
    | [w0, w1, w2, w3], _ => exact ⟨w0, w1, w2, w3, rfl⟩
  have hw := fun d (hd : d ∈ tables_1) => atoms_spec (ws := Jvm.Cond.code x code maxLocals ret :: tables_1) hat d (List.mem_cons_of_mem _ hd)
  obtain ⟨i0, ei0⟩ := is_v ga0
  obtain rfl : w0 = (.int i0) := Option.some.inj ei0
  obtain ⟨i1, ei1⟩ := is_v ga1
  obtain rfl : w1 = (.int i1) := Option.some.inj ei1
  obtain ⟨i2, ei2⟩ := is_v ga2
  obtain rfl : w2 = (.int i2) := Option.some.inj ei2
  obtain ⟨i3, ei3⟩ := is_v gb2
  obtain rfl : w3 = (.int i3) := Option.some.inj ei3
  obtain ⟨n, o, h1, h2, h3, _, L, rfl, ⟨rfl, N⟩, hq⟩ := own_rm0 l s _ hw tables_1 i0 i1 i2 i3 s.heap s.heap.size (Nat.le_refl _) p e ha hc hk s m _ below hf ((Spec.applies_iff_loose hf).mp happ).1 ⟨rfl, State.Warmed39.refl s, rfl⟩ trivial
  refine ⟨n, _, h1, h2, h3, hpost _ _ _ _ _ _ ⟨Cond.after_iff.mpr rfl, Cond.after_iff.mpr (eq_i res_at (Term.int_eval (1)) rfl), trivial⟩ ⟨hq.1, hq.2.1, (hq.2.2.sift fun y hy => Or.inr (N y hy)).mono (by decide) (by decide)⟩⟩
theorem main_1_1 : Claimed_1_1 := comes_1 fun _ _ _ _ _ _ h hF => ⟨h.1, hF⟩
theorem main_1_2 : Claimed_1_2 := comes_1 fun _ _ _ _ _ _ h hF => ⟨h.2.1, hF⟩
end Jvm.Pilot.@@N@@
namespace Jvm.Pilot.@@N@@
open Jvm Jvm.ClassFile Sem Op Lib Jvm.Free Jvm.Stand Jvm.Pilot.@@N@@.Jvm.D
/-! MADE BY PROGRAM (witnessworld.py) out of the Statement's table words and the real class files: 12 classes; the members and pool entries that the words name. The judged class is class 1, her method 3. -/
namespace start1
open Jvm.ClassFile
def u (s : String) : CpInfo := .utf8 (stringToUtf16 s)
/-- a pool by its gaps: so many unusable entries, then the entry; so many at the end -/
def gap : Nat → List CpInfo → List CpInfo
  | 0, r => r
  | n + 1, r => .unusable :: gap n r
def poolList (es : List (Nat × CpInfo)) (last : Nat) : List CpInfo := es.foldr (fun e r => gap e.1 (e.2 :: r)) (gap last [])
def pool (es : List (Nat × CpInfo)) (last : Nat) : Array CpInfo := ⟨poolList es last⟩
def fileOf (pool : Array CpInfo) (this : Nat) (attrs : Array Attribute := #[]) (ms : Array MethodInfo := #[]) (fl : Nat := 33) (sup : Nat := 0) (ifs : Array Nat := #[]) (fds : Array FieldInfo := #[]) : ClassFile where
  minorVersion := 0
  majorVersion := 65
  constantPool := pool
  accessFlags := fl
  thisClass := this
  superClass := sup
  interfaces := ifs
  fields := fds
  methods := ms
  attributes := attrs
def plain (name : String) (sup : Option ClassId) : Class where
  name := name
  kind := .ordinary
  loader := none
  accessFlags := 33
  super := sup
  interfaces := #[]
  cf := none
  fields := #[]
  methods := #[]
  instanceTypes := #[]
  staticTypes := #[]
  resolved := #[]
  callSites := []
  init := .initialized
  statics := none
  mirror := none

def pool0 : Array CpInfo := pool [(5, u "<init>"), (0, u "()V"), (1, .class_ 10), (1, u "java/lang/Object")] 113

def k0m0 : Method := { name := "<init>", desc := "()V", sig := { parameters := [], returnType := none }, accessFlags := 1, code := none }
/-- java/lang/Object -/
def k0 : Class := { plain "java/lang/Object" none with
  accessFlags := 33
  interfaces := #[]
  cf := some (fileOf pool0 8 #[] #[{ accessFlags := 1, nameIndex := 5, descriptorIndex := 6, attributes := #[] }] 33 0 #[] #[])
  fields := #[]
  methods := #[k0m0]
  instanceTypes := #[]
  staticTypes := #[]
  resolved := Array.replicate 124 none
  statics := none }

def pool1 : Array CpInfo := pool [(2, .class_ 4), (1, u "java/lang/Object"), (0, u "<init>"), (0, u "()V"), (0, .integer 65536), (0, .methodref 9 10), (0, .class_ 11), (0, .nameAndType 12 13), (0, u "com/example/tallymark/tallymark/model/EstateFileReaderIsUtf8PinLaw"), (0, u "minLen"), (0, u "(I)I"), (0, .integer 1114111), (0, .integer 55296), (0, .integer 57343), (0, .integer 2097151), (0, .methodref 19 20), (0, .class_ 21), (0, .nameAndType 22 23), (0, u "java/lang/Math"), (0, u "max"), (0, u "(II)I"), (0, .methodref 9 25), (0, .nameAndType 26 27), (0, u "valid"), (0, u "(II)Z"), (0, .methodref 29 30), (0, .class_ 31), (0, .nameAndType 32 33), (0, u "com/example/tallymark/tallymark/model/EstateFileReader"), (0, u "isUtf8"), (0, u "([BII)Z"), (3, u "law"), (0, u "(IIII)Z")] 4

def k1m0 : Method := { name := "<init>", desc := "()V", sig := { parameters := [], returnType := none }, accessFlags := 2, code := none }
def k1c1 : Code := { maxStack := 2, maxLocals := 1, code := method_2_code, exceptionTable := #[], attributes := #[] }
def k1m1 : Method := { name := "minLen", desc := "(I)I", sig := { parameters := [.int], returnType := some .int }, accessFlags := 10, code := some k1c1 }
def k1c2 : Code := { maxStack := 2, maxLocals := 2, code := method_3_code, exceptionTable := #[], attributes := #[] }
def k1m2 : Method := { name := "valid", desc := "(II)Z", sig := { parameters := [.int, .int], returnType := some .boolean }, accessFlags := 10, code := some k1c2 }
def k1c3 : Code := { maxStack := 5, maxLocals := 16, code := code, exceptionTable := #[], attributes := #[] }
def k1m3 : Method := { name := "law", desc := "(IIII)Z", sig := { parameters := [.int, .int, .int, .int], returnType := some .boolean }, accessFlags := 9, code := some k1c3 }
/-- com/example/tallymark/tallymark/model/EstateFileReaderIsUtf8PinLaw -/
def k1 : Class := { plain "com/example/tallymark/tallymark/model/EstateFileReaderIsUtf8PinLaw" (some 0) with
  accessFlags := 49
  interfaces := #[]
  cf := some (fileOf pool1 9 #[] #[{ accessFlags := 2, nameIndex := 5, descriptorIndex := 6, attributes := #[] }, { accessFlags := 10, nameIndex := 12, descriptorIndex := 13, attributes := #[] }, { accessFlags := 10, nameIndex := 26, descriptorIndex := 27, attributes := #[] }, { accessFlags := 9, nameIndex := 37, descriptorIndex := 38, attributes := #[] }] 49 2 #[] #[])
  fields := #[]
  methods := #[k1m0, k1m1, k1m2, k1m3]
  instanceTypes := #[]
  staticTypes := #[]
  resolved := Array.replicate 43 none
  statics := none }

def pool2 : Array CpInfo := pool [(1, .class_ 2), (0, u "java/lang/Math"), (1, .class_ 6), (1, u "java/lang/Object"), (0, u "<init>"), (0, u "()V"), (89, .class_ 100), (1, u "java/lang/Math$RandomNumberGeneratorHolder"), (71, u "negativeZeroFloatBits"), (0, u "J"), (2, u "negativeZeroDoubleBits"), (21, u "max"), (46, u "$assertionsDisabled"), (0, u "Z"), (88, u "(II)I"), (2, u "twoToTheDoubleScaleDown"), (0, u "D"), (4, u "twoToTheDoubleScaleUp"), (9, u "E"), (3, u "PI"), (2, u "TAU"), (2, u "DEGREES_TO_RADIANS"), (0, u "RADIANS_TO_DEGREES")] 94

def k2m0 : Method := { name := "<init>", desc := "()V", sig := { parameters := [], returnType := none }, accessFlags := 2, code := none }
def k2c1 : Code := { maxStack := 2, maxLocals := 2, code := jdk_29_method_65_code, exceptionTable := #[], attributes := #[] }
def k2m1 : Method := { name := "max", desc := "(II)I", sig := { parameters := [.int, .int], returnType := some .int }, accessFlags := 9, code := some k2c1 }
/-- java/lang/Math -/
def k2 : Class := { plain "java/lang/Math" (some 0) with
  accessFlags := 49
  interfaces := #[]
  cf := some (fileOf pool2 1 #[.nestMembers #[98]] #[{ accessFlags := 2, nameIndex := 7, descriptorIndex := 8, attributes := #[] }, { accessFlags := 9, nameIndex := 198, descriptorIndex := 335, attributes := #[] }] 49 4 #[] #[{ accessFlags := 25, nameIndex := 354, descriptorIndex := 339, attributes := #[] }, { accessFlags := 25, nameIndex := 358, descriptorIndex := 339, attributes := #[] }, { accessFlags := 25, nameIndex := 361, descriptorIndex := 339, attributes := #[] }, { accessFlags := 26, nameIndex := 364, descriptorIndex := 339, attributes := #[] }, { accessFlags := 26, nameIndex := 365, descriptorIndex := 339, attributes := #[] }, { accessFlags := 26, nameIndex := 172, descriptorIndex := 173, attributes := #[] }, { accessFlags := 26, nameIndex := 176, descriptorIndex := 173, attributes := #[] }, { accessFlags := 8, nameIndex := 344, descriptorIndex := 339, attributes := #[] }, { accessFlags := 8, nameIndex := 338, descriptorIndex := 339, attributes := #[] }, { accessFlags := 4120, nameIndex := 245, descriptorIndex := 246, attributes := #[] }])
  fields := #[{ name := "E", type := .double, accessFlags := 25, slot := 0, constantValue := 0 }, { name := "PI", type := .double, accessFlags := 25, slot := 1, constantValue := 0 }, { name := "TAU", type := .double, accessFlags := 25, slot := 2, constantValue := 0 }, { name := "DEGREES_TO_RADIANS", type := .double, accessFlags := 26, slot := 3, constantValue := 0 }, { name := "RADIANS_TO_DEGREES", type := .double, accessFlags := 26, slot := 4, constantValue := 0 }, { name := "negativeZeroFloatBits", type := .long, accessFlags := 26, slot := 5, constantValue := 0 }, { name := "negativeZeroDoubleBits", type := .long, accessFlags := 26, slot := 6, constantValue := 0 }, { name := "twoToTheDoubleScaleUp", type := .double, accessFlags := 8, slot := 7, constantValue := 0 }, { name := "twoToTheDoubleScaleDown", type := .double, accessFlags := 8, slot := 8, constantValue := 0 }, { name := "$assertionsDisabled", type := .boolean, accessFlags := 4120, slot := 9, constantValue := 0 }]
  methods := #[k2m0, k2m1]
  instanceTypes := #[]
  staticTypes := #[.double, .double, .double, .double, .double, .long, .long, .double, .double, .boolean]
  resolved := Array.replicate 460 none
  statics := none }

def pool3 : Array CpInfo := pool [(1, .class_ 2), (0, u "java/lang/AutoCloseable"), (0, .class_ 4), (0, u "java/lang/Object")] 7

/-- java/lang/AutoCloseable -/
def k3 : Class := { plain "java/lang/AutoCloseable" (some 0) with
  accessFlags := 1537
  interfaces := #[]
  cf := some (fileOf pool3 1 #[] #[] 1537 3 #[] #[])
  fields := #[]
  methods := #[]
  instanceTypes := #[]
  staticTypes := #[]
  resolved := Array.replicate 12 none
  statics := none }

def pool4 : Array CpInfo := pool [(1, .class_ 2), (0, u "java/io/Closeable"), (0, .class_ 4), (0, u "java/lang/Object"), (0, .class_ 6), (0, u "java/lang/AutoCloseable")] 7

/-- java/io/Closeable -/
def k4 : Class := { plain "java/io/Closeable" (some 0) with
  accessFlags := 1537
  interfaces := #[3]
  cf := some (fileOf pool4 1 #[] #[] 1537 3 #[5] #[])
  fields := #[]
  methods := #[]
  instanceTypes := #[]
  staticTypes := #[]
  resolved := Array.replicate 14 none
  statics := none }

def pool5 : Array CpInfo := pool [(2, .class_ 4), (1, u "java/lang/Object"), (6, .class_ 13), (1, u "com/example/tallymark/tallymark/model/EstateFileReader"), (0, u "problems"), (0, u "Lcom/example/tallymark/tallymark/model/InputProblems;"), (6, u "problemOfLine"), (0, u "Ljava/util/function/Consumer;"), (2, u "farColumns"), (0, u "[I"), (4, u "names"), (0, u "[Ljava/lang/String;"), (2, u "usable"), (0, u "Z"), (2, u "lineNumber"), (0, u "J"), (2, u "starts"), (2, u "ends"), (2, u "flags"), (2, u "values"), (2, u "numbers"), (4, u "recent"), (0, u "[Lcom/example/tallymark/tallymark/model/TextPool$Recent;"), (2, u "nextFar"), (0, u "I"), (17, u "fileName"), (0, u "Ljava/lang/String;"), (2, u "in"), (0, u "Ljava/io/InputStream;"), (2, u "largestBufferSize"), (2, u "mostBuffered"), (2, u "texts"), (0, u "Lcom/example/tallymark/tallymark/model/TextPool;"), (2, u "buffer"), (0, u "[B"), (16, u "header"), (0, u "Lcom/example/tallymark/tallymark/model/Header;"), (19, u "columns"), (36, u "limit"), (2, u "endOfInput"), (5, u "position"), (10, u "linesAsked"), (43, u "current"), (2, u "passedOverFields"), (0, u "Lcom/example/tallymark/tallymark/model/EstateFileReader$PassedOver;"), (2, u "fieldCount"), (5, u "notUtf8"), (4, u "recordFlags"), (2, u "farNoted"), (6, u "hasPassedOver"), (1, .class_ 274), (1, u "com/example/tallymark/tallymark/model/EstateFileReader$PassedOver"), (35, u "heldFrom"), (8, u "nextHeldStart"), (6, u "linesRead"), (2, u "ended"), (5, u "bytesBefore"), (2, u "linesBefore"), (12, u "fieldsBefore"), (2, u "scannedFields"), (11, .class_ 368), (1, u "com/example/tallymark/tallymark/model/EstateFileReader$Skim"), (10, u "isUtf8"), (0, u "([BII)Z"), (27, u "scannedStop"), (2, u "scannedFieldLines"), (6, u "scannedQuoteEnd"), (2, u "scannedLines"), (2, u "scannedTo"), (5, u "unreadable"), (121, .class_ 553), (0, u "java/io/Closeable"), (0, u "FIRST_BUFFER_SIZE"), (1, u "FULL_BUFFER_SIZE"), (0, u "LARGEST_BUFFER_SIZE"), (0, u "MORE"), (1, u "NONE"), (1, u "RECORD"), (1, u "DAMAGED"), (1, u "HELD_FIELDS"), (1, u "NO_FAR_COLUMN"), (0, u "BETWEEN"), (0, u "IN_QUOTES"), (0, u "AFTER_QUOTES"), (0, u "UNQUOTED"), (1, u "QUOTED"), (0, u "DOUBLED_QUOTES"), (0, u "WIDE"), (1, u "UNTRIMMED")] 77

def k5c0 : Code := { maxStack := 3, maxLocals := 10, code := prog_72_method_42_code, exceptionTable := #[], attributes := #[] }
def k5m0 : Method := { name := "isUtf8", desc := "([BII)Z", sig := { parameters := [(.array .byte), .int, .int], returnType := some .boolean }, accessFlags := 8, code := some k5c0 }
/-- com/example/tallymark/tallymark/model/EstateFileReader -/
def k5 : Class := { plain "com/example/tallymark/tallymark/model/EstateFileReader" (some 0) with
  accessFlags := 33
  interfaces := #[4]
  cf := some (fileOf pool5 11 #[.nestMembers #[272, 366]] #[{ accessFlags := 8, nameIndex := 379, descriptorIndex := 380, attributes := #[] }] 33 2 #[552] #[{ accessFlags := 24, nameIndex := 554, descriptorIndex := 66, attributes := #[] }, { accessFlags := 24, nameIndex := 556, descriptorIndex := 66, attributes := #[] }, { accessFlags := 24, nameIndex := 557, descriptorIndex := 66, attributes := #[] }, { accessFlags := 26, nameIndex := 558, descriptorIndex := 66, attributes := #[] }, { accessFlags := 26, nameIndex := 560, descriptorIndex := 66, attributes := #[] }, { accessFlags := 26, nameIndex := 562, descriptorIndex := 66, attributes := #[] }, { accessFlags := 26, nameIndex := 564, descriptorIndex := 66, attributes := #[] }, { accessFlags := 26, nameIndex := 566, descriptorIndex := 66, attributes := #[] }, { accessFlags := 26, nameIndex := 568, descriptorIndex := 66, attributes := #[] }, { accessFlags := 26, nameIndex := 569, descriptorIndex := 66, attributes := #[] }, { accessFlags := 26, nameIndex := 570, descriptorIndex := 66, attributes := #[] }, { accessFlags := 26, nameIndex := 571, descriptorIndex := 66, attributes := #[] }, { accessFlags := 26, nameIndex := 572, descriptorIndex := 66, attributes := #[] }, { accessFlags := 26, nameIndex := 574, descriptorIndex := 66, attributes := #[] }, { accessFlags := 26, nameIndex := 575, descriptorIndex := 66, attributes := #[] }, { accessFlags := 26, nameIndex := 576, descriptorIndex := 66, attributes := #[] }, { accessFlags := 26, nameIndex := 578, descriptorIndex := 66, attributes := #[] }, { accessFlags := 18, nameIndex := 84, descriptorIndex := 85, attributes := #[] }, { accessFlags := 18, nameIndex := 88, descriptorIndex := 89, attributes := #[] }, { accessFlags := 18, nameIndex := 92, descriptorIndex := 66, attributes := #[] }, { accessFlags := 18, nameIndex := 95, descriptorIndex := 66, attributes := #[] }, { accessFlags := 18, nameIndex := 98, descriptorIndex := 99, attributes := #[] }, { accessFlags := 18, nameIndex := 14, descriptorIndex := 15, attributes := #[] }, { accessFlags := 18, nameIndex := 22, descriptorIndex := 23, attributes := #[] }, { accessFlags := 2, nameIndex := 245, descriptorIndex := 246, attributes := #[] }, { accessFlags := 2, nameIndex := 270, descriptorIndex := 37, attributes := #[] }, { accessFlags := 18, nameIndex := 120, descriptorIndex := 121, attributes := #[] }, { accessFlags := 18, nameIndex := 141, descriptorIndex := 66, attributes := #[] }, { accessFlags := 2, nameIndex := 26, descriptorIndex := 27, attributes := #[] }, { accessFlags := 2, nameIndex := 32, descriptorIndex := 33, attributes := #[] }, { accessFlags := 2, nameIndex := 198, descriptorIndex := 37, attributes := #[] }, { accessFlags := 2, nameIndex := 329, descriptorIndex := 37, attributes := #[] }, { accessFlags := 2, nameIndex := 430, descriptorIndex := 37, attributes := #[] }, { accessFlags := 2, nameIndex := 36, descriptorIndex := 37, attributes := #[] }, { accessFlags := 2, nameIndex := 40, descriptorIndex := 41, attributes := #[] }, { accessFlags := 2, nameIndex := 242, descriptorIndex := 37, attributes := #[] }, { accessFlags := 2, nameIndex := 102, descriptorIndex := 103, attributes := #[] }, { accessFlags := 2, nameIndex := 187, descriptorIndex := 66, attributes := #[] }, { accessFlags := 2, nameIndex := 178, descriptorIndex := 66, attributes := #[] }, { accessFlags := 2, nameIndex := 181, descriptorIndex := 37, attributes := #[] }, { accessFlags := 2, nameIndex := 326, descriptorIndex := 41, attributes := #[] }, { accessFlags := 2, nameIndex := 351, descriptorIndex := 41, attributes := #[] }, { accessFlags := 2, nameIndex := 338, descriptorIndex := 41, attributes := #[] }, { accessFlags := 2, nameIndex := 335, descriptorIndex := 41, attributes := #[] }, { accessFlags := 2, nameIndex := 354, descriptorIndex := 66, attributes := #[] }, { accessFlags := 2, nameIndex := 421, descriptorIndex := 41, attributes := #[] }, { accessFlags := 2, nameIndex := 424, descriptorIndex := 66, attributes := #[] }, { accessFlags := 2, nameIndex := 408, descriptorIndex := 66, attributes := #[] }, { accessFlags := 2, nameIndex := 411, descriptorIndex := 41, attributes := #[] }, { accessFlags := 2, nameIndex := 418, descriptorIndex := 66, attributes := #[] }, { accessFlags := 2, nameIndex := 249, descriptorIndex := 66, attributes := #[] }, { accessFlags := 2, nameIndex := 310, descriptorIndex := 66, attributes := #[] }, { accessFlags := 2, nameIndex := 44, descriptorIndex := 27, attributes := #[] }, { accessFlags := 2, nameIndex := 47, descriptorIndex := 27, attributes := #[] }, { accessFlags := 2, nameIndex := 50, descriptorIndex := 27, attributes := #[] }, { accessFlags := 2, nameIndex := 53, descriptorIndex := 33, attributes := #[] }, { accessFlags := 2, nameIndex := 56, descriptorIndex := 27, attributes := #[] }, { accessFlags := 2, nameIndex := 61, descriptorIndex := 62, attributes := #[] }, { accessFlags := 2, nameIndex := 260, descriptorIndex := 66, attributes := #[] }, { accessFlags := 2, nameIndex := 319, descriptorIndex := 66, attributes := #[] }, { accessFlags := 2, nameIndex := 263, descriptorIndex := 66, attributes := #[] }, { accessFlags := 2, nameIndex := 65, descriptorIndex := 66, attributes := #[] }, { accessFlags := 2, nameIndex := 255, descriptorIndex := 37, attributes := #[] }])
  fields := #[{ name := "FIRST_BUFFER_SIZE", type := .int, accessFlags := 24, slot := 0, constantValue := 0 }, { name := "FULL_BUFFER_SIZE", type := .int, accessFlags := 24, slot := 1, constantValue := 0 }, { name := "LARGEST_BUFFER_SIZE", type := .int, accessFlags := 24, slot := 2, constantValue := 0 }, { name := "MORE", type := .int, accessFlags := 26, slot := 3, constantValue := 0 }, { name := "NONE", type := .int, accessFlags := 26, slot := 4, constantValue := 0 }, { name := "RECORD", type := .int, accessFlags := 26, slot := 5, constantValue := 0 }, { name := "DAMAGED", type := .int, accessFlags := 26, slot := 6, constantValue := 0 }, { name := "HELD_FIELDS", type := .int, accessFlags := 26, slot := 7, constantValue := 0 }, { name := "NO_FAR_COLUMN", type := .int, accessFlags := 26, slot := 8, constantValue := 0 }, { name := "BETWEEN", type := .int, accessFlags := 26, slot := 9, constantValue := 0 }, { name := "IN_QUOTES", type := .int, accessFlags := 26, slot := 10, constantValue := 0 }, { name := "AFTER_QUOTES", type := .int, accessFlags := 26, slot := 11, constantValue := 0 }, { name := "UNQUOTED", type := .int, accessFlags := 26, slot := 12, constantValue := 0 }, { name := "QUOTED", type := .int, accessFlags := 26, slot := 13, constantValue := 0 }, { name := "DOUBLED_QUOTES", type := .int, accessFlags := 26, slot := 14, constantValue := 0 }, { name := "WIDE", type := .int, accessFlags := 26, slot := 15, constantValue := 0 }, { name := "UNTRIMMED", type := .int, accessFlags := 26, slot := 16, constantValue := 0 }, { name := "fileName", type := (.object "java/lang/String"), accessFlags := 18, slot := 0, constantValue := 0 }, { name := "in", type := (.object "java/io/InputStream"), accessFlags := 18, slot := 1, constantValue := 0 }, { name := "largestBufferSize", type := .int, accessFlags := 18, slot := 2, constantValue := 0 }, { name := "mostBuffered", type := .int, accessFlags := 18, slot := 3, constantValue := 0 }, { name := "texts", type := (.object "com/example/tallymark/tallymark/model/TextPool"), accessFlags := 18, slot := 4, constantValue := 0 }, { name := "problems", type := (.object "com/example/tallymark/tallymark/model/InputProblems"), accessFlags := 18, slot := 5, constantValue := 0 }, { name := "problemOfLine", type := (.object "java/util/function/Consumer"), accessFlags := 18, slot := 6, constantValue := 0 }, { name := "passedOverFields", type := (.object "com/example/tallymark/tallymark/model/EstateFileReader$PassedOver"), accessFlags := 2, slot := 7, constantValue := 0 }, { name := "hasPassedOver", type := .boolean, accessFlags := 2, slot := 8, constantValue := 0 }, { name := "header", type := (.object "com/example/tallymark/tallymark/model/Header"), accessFlags := 18, slot := 9, constantValue := 0 }, { name := "columns", type := .int, accessFlags := 18, slot := 10, constantValue := 0 }, { name := "farColumns", type := (.array .int), accessFlags := 2, slot := 11, constantValue := 0 }, { name := "names", type := (.array (.object "java/lang/String")), accessFlags := 2, slot := 12, constantValue := 0 }, { name := "linesAsked", type := .boolean, accessFlags := 2, slot := 13, constantValue := 0 }, { name := "ended", type := .boolean, accessFlags := 2, slot := 14, constantValue := 0 }, { name := "unreadable", type := .boolean, accessFlags := 2, slot := 15, constantValue := 0 }, { name := "usable", type := .boolean, accessFlags := 2, slot := 16, constantValue := 0 }, { name := "lineNumber", type := .long, accessFlags := 2, slot := 17, constantValue := 0 }, { name := "current", type := .boolean, accessFlags := 2, slot := 18, constantValue := 0 }, { name := "buffer", type := (.array .byte), accessFlags := 2, slot := 19, constantValue := 0 }, { name := "position", type := .int, accessFlags := 2, slot := 20, constantValue := 0 }, { name := "limit", type := .int, accessFlags := 2, slot := 21, constantValue := 0 }, { name := "endOfInput", type := .boolean, accessFlags := 2, slot := 22, constantValue := 0 }, { name := "linesRead", type := .long, accessFlags := 2, slot := 23, constantValue := 0 }, { name := "fieldsBefore", type := .long, accessFlags := 2, slot := 24, constantValue := 0 }, { name := "linesBefore", type := .long, accessFlags := 2, slot := 25, constantValue := 0 }, { name := "bytesBefore", type := .long, accessFlags := 2, slot := 26, constantValue := 0 }, { name := "scannedFields", type := .int, accessFlags := 2, slot := 27, constantValue := 0 }, { name := "scannedLines", type := .long, accessFlags := 2, slot := 28, constantValue := 0 }, { name := "scannedTo", type := .int, accessFlags := 2, slot := 29, constantValue := 0 }, { name := "scannedStop", type := .int, accessFlags := 2, slot := 30, constantValue := 0 }, { name := "scannedFieldLines", type := .long, accessFlags := 2, slot := 31, constantValue := 0 }, { name := "scannedQuoteEnd", type := .int, accessFlags := 2, slot := 32, constantValue := 0 }, { name := "fieldCount", type := .int, accessFlags := 2, slot := 33, constantValue := 0 }, { name := "heldFrom", type := .int, accessFlags := 2, slot := 34, constantValue := 0 }, { name := "starts", type := (.array .int), accessFlags := 2, slot := 35, constantValue := 0 }, { name := "ends", type := (.array .int), accessFlags := 2, slot := 36, constantValue := 0 }, { name := "flags", type := (.array .int), accessFlags := 2, slot := 37, constantValue := 0 }, { name := "values", type := (.array (.object "java/lang/String")), accessFlags := 2, slot := 38, constantValue := 0 }, { name := "numbers", type := (.array .int), accessFlags := 2, slot := 39, constantValue := 0 }, { name := "recent", type := (.array (.object "com/example/tallymark/tallymark/model/TextPool$Recent")), accessFlags := 2, slot := 40, constantValue := 0 }, { name := "recordFlags", type := .int, accessFlags := 2, slot := 41, constantValue := 0 }, { name := "nextHeldStart", type := .int, accessFlags := 2, slot := 42, constantValue := 0 }, { name := "farNoted", type := .int, accessFlags := 2, slot := 43, constantValue := 0 }, { name := "nextFar", type := .int, accessFlags := 2, slot := 44, constantValue := 0 }, { name := "notUtf8", type := .boolean, accessFlags := 2, slot := 45, constantValue := 0 }]
  methods := #[k5m0]
  instanceTypes := #[(.object "java/lang/String"), (.object "java/io/InputStream"), .int, .int, (.object "com/example/tallymark/tallymark/model/TextPool"), (.object "com/example/tallymark/tallymark/model/InputProblems"), (.object "java/util/function/Consumer"), (.object "com/example/tallymark/tallymark/model/EstateFileReader$PassedOver"), .boolean, (.object "com/example/tallymark/tallymark/model/Header"), .int, (.array .int), (.array (.object "java/lang/String")), .boolean, .boolean, .boolean, .boolean, .long, .boolean, (.array .byte), .int, .int, .boolean, .long, .long, .long, .long, .int, .long, .int, .int, .long, .int, .int, .int, (.array .int), (.array .int), (.array .int), (.array (.object "java/lang/String")), (.array .int), (.array (.object "com/example/tallymark/tallymark/model/TextPool$Recent")), .int, .int, .int, .int, .boolean]
  staticTypes := #[.int, .int, .int, .int, .int, .int, .int, .int, .int, .int, .int, .int, .int, .int, .int, .int, .int]
  resolved := Array.replicate 656 none
  statics := none }

def pool6 : Array CpInfo := pool [(1, u "java/lang/Cloneable"), (0, .class_ 1), (0, u "java/lang/Object"), (0, .class_ 3)] 3

/-- java/lang/Cloneable -/
def k6 : Class := { plain "java/lang/Cloneable" (some 0) with
  accessFlags := 1537
  interfaces := #[]
  cf := some (fileOf pool6 2 #[] #[] 1537 4 #[] #[])
  fields := #[]
  methods := #[]
  instanceTypes := #[]
  staticTypes := #[]
  resolved := Array.replicate 8 none
  statics := none }

def pool7 : Array CpInfo := pool [(1, u "java/io/Serializable"), (0, .class_ 1), (0, u "java/lang/Object"), (0, .class_ 3)] 3

/-- java/io/Serializable -/
def k7 : Class := { plain "java/io/Serializable" (some 0) with
  accessFlags := 1537
  interfaces := #[]
  cf := some (fileOf pool7 2 #[] #[] 1537 4 #[] #[])
  fields := #[]
  methods := #[]
  instanceTypes := #[]
  staticTypes := #[]
  resolved := Array.replicate 8 none
  statics := none }

/-- the primitive byte -/
def k8 : Class := { plain "byte" none with kind := .primitive 'B', accessFlags := 0x411 }
/-- [B -/
def k9 : Class := { plain "[B" (some 0) with kind := .array 8 .byte, interfaces := #[6, 7], accessFlags := 1041 }

/-- the primitive int -/
def k10 : Class := { plain "int" none with kind := .primitive 'I', accessFlags := 0x411 }
/-- [I -/
def k11 : Class := { plain "[I" (some 0) with kind := .array 10 .int, interfaces := #[6, 7], accessFlags := 1041 }

def heap : Heap := #[]
def classes : Array Class := #[k0, k1, k2, k3, k4, k5, k6, k7, k8, k9, k10, k11]
def interned : List (Array UInt16 × Addr) := []
def slotsUsed : Nat := 0
def theMethod : MethodId := ⟨1, 3⟩
def args0 : Array Value := #[.int 5, .int 30, .int 77, .int 7]
def aboutOver (below : List Frame) : State where
  vm := { classes := classes, interned := interned.toArray }
  heap := heap
  slotsUsed := slotsUsed
  threads := #[{ frames := .invoking theMethod args0 :: below }]
def below0 : List Frame := [.native { method := ⟨0, 0⟩, args := #[] }]
def about1 : State := aboutOver below0
def p0 : Program := .bare "" "" ""
def e0 : Env := launch0.env 0 0 0
theorem w_frames : about1.frames = Frame.invoking theMethod args0 :: below0 := rfl
set_option maxRecDepth 65536 in
theorem w_args : argsFit about1.vm theMethod args0 = true := by decide +kernel
set_option maxRecDepth 65536 in
theorem w_heap : heapFits about1 = true := by decide +kernel
set_option maxRecDepth 65536 in
theorem w_runnable : about1.curStatus? = some .runnable := by decide +kernel
set_option maxRecDepth 65536 in
theorem w_alone : about1.alone = true := by decide +kernel
set_option maxRecDepth 65536 in
theorem w_named : about1.methodNamed? x = some theMethod := by decide +kernel
set_option maxRecDepth 65536 in
theorem w_hears : about1.hears theMethod below0 = true := by decide +kernel
set_option maxRecDepth 65536 in
theorem w_ripe : about1.ripe theMethod args0 below0 = true := by decide +kernel
theorem w_running : about1.status = .running := rfl
set_option maxRecDepth 65536 in
theorem w_room : about1.hasRoom e0.platform room_1 = true :=
  launch0.hasRoom_least _ room_1 (by decide +kernel) (by decide +kernel) (by decide +kernel) (by decide +kernel) (by decide +kernel) (by decide +kernel)
theorem allAtoms_all (ts : List Jvm.Cond) (a : Array Jvm.Value) (st : Jvm.State) : (allAtoms ts).before a st = ts.all (fun c => c.before a st) := by
  induction ts with
  | nil => rfl
  | cons c t ih =>
    show (Jvm.Cond.and c (allAtoms t)).before a st = _
    rw [Jvm.Cond.before_and, ih, List.all_cons]
def words1 : List Jvm.Cond := Jvm.Cond.code x code maxLocals ret :: tables_1
/-- a 'code' word, met by the world's own term for the bytes: nothing is compared byte by byte -/
theorem code_word {y : MethodName} {bytes : ByteArray} {mx : Nat} {rt : Option FieldType} {a : Array Value} {s : State} {m : MethodId} {meth : Method} {c : Code} (h1 : s.methodNamed? y = some m) (h2 : s.vm.method? m = some meth) (h3 : meth.code = some c) (h4 : c.code = bytes)
    (h5 : (c.maxLocals == mx && c.exceptionTable.isEmpty && decide (c.maxStack ≤ mostOperands) && decide (meth.sig.returnType = rt) && !meth.locks && decide (parseMethodDescriptor y.desc = some meth.sig)) = true) : (Jvm.Cond.code y bytes mx rt).before a s = true := by
  simp only [Bool.and_eq_true, beq_iff_eq, Bool.not_eq_true', decide_eq_true_eq] at h5
  obtain ⟨⟨⟨⟨⟨g1, g2⟩, g3⟩, g4⟩, g5⟩, g6⟩ := h5
  simp [Cond.before, Cond.holds, Cond.value, h1, h2, h3, h4, g1, g2, g3, g4, g5, g6]
def isCode : Jvm.Cond → Bool
  | .code _ _ _ _ => true
  | _ => false
theorem all_split {L : List Jvm.Cond} {P : Jvm.Cond → Bool} (h1 : L.all (fun c => isCode c || P c) = true) (h2 : ∀ c ∈ L.filter isCode, P c = true) : L.all P = true := by
  refine List.all_eq_true.mpr fun c hc => ?_
  have h := List.all_eq_true.mp h1 c hc
  rcases Bool.eq_false_or_eq_true (isCode c) with hi | hi
  · exact h2 c (List.mem_filter.mpr ⟨hc, hi⟩)
  · simpa [hi] using h
set_option maxRecDepth 65536 in
theorem w_c0 : (Jvm.Cond.code x code maxLocals ret).before args0 about1 = true := code_word (m := ⟨1, 3⟩) (meth := k1m3) (c := k1c3) (by decide +kernel) rfl rfl rfl (by decide +kernel)
set_option maxRecDepth 65536 in
theorem w_c1 : (Jvm.Cond.code ({ cls := "com/example/tallymark/tallymark/model/EstateFileReaderIsUtf8PinLaw", name := "minLen", desc := "(I)I" } : Jvm.MethodName) method_2_code (1 : Nat) (Option.some Jvm.ClassFile.FieldType.int)).before args0 about1 = true := code_word (m := ⟨1, 1⟩) (meth := k1m1) (c := k1c1) (by decide +kernel) rfl rfl rfl (by decide +kernel)
set_option maxRecDepth 65536 in
theorem w_c2 : (Jvm.Cond.code ({ cls := "java/lang/Math", name := "max", desc := "(II)I" } : Jvm.MethodName) jdk_29_method_65_code (2 : Nat) (Option.some Jvm.ClassFile.FieldType.int)).before args0 about1 = true := code_word (m := ⟨2, 1⟩) (meth := k2m1) (c := k2c1) (by decide +kernel) rfl rfl rfl (by decide +kernel)
set_option maxRecDepth 65536 in
theorem w_c3 : (Jvm.Cond.code ({ cls := "com/example/tallymark/tallymark/model/EstateFileReaderIsUtf8PinLaw", name := "valid", desc := "(II)Z" } : Jvm.MethodName) method_3_code (2 : Nat) (Option.some Jvm.ClassFile.FieldType.boolean)).before args0 about1 = true := code_word (m := ⟨1, 2⟩) (meth := k1m2) (c := k1c2) (by decide +kernel) rfl rfl rfl (by decide +kernel)
set_option maxRecDepth 65536 in
theorem w_c4 : (Jvm.Cond.code ({ cls := "com/example/tallymark/tallymark/model/EstateFileReader", name := "isUtf8", desc := "([BII)Z" } : Jvm.MethodName) prog_72_method_42_code (10 : Nat) (Option.some Jvm.ClassFile.FieldType.boolean)).before args0 about1 = true := code_word (m := ⟨5, 0⟩) (meth := k5m0) (c := k5c0) (by decide +kernel) rfl rfl rfl (by decide +kernel)
def codes1 : List Jvm.Cond := [Jvm.Cond.code x code maxLocals ret, Jvm.Cond.code ({ cls := "com/example/tallymark/tallymark/model/EstateFileReaderIsUtf8PinLaw", name := "minLen", desc := "(I)I" } : Jvm.MethodName) method_2_code (1 : Nat) (Option.some Jvm.ClassFile.FieldType.int), Jvm.Cond.code ({ cls := "java/lang/Math", name := "max", desc := "(II)I" } : Jvm.MethodName) jdk_29_method_65_code (2 : Nat) (Option.some Jvm.ClassFile.FieldType.int), Jvm.Cond.code ({ cls := "com/example/tallymark/tallymark/model/EstateFileReaderIsUtf8PinLaw", name := "valid", desc := "(II)Z" } : Jvm.MethodName) method_3_code (2 : Nat) (Option.some Jvm.ClassFile.FieldType.boolean), Jvm.Cond.code ({ cls := "com/example/tallymark/tallymark/model/EstateFileReader", name := "isUtf8", desc := "([BII)Z" } : Jvm.MethodName) prog_72_method_42_code (10 : Nat) (Option.some Jvm.ClassFile.FieldType.boolean)]
set_option maxRecDepth 65536 in
theorem codes_eq : words1.filter isCode = codes1 := rfl
theorem w_codes : ∀ c ∈ words1.filter isCode, c.before args0 about1 = true := by
  rw [codes_eq]
  intro c hc
  simp only [codes1, List.mem_cons, List.not_mem_nil, or_false] at hc
  rcases hc with rfl | rfl | rfl | rfl | rfl
  · exact w_c0
  · exact w_c1
  · exact w_c2
  · exact w_c3
  · exact w_c4
set_option maxRecDepth 65536 in
theorem w_t1 : words1.all (fun c => isCode c || c.before args0 about1) = true := by decide +kernel
theorem w_tables : (allAtoms (Jvm.Cond.code x code maxLocals ret :: tables_1)).before args0 about1 = true := by
  rw [allAtoms_all]
  show words1.all (fun c => c.before args0 about1) = true
  refine all_split ?_ w_codes
  rw [w_t1]
set_option maxRecDepth 65536 in
theorem w_case : (Jvm.Cond.and given_1 narrow_1).before args0 about1 = true := by decide +kernel
theorem w_applies : (headSpec (Jvm.Cond.code x code maxLocals ret :: tables_1) room_1).applies x e0.platform about1 = true :=
  (Spec.applies_iff w_frames).mpr ⟨w_running, w_runnable, w_alone, w_named, w_hears, w_ripe, w_room, w_tables⟩
theorem atStart : AtStart classFile x code maxLocals ret World_1 tables_1 room_1 Calls_1 rest_1 Pre_1 launch0 p0 e0 about1 theMethod args0 below0 :=
  ⟨lists_1, trivial, launch0.admits_env _ _ _, launch0.least_env, fairChoices_fair.cas, fairChoices_fair.clock, w_frames, w_args, w_heap, w_applies, trivial, trivial, w_case⟩
end start1
theorem witness_1 : WitnessClaimed_1 := ⟨start1.p0, start1.e0, start1.about1, start1.theMethod, start1.args0, start1.below0, start1.atStart⟩
end Jvm.Pilot.@@N@@
