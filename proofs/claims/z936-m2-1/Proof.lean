import JvmDerived
import JvmDerived.Pilot.@@N@@Statement
import JvmDerived.Pilot.@@N@@Code
set_option linter.unusedVariables false
set_option linter.unusedSimpArgs false
namespace Jvm.Pilot.@@N@@
open Jvm Jvm.ClassFile Sem Op Lib Jvm.Free Jvm.Stand Jvm.LawKit Jvm.RoadKit Bundle Jvm.Pilot.@@N@@.Jvm.D
section OwnGo
variable {p : Program} {l : Launch} {e : Env} {R : Room} {s : State} {m : MethodId} {args : Array Value} {below : List Frame} {meth : Method} {c : Code} {T T' : State} {locs : List Loc} {cells slots : Nat} {f f' : JFrame} {P : Outcome → State → Prop}
/-- what is left of a body's run: from the state T with the frame f on top it ends, and P holds of the end -/
def own_Go (p : Program) (e : Env) (below : List Frame) (T : State) (f : JFrame) (P : Outcome → State → Prop) : Prop :=
  ∃ s₂ o, Steps p.tables e below (T.setTop f) s₂ ∧ s₂.status = .running ∧ Ended s₂ below o ∧ P o s₂
theorem own_step (h : ∀ t, Steps p.tables e below (T'.setTop f') t → Steps p.tables e below (T.setTop f) t) (k : own_Go p e below T' f' P) : own_Go p e below T f P := by
  obtain ⟨s₂, o, a, b, c, d⟩ := k
  exact ⟨s₂, o, h _ a, b, c, d⟩
theorem own_Go.cast (q : f = f') (k : own_Go p e below T f' P) : own_Go p e below T f P := q ▸ k
theorem own_done (X : Stand p l e R s m args below meth c T locs cells slots) {v : Option Value} {Q : Option Value → Heap → List Loc → Prop} {C S : Nat} (hlk : meth.locks = false) (hv : meth.sig.returnType = none → v = none)
    (hs : ∀ fs, (∀ (f : JFrame) (acts : List Action), f.method = m → f.locked = none → f.entered = [] → (doReturn e (T.setTop f) acts v).1 = T.setFrames fs) → Steps p.tables e below (T.setTop f) (T.setFrames fs))
    (hC : cells ≤ C) (hS : slots ≤ S) (hQ : Q v T.heap locs) : own_Go p e below T f (fun o U' => ∃ v L, o = .returned v ∧ Q v U'.heap L ∧ FrameEnd s o U' L C S) := by
  obtain ⟨fs, hr, hrun, hended, hW, hsame⟩ := X.leave (v := v) hv hlk
  exact ⟨_, _, hs fs hr, hrun, hended, _, _, rfl, hQ, ⟨_, rfl⟩, hW, hsame.mono hC hS⟩
theorem own_retZ (X : Stand p l e R s m args below meth c T locs cells slots) (hx : p.tables.exec = Jvm.exec) {pc : Nat} {Ls : Array Slot} {z : Int32} {rest : List Value} {Q : Option Value → Heap → List Loc → Prop} {C S : Nat}
    (hret : meth.sig.returnType = some .boolean) (hlk : meth.locks = false) (hd : decode c.code pc = .ok (.ireturn, 1)) (hC : cells ≤ C) (hS : slots ≤ S) (hQ : Q (some (.int (nar .boolean z))) T.heap locs) :
    own_Go p e below T (mkF m pc Ls (.int z :: rest)) (fun o U' => ∃ v L, o = .returned v ∧ Q v U'.heap L ∧ FrameEnd s o U' L C S) :=
  own_done X hlk (fun h => by rw [hret] at h; cases h) (fun fs hr => retN X hx (t := .boolean) hret (by simp) hd hr) hC hS hQ
theorem own_retI (X : Stand p l e R s m args below meth c T locs cells slots) (hx : p.tables.exec = Jvm.exec) {pc : Nat} {Ls : Array Slot} {z : Int32} {rest : List Value} {Q : Option Value → Heap → List Loc → Prop} {C S : Nat}
    (hret : meth.sig.returnType = some .int) (hlk : meth.locks = false) (hd : decode c.code pc = .ok (.ireturn, 1)) (hC : cells ≤ C) (hS : slots ≤ S) (hQ : Q (some (.int z)) T.heap locs) :
    own_Go p e below T (mkF m pc Ls (.int z :: rest)) (fun o U' => ∃ v L, o = .returned v ∧ Q v U'.heap L ∧ FrameEnd s o U' L C S) :=
  own_done X hlk (fun h => by rw [hret] at h; cases h) (fun fs hr => retOut X hx hret rfl (Or.inl ⟨rfl, Or.inl rfl, _, rfl⟩) hd hr) hC hS hQ
theorem own_retJ (X : Stand p l e R s m args below meth c T locs cells slots) (hx : p.tables.exec = Jvm.exec) {pc : Nat} {Ls : Array Slot} {z : Int64} {rest : List Value} {Q : Option Value → Heap → List Loc → Prop} {C S : Nat}
    (hret : meth.sig.returnType = some .long) (hlk : meth.locks = false) (hd : decode c.code pc = .ok (.lreturn, 1)) (hC : cells ≤ C) (hS : slots ≤ S) (hQ : Q (some (.long z)) T.heap locs) :
    own_Go p e below T (mkF m pc Ls (.long z :: rest)) (fun o U' => ∃ v L, o = .returned v ∧ Q v U'.heap L ∧ FrameEnd s o U' L C S) :=
  own_done X hlk (fun h => by rw [hret] at h; cases h) (fun fs hr => retOut X hx hret rfl (Or.inr (Or.inl ⟨rfl, rfl, _, rfl⟩)) hd hr) hC hS hQ
theorem own_retA (X : Stand p l e R s m args below meth c T locs cells slots) (hx : p.tables.exec = Jvm.exec) {pc : Nat} {Ls : Array Slot} {a : Addr} {ty : FieldType} {rest : List Value} {Q : Option Value → Heap → List Loc → Prop} {C S : Nat}
    (hret : meth.sig.returnType = some (.array ty)) (hlk : meth.locks = false) (hd : decode c.code pc = .ok (.areturn, 1)) (hC : cells ≤ C) (hS : slots ≤ S) (hQ : Q (some (.ref a)) T.heap locs) :
    own_Go p e below T (mkF m pc Ls (.ref a :: rest)) (fun o U' => ∃ v L, o = .returned v ∧ Q v U'.heap L ∧ FrameEnd s o U' L C S) :=
  own_done X hlk (fun h => by rw [hret] at h; cases h) (fun fs hr => retOut X hx hret rfl (Or.inr (Or.inr (Or.inr (Or.inr ⟨rfl, rfl, rfl⟩)))) hd hr) hC hS hQ
theorem own_retV (X : Stand p l e R s m args below meth c T locs cells slots) (hx : p.tables.exec = Jvm.exec) {pc : Nat} {Ls : Array Slot} {Q : Option Value → Heap → List Loc → Prop} {C S : Nat}
    (hret : meth.sig.returnType = none) (hlk : meth.locks = false) (hd : decode c.code pc = .ok (.return_, 1)) (hC : cells ≤ C) (hS : slots ≤ S) (hQ : Q none T.heap locs) :
    own_Go p e below T (mkF m pc Ls []) (fun o U' => ∃ v L, o = .returned v ∧ Q v U'.heap L ∧ FrameEnd s o U' L C S) :=
  own_done X hlk (fun _ => rfl) (fun fs hr => X.returnOut hx hret hd hr) hC hS hQ
end OwnGo
/-- what the law leaves -/
def own_QL (n0 : Nat) (v : Option Value) (h : Heap) (L : List Loc) : Prop := v = some (.int 1) ∧ Fr n0 L
section OwnArr
variable {p : Program} {l : Launch} {e : Env} {R : Room} {s : State} {m : MethodId} {args : Array Value} {below : List Frame} {meth : Method} {c : Code} {T : State} {locs : List Loc} {cells slots : Nat} {Z : State} {h h' : Heap} {a b : Addr} {ty : FieldType} {n i sl : Nat} {f : Nat → Value} {v w : Value} {ws : List Addr} {j x z : Int32}
def own_upd (f : Nat → Value) (i : Nat) (v : Value) : Nat → Value := fun k => if k = i then v else f k
theorem own_upd_hit (f : Nat → Value) (i : Nat) (v : Value) : own_upd f i v i = v := if_pos rfl
theorem own_upd_miss (f : Nat → Value) {i k : Nat} (v : Value) (q : k ≠ i) : own_upd f i v k = f k := if_neg q
/-- an array of n places, place i holding f i -/
def own_A (Z : State) (h : Heap) (a : Addr) (ty : FieldType) (n : Nat) (f : Nat → Value) : Prop := ∃ c : Cell, Arr Z h a c ty ∧ c.slots.size = n ∧ ∀ i, i < n → c.slots[i]? = some (f i)
theorem own_A.lt (F : own_A Z h a ty n f) : a < h.size := by obtain ⟨c, A, -⟩ := F; exact A.lt
theorem own_A.ext (F : own_A Z h a ty n f) (E : Ext h h') : own_A Z h' a ty n f := by obtain ⟨c, A, r⟩ := F; exact ⟨c, A.ext E, r⟩
theorem own_A.other (F : own_A Z h b ty n f) (W : Wr h h' a sl v) (q : b ≠ a) : own_A Z h' b ty n f := by obtain ⟨c, A, r⟩ := F; exact ⟨c, A.other W q, r⟩
theorem own_A.keep (F : own_A Z h a ty n f) (K : Keep h h' ws) (q : a ∉ ws) : own_A Z h' a ty n f := by obtain ⟨c, A, r⟩ := F; exact ⟨c, ⟨K.2.1 a c A.1 q, A.2⟩, r⟩
theorem own_A.new {k : ClassId} {z : Int32} (A : Arr Z h a (newA k ty z) ty) (q : z.toNatClampNeg = n) : own_A Z h a ty n (fun _ => defaultValue ty) := ⟨_, A, by rw [sz_new]; exact q, fun i hi => by
  have hi' : i < z.toNatClampNeg := by rw [q]; exact hi
  simp [newA, hi']⟩
theorem own_A.put (F : own_A Z h a ty n f) (W : Wr h h' a i v) (hi : i < n) : own_A Z h' a ty n (own_upd f i v) := by
  obtain ⟨c, A, S, H⟩ := F
  refine ⟨_, A.same W, by rw [sz_set]; exact S, fun k hk => ?_⟩
  by_cases u : k = i
  · subst u; rw [own_upd_hit]; simp [Cell.setSlot, S, hi]
  · rw [own_upd_miss _ _ u, ← H k hk]; simp only [Cell.setSlot]; exact Array.getElem?_setIfInBounds_ne (Ne.symm u)
theorem own_A.cong {g : Nat → Value} (F : own_A Z h a ty n f) (q : ∀ i, i < n → f i = g i) : own_A Z h a ty n g := by
  obtain ⟨c, A, S, H⟩ := F; exact ⟨c, A, S, fun i hi => by rw [H i hi, q i hi]⟩
def own_at (j : Int32) (i : Nat) : Prop := ¬ j < 0 ∧ j.toNatClampNeg = i
theorem own_at_lit (q : j.toNatClampNeg = i) (r : ¬ j < 0) : own_at j i := ⟨r, q⟩
theorem own_at_int (q : j.toInt = (i : Int)) : own_at j i := by
  refine ⟨?_, ?_⟩
  · rw [Int32.lt_iff_toInt_lt, q, show (0 : Int32).toInt = 0 from rfl]; omega
  · simp only [Int32.toNatClampNeg, q]; rfl
theorem own_in {c : Cell} (hj : own_at j i) (S : c.slots.size = n) (hi : i < n) : ¬ (j < 0 ∨ c.slots.size ≤ j.toNatClampNeg) := by
  rintro (q | q)
  · exact hj.1 q
  · rw [hj.2, S] at q; omega
theorem own_ldI (X : Stand p l e R s m args below meth c T locs cells slots) (hx : p.tables.exec = Jvm.exec) (hZ : Z.Warmed39 s.vm) (eT : T.heap = h) (A : own_A Z h a .int n f) (hj : own_at j i) (hi : i < n) {v : Int32} (hv : f i = .int v) {g : JFrame} (hg : g.method = m) {rest : List Value} (hs : g.stack = .int j :: .ref a :: rest) (hd : decode c.code g.pc = .ok (.iaload, 1)) :
    ∀ target, Steps p.tables e below (T.setTop { g with pc := g.pc + 1, stack := .int v :: rest }) target → Steps p.tables e below (T.setTop g) target := by
  obtain ⟨cl, Ar, S, H⟩ := A
  exact X.iaload hx (j := j) (v := .int v) (by rw [eT]; exact Ar.1) (State.isArrayOf_alike hZ.alike Ar.2.1) Ar.2.2 (own_in hj S hi) (by rw [hj.2, H i hi, hv]) (g := g) hg hs hd
theorem own_ldJ (X : Stand p l e R s m args below meth c T locs cells slots) (hx : p.tables.exec = Jvm.exec) (hZ : Z.Warmed39 s.vm) (eT : T.heap = h) (A : own_A Z h a .long n f) (hj : own_at j i) (hi : i < n) {v : Int64} (hv : f i = .long v) {g : JFrame} (hg : g.method = m) {rest : List Value} (hs : g.stack = .int j :: .ref a :: rest) (hd : decode c.code g.pc = .ok (.laload, 1)) :
    ∀ target, Steps p.tables e below (T.setTop { g with pc := g.pc + 1, stack := .long v :: rest }) target → Steps p.tables e below (T.setTop g) target := by
  obtain ⟨cl, Ar, S, H⟩ := A
  exact X.laload hx (j := j) (v := .long v) (by rw [eT]; exact Ar.1) (State.isArrayOf_alike hZ.alike Ar.2.1) Ar.2.2 (own_in hj S hi) (by rw [hj.2, H i hi, hv]) (g := g) hg hs hd
theorem own_ldB (X : Stand p l e R s m args below meth c T locs cells slots) (hx : p.tables.exec = Jvm.exec) (hZ : Z.Warmed39 s.vm) (eT : T.heap = h) (A : own_A Z h a .byte n f) (hj : own_at j i) (hi : i < n) {v : Int32} (hv : f i = .int v) {g : JFrame} (hg : g.method = m) {rest : List Value} (hs : g.stack = .int j :: .ref a :: rest) (hd : decode c.code g.pc = .ok (.baload, 1)) :
    ∀ target, Steps p.tables e below (T.setTop { g with pc := g.pc + 1, stack := .int v :: rest }) target → Steps p.tables e below (T.setTop g) target := by
  obtain ⟨cl, Ar, S, H⟩ := A
  exact X.baloadBytes hx (j := j) (v := .int v) (by rw [eT]; exact Ar.1) (State.isArrayOf_alike hZ.alike Ar.2.1) Ar.2.2 (own_in hj S hi) (by rw [hj.2, H i hi, hv]) (g := g) hg hs hd
theorem own_alen (X : Stand p l e R s m args below meth c T locs cells slots) (hx : p.tables.exec = Jvm.exec) (hZ : Z.Warmed39 s.vm) (eT : T.heap = h) (A : own_A Z h a ty n f) (hz : n.toInt32 = z) {g : JFrame} (hg : g.method = m) {rest : List Value} (hs : g.stack = .ref a :: rest) (hd : decode c.code g.pc = .ok (.arraylength, 1)) :
    ∀ target, Steps p.tables e below (T.setTop { g with pc := g.pc + 1, stack := .int z :: rest }) target → Steps p.tables e below (T.setTop g) target := by
  obtain ⟨cl, Ar, S, H⟩ := A
  subst hz
  rw [← S]
  exact X.arraylength hx (by rw [eT]; exact Ar.1) (State.isArrayOf_alike hZ.alike Ar.2.1) (g := g) hg hs hd
theorem own_stI (X : Stand p l e R s m args below meth c T locs cells slots) (hx : p.tables.exec = Jvm.exec) (hZ : Z.Warmed39 s.vm) (eT : T.heap = h) (A : own_A Z h a .int n f) (hj : own_at j i) (hi : i < n) {g : JFrame} (hg : g.method = m) {rest : List Value} (hs : g.stack = .int x :: .int j :: .ref a :: rest) (hd : decode c.code g.pc = .ok (.iastore, 1)) :
    ∃ T' h', Stand p l e R s m args below meth c T' (locs ++ [⟨a, i⟩]) cells slots ∧ T'.heap = h' ∧ Wr h h' a i (.int x) ∧ own_A Z h' a .int n (own_upd f i (.int x)) ∧ ∀ target, Steps p.tables e below (T'.setTop { g with pc := g.pc + 1, stack := rest }) target → Steps p.tables e below (T.setTop g) target := by
  obtain ⟨cl, Ar, S, H⟩ := A
  obtain ⟨T', h', X', e', W, st⟩ := stI X hx hZ eT Ar (j := j) (own_in hj S hi) hg hs hd
  rw [hj.2] at X' W
  exact ⟨T', h', X', e', W, own_A.put ⟨cl, Ar, S, H⟩ W hi, st⟩
theorem own_stJ {x : Int64} (X : Stand p l e R s m args below meth c T locs cells slots) (hx : p.tables.exec = Jvm.exec) (hZ : Z.Warmed39 s.vm) (eT : T.heap = h) (A : own_A Z h a .long n f) (hj : own_at j i) (hi : i < n) {g : JFrame} (hg : g.method = m) {rest : List Value} (hs : g.stack = .long x :: .int j :: .ref a :: rest) (hd : decode c.code g.pc = .ok (.lastore, 1)) :
    ∃ T' h', Stand p l e R s m args below meth c T' (locs ++ [⟨a, i⟩]) cells slots ∧ T'.heap = h' ∧ Wr h h' a i (.long x) ∧ own_A Z h' a .long n (own_upd f i (.long x)) ∧ ∀ target, Steps p.tables e below (T'.setTop { g with pc := g.pc + 1, stack := rest }) target → Steps p.tables e below (T.setTop g) target := by
  obtain ⟨cl, Ar, S, H⟩ := A
  obtain ⟨T', h', X', e', W, st⟩ := stJ X hx hZ eT Ar (j := j) (own_in hj S hi) hg hs hd
  rw [hj.2] at X' W
  exact ⟨T', h', X', e', W, own_A.put ⟨cl, Ar, S, H⟩ W hi, st⟩
theorem own_stB (X : Stand p l e R s m args below meth c T locs cells slots) (hx : p.tables.exec = Jvm.exec) (hZ : Z.Warmed39 s.vm) (eT : T.heap = h) (A : own_A Z h a .byte n f) (hj : own_at j i) (hi : i < n) {g : JFrame} (hg : g.method = m) {rest : List Value} (hs : g.stack = .int x :: .int j :: .ref a :: rest) (hd : decode c.code g.pc = .ok (.bastore, 1)) :
    ∃ T' h', Stand p l e R s m args below meth c T' (locs ++ [⟨a, i⟩]) cells slots ∧ T'.heap = h' ∧ Wr h h' a i (.int (nar .byte x)) ∧ own_A Z h' a .byte n (own_upd f i (.int (nar .byte x))) ∧ ∀ target, Steps p.tables e below (T'.setTop { g with pc := g.pc + 1, stack := rest }) target → Steps p.tables e below (T.setTop g) target := by
  obtain ⟨cl, Ar, S, H⟩ := A
  obtain ⟨T', h', X', e', W, st⟩ := stB X hx hZ eT Ar (j := j) (own_in hj S hi) hg hs hd
  rw [hj.2] at X' W
  exact ⟨T', h', X', e', W, own_A.put ⟨cl, Ar, S, H⟩ W hi, st⟩
/-- a private method is selected by itself -/
theorem own_selp {a0 args' : Array Value} {y : MethodName} {kk : Nat} (hZ : Z.Warmed39 s.vm) (wp : (Cond.privateMethod y).before a0 Z = true) (wi : (Cond.instanceMethod y).before a0 Z = true) (wk : (Cond.instantiable y.cls kk).before a0 Z = true) (hy : y.cls ≠ "java/lang/invoke/MethodHandle" ∧ y.cls ≠ "java/lang/invoke/VarHandle") : (Cond.selects y.cls y y).before args' s = true := by
  obtain ⟨c2, k2, i1, i2, i3, i4, -⟩ := Cond.instantiable_spec (mvT hZ wk (args := args'))
  have hni : k2.isInterface = false := by simp only [Bool.or_eq_false_iff] at i4; exact i4.1
  exact Stand.selects_self_of_private i1 i2 hni (Cond.privateMethod_at (mvP hZ wp (args := args'))) (mvT hZ wi) hy
end OwnArr
def own_f2 (q1 : Int64) : Int64 := (q1 &&& (255 : Int64))
theorem d2_0 : decode prog_96_method_18_code 0 = .ok (.lload_n 0, 1) := by decide +kernel
theorem d2_1 : decode prog_96_method_18_code 1 = .ok (.ldc2_w 149, 3) := by decide +kernel
theorem d2_4 : decode prog_96_method_18_code 4 = .ok (.land, 1) := by decide +kernel
theorem d2_5 : decode prog_96_method_18_code 5 = .ok (.lreturn, 1) := by decide +kernel
theorem own_pn0 : plainName "com/example/bridgehead/bridgehead/ValueLayout" = true := by first | (simp [plainName, overriddenIn]; done) | decide +kernel
theorem own_ef_own_rm2 (m : MethodId) (x0 : Int64) : entryFrame m #[(.long x0)] 2 = mkF m 0 #[.val (.long x0), .second] [] := by first | (simp [entryFrame, mkF, argsToLocals, Value.category]; done) | rfl
def own_Q_rm2 (Z : State) (q1 : Int64) (h0 : Heap) (n0 : Nat) (v : Option Value) (h : Heap) (L : List Loc) : Prop := v = some (.long (own_f2 q1)) ∧ Fr n0 L ∧ h = h0
set_option maxRecDepth 65536 in
set_option maxHeartbeats 40000000 in
theorem own_rm2 (l : Launch) (Z : State) (a0 : Array Value) (hw : ∀ d ∈ tables_1, d.before a0 Z = true) (q1 : Int64) (h0 : Heap) (n0 : Nat) :
    MetFree l (⟨"com/example/bridgehead/bridgehead/ValueLayout", "sizeOf", "(J)J"⟩ : MethodName) (head1 [Jvm.Cond.code (⟨"com/example/bridgehead/bridgehead/ValueLayout", "sizeOf", "(J)J"⟩ : MethodName) prog_96_method_18_code 2 (some .long)] ({ frames := 0, cells := 0, slots := 0, locals := 0 } : Room)) (fun a U => a = #[(.long q1)] ∧ Z.Warmed39 U.vm ∧ U.heap = h0) (fun _ _ _ _ _ => True) (fun _ U o U' => ∃ v L, o = .returned v ∧ own_Q_rm2 Z q1 h0 n0 v U'.heap L ∧ FrameEnd U o U' L ({ frames := 0, cells := 0, slots := 0, locals := 0 } : Room).cells ({ frames := 0, cells := 0, slots := 0, locals := 0 } : Room).slots) := by
  refine MetFree.of_bodySF (plainFor_of_name own_pn0) hisR ?_
  intro p e s m args below meth c s₁ Bd hml0 hP hK
  obtain ⟨rfl, hZ, hh⟩ := hP
  have hx := Bd.exec
  have hby := Bd.bytes
  have hret := Bd.returns
  have hlk := Bd.notSynchronized
  have hml : c.maxLocals = 2 := hml0
  have hown : s.vm.findClass "com/example/bridgehead/bridgehead/ValueLayout" = some m.cls := findClass_of_methodNamed Bd.named
  have hnm := (name_of_methodNamed Bd.named Bd.method).1
  have X0 : Stand p l e ({ frames := 0, cells := 0, slots := 0, locals := 0 } : Room) s m #[(.long q1)] below meth c s₁ [] 0 0 := Stand.of_body Bd
  have e0 : s₁.heap = h0 := by rw [← hh, Bd.state]; rfl
  have N0 := Fr.nil n0
  refine own_Go.cast (own_ef_own_rm2 m q1) ?_
  refine own_step (T' := s₁) (f' := (mkF m 5 #[.val (.long q1), .second] [(.long (q1 &&& (255 : Int64)))])) (fun t k => ?_) ?_
  · show Steps p.tables e below (s₁.setTop (mkF m 0 #[.val (.long q1), .second] [])) _
    refine XS.lloadN X0.here hx rfl (hb hby d2_0) rfl ?_
    show Steps p.tables e below (s₁.setTop (mkF m 1 #[.val (.long q1), .second] [(.long q1)])) _
    refine X0.ldc2Long hx hown (mvT hZ (hw _ (List.mem_of_getElem? (i := 9) rfl))) (g := (mkF m 1 #[.val (.long q1), .second] [(.long q1)])) rfl (hb hby d2_1) _ ?_
    show Steps p.tables e below (s₁.setTop (mkF m 4 #[.val (.long q1), .second] [(.long (255 : Int64)), (.long q1)])) _
    refine XS.land X0.here hx rfl (hb hby d2_4) rfl ?_
    exact k
  exact own_retJ X0 hx hret hlk (hb hby d2_5) (by decide) (by decide) ⟨(congrArg (fun z => some (Value.long z)) (show (q1 &&& (255 : Int64)) = own_f2 q1 from (by rw [own_f2]))), N0, e0⟩
def own_f1 (q1 : Int64) (q2 : Int64) : Int32 := (if (own_f2 q1) = (4 : Int64) then (if (((((q2.toUInt64 >>> ((2 : Int32) &&& 0x3f).toInt64.toUInt64).toInt64).toInt32).toInt64) <<< ((2 : Int32) &&& 0x3f).toInt64) = q2 then (((q2.toUInt64 >>> ((2 : Int32) &&& 0x3f).toInt64.toUInt64).toInt64).toInt32) else (-1 : Int32)) else (if (own_f2 q1) = (8 : Int64) then (if (((((q2.toUInt64 >>> ((3 : Int32) &&& 0x3f).toInt64.toUInt64).toInt64).toInt32).toInt64) <<< ((3 : Int32) &&& 0x3f).toInt64) = q2 then (((q2.toUInt64 >>> ((3 : Int32) &&& 0x3f).toInt64.toUInt64).toInt64).toInt32) else (-1 : Int32)) else (if (own_f2 q1) = (2 : Int64) then (if (((((q2.toUInt64 >>> ((1 : Int32) &&& 0x3f).toInt64.toUInt64).toInt64).toInt32).toInt64) <<< ((1 : Int32) &&& 0x3f).toInt64) = q2 then (((q2.toUInt64 >>> ((1 : Int32) &&& 0x3f).toInt64.toUInt64).toInt64).toInt32) else (-1 : Int32)) else (if ((q2.toInt32).toInt64) = q2 then (q2.toInt32) else (-1 : Int32)))))
theorem d1_0 : decode prog_96_method_21_code 0 = .ok (.lload_n 0, 1) := by decide +kernel
theorem d1_1 : decode prog_96_method_21_code 1 = .ok (.invokestatic 163, 3) := by decide +kernel
theorem d1_4 : decode prog_96_method_21_code 4 = .ok (.lstore 4, 2) := by decide +kernel
theorem d1_6 : decode prog_96_method_21_code 6 = .ok (.lload 4, 2) := by decide +kernel
theorem d1_8 : decode prog_96_method_21_code 8 = .ok (.ldc2_w 168, 3) := by decide +kernel
theorem d1_11 : decode prog_96_method_21_code 11 = .ok (.lcmp, 1) := by decide +kernel
theorem d1_12 : decode prog_96_method_21_code 12 = .ok (.ifCond .ne 19, 3) := by decide +kernel
theorem d1_15 : decode prog_96_method_21_code 15 = .ok (.lload_n 2, 1) := by decide +kernel
theorem d1_16 : decode prog_96_method_21_code 16 = .ok (.iconst 2, 1) := by decide +kernel
theorem d1_17 : decode prog_96_method_21_code 17 = .ok (.lushr, 1) := by decide +kernel
theorem d1_18 : decode prog_96_method_21_code 18 = .ok (.l2i, 1) := by decide +kernel
theorem d1_19 : decode prog_96_method_21_code 19 = .ok (.istore 6, 2) := by decide +kernel
theorem d1_21 : decode prog_96_method_21_code 21 = .ok (.iload 6, 2) := by decide +kernel
theorem d1_23 : decode prog_96_method_21_code 23 = .ok (.i2l, 1) := by decide +kernel
theorem d1_24 : decode prog_96_method_21_code 24 = .ok (.iconst 2, 1) := by decide +kernel
theorem d1_25 : decode prog_96_method_21_code 25 = .ok (.lshl, 1) := by decide +kernel
theorem d1_26 : decode prog_96_method_21_code 26 = .ok (.lstore 7, 2) := by decide +kernel
theorem d1_28 : decode prog_96_method_21_code 28 = .ok (.goto 62, 3) := by decide +kernel
theorem d1_31 : decode prog_96_method_21_code 31 = .ok (.lload 4, 2) := by decide +kernel
theorem d1_33 : decode prog_96_method_21_code 33 = .ok (.ldc2_w 161, 3) := by decide +kernel
theorem d1_36 : decode prog_96_method_21_code 36 = .ok (.lcmp, 1) := by decide +kernel
theorem d1_37 : decode prog_96_method_21_code 37 = .ok (.ifCond .ne 19, 3) := by decide +kernel
theorem d1_40 : decode prog_96_method_21_code 40 = .ok (.lload_n 2, 1) := by decide +kernel
theorem d1_41 : decode prog_96_method_21_code 41 = .ok (.iconst 3, 1) := by decide +kernel
theorem d1_42 : decode prog_96_method_21_code 42 = .ok (.lushr, 1) := by decide +kernel
theorem d1_43 : decode prog_96_method_21_code 43 = .ok (.l2i, 1) := by decide +kernel
theorem d1_44 : decode prog_96_method_21_code 44 = .ok (.istore 6, 2) := by decide +kernel
theorem d1_46 : decode prog_96_method_21_code 46 = .ok (.iload 6, 2) := by decide +kernel
theorem d1_48 : decode prog_96_method_21_code 48 = .ok (.i2l, 1) := by decide +kernel
theorem d1_49 : decode prog_96_method_21_code 49 = .ok (.iconst 3, 1) := by decide +kernel
theorem d1_50 : decode prog_96_method_21_code 50 = .ok (.lshl, 1) := by decide +kernel
theorem d1_51 : decode prog_96_method_21_code 51 = .ok (.lstore 7, 2) := by decide +kernel
theorem d1_53 : decode prog_96_method_21_code 53 = .ok (.goto 37, 3) := by decide +kernel
theorem d1_56 : decode prog_96_method_21_code 56 = .ok (.lload 4, 2) := by decide +kernel
theorem d1_58 : decode prog_96_method_21_code 58 = .ok (.ldc2_w 172, 3) := by decide +kernel
theorem d1_61 : decode prog_96_method_21_code 61 = .ok (.lcmp, 1) := by decide +kernel
theorem d1_62 : decode prog_96_method_21_code 62 = .ok (.ifCond .ne 19, 3) := by decide +kernel
theorem d1_65 : decode prog_96_method_21_code 65 = .ok (.lload_n 2, 1) := by decide +kernel
theorem d1_66 : decode prog_96_method_21_code 66 = .ok (.iconst 1, 1) := by decide +kernel
theorem d1_67 : decode prog_96_method_21_code 67 = .ok (.lushr, 1) := by decide +kernel
theorem d1_68 : decode prog_96_method_21_code 68 = .ok (.l2i, 1) := by decide +kernel
theorem d1_69 : decode prog_96_method_21_code 69 = .ok (.istore 6, 2) := by decide +kernel
theorem d1_71 : decode prog_96_method_21_code 71 = .ok (.iload 6, 2) := by decide +kernel
theorem d1_73 : decode prog_96_method_21_code 73 = .ok (.i2l, 1) := by decide +kernel
theorem d1_74 : decode prog_96_method_21_code 74 = .ok (.iconst 1, 1) := by decide +kernel
theorem d1_75 : decode prog_96_method_21_code 75 = .ok (.lshl, 1) := by decide +kernel
theorem d1_76 : decode prog_96_method_21_code 76 = .ok (.lstore 7, 2) := by decide +kernel
theorem d1_78 : decode prog_96_method_21_code 78 = .ok (.goto 12, 3) := by decide +kernel
theorem d1_81 : decode prog_96_method_21_code 81 = .ok (.lload_n 2, 1) := by decide +kernel
theorem d1_82 : decode prog_96_method_21_code 82 = .ok (.l2i, 1) := by decide +kernel
theorem d1_83 : decode prog_96_method_21_code 83 = .ok (.istore 6, 2) := by decide +kernel
theorem d1_85 : decode prog_96_method_21_code 85 = .ok (.iload 6, 2) := by decide +kernel
theorem d1_87 : decode prog_96_method_21_code 87 = .ok (.i2l, 1) := by decide +kernel
theorem d1_88 : decode prog_96_method_21_code 88 = .ok (.lstore 7, 2) := by decide +kernel
theorem d1_90 : decode prog_96_method_21_code 90 = .ok (.lload 7, 2) := by decide +kernel
theorem d1_92 : decode prog_96_method_21_code 92 = .ok (.lload_n 2, 1) := by decide +kernel
theorem d1_93 : decode prog_96_method_21_code 93 = .ok (.lcmp, 1) := by decide +kernel
theorem d1_94 : decode prog_96_method_21_code 94 = .ok (.ifCond .ne 8, 3) := by decide +kernel
theorem d1_97 : decode prog_96_method_21_code 97 = .ok (.iload 6, 2) := by decide +kernel
theorem d1_99 : decode prog_96_method_21_code 99 = .ok (.goto 4, 3) := by decide +kernel
theorem d1_102 : decode prog_96_method_21_code 102 = .ok (.iconst (-1), 1) := by decide +kernel
theorem d1_103 : decode prog_96_method_21_code 103 = .ok (.ireturn, 1) := by decide +kernel
theorem own_ef_own_rm1 (m : MethodId) (x0 : Int64) (x1 : Int64) : entryFrame m #[(.long x0), (.long x1)] 9 = mkF m 0 #[.val (.long x0), .second, .val (.long x1), .second, .unset, .unset, .unset, .unset, .unset] [] := by first | (simp [entryFrame, mkF, argsToLocals, Value.category]; done) | rfl
theorem own_pd0 : parseMethodDescriptor "(J)J" = some ⟨[.long], some .long⟩ := by decide +kernel
def own_Q_rm1 (Z : State) (q1 : Int64) (q2 : Int64) (h0 : Heap) (n0 : Nat) (v : Option Value) (h : Heap) (L : List Loc) : Prop := v = some (.int (own_f1 q1 q2)) ∧ Fr n0 L ∧ h = h0
set_option maxRecDepth 65536 in
set_option maxHeartbeats 40000000 in
theorem own_rm1 (l : Launch) (Z : State) (a0 : Array Value) (hw : ∀ d ∈ tables_1, d.before a0 Z = true) (q1 : Int64) (q2 : Int64) (h0 : Heap) (n0 : Nat) :
    MetFree l (⟨"com/example/bridgehead/bridgehead/ValueLayout", "indexAt", "(JJ)I"⟩ : MethodName) (head1 [Jvm.Cond.code (⟨"com/example/bridgehead/bridgehead/ValueLayout", "indexAt", "(JJ)I"⟩ : MethodName) prog_96_method_21_code 9 (some .int)] ({ frames := 1, cells := 0, slots := 0, locals := 13 } : Room)) (fun a U => a = #[(.long q1), (.long q2)] ∧ Z.Warmed39 U.vm ∧ U.heap = h0) (fun _ _ _ _ _ => True) (fun _ U o U' => ∃ v L, o = .returned v ∧ own_Q_rm1 Z q1 q2 h0 n0 v U'.heap L ∧ FrameEnd U o U' L ({ frames := 1, cells := 0, slots := 0, locals := 13 } : Room).cells ({ frames := 1, cells := 0, slots := 0, locals := 13 } : Room).slots) := by
  refine MetFree.of_bodySF (plainFor_of_name own_pn0) hisR ?_
  intro p e s m args below meth c s₁ Bd hml0 hP hK
  obtain ⟨rfl, hZ, hh⟩ := hP
  have hx := Bd.exec
  have hby := Bd.bytes
  have hret := Bd.returns
  have hlk := Bd.notSynchronized
  have hml : c.maxLocals = 9 := hml0
  have hown : s.vm.findClass "com/example/bridgehead/bridgehead/ValueLayout" = some m.cls := findClass_of_methodNamed Bd.named
  have hnm := (name_of_methodNamed Bd.named Bd.method).1
  have X0 : Stand p l e ({ frames := 1, cells := 0, slots := 0, locals := 13 } : Room) s m #[(.long q1), (.long q2)] below meth c s₁ [] 0 0 := Stand.of_body Bd
  have e0 : s₁.heap = h0 := by rw [← hh, Bd.state]; rfl
  have N0 := Fr.nil n0
  refine own_Go.cast (own_ef_own_rm1 m q1 q2) ?_
  refine own_step (T' := s₁) (f' := (mkF m 1 #[.val (.long q1), .second, .val (.long q2), .second, .unset, .unset, .unset, .unset, .unset] [(.long q1)])) (fun t k => ?_) ?_
  · show Steps p.tables e below (s₁.setTop (mkF m 0 #[.val (.long q1), .second, .val (.long q2), .second, .unset, .unset, .unset, .unset, .unset] [])) _
    refine XS.lloadN X0.here hx rfl (hb hby d1_0) rfl ?_
    exact k
  obtain ⟨_, _, ⟨T101, L101, k101, n101⟩, -, X101, ⟨Lc101, hQ101, l101, y101, z101⟩, st101⟩ := Jvm.LawKit.callS X0 hx (y := (⟨"com/example/bridgehead/bridgehead/ValueLayout", "sizeOf", "(J)J"⟩ : MethodName)) hown (mvT hZ (hw _ (List.mem_of_getElem? (i := 6) rfl))) (mvT hZ (hw _ (List.mem_of_getElem? (i := 7) rfl))) (mvT hZ (hw _ (List.mem_of_getElem? (i := 4) rfl))) (mvT hZ (hw _ (List.mem_of_getElem? (i := 8) rfl))) (by decide) (backOf (W := 0) (own_rm2 l Z a0 hw q1 h0 n0) hZ (hw _ (List.mem_of_getElem? (i := 8) rfl)) (hw _ (List.mem_of_getElem? (i := 4) rfl)) (by decide) (by decide)) (g := (mkF m 1 #[.val (.long q1), .second, .val (.long q2), .second, .unset, .unset, .unset, .unset, .unset] [(.long q1)])) rfl (by rw [hml]; rfl) (argsL := [(.long q1)]) (rest := []) (lenOf own_pd0 rfl) rfl (by show 2 * 0 + _ ≤ _; exact Nat.le_of_eq rfl) (hb hby d1_1) (fun _ _ => ⟨rfl, e0, (by decide : 0 + 0 ≤ _), (by decide : 0 + 0 ≤ _)⟩)
  dsimp only [Pt.U, Pt.locs, Pt.cells, Pt.slots] at X101 l101 y101 z101 st101 hQ101
  subst l101 y101 z101
  obtain ⟨rfl, N101q, e101⟩ := hQ101
  have N101 := Fr.app N0 N101q
  refine own_step (fun t k => st101 _ k) ?_
  refine own_step (T' := T101) (f' := (mkF m 12 #[.val (.long q1), .second, .val (.long q2), .second, .val (.long (own_f2 q1)), .second, .unset, .unset, .unset] [(.int (lcmpW (own_f2 q1) (4 : Int64)))])) (fun t k => ?_) ?_
  · show Steps p.tables e below (T101.setTop (mkF m 4 #[.val (.long q1), .second, .val (.long q2), .second, .unset, .unset, .unset, .unset, .unset] [(.long (own_f2 q1))])) _
    refine XS.lstore X101.here hx rfl (hb hby d1_4) rfl (l' := #[.val (.long q1), .second, .val (.long q2), .second, .val (.long (own_f2 q1)), .second, .unset, .unset, .unset]) rfl ?_
    show Steps p.tables e below (T101.setTop (mkF m 6 #[.val (.long q1), .second, .val (.long q2), .second, .val (.long (own_f2 q1)), .second, .unset, .unset, .unset] [])) _
    refine XS.lload X101.here hx rfl (hb hby d1_6) rfl ?_
    show Steps p.tables e below (T101.setTop (mkF m 8 #[.val (.long q1), .second, .val (.long q2), .second, .val (.long (own_f2 q1)), .second, .unset, .unset, .unset] [(.long (own_f2 q1))])) _
    refine X101.ldc2Long hx hown (mvT hZ (hw _ (List.mem_of_getElem? (i := 10) rfl))) (g := (mkF m 8 #[.val (.long q1), .second, .val (.long q2), .second, .val (.long (own_f2 q1)), .second, .unset, .unset, .unset] [(.long (own_f2 q1))])) rfl (hb hby d1_8) _ ?_
    show Steps p.tables e below (T101.setTop (mkF m 11 #[.val (.long q1), .second, .val (.long q2), .second, .val (.long (own_f2 q1)), .second, .unset, .unset, .unset] [(.long (4 : Int64)), (.long (own_f2 q1))])) _
    refine XS.lcmp X101.here hx rfl (hb hby d1_11) rfl ?_
    exact k
  by_cases hc12_0 : (own_f2 q1) = (4 : Int64)
  · refine own_step (T' := T101) (f' := (mkF m 94 #[.val (.long q1), .second, .val (.long q2), .second, .val (.long (own_f2 q1)), .second, .val (.int (((q2.toUInt64 >>> ((2 : Int32) &&& 0x3f).toInt64.toUInt64).toInt64).toInt32)), .val (.long (((((q2.toUInt64 >>> ((2 : Int32) &&& 0x3f).toInt64.toUInt64).toInt64).toInt32).toInt64) <<< ((2 : Int32) &&& 0x3f).toInt64)), .second] [(.int (lcmpW (((((q2.toUInt64 >>> ((2 : Int32) &&& 0x3f).toInt64.toUInt64).toInt64).toInt32).toInt64) <<< ((2 : Int32) &&& 0x3f).toInt64) q2))])) (fun t k => ?_) ?_
    · show Steps p.tables e below (T101.setTop (mkF m 12 #[.val (.long q1), .second, .val (.long q2), .second, .val (.long (own_f2 q1)), .second, .unset, .unset, .unset] [(.int (lcmpW (own_f2 q1) (4 : Int64)))])) _
      refine XS.ifNo X101.here hx rfl (hb hby d1_12) rfl ((if0 _ _).trans (teq ((lw_eq (own_f2 q1) (4 : Int64)).mpr hc12_0)).2) ?_
      show Steps p.tables e below (T101.setTop (mkF m 15 #[.val (.long q1), .second, .val (.long q2), .second, .val (.long (own_f2 q1)), .second, .unset, .unset, .unset] [])) _
      refine XS.lloadN X101.here hx rfl (hb hby d1_15) rfl ?_
      show Steps p.tables e below (T101.setTop (mkF m 16 #[.val (.long q1), .second, .val (.long q2), .second, .val (.long (own_f2 q1)), .second, .unset, .unset, .unset] [(.long q2)])) _
      refine XS.iconst X101.here hx rfl (hb hby d1_16) ?_
      show Steps p.tables e below (T101.setTop (mkF m 17 #[.val (.long q1), .second, .val (.long q2), .second, .val (.long (own_f2 q1)), .second, .unset, .unset, .unset] [(.int (2 : Int32)), (.long q2)])) _
      refine XS.lushr X101.here hx rfl (hb hby d1_17) rfl ?_
      show Steps p.tables e below (T101.setTop (mkF m 18 #[.val (.long q1), .second, .val (.long q2), .second, .val (.long (own_f2 q1)), .second, .unset, .unset, .unset] [(.long ((q2.toUInt64 >>> ((2 : Int32) &&& 0x3f).toInt64.toUInt64).toInt64))])) _
      refine XS.l2i X101.here hx rfl (hb hby d1_18) rfl ?_
      show Steps p.tables e below (T101.setTop (mkF m 19 #[.val (.long q1), .second, .val (.long q2), .second, .val (.long (own_f2 q1)), .second, .unset, .unset, .unset] [(.int (((q2.toUInt64 >>> ((2 : Int32) &&& 0x3f).toInt64.toUInt64).toInt64).toInt32))])) _
      refine XS.istore X101.here hx rfl (hb hby d1_19) rfl (l' := #[.val (.long q1), .second, .val (.long q2), .second, .val (.long (own_f2 q1)), .second, .val (.int (((q2.toUInt64 >>> ((2 : Int32) &&& 0x3f).toInt64.toUInt64).toInt64).toInt32)), .unset, .unset]) rfl ?_
      show Steps p.tables e below (T101.setTop (mkF m 21 #[.val (.long q1), .second, .val (.long q2), .second, .val (.long (own_f2 q1)), .second, .val (.int (((q2.toUInt64 >>> ((2 : Int32) &&& 0x3f).toInt64.toUInt64).toInt64).toInt32)), .unset, .unset] [])) _
      refine XS.iload X101.here hx rfl (hb hby d1_21) rfl ?_
      show Steps p.tables e below (T101.setTop (mkF m 23 #[.val (.long q1), .second, .val (.long q2), .second, .val (.long (own_f2 q1)), .second, .val (.int (((q2.toUInt64 >>> ((2 : Int32) &&& 0x3f).toInt64.toUInt64).toInt64).toInt32)), .unset, .unset] [(.int (((q2.toUInt64 >>> ((2 : Int32) &&& 0x3f).toInt64.toUInt64).toInt64).toInt32))])) _
      refine XS.i2l X101.here hx rfl (hb hby d1_23) rfl ?_
      show Steps p.tables e below (T101.setTop (mkF m 24 #[.val (.long q1), .second, .val (.long q2), .second, .val (.long (own_f2 q1)), .second, .val (.int (((q2.toUInt64 >>> ((2 : Int32) &&& 0x3f).toInt64.toUInt64).toInt64).toInt32)), .unset, .unset] [(.long ((((q2.toUInt64 >>> ((2 : Int32) &&& 0x3f).toInt64.toUInt64).toInt64).toInt32).toInt64))])) _
      refine XS.iconst X101.here hx rfl (hb hby d1_24) ?_
      show Steps p.tables e below (T101.setTop (mkF m 25 #[.val (.long q1), .second, .val (.long q2), .second, .val (.long (own_f2 q1)), .second, .val (.int (((q2.toUInt64 >>> ((2 : Int32) &&& 0x3f).toInt64.toUInt64).toInt64).toInt32)), .unset, .unset] [(.int (2 : Int32)), (.long ((((q2.toUInt64 >>> ((2 : Int32) &&& 0x3f).toInt64.toUInt64).toInt64).toInt32).toInt64))])) _
      refine XS.lshl X101.here hx rfl (hb hby d1_25) rfl ?_
      show Steps p.tables e below (T101.setTop (mkF m 26 #[.val (.long q1), .second, .val (.long q2), .second, .val (.long (own_f2 q1)), .second, .val (.int (((q2.toUInt64 >>> ((2 : Int32) &&& 0x3f).toInt64.toUInt64).toInt64).toInt32)), .unset, .unset] [(.long (((((q2.toUInt64 >>> ((2 : Int32) &&& 0x3f).toInt64.toUInt64).toInt64).toInt32).toInt64) <<< ((2 : Int32) &&& 0x3f).toInt64))])) _
      refine XS.lstore X101.here hx rfl (hb hby d1_26) rfl (l' := #[.val (.long q1), .second, .val (.long q2), .second, .val (.long (own_f2 q1)), .second, .val (.int (((q2.toUInt64 >>> ((2 : Int32) &&& 0x3f).toInt64.toUInt64).toInt64).toInt32)), .val (.long (((((q2.toUInt64 >>> ((2 : Int32) &&& 0x3f).toInt64.toUInt64).toInt64).toInt32).toInt64) <<< ((2 : Int32) &&& 0x3f).toInt64)), .second]) rfl ?_
      show Steps p.tables e below (T101.setTop (mkF m 28 #[.val (.long q1), .second, .val (.long q2), .second, .val (.long (own_f2 q1)), .second, .val (.int (((q2.toUInt64 >>> ((2 : Int32) &&& 0x3f).toInt64.toUInt64).toInt64).toInt32)), .val (.long (((((q2.toUInt64 >>> ((2 : Int32) &&& 0x3f).toInt64.toUInt64).toInt64).toInt32).toInt64) <<< ((2 : Int32) &&& 0x3f).toInt64)), .second] [])) _
      refine XS.goto X101.here hx rfl (pc0 := 28) (pc' := 90) rfl (hb hby d1_28) (by decide) (by decide) ?_
      show Steps p.tables e below (T101.setTop (mkF m 90 #[.val (.long q1), .second, .val (.long q2), .second, .val (.long (own_f2 q1)), .second, .val (.int (((q2.toUInt64 >>> ((2 : Int32) &&& 0x3f).toInt64.toUInt64).toInt64).toInt32)), .val (.long (((((q2.toUInt64 >>> ((2 : Int32) &&& 0x3f).toInt64.toUInt64).toInt64).toInt32).toInt64) <<< ((2 : Int32) &&& 0x3f).toInt64)), .second] [])) _
      refine XS.lload X101.here hx rfl (hb hby d1_90) rfl ?_
      show Steps p.tables e below (T101.setTop (mkF m 92 #[.val (.long q1), .second, .val (.long q2), .second, .val (.long (own_f2 q1)), .second, .val (.int (((q2.toUInt64 >>> ((2 : Int32) &&& 0x3f).toInt64.toUInt64).toInt64).toInt32)), .val (.long (((((q2.toUInt64 >>> ((2 : Int32) &&& 0x3f).toInt64.toUInt64).toInt64).toInt32).toInt64) <<< ((2 : Int32) &&& 0x3f).toInt64)), .second] [(.long (((((q2.toUInt64 >>> ((2 : Int32) &&& 0x3f).toInt64.toUInt64).toInt64).toInt32).toInt64) <<< ((2 : Int32) &&& 0x3f).toInt64))])) _
      refine XS.lloadN X101.here hx rfl (hb hby d1_92) rfl ?_
      show Steps p.tables e below (T101.setTop (mkF m 93 #[.val (.long q1), .second, .val (.long q2), .second, .val (.long (own_f2 q1)), .second, .val (.int (((q2.toUInt64 >>> ((2 : Int32) &&& 0x3f).toInt64.toUInt64).toInt64).toInt32)), .val (.long (((((q2.toUInt64 >>> ((2 : Int32) &&& 0x3f).toInt64.toUInt64).toInt64).toInt32).toInt64) <<< ((2 : Int32) &&& 0x3f).toInt64)), .second] [(.long q2), (.long (((((q2.toUInt64 >>> ((2 : Int32) &&& 0x3f).toInt64.toUInt64).toInt64).toInt32).toInt64) <<< ((2 : Int32) &&& 0x3f).toInt64))])) _
      refine XS.lcmp X101.here hx rfl (hb hby d1_93) rfl ?_
      exact k
    by_cases hc94_1 : (((((q2.toUInt64 >>> ((2 : Int32) &&& 0x3f).toInt64.toUInt64).toInt64).toInt32).toInt64) <<< ((2 : Int32) &&& 0x3f).toInt64) = q2
    · refine own_step (T' := T101) (f' := (mkF m 103 #[.val (.long q1), .second, .val (.long q2), .second, .val (.long (own_f2 q1)), .second, .val (.int (((q2.toUInt64 >>> ((2 : Int32) &&& 0x3f).toInt64.toUInt64).toInt64).toInt32)), .val (.long (((((q2.toUInt64 >>> ((2 : Int32) &&& 0x3f).toInt64.toUInt64).toInt64).toInt32).toInt64) <<< ((2 : Int32) &&& 0x3f).toInt64)), .second] [(.int (((q2.toUInt64 >>> ((2 : Int32) &&& 0x3f).toInt64.toUInt64).toInt64).toInt32))])) (fun t k => ?_) ?_
      · show Steps p.tables e below (T101.setTop (mkF m 94 #[.val (.long q1), .second, .val (.long q2), .second, .val (.long (own_f2 q1)), .second, .val (.int (((q2.toUInt64 >>> ((2 : Int32) &&& 0x3f).toInt64.toUInt64).toInt64).toInt32)), .val (.long (((((q2.toUInt64 >>> ((2 : Int32) &&& 0x3f).toInt64.toUInt64).toInt64).toInt32).toInt64) <<< ((2 : Int32) &&& 0x3f).toInt64)), .second] [(.int (lcmpW (((((q2.toUInt64 >>> ((2 : Int32) &&& 0x3f).toInt64.toUInt64).toInt64).toInt32).toInt64) <<< ((2 : Int32) &&& 0x3f).toInt64) q2))])) _
        refine XS.ifNo X101.here hx rfl (hb hby d1_94) rfl ((if0 _ _).trans (teq ((lw_eq (((((q2.toUInt64 >>> ((2 : Int32) &&& 0x3f).toInt64.toUInt64).toInt64).toInt32).toInt64) <<< ((2 : Int32) &&& 0x3f).toInt64) q2).mpr hc94_1)).2) ?_
        show Steps p.tables e below (T101.setTop (mkF m 97 #[.val (.long q1), .second, .val (.long q2), .second, .val (.long (own_f2 q1)), .second, .val (.int (((q2.toUInt64 >>> ((2 : Int32) &&& 0x3f).toInt64.toUInt64).toInt64).toInt32)), .val (.long (((((q2.toUInt64 >>> ((2 : Int32) &&& 0x3f).toInt64.toUInt64).toInt64).toInt32).toInt64) <<< ((2 : Int32) &&& 0x3f).toInt64)), .second] [])) _
        refine XS.iload X101.here hx rfl (hb hby d1_97) rfl ?_
        show Steps p.tables e below (T101.setTop (mkF m 99 #[.val (.long q1), .second, .val (.long q2), .second, .val (.long (own_f2 q1)), .second, .val (.int (((q2.toUInt64 >>> ((2 : Int32) &&& 0x3f).toInt64.toUInt64).toInt64).toInt32)), .val (.long (((((q2.toUInt64 >>> ((2 : Int32) &&& 0x3f).toInt64.toUInt64).toInt64).toInt32).toInt64) <<< ((2 : Int32) &&& 0x3f).toInt64)), .second] [(.int (((q2.toUInt64 >>> ((2 : Int32) &&& 0x3f).toInt64.toUInt64).toInt64).toInt32))])) _
        refine XS.goto X101.here hx rfl (pc0 := 99) (pc' := 103) rfl (hb hby d1_99) (by decide) (by decide) ?_
        exact k
      exact own_retI X101 hx hret hlk (hb hby d1_103) (by decide) (by decide) ⟨(congrArg (fun z => some (Value.int z)) (show (((q2.toUInt64 >>> ((2 : Int32) &&& 0x3f).toInt64.toUInt64).toInt64).toInt32) = own_f1 q1 q2 from (by rw [own_f1, if_pos hc12_0, if_pos hc94_1]))), N101, e101⟩
    · refine own_step (T' := T101) (f' := (mkF m 103 #[.val (.long q1), .second, .val (.long q2), .second, .val (.long (own_f2 q1)), .second, .val (.int (((q2.toUInt64 >>> ((2 : Int32) &&& 0x3f).toInt64.toUInt64).toInt64).toInt32)), .val (.long (((((q2.toUInt64 >>> ((2 : Int32) &&& 0x3f).toInt64.toUInt64).toInt64).toInt32).toInt64) <<< ((2 : Int32) &&& 0x3f).toInt64)), .second] [(.int (-1 : Int32))])) (fun t k => ?_) ?_
      · show Steps p.tables e below (T101.setTop (mkF m 94 #[.val (.long q1), .second, .val (.long q2), .second, .val (.long (own_f2 q1)), .second, .val (.int (((q2.toUInt64 >>> ((2 : Int32) &&& 0x3f).toInt64.toUInt64).toInt64).toInt32)), .val (.long (((((q2.toUInt64 >>> ((2 : Int32) &&& 0x3f).toInt64.toUInt64).toInt64).toInt32).toInt64) <<< ((2 : Int32) &&& 0x3f).toInt64)), .second] [(.int (lcmpW (((((q2.toUInt64 >>> ((2 : Int32) &&& 0x3f).toInt64.toUInt64).toInt64).toInt32).toInt64) <<< ((2 : Int32) &&& 0x3f).toInt64) q2))])) _
        refine XS.ifYes X101.here hx rfl (pc0 := 94) (pc' := 102) rfl (hb hby d1_94) rfl ((if0 _ _).trans (feq (fun q => hc94_1 ((lw_eq (((((q2.toUInt64 >>> ((2 : Int32) &&& 0x3f).toInt64.toUInt64).toInt64).toInt32).toInt64) <<< ((2 : Int32) &&& 0x3f).toInt64) q2).mp q))).2) (by decide) (by decide) ?_
        show Steps p.tables e below (T101.setTop (mkF m 102 #[.val (.long q1), .second, .val (.long q2), .second, .val (.long (own_f2 q1)), .second, .val (.int (((q2.toUInt64 >>> ((2 : Int32) &&& 0x3f).toInt64.toUInt64).toInt64).toInt32)), .val (.long (((((q2.toUInt64 >>> ((2 : Int32) &&& 0x3f).toInt64.toUInt64).toInt64).toInt32).toInt64) <<< ((2 : Int32) &&& 0x3f).toInt64)), .second] [])) _
        refine XS.iconst X101.here hx rfl (hb hby d1_102) ?_
        exact k
      exact own_retI X101 hx hret hlk (hb hby d1_103) (by decide) (by decide) ⟨(congrArg (fun z => some (Value.int z)) (show (-1 : Int32) = own_f1 q1 q2 from (by rw [own_f1, if_pos hc12_0, if_neg hc94_1]))), N101, e101⟩
  · refine own_step (T' := T101) (f' := (mkF m 37 #[.val (.long q1), .second, .val (.long q2), .second, .val (.long (own_f2 q1)), .second, .unset, .unset, .unset] [(.int (lcmpW (own_f2 q1) (8 : Int64)))])) (fun t k => ?_) ?_
    · show Steps p.tables e below (T101.setTop (mkF m 12 #[.val (.long q1), .second, .val (.long q2), .second, .val (.long (own_f2 q1)), .second, .unset, .unset, .unset] [(.int (lcmpW (own_f2 q1) (4 : Int64)))])) _
      refine XS.ifYes X101.here hx rfl (pc0 := 12) (pc' := 31) rfl (hb hby d1_12) rfl ((if0 _ _).trans (feq (fun q => hc12_0 ((lw_eq (own_f2 q1) (4 : Int64)).mp q))).2) (by decide) (by decide) ?_
      show Steps p.tables e below (T101.setTop (mkF m 31 #[.val (.long q1), .second, .val (.long q2), .second, .val (.long (own_f2 q1)), .second, .unset, .unset, .unset] [])) _
      refine XS.lload X101.here hx rfl (hb hby d1_31) rfl ?_
      show Steps p.tables e below (T101.setTop (mkF m 33 #[.val (.long q1), .second, .val (.long q2), .second, .val (.long (own_f2 q1)), .second, .unset, .unset, .unset] [(.long (own_f2 q1))])) _
      refine X101.ldc2Long hx hown (mvT hZ (hw _ (List.mem_of_getElem? (i := 11) rfl))) (g := (mkF m 33 #[.val (.long q1), .second, .val (.long q2), .second, .val (.long (own_f2 q1)), .second, .unset, .unset, .unset] [(.long (own_f2 q1))])) rfl (hb hby d1_33) _ ?_
      show Steps p.tables e below (T101.setTop (mkF m 36 #[.val (.long q1), .second, .val (.long q2), .second, .val (.long (own_f2 q1)), .second, .unset, .unset, .unset] [(.long (8 : Int64)), (.long (own_f2 q1))])) _
      refine XS.lcmp X101.here hx rfl (hb hby d1_36) rfl ?_
      exact k
    by_cases hc37_1 : (own_f2 q1) = (8 : Int64)
    · refine own_step (T' := T101) (f' := (mkF m 94 #[.val (.long q1), .second, .val (.long q2), .second, .val (.long (own_f2 q1)), .second, .val (.int (((q2.toUInt64 >>> ((3 : Int32) &&& 0x3f).toInt64.toUInt64).toInt64).toInt32)), .val (.long (((((q2.toUInt64 >>> ((3 : Int32) &&& 0x3f).toInt64.toUInt64).toInt64).toInt32).toInt64) <<< ((3 : Int32) &&& 0x3f).toInt64)), .second] [(.int (lcmpW (((((q2.toUInt64 >>> ((3 : Int32) &&& 0x3f).toInt64.toUInt64).toInt64).toInt32).toInt64) <<< ((3 : Int32) &&& 0x3f).toInt64) q2))])) (fun t k => ?_) ?_
      · show Steps p.tables e below (T101.setTop (mkF m 37 #[.val (.long q1), .second, .val (.long q2), .second, .val (.long (own_f2 q1)), .second, .unset, .unset, .unset] [(.int (lcmpW (own_f2 q1) (8 : Int64)))])) _
        refine XS.ifNo X101.here hx rfl (hb hby d1_37) rfl ((if0 _ _).trans (teq ((lw_eq (own_f2 q1) (8 : Int64)).mpr hc37_1)).2) ?_
        show Steps p.tables e below (T101.setTop (mkF m 40 #[.val (.long q1), .second, .val (.long q2), .second, .val (.long (own_f2 q1)), .second, .unset, .unset, .unset] [])) _
        refine XS.lloadN X101.here hx rfl (hb hby d1_40) rfl ?_
        show Steps p.tables e below (T101.setTop (mkF m 41 #[.val (.long q1), .second, .val (.long q2), .second, .val (.long (own_f2 q1)), .second, .unset, .unset, .unset] [(.long q2)])) _
        refine XS.iconst X101.here hx rfl (hb hby d1_41) ?_
        show Steps p.tables e below (T101.setTop (mkF m 42 #[.val (.long q1), .second, .val (.long q2), .second, .val (.long (own_f2 q1)), .second, .unset, .unset, .unset] [(.int (3 : Int32)), (.long q2)])) _
        refine XS.lushr X101.here hx rfl (hb hby d1_42) rfl ?_
        show Steps p.tables e below (T101.setTop (mkF m 43 #[.val (.long q1), .second, .val (.long q2), .second, .val (.long (own_f2 q1)), .second, .unset, .unset, .unset] [(.long ((q2.toUInt64 >>> ((3 : Int32) &&& 0x3f).toInt64.toUInt64).toInt64))])) _
        refine XS.l2i X101.here hx rfl (hb hby d1_43) rfl ?_
        show Steps p.tables e below (T101.setTop (mkF m 44 #[.val (.long q1), .second, .val (.long q2), .second, .val (.long (own_f2 q1)), .second, .unset, .unset, .unset] [(.int (((q2.toUInt64 >>> ((3 : Int32) &&& 0x3f).toInt64.toUInt64).toInt64).toInt32))])) _
        refine XS.istore X101.here hx rfl (hb hby d1_44) rfl (l' := #[.val (.long q1), .second, .val (.long q2), .second, .val (.long (own_f2 q1)), .second, .val (.int (((q2.toUInt64 >>> ((3 : Int32) &&& 0x3f).toInt64.toUInt64).toInt64).toInt32)), .unset, .unset]) rfl ?_
        show Steps p.tables e below (T101.setTop (mkF m 46 #[.val (.long q1), .second, .val (.long q2), .second, .val (.long (own_f2 q1)), .second, .val (.int (((q2.toUInt64 >>> ((3 : Int32) &&& 0x3f).toInt64.toUInt64).toInt64).toInt32)), .unset, .unset] [])) _
        refine XS.iload X101.here hx rfl (hb hby d1_46) rfl ?_
        show Steps p.tables e below (T101.setTop (mkF m 48 #[.val (.long q1), .second, .val (.long q2), .second, .val (.long (own_f2 q1)), .second, .val (.int (((q2.toUInt64 >>> ((3 : Int32) &&& 0x3f).toInt64.toUInt64).toInt64).toInt32)), .unset, .unset] [(.int (((q2.toUInt64 >>> ((3 : Int32) &&& 0x3f).toInt64.toUInt64).toInt64).toInt32))])) _
        refine XS.i2l X101.here hx rfl (hb hby d1_48) rfl ?_
        show Steps p.tables e below (T101.setTop (mkF m 49 #[.val (.long q1), .second, .val (.long q2), .second, .val (.long (own_f2 q1)), .second, .val (.int (((q2.toUInt64 >>> ((3 : Int32) &&& 0x3f).toInt64.toUInt64).toInt64).toInt32)), .unset, .unset] [(.long ((((q2.toUInt64 >>> ((3 : Int32) &&& 0x3f).toInt64.toUInt64).toInt64).toInt32).toInt64))])) _
        refine XS.iconst X101.here hx rfl (hb hby d1_49) ?_
        show Steps p.tables e below (T101.setTop (mkF m 50 #[.val (.long q1), .second, .val (.long q2), .second, .val (.long (own_f2 q1)), .second, .val (.int (((q2.toUInt64 >>> ((3 : Int32) &&& 0x3f).toInt64.toUInt64).toInt64).toInt32)), .unset, .unset] [(.int (3 : Int32)), (.long ((((q2.toUInt64 >>> ((3 : Int32) &&& 0x3f).toInt64.toUInt64).toInt64).toInt32).toInt64))])) _
        refine XS.lshl X101.here hx rfl (hb hby d1_50) rfl ?_
        show Steps p.tables e below (T101.setTop (mkF m 51 #[.val (.long q1), .second, .val (.long q2), .second, .val (.long (own_f2 q1)), .second, .val (.int (((q2.toUInt64 >>> ((3 : Int32) &&& 0x3f).toInt64.toUInt64).toInt64).toInt32)), .unset, .unset] [(.long (((((q2.toUInt64 >>> ((3 : Int32) &&& 0x3f).toInt64.toUInt64).toInt64).toInt32).toInt64) <<< ((3 : Int32) &&& 0x3f).toInt64))])) _
        refine XS.lstore X101.here hx rfl (hb hby d1_51) rfl (l' := #[.val (.long q1), .second, .val (.long q2), .second, .val (.long (own_f2 q1)), .second, .val (.int (((q2.toUInt64 >>> ((3 : Int32) &&& 0x3f).toInt64.toUInt64).toInt64).toInt32)), .val (.long (((((q2.toUInt64 >>> ((3 : Int32) &&& 0x3f).toInt64.toUInt64).toInt64).toInt32).toInt64) <<< ((3 : Int32) &&& 0x3f).toInt64)), .second]) rfl ?_
        show Steps p.tables e below (T101.setTop (mkF m 53 #[.val (.long q1), .second, .val (.long q2), .second, .val (.long (own_f2 q1)), .second, .val (.int (((q2.toUInt64 >>> ((3 : Int32) &&& 0x3f).toInt64.toUInt64).toInt64).toInt32)), .val (.long (((((q2.toUInt64 >>> ((3 : Int32) &&& 0x3f).toInt64.toUInt64).toInt64).toInt32).toInt64) <<< ((3 : Int32) &&& 0x3f).toInt64)), .second] [])) _
        refine XS.goto X101.here hx rfl (pc0 := 53) (pc' := 90) rfl (hb hby d1_53) (by decide) (by decide) ?_
        show Steps p.tables e below (T101.setTop (mkF m 90 #[.val (.long q1), .second, .val (.long q2), .second, .val (.long (own_f2 q1)), .second, .val (.int (((q2.toUInt64 >>> ((3 : Int32) &&& 0x3f).toInt64.toUInt64).toInt64).toInt32)), .val (.long (((((q2.toUInt64 >>> ((3 : Int32) &&& 0x3f).toInt64.toUInt64).toInt64).toInt32).toInt64) <<< ((3 : Int32) &&& 0x3f).toInt64)), .second] [])) _
        refine XS.lload X101.here hx rfl (hb hby d1_90) rfl ?_
        show Steps p.tables e below (T101.setTop (mkF m 92 #[.val (.long q1), .second, .val (.long q2), .second, .val (.long (own_f2 q1)), .second, .val (.int (((q2.toUInt64 >>> ((3 : Int32) &&& 0x3f).toInt64.toUInt64).toInt64).toInt32)), .val (.long (((((q2.toUInt64 >>> ((3 : Int32) &&& 0x3f).toInt64.toUInt64).toInt64).toInt32).toInt64) <<< ((3 : Int32) &&& 0x3f).toInt64)), .second] [(.long (((((q2.toUInt64 >>> ((3 : Int32) &&& 0x3f).toInt64.toUInt64).toInt64).toInt32).toInt64) <<< ((3 : Int32) &&& 0x3f).toInt64))])) _
        refine XS.lloadN X101.here hx rfl (hb hby d1_92) rfl ?_
        show Steps p.tables e below (T101.setTop (mkF m 93 #[.val (.long q1), .second, .val (.long q2), .second, .val (.long (own_f2 q1)), .second, .val (.int (((q2.toUInt64 >>> ((3 : Int32) &&& 0x3f).toInt64.toUInt64).toInt64).toInt32)), .val (.long (((((q2.toUInt64 >>> ((3 : Int32) &&& 0x3f).toInt64.toUInt64).toInt64).toInt32).toInt64) <<< ((3 : Int32) &&& 0x3f).toInt64)), .second] [(.long q2), (.long (((((q2.toUInt64 >>> ((3 : Int32) &&& 0x3f).toInt64.toUInt64).toInt64).toInt32).toInt64) <<< ((3 : Int32) &&& 0x3f).toInt64))])) _
        refine XS.lcmp X101.here hx rfl (hb hby d1_93) rfl ?_
        exact k
      by_cases hc94_2 : (((((q2.toUInt64 >>> ((3 : Int32) &&& 0x3f).toInt64.toUInt64).toInt64).toInt32).toInt64) <<< ((3 : Int32) &&& 0x3f).toInt64) = q2
      · refine own_step (T' := T101) (f' := (mkF m 103 #[.val (.long q1), .second, .val (.long q2), .second, .val (.long (own_f2 q1)), .second, .val (.int (((q2.toUInt64 >>> ((3 : Int32) &&& 0x3f).toInt64.toUInt64).toInt64).toInt32)), .val (.long (((((q2.toUInt64 >>> ((3 : Int32) &&& 0x3f).toInt64.toUInt64).toInt64).toInt32).toInt64) <<< ((3 : Int32) &&& 0x3f).toInt64)), .second] [(.int (((q2.toUInt64 >>> ((3 : Int32) &&& 0x3f).toInt64.toUInt64).toInt64).toInt32))])) (fun t k => ?_) ?_
        · show Steps p.tables e below (T101.setTop (mkF m 94 #[.val (.long q1), .second, .val (.long q2), .second, .val (.long (own_f2 q1)), .second, .val (.int (((q2.toUInt64 >>> ((3 : Int32) &&& 0x3f).toInt64.toUInt64).toInt64).toInt32)), .val (.long (((((q2.toUInt64 >>> ((3 : Int32) &&& 0x3f).toInt64.toUInt64).toInt64).toInt32).toInt64) <<< ((3 : Int32) &&& 0x3f).toInt64)), .second] [(.int (lcmpW (((((q2.toUInt64 >>> ((3 : Int32) &&& 0x3f).toInt64.toUInt64).toInt64).toInt32).toInt64) <<< ((3 : Int32) &&& 0x3f).toInt64) q2))])) _
          refine XS.ifNo X101.here hx rfl (hb hby d1_94) rfl ((if0 _ _).trans (teq ((lw_eq (((((q2.toUInt64 >>> ((3 : Int32) &&& 0x3f).toInt64.toUInt64).toInt64).toInt32).toInt64) <<< ((3 : Int32) &&& 0x3f).toInt64) q2).mpr hc94_2)).2) ?_
          show Steps p.tables e below (T101.setTop (mkF m 97 #[.val (.long q1), .second, .val (.long q2), .second, .val (.long (own_f2 q1)), .second, .val (.int (((q2.toUInt64 >>> ((3 : Int32) &&& 0x3f).toInt64.toUInt64).toInt64).toInt32)), .val (.long (((((q2.toUInt64 >>> ((3 : Int32) &&& 0x3f).toInt64.toUInt64).toInt64).toInt32).toInt64) <<< ((3 : Int32) &&& 0x3f).toInt64)), .second] [])) _
          refine XS.iload X101.here hx rfl (hb hby d1_97) rfl ?_
          show Steps p.tables e below (T101.setTop (mkF m 99 #[.val (.long q1), .second, .val (.long q2), .second, .val (.long (own_f2 q1)), .second, .val (.int (((q2.toUInt64 >>> ((3 : Int32) &&& 0x3f).toInt64.toUInt64).toInt64).toInt32)), .val (.long (((((q2.toUInt64 >>> ((3 : Int32) &&& 0x3f).toInt64.toUInt64).toInt64).toInt32).toInt64) <<< ((3 : Int32) &&& 0x3f).toInt64)), .second] [(.int (((q2.toUInt64 >>> ((3 : Int32) &&& 0x3f).toInt64.toUInt64).toInt64).toInt32))])) _
          refine XS.goto X101.here hx rfl (pc0 := 99) (pc' := 103) rfl (hb hby d1_99) (by decide) (by decide) ?_
          exact k
        exact own_retI X101 hx hret hlk (hb hby d1_103) (by decide) (by decide) ⟨(congrArg (fun z => some (Value.int z)) (show (((q2.toUInt64 >>> ((3 : Int32) &&& 0x3f).toInt64.toUInt64).toInt64).toInt32) = own_f1 q1 q2 from (by rw [own_f1, if_neg hc12_0, if_pos hc37_1, if_pos hc94_2]))), N101, e101⟩
      · refine own_step (T' := T101) (f' := (mkF m 103 #[.val (.long q1), .second, .val (.long q2), .second, .val (.long (own_f2 q1)), .second, .val (.int (((q2.toUInt64 >>> ((3 : Int32) &&& 0x3f).toInt64.toUInt64).toInt64).toInt32)), .val (.long (((((q2.toUInt64 >>> ((3 : Int32) &&& 0x3f).toInt64.toUInt64).toInt64).toInt32).toInt64) <<< ((3 : Int32) &&& 0x3f).toInt64)), .second] [(.int (-1 : Int32))])) (fun t k => ?_) ?_
        · show Steps p.tables e below (T101.setTop (mkF m 94 #[.val (.long q1), .second, .val (.long q2), .second, .val (.long (own_f2 q1)), .second, .val (.int (((q2.toUInt64 >>> ((3 : Int32) &&& 0x3f).toInt64.toUInt64).toInt64).toInt32)), .val (.long (((((q2.toUInt64 >>> ((3 : Int32) &&& 0x3f).toInt64.toUInt64).toInt64).toInt32).toInt64) <<< ((3 : Int32) &&& 0x3f).toInt64)), .second] [(.int (lcmpW (((((q2.toUInt64 >>> ((3 : Int32) &&& 0x3f).toInt64.toUInt64).toInt64).toInt32).toInt64) <<< ((3 : Int32) &&& 0x3f).toInt64) q2))])) _
          refine XS.ifYes X101.here hx rfl (pc0 := 94) (pc' := 102) rfl (hb hby d1_94) rfl ((if0 _ _).trans (feq (fun q => hc94_2 ((lw_eq (((((q2.toUInt64 >>> ((3 : Int32) &&& 0x3f).toInt64.toUInt64).toInt64).toInt32).toInt64) <<< ((3 : Int32) &&& 0x3f).toInt64) q2).mp q))).2) (by decide) (by decide) ?_
          show Steps p.tables e below (T101.setTop (mkF m 102 #[.val (.long q1), .second, .val (.long q2), .second, .val (.long (own_f2 q1)), .second, .val (.int (((q2.toUInt64 >>> ((3 : Int32) &&& 0x3f).toInt64.toUInt64).toInt64).toInt32)), .val (.long (((((q2.toUInt64 >>> ((3 : Int32) &&& 0x3f).toInt64.toUInt64).toInt64).toInt32).toInt64) <<< ((3 : Int32) &&& 0x3f).toInt64)), .second] [])) _
          refine XS.iconst X101.here hx rfl (hb hby d1_102) ?_
          exact k
        exact own_retI X101 hx hret hlk (hb hby d1_103) (by decide) (by decide) ⟨(congrArg (fun z => some (Value.int z)) (show (-1 : Int32) = own_f1 q1 q2 from (by rw [own_f1, if_neg hc12_0, if_pos hc37_1, if_neg hc94_2]))), N101, e101⟩
    · refine own_step (T' := T101) (f' := (mkF m 62 #[.val (.long q1), .second, .val (.long q2), .second, .val (.long (own_f2 q1)), .second, .unset, .unset, .unset] [(.int (lcmpW (own_f2 q1) (2 : Int64)))])) (fun t k => ?_) ?_
      · show Steps p.tables e below (T101.setTop (mkF m 37 #[.val (.long q1), .second, .val (.long q2), .second, .val (.long (own_f2 q1)), .second, .unset, .unset, .unset] [(.int (lcmpW (own_f2 q1) (8 : Int64)))])) _
        refine XS.ifYes X101.here hx rfl (pc0 := 37) (pc' := 56) rfl (hb hby d1_37) rfl ((if0 _ _).trans (feq (fun q => hc37_1 ((lw_eq (own_f2 q1) (8 : Int64)).mp q))).2) (by decide) (by decide) ?_
        show Steps p.tables e below (T101.setTop (mkF m 56 #[.val (.long q1), .second, .val (.long q2), .second, .val (.long (own_f2 q1)), .second, .unset, .unset, .unset] [])) _
        refine XS.lload X101.here hx rfl (hb hby d1_56) rfl ?_
        show Steps p.tables e below (T101.setTop (mkF m 58 #[.val (.long q1), .second, .val (.long q2), .second, .val (.long (own_f2 q1)), .second, .unset, .unset, .unset] [(.long (own_f2 q1))])) _
        refine X101.ldc2Long hx hown (mvT hZ (hw _ (List.mem_of_getElem? (i := 12) rfl))) (g := (mkF m 58 #[.val (.long q1), .second, .val (.long q2), .second, .val (.long (own_f2 q1)), .second, .unset, .unset, .unset] [(.long (own_f2 q1))])) rfl (hb hby d1_58) _ ?_
        show Steps p.tables e below (T101.setTop (mkF m 61 #[.val (.long q1), .second, .val (.long q2), .second, .val (.long (own_f2 q1)), .second, .unset, .unset, .unset] [(.long (2 : Int64)), (.long (own_f2 q1))])) _
        refine XS.lcmp X101.here hx rfl (hb hby d1_61) rfl ?_
        exact k
      by_cases hc62_2 : (own_f2 q1) = (2 : Int64)
      · refine own_step (T' := T101) (f' := (mkF m 94 #[.val (.long q1), .second, .val (.long q2), .second, .val (.long (own_f2 q1)), .second, .val (.int (((q2.toUInt64 >>> ((1 : Int32) &&& 0x3f).toInt64.toUInt64).toInt64).toInt32)), .val (.long (((((q2.toUInt64 >>> ((1 : Int32) &&& 0x3f).toInt64.toUInt64).toInt64).toInt32).toInt64) <<< ((1 : Int32) &&& 0x3f).toInt64)), .second] [(.int (lcmpW (((((q2.toUInt64 >>> ((1 : Int32) &&& 0x3f).toInt64.toUInt64).toInt64).toInt32).toInt64) <<< ((1 : Int32) &&& 0x3f).toInt64) q2))])) (fun t k => ?_) ?_
        · show Steps p.tables e below (T101.setTop (mkF m 62 #[.val (.long q1), .second, .val (.long q2), .second, .val (.long (own_f2 q1)), .second, .unset, .unset, .unset] [(.int (lcmpW (own_f2 q1) (2 : Int64)))])) _
          refine XS.ifNo X101.here hx rfl (hb hby d1_62) rfl ((if0 _ _).trans (teq ((lw_eq (own_f2 q1) (2 : Int64)).mpr hc62_2)).2) ?_
          show Steps p.tables e below (T101.setTop (mkF m 65 #[.val (.long q1), .second, .val (.long q2), .second, .val (.long (own_f2 q1)), .second, .unset, .unset, .unset] [])) _
          refine XS.lloadN X101.here hx rfl (hb hby d1_65) rfl ?_
          show Steps p.tables e below (T101.setTop (mkF m 66 #[.val (.long q1), .second, .val (.long q2), .second, .val (.long (own_f2 q1)), .second, .unset, .unset, .unset] [(.long q2)])) _
          refine XS.iconst X101.here hx rfl (hb hby d1_66) ?_
          show Steps p.tables e below (T101.setTop (mkF m 67 #[.val (.long q1), .second, .val (.long q2), .second, .val (.long (own_f2 q1)), .second, .unset, .unset, .unset] [(.int (1 : Int32)), (.long q2)])) _
          refine XS.lushr X101.here hx rfl (hb hby d1_67) rfl ?_
          show Steps p.tables e below (T101.setTop (mkF m 68 #[.val (.long q1), .second, .val (.long q2), .second, .val (.long (own_f2 q1)), .second, .unset, .unset, .unset] [(.long ((q2.toUInt64 >>> ((1 : Int32) &&& 0x3f).toInt64.toUInt64).toInt64))])) _
          refine XS.l2i X101.here hx rfl (hb hby d1_68) rfl ?_
          show Steps p.tables e below (T101.setTop (mkF m 69 #[.val (.long q1), .second, .val (.long q2), .second, .val (.long (own_f2 q1)), .second, .unset, .unset, .unset] [(.int (((q2.toUInt64 >>> ((1 : Int32) &&& 0x3f).toInt64.toUInt64).toInt64).toInt32))])) _
          refine XS.istore X101.here hx rfl (hb hby d1_69) rfl (l' := #[.val (.long q1), .second, .val (.long q2), .second, .val (.long (own_f2 q1)), .second, .val (.int (((q2.toUInt64 >>> ((1 : Int32) &&& 0x3f).toInt64.toUInt64).toInt64).toInt32)), .unset, .unset]) rfl ?_
          show Steps p.tables e below (T101.setTop (mkF m 71 #[.val (.long q1), .second, .val (.long q2), .second, .val (.long (own_f2 q1)), .second, .val (.int (((q2.toUInt64 >>> ((1 : Int32) &&& 0x3f).toInt64.toUInt64).toInt64).toInt32)), .unset, .unset] [])) _
          refine XS.iload X101.here hx rfl (hb hby d1_71) rfl ?_
          show Steps p.tables e below (T101.setTop (mkF m 73 #[.val (.long q1), .second, .val (.long q2), .second, .val (.long (own_f2 q1)), .second, .val (.int (((q2.toUInt64 >>> ((1 : Int32) &&& 0x3f).toInt64.toUInt64).toInt64).toInt32)), .unset, .unset] [(.int (((q2.toUInt64 >>> ((1 : Int32) &&& 0x3f).toInt64.toUInt64).toInt64).toInt32))])) _
          refine XS.i2l X101.here hx rfl (hb hby d1_73) rfl ?_
          show Steps p.tables e below (T101.setTop (mkF m 74 #[.val (.long q1), .second, .val (.long q2), .second, .val (.long (own_f2 q1)), .second, .val (.int (((q2.toUInt64 >>> ((1 : Int32) &&& 0x3f).toInt64.toUInt64).toInt64).toInt32)), .unset, .unset] [(.long ((((q2.toUInt64 >>> ((1 : Int32) &&& 0x3f).toInt64.toUInt64).toInt64).toInt32).toInt64))])) _
          refine XS.iconst X101.here hx rfl (hb hby d1_74) ?_
          show Steps p.tables e below (T101.setTop (mkF m 75 #[.val (.long q1), .second, .val (.long q2), .second, .val (.long (own_f2 q1)), .second, .val (.int (((q2.toUInt64 >>> ((1 : Int32) &&& 0x3f).toInt64.toUInt64).toInt64).toInt32)), .unset, .unset] [(.int (1 : Int32)), (.long ((((q2.toUInt64 >>> ((1 : Int32) &&& 0x3f).toInt64.toUInt64).toInt64).toInt32).toInt64))])) _
          refine XS.lshl X101.here hx rfl (hb hby d1_75) rfl ?_
          show Steps p.tables e below (T101.setTop (mkF m 76 #[.val (.long q1), .second, .val (.long q2), .second, .val (.long (own_f2 q1)), .second, .val (.int (((q2.toUInt64 >>> ((1 : Int32) &&& 0x3f).toInt64.toUInt64).toInt64).toInt32)), .unset, .unset] [(.long (((((q2.toUInt64 >>> ((1 : Int32) &&& 0x3f).toInt64.toUInt64).toInt64).toInt32).toInt64) <<< ((1 : Int32) &&& 0x3f).toInt64))])) _
          refine XS.lstore X101.here hx rfl (hb hby d1_76) rfl (l' := #[.val (.long q1), .second, .val (.long q2), .second, .val (.long (own_f2 q1)), .second, .val (.int (((q2.toUInt64 >>> ((1 : Int32) &&& 0x3f).toInt64.toUInt64).toInt64).toInt32)), .val (.long (((((q2.toUInt64 >>> ((1 : Int32) &&& 0x3f).toInt64.toUInt64).toInt64).toInt32).toInt64) <<< ((1 : Int32) &&& 0x3f).toInt64)), .second]) rfl ?_
          show Steps p.tables e below (T101.setTop (mkF m 78 #[.val (.long q1), .second, .val (.long q2), .second, .val (.long (own_f2 q1)), .second, .val (.int (((q2.toUInt64 >>> ((1 : Int32) &&& 0x3f).toInt64.toUInt64).toInt64).toInt32)), .val (.long (((((q2.toUInt64 >>> ((1 : Int32) &&& 0x3f).toInt64.toUInt64).toInt64).toInt32).toInt64) <<< ((1 : Int32) &&& 0x3f).toInt64)), .second] [])) _
          refine XS.goto X101.here hx rfl (pc0 := 78) (pc' := 90) rfl (hb hby d1_78) (by decide) (by decide) ?_
          show Steps p.tables e below (T101.setTop (mkF m 90 #[.val (.long q1), .second, .val (.long q2), .second, .val (.long (own_f2 q1)), .second, .val (.int (((q2.toUInt64 >>> ((1 : Int32) &&& 0x3f).toInt64.toUInt64).toInt64).toInt32)), .val (.long (((((q2.toUInt64 >>> ((1 : Int32) &&& 0x3f).toInt64.toUInt64).toInt64).toInt32).toInt64) <<< ((1 : Int32) &&& 0x3f).toInt64)), .second] [])) _
          refine XS.lload X101.here hx rfl (hb hby d1_90) rfl ?_
          show Steps p.tables e below (T101.setTop (mkF m 92 #[.val (.long q1), .second, .val (.long q2), .second, .val (.long (own_f2 q1)), .second, .val (.int (((q2.toUInt64 >>> ((1 : Int32) &&& 0x3f).toInt64.toUInt64).toInt64).toInt32)), .val (.long (((((q2.toUInt64 >>> ((1 : Int32) &&& 0x3f).toInt64.toUInt64).toInt64).toInt32).toInt64) <<< ((1 : Int32) &&& 0x3f).toInt64)), .second] [(.long (((((q2.toUInt64 >>> ((1 : Int32) &&& 0x3f).toInt64.toUInt64).toInt64).toInt32).toInt64) <<< ((1 : Int32) &&& 0x3f).toInt64))])) _
          refine XS.lloadN X101.here hx rfl (hb hby d1_92) rfl ?_
          show Steps p.tables e below (T101.setTop (mkF m 93 #[.val (.long q1), .second, .val (.long q2), .second, .val (.long (own_f2 q1)), .second, .val (.int (((q2.toUInt64 >>> ((1 : Int32) &&& 0x3f).toInt64.toUInt64).toInt64).toInt32)), .val (.long (((((q2.toUInt64 >>> ((1 : Int32) &&& 0x3f).toInt64.toUInt64).toInt64).toInt32).toInt64) <<< ((1 : Int32) &&& 0x3f).toInt64)), .second] [(.long q2), (.long (((((q2.toUInt64 >>> ((1 : Int32) &&& 0x3f).toInt64.toUInt64).toInt64).toInt32).toInt64) <<< ((1 : Int32) &&& 0x3f).toInt64))])) _
          refine XS.lcmp X101.here hx rfl (hb hby d1_93) rfl ?_
          exact k
        by_cases hc94_3 : (((((q2.toUInt64 >>> ((1 : Int32) &&& 0x3f).toInt64.toUInt64).toInt64).toInt32).toInt64) <<< ((1 : Int32) &&& 0x3f).toInt64) = q2
        · refine own_step (T' := T101) (f' := (mkF m 103 #[.val (.long q1), .second, .val (.long q2), .second, .val (.long (own_f2 q1)), .second, .val (.int (((q2.toUInt64 >>> ((1 : Int32) &&& 0x3f).toInt64.toUInt64).toInt64).toInt32)), .val (.long (((((q2.toUInt64 >>> ((1 : Int32) &&& 0x3f).toInt64.toUInt64).toInt64).toInt32).toInt64) <<< ((1 : Int32) &&& 0x3f).toInt64)), .second] [(.int (((q2.toUInt64 >>> ((1 : Int32) &&& 0x3f).toInt64.toUInt64).toInt64).toInt32))])) (fun t k => ?_) ?_
          · show Steps p.tables e below (T101.setTop (mkF m 94 #[.val (.long q1), .second, .val (.long q2), .second, .val (.long (own_f2 q1)), .second, .val (.int (((q2.toUInt64 >>> ((1 : Int32) &&& 0x3f).toInt64.toUInt64).toInt64).toInt32)), .val (.long (((((q2.toUInt64 >>> ((1 : Int32) &&& 0x3f).toInt64.toUInt64).toInt64).toInt32).toInt64) <<< ((1 : Int32) &&& 0x3f).toInt64)), .second] [(.int (lcmpW (((((q2.toUInt64 >>> ((1 : Int32) &&& 0x3f).toInt64.toUInt64).toInt64).toInt32).toInt64) <<< ((1 : Int32) &&& 0x3f).toInt64) q2))])) _
            refine XS.ifNo X101.here hx rfl (hb hby d1_94) rfl ((if0 _ _).trans (teq ((lw_eq (((((q2.toUInt64 >>> ((1 : Int32) &&& 0x3f).toInt64.toUInt64).toInt64).toInt32).toInt64) <<< ((1 : Int32) &&& 0x3f).toInt64) q2).mpr hc94_3)).2) ?_
            show Steps p.tables e below (T101.setTop (mkF m 97 #[.val (.long q1), .second, .val (.long q2), .second, .val (.long (own_f2 q1)), .second, .val (.int (((q2.toUInt64 >>> ((1 : Int32) &&& 0x3f).toInt64.toUInt64).toInt64).toInt32)), .val (.long (((((q2.toUInt64 >>> ((1 : Int32) &&& 0x3f).toInt64.toUInt64).toInt64).toInt32).toInt64) <<< ((1 : Int32) &&& 0x3f).toInt64)), .second] [])) _
            refine XS.iload X101.here hx rfl (hb hby d1_97) rfl ?_
            show Steps p.tables e below (T101.setTop (mkF m 99 #[.val (.long q1), .second, .val (.long q2), .second, .val (.long (own_f2 q1)), .second, .val (.int (((q2.toUInt64 >>> ((1 : Int32) &&& 0x3f).toInt64.toUInt64).toInt64).toInt32)), .val (.long (((((q2.toUInt64 >>> ((1 : Int32) &&& 0x3f).toInt64.toUInt64).toInt64).toInt32).toInt64) <<< ((1 : Int32) &&& 0x3f).toInt64)), .second] [(.int (((q2.toUInt64 >>> ((1 : Int32) &&& 0x3f).toInt64.toUInt64).toInt64).toInt32))])) _
            refine XS.goto X101.here hx rfl (pc0 := 99) (pc' := 103) rfl (hb hby d1_99) (by decide) (by decide) ?_
            exact k
          exact own_retI X101 hx hret hlk (hb hby d1_103) (by decide) (by decide) ⟨(congrArg (fun z => some (Value.int z)) (show (((q2.toUInt64 >>> ((1 : Int32) &&& 0x3f).toInt64.toUInt64).toInt64).toInt32) = own_f1 q1 q2 from (by rw [own_f1, if_neg hc12_0, if_neg hc37_1, if_pos hc62_2, if_pos hc94_3]))), N101, e101⟩
        · refine own_step (T' := T101) (f' := (mkF m 103 #[.val (.long q1), .second, .val (.long q2), .second, .val (.long (own_f2 q1)), .second, .val (.int (((q2.toUInt64 >>> ((1 : Int32) &&& 0x3f).toInt64.toUInt64).toInt64).toInt32)), .val (.long (((((q2.toUInt64 >>> ((1 : Int32) &&& 0x3f).toInt64.toUInt64).toInt64).toInt32).toInt64) <<< ((1 : Int32) &&& 0x3f).toInt64)), .second] [(.int (-1 : Int32))])) (fun t k => ?_) ?_
          · show Steps p.tables e below (T101.setTop (mkF m 94 #[.val (.long q1), .second, .val (.long q2), .second, .val (.long (own_f2 q1)), .second, .val (.int (((q2.toUInt64 >>> ((1 : Int32) &&& 0x3f).toInt64.toUInt64).toInt64).toInt32)), .val (.long (((((q2.toUInt64 >>> ((1 : Int32) &&& 0x3f).toInt64.toUInt64).toInt64).toInt32).toInt64) <<< ((1 : Int32) &&& 0x3f).toInt64)), .second] [(.int (lcmpW (((((q2.toUInt64 >>> ((1 : Int32) &&& 0x3f).toInt64.toUInt64).toInt64).toInt32).toInt64) <<< ((1 : Int32) &&& 0x3f).toInt64) q2))])) _
            refine XS.ifYes X101.here hx rfl (pc0 := 94) (pc' := 102) rfl (hb hby d1_94) rfl ((if0 _ _).trans (feq (fun q => hc94_3 ((lw_eq (((((q2.toUInt64 >>> ((1 : Int32) &&& 0x3f).toInt64.toUInt64).toInt64).toInt32).toInt64) <<< ((1 : Int32) &&& 0x3f).toInt64) q2).mp q))).2) (by decide) (by decide) ?_
            show Steps p.tables e below (T101.setTop (mkF m 102 #[.val (.long q1), .second, .val (.long q2), .second, .val (.long (own_f2 q1)), .second, .val (.int (((q2.toUInt64 >>> ((1 : Int32) &&& 0x3f).toInt64.toUInt64).toInt64).toInt32)), .val (.long (((((q2.toUInt64 >>> ((1 : Int32) &&& 0x3f).toInt64.toUInt64).toInt64).toInt32).toInt64) <<< ((1 : Int32) &&& 0x3f).toInt64)), .second] [])) _
            refine XS.iconst X101.here hx rfl (hb hby d1_102) ?_
            exact k
          exact own_retI X101 hx hret hlk (hb hby d1_103) (by decide) (by decide) ⟨(congrArg (fun z => some (Value.int z)) (show (-1 : Int32) = own_f1 q1 q2 from (by rw [own_f1, if_neg hc12_0, if_neg hc37_1, if_pos hc62_2, if_neg hc94_3]))), N101, e101⟩
      · refine own_step (T' := T101) (f' := (mkF m 94 #[.val (.long q1), .second, .val (.long q2), .second, .val (.long (own_f2 q1)), .second, .val (.int (q2.toInt32)), .val (.long ((q2.toInt32).toInt64)), .second] [(.int (lcmpW ((q2.toInt32).toInt64) q2))])) (fun t k => ?_) ?_
        · show Steps p.tables e below (T101.setTop (mkF m 62 #[.val (.long q1), .second, .val (.long q2), .second, .val (.long (own_f2 q1)), .second, .unset, .unset, .unset] [(.int (lcmpW (own_f2 q1) (2 : Int64)))])) _
          refine XS.ifYes X101.here hx rfl (pc0 := 62) (pc' := 81) rfl (hb hby d1_62) rfl ((if0 _ _).trans (feq (fun q => hc62_2 ((lw_eq (own_f2 q1) (2 : Int64)).mp q))).2) (by decide) (by decide) ?_
          show Steps p.tables e below (T101.setTop (mkF m 81 #[.val (.long q1), .second, .val (.long q2), .second, .val (.long (own_f2 q1)), .second, .unset, .unset, .unset] [])) _
          refine XS.lloadN X101.here hx rfl (hb hby d1_81) rfl ?_
          show Steps p.tables e below (T101.setTop (mkF m 82 #[.val (.long q1), .second, .val (.long q2), .second, .val (.long (own_f2 q1)), .second, .unset, .unset, .unset] [(.long q2)])) _
          refine XS.l2i X101.here hx rfl (hb hby d1_82) rfl ?_
          show Steps p.tables e below (T101.setTop (mkF m 83 #[.val (.long q1), .second, .val (.long q2), .second, .val (.long (own_f2 q1)), .second, .unset, .unset, .unset] [(.int (q2.toInt32))])) _
          refine XS.istore X101.here hx rfl (hb hby d1_83) rfl (l' := #[.val (.long q1), .second, .val (.long q2), .second, .val (.long (own_f2 q1)), .second, .val (.int (q2.toInt32)), .unset, .unset]) rfl ?_
          show Steps p.tables e below (T101.setTop (mkF m 85 #[.val (.long q1), .second, .val (.long q2), .second, .val (.long (own_f2 q1)), .second, .val (.int (q2.toInt32)), .unset, .unset] [])) _
          refine XS.iload X101.here hx rfl (hb hby d1_85) rfl ?_
          show Steps p.tables e below (T101.setTop (mkF m 87 #[.val (.long q1), .second, .val (.long q2), .second, .val (.long (own_f2 q1)), .second, .val (.int (q2.toInt32)), .unset, .unset] [(.int (q2.toInt32))])) _
          refine XS.i2l X101.here hx rfl (hb hby d1_87) rfl ?_
          show Steps p.tables e below (T101.setTop (mkF m 88 #[.val (.long q1), .second, .val (.long q2), .second, .val (.long (own_f2 q1)), .second, .val (.int (q2.toInt32)), .unset, .unset] [(.long ((q2.toInt32).toInt64))])) _
          refine XS.lstore X101.here hx rfl (hb hby d1_88) rfl (l' := #[.val (.long q1), .second, .val (.long q2), .second, .val (.long (own_f2 q1)), .second, .val (.int (q2.toInt32)), .val (.long ((q2.toInt32).toInt64)), .second]) rfl ?_
          show Steps p.tables e below (T101.setTop (mkF m 90 #[.val (.long q1), .second, .val (.long q2), .second, .val (.long (own_f2 q1)), .second, .val (.int (q2.toInt32)), .val (.long ((q2.toInt32).toInt64)), .second] [])) _
          refine XS.lload X101.here hx rfl (hb hby d1_90) rfl ?_
          show Steps p.tables e below (T101.setTop (mkF m 92 #[.val (.long q1), .second, .val (.long q2), .second, .val (.long (own_f2 q1)), .second, .val (.int (q2.toInt32)), .val (.long ((q2.toInt32).toInt64)), .second] [(.long ((q2.toInt32).toInt64))])) _
          refine XS.lloadN X101.here hx rfl (hb hby d1_92) rfl ?_
          show Steps p.tables e below (T101.setTop (mkF m 93 #[.val (.long q1), .second, .val (.long q2), .second, .val (.long (own_f2 q1)), .second, .val (.int (q2.toInt32)), .val (.long ((q2.toInt32).toInt64)), .second] [(.long q2), (.long ((q2.toInt32).toInt64))])) _
          refine XS.lcmp X101.here hx rfl (hb hby d1_93) rfl ?_
          exact k
        by_cases hc94_3 : ((q2.toInt32).toInt64) = q2
        · refine own_step (T' := T101) (f' := (mkF m 103 #[.val (.long q1), .second, .val (.long q2), .second, .val (.long (own_f2 q1)), .second, .val (.int (q2.toInt32)), .val (.long ((q2.toInt32).toInt64)), .second] [(.int (q2.toInt32))])) (fun t k => ?_) ?_
          · show Steps p.tables e below (T101.setTop (mkF m 94 #[.val (.long q1), .second, .val (.long q2), .second, .val (.long (own_f2 q1)), .second, .val (.int (q2.toInt32)), .val (.long ((q2.toInt32).toInt64)), .second] [(.int (lcmpW ((q2.toInt32).toInt64) q2))])) _
            refine XS.ifNo X101.here hx rfl (hb hby d1_94) rfl ((if0 _ _).trans (teq ((lw_eq ((q2.toInt32).toInt64) q2).mpr hc94_3)).2) ?_
            show Steps p.tables e below (T101.setTop (mkF m 97 #[.val (.long q1), .second, .val (.long q2), .second, .val (.long (own_f2 q1)), .second, .val (.int (q2.toInt32)), .val (.long ((q2.toInt32).toInt64)), .second] [])) _
            refine XS.iload X101.here hx rfl (hb hby d1_97) rfl ?_
            show Steps p.tables e below (T101.setTop (mkF m 99 #[.val (.long q1), .second, .val (.long q2), .second, .val (.long (own_f2 q1)), .second, .val (.int (q2.toInt32)), .val (.long ((q2.toInt32).toInt64)), .second] [(.int (q2.toInt32))])) _
            refine XS.goto X101.here hx rfl (pc0 := 99) (pc' := 103) rfl (hb hby d1_99) (by decide) (by decide) ?_
            exact k
          exact own_retI X101 hx hret hlk (hb hby d1_103) (by decide) (by decide) ⟨(congrArg (fun z => some (Value.int z)) (show (q2.toInt32) = own_f1 q1 q2 from (by rw [own_f1, if_neg hc12_0, if_neg hc37_1, if_neg hc62_2, if_pos hc94_3]))), N101, e101⟩
        · refine own_step (T' := T101) (f' := (mkF m 103 #[.val (.long q1), .second, .val (.long q2), .second, .val (.long (own_f2 q1)), .second, .val (.int (q2.toInt32)), .val (.long ((q2.toInt32).toInt64)), .second] [(.int (-1 : Int32))])) (fun t k => ?_) ?_
          · show Steps p.tables e below (T101.setTop (mkF m 94 #[.val (.long q1), .second, .val (.long q2), .second, .val (.long (own_f2 q1)), .second, .val (.int (q2.toInt32)), .val (.long ((q2.toInt32).toInt64)), .second] [(.int (lcmpW ((q2.toInt32).toInt64) q2))])) _
            refine XS.ifYes X101.here hx rfl (pc0 := 94) (pc' := 102) rfl (hb hby d1_94) rfl ((if0 _ _).trans (feq (fun q => hc94_3 ((lw_eq ((q2.toInt32).toInt64) q2).mp q))).2) (by decide) (by decide) ?_
            show Steps p.tables e below (T101.setTop (mkF m 102 #[.val (.long q1), .second, .val (.long q2), .second, .val (.long (own_f2 q1)), .second, .val (.int (q2.toInt32)), .val (.long ((q2.toInt32).toInt64)), .second] [])) _
            refine XS.iconst X101.here hx rfl (hb hby d1_102) ?_
            exact k
          exact own_retI X101 hx hret hlk (hb hby d1_103) (by decide) (by decide) ⟨(congrArg (fun z => some (Value.int z)) (show (-1 : Int32) = own_f1 q1 q2 from (by rw [own_f1, if_neg hc12_0, if_neg hc37_1, if_neg hc62_2, if_neg hc94_3]))), N101, e101⟩
theorem own_S {p : Int32} {y : Int64} (h : y = ((1 : Int64) <<< ((p &&& (3 : Int32)) &&& 0x3f).toInt64)) : y = 1 ∨ y = 2 ∨ y = 4 ∨ y = 8 := by
  have e := c_mask p 3 2 (by decide) (by decide)
  generalize p &&& (3 : Int32) = k at *
  have r : k = 0 ∨ k = 1 ∨ k = 2 ∨ k = 3 := by
    have k0 : (0 : Int32).toInt = 0 := rfl
    have k1 : (1 : Int32).toInt = 1 := rfl
    have k2 : (2 : Int32).toInt = 2 := rfl
    have k3 : (3 : Int32).toInt = 3 := rfl
    simp only [← Int32.toInt_inj, k0, k1, k2, k3]; omega
  rcases r with rfl | rfl | rfl | rfl <;> subst h <;> decide
theorem own_nz {y : Int64} (h : y = 1 ∨ y = 2 ∨ y = 4 ∨ y = 8) : y ≠ 0 := by rcases h with rfl | rfl | rfl | rfl <;> decide
theorem own_sz {y : Int64} (x : Int64) (h : y = 1 ∨ y = 2 ∨ y = 4 ∨ y = 8) : own_f2 (y ||| (x &&& (-256 : Int64))) = y := by
  have e1 : (x &&& (-256 : Int64)) &&& 255 = 0 := by
    rw [Int64.and_assoc, show ((-256 : Int64) &&& 255) = 0 from by decide, Int64.and_zero]
  have e2 := c_maskL (x &&& (-256 : Int64)) 255 8 (by decide) (by decide)
  rw [e1, show (0 : Int64).toInt = 0 from rfl] at e2
  have hy : 0 ≤ y.toInt ∧ y.toInt < 256 := by rcases h with rfl | rfl | rfl | rfl <;> decide
  have e3 := c_orL' y (x &&& (-256 : Int64)) 8 (by decide) 256 rfl (by omega) hy.1 hy.2
  have e4 := c_maskL (y ||| (x &&& (-256 : Int64))) 255 8 (by decide) (by decide)
  rw [own_f2]
  apply Int64.toInt_inj.mp
  rw [e4]; omega
/-- the quotient, the remainder and what comes back, for a size of 2 to the k -/
theorem own_core {o q r b : Int64} {i : Int32} (S : Int) (hS : S = 1 ∨ S = 2 ∨ S = 4 ∨ S = 8)
    (hi : (i.toInt - (o.toInt % 18446744073709551616) / S) % 4294967296 = 0) (hb : (b.toInt - i.toInt * S) % 18446744073709551616 = 0)
    (hq : (0 ≤ o.toInt → q.toInt = o.toInt / S) ∧ (o.toInt < 0 → q.toInt = -((-o.toInt) / S))) (hr : (0 ≤ o.toInt → r.toInt = o.toInt % S) ∧ (o.toInt < 0 → r.toInt = -((-o.toInt) % S))) :
    (if b = o then i else (-1 : Int32)) = (if r = (0 : Int64) then (if q < (-2147483648 : Int64) then (-1 : Int32) else (if (2147483647 : Int64) < q then (-1 : Int32) else q.toInt32)) else (-1 : Int32)) := by
  have ri := rng32 i; have rb := rng64 b; have ro := rng64 o; have cq := c_l2i q; have rq := rng32 q.toInt32
  have k0 : (0 : Int64).toInt = 0 := rfl
  have k1 : (-2147483648 : Int64).toInt = -2147483648 := by decide
  have k2 : (2147483647 : Int64).toInt = 2147483647 := by decide
  have d1 : b = o ↔ (r = 0 ∧ ¬ q < (-2147483648 : Int64) ∧ ¬ (2147483647 : Int64) < q) := by
    simp only [Int64.lt_iff_toInt_lt, ← Int64.toInt_inj, k0, k1, k2]
    rcases hS with rfl | rfl | rfl | rfl <;> constructor <;> intro hh <;> omega
  by_cases hd : b = o
  · obtain ⟨h1, h2, h3⟩ := d1.mp hd
    rw [if_pos hd, if_pos h1, if_neg h2, if_neg h3]
    apply Int32.toInt_inj.mp
    rw [← Int64.toInt_inj, k0] at h1
    rw [Int64.lt_iff_toInt_lt, k1] at h2
    rw [Int64.lt_iff_toInt_lt, k2] at h3
    rcases hS with rfl | rfl | rfl | rfl <;> omega
  · rw [if_neg hd]
    by_cases h1 : r = 0
    · by_cases h2 : q < (-2147483648 : Int64)
      · rw [if_pos h1, if_pos h2]
      · by_cases h3 : (2147483647 : Int64) < q
        · rw [if_pos h1, if_neg h2, if_pos h3]
        · exact absurd (d1.mpr ⟨h1, h2, h3⟩) hd
    · rw [if_neg h1]
theorem own_key {y o x : Int64} {v : Int32} (hS : y = 1 ∨ y = 2 ∨ y = 4 ∨ y = 8)
    (hv : v = (if (o - (o / y) * y) = (0 : Int64) then (if (o / y) < (-2147483648 : Int64) then (-1 : Int32) else (if (2147483647 : Int64) < (o / y) then (-1 : Int32) else ((o / y).toInt32))) else (-1 : Int32))) :
    own_f1 (y ||| (x &&& (-256 : Int64))) o = v := by
  rw [own_f1, own_sz x hS, hv]
  rcases hS with rfl | rfl | rfl | rfl
  · rw [if_neg (by decide), if_neg (by decide), if_neg (by decide)]
    refine own_core 1 (by decide) ?_ ?_ (c_ldiv o 1 1 rfl (by decide)) (c_lrem o 1 1 rfl)
    · have := c_l2i o; omega
    · have := c_i2l o.toInt32; omega
  · rw [if_neg (by decide), if_neg (by decide), if_pos rfl]
    refine own_core 2 (by decide) ?_ ?_ (c_ldiv o 2 2 rfl (by decide)) (c_lrem o 2 2 rfl)
    · have h1 := c_lushr o 1 1 rfl (by decide)
      have h2 := c_l2i ((o.toUInt64 >>> ((1 : Int32) &&& 0x3f).toInt64.toUInt64).toInt64)
      omega
    · have h1 := c_lshl (((o.toUInt64 >>> ((1 : Int32) &&& 0x3f).toInt64.toUInt64).toInt64).toInt32.toInt64) 1 1 rfl
      rw [c_i2l] at h1; omega
  · rw [if_pos rfl]
    refine own_core 4 (by decide) ?_ ?_ (c_ldiv o 4 4 rfl (by decide)) (c_lrem o 4 4 rfl)
    · have h1 := c_lushr o 2 2 rfl (by decide)
      have h2 := c_l2i ((o.toUInt64 >>> ((2 : Int32) &&& 0x3f).toInt64.toUInt64).toInt64)
      omega
    · have h1 := c_lshl (((o.toUInt64 >>> ((2 : Int32) &&& 0x3f).toInt64.toUInt64).toInt64).toInt32.toInt64) 2 2 rfl
      rw [c_i2l] at h1; omega
  · rw [if_neg (by decide), if_pos rfl]
    refine own_core 8 (by decide) ?_ ?_ (c_ldiv o 8 8 rfl (by decide)) (c_lrem o 8 8 rfl)
    · have h1 := c_lushr o 3 3 rfl (by decide)
      have h2 := c_l2i ((o.toUInt64 >>> ((3 : Int32) &&& 0x3f).toInt64.toUInt64).toInt64)
      omega
    · have h1 := c_lshl (((o.toUInt64 >>> ((3 : Int32) &&& 0x3f).toInt64.toUInt64).toInt64).toInt32.toInt64) 3 3 rfl
      rw [c_i2l] at h1; omega

theorem own_pn1 : plainName "com/example/bridgehead/bridgehead/ValueLayoutIndexAtPinLaw" = true := by first | (simp [plainName, overriddenIn]; done) | decide +kernel
theorem own_ef_own_rm0 (m : MethodId) (x0 : Int32) (x1 : Int64) (x2 : Int64) (x3 : Int32) (x4 : Int32) (x5 : Int32) : entryFrame m #[(.int x0), (.long x1), (.long x2), (.int x3), (.int x4), (.int x5)] maxLocals = mkF m 0 #[.val (.int x0), .val (.long x1), .second, .val (.long x2), .second, .val (.int x3), .val (.int x4), .val (.int x5), .unset, .unset, .unset, .unset, .unset, .unset, .unset, .unset, .unset, .unset, .unset] [] := by first | (simp [entryFrame, mkF, argsToLocals, Value.category, maxLocals]; done) | rfl
theorem own_pd1 : parseMethodDescriptor "(JJ)I" = some ⟨[.long, .long], some .int⟩ := by decide +kernel
def own_Q_rm0 (Z : State) (p1 : Int32) (q2 : Int64) (q3 : Int64) (p4 : Int32) (p5 : Int32) (p6 : Int32) (h0 : Heap) (n0 : Nat) (v : Option Value) (h : Heap) (L : List Loc) : Prop := v = some (.int 1) ∧ Fr n0 L
set_option maxRecDepth 65536 in
set_option maxHeartbeats 40000000 in
theorem own_rm0 (l : Launch) (Z : State) (a0 : Array Value) (hw : ∀ d ∈ tables_1, d.before a0 Z = true) (ws : List Jvm.Cond) (p1 : Int32) (q2 : Int64) (q3 : Int64) (p4 : Int32) (p5 : Int32) (p6 : Int32) (h0 : Heap) (n0 : Nat) :
    MetFree l x (head1 (Jvm.Cond.code x code maxLocals ret :: ws) room_1) (fun a U => a = #[(.int p1), (.long q2), (.long q3), (.int p4), (.int p5), (.int p6)] ∧ Z.Warmed39 U.vm ∧ U.heap = h0) (fun _ _ _ _ _ => True) (fun _ U o U' => ∃ v L, o = .returned v ∧ own_Q_rm0 Z p1 q2 q3 p4 p5 p6 h0 n0 v U'.heap L ∧ FrameEnd U o U' L 0 0) := by
  refine MetFree.of_bodySF (plainFor_of_name own_pn1) hisR ?_
  intro p e s m args below meth c s₁ Bd hml0 hP hK
  obtain ⟨rfl, hZ, hh⟩ := hP
  have hx := Bd.exec
  have hby := Bd.bytes
  have hret := Bd.returns
  have hlk := Bd.notSynchronized
  have hml : c.maxLocals = 19 := hml0
  have hown : s.vm.findClass "com/example/bridgehead/bridgehead/ValueLayoutIndexAtPinLaw" = some m.cls := findClass_of_methodNamed Bd.named
  have hnm := (name_of_methodNamed Bd.named Bd.method).1
  have X0 : Stand p l e room_1 s m #[(.int p1), (.long q2), (.long q3), (.int p4), (.int p5), (.int p6)] below meth c s₁ [] 0 0 := Stand.of_body Bd
  have e0 : s₁.heap = h0 := by rw [← hh, Bd.state]; rfl
  have N0 := Fr.nil n0
  refine own_Go.cast (own_ef_own_rm0 m p1 q2 q3 p4 p5 p6) ?_
  refine own_step (T' := s₁) (f' := (mkF m 5 #[.val (.int p1), .val (.long q2), .second, .val (.long q3), .second, .val (.int p4), .val (.int p5), .val (.int p6), .unset, .unset, .unset, .unset, .unset, .unset, .unset, .unset, .unset, .unset, .unset] [(.long ((1 : Int64) <<< ((p1 &&& (3 : Int32)) &&& 0x3f).toInt64))])) (fun t k => ?_) ?_
  · show Steps p.tables e below (s₁.setTop (mkF m 0 #[.val (.int p1), .val (.long q2), .second, .val (.long q3), .second, .val (.int p4), .val (.int p5), .val (.int p6), .unset, .unset, .unset, .unset, .unset, .unset, .unset, .unset, .unset, .unset, .unset] [])) _
    refine XS.lconst X0.here hx rfl (hb hby at_0) ?_
    show Steps p.tables e below (s₁.setTop (mkF m 1 #[.val (.int p1), .val (.long q2), .second, .val (.long q3), .second, .val (.int p4), .val (.int p5), .val (.int p6), .unset, .unset, .unset, .unset, .unset, .unset, .unset, .unset, .unset, .unset, .unset] [(.long (1 : Int64))])) _
    refine XS.iloadN X0.here hx rfl (hb hby at_1) rfl ?_
    show Steps p.tables e below (s₁.setTop (mkF m 2 #[.val (.int p1), .val (.long q2), .second, .val (.long q3), .second, .val (.int p4), .val (.int p5), .val (.int p6), .unset, .unset, .unset, .unset, .unset, .unset, .unset, .unset, .unset, .unset, .unset] [(.int p1), (.long (1 : Int64))])) _
    refine XS.iconst X0.here hx rfl (hb hby at_2) ?_
    show Steps p.tables e below (s₁.setTop (mkF m 3 #[.val (.int p1), .val (.long q2), .second, .val (.long q3), .second, .val (.int p4), .val (.int p5), .val (.int p6), .unset, .unset, .unset, .unset, .unset, .unset, .unset, .unset, .unset, .unset, .unset] [(.int (3 : Int32)), (.int p1), (.long (1 : Int64))])) _
    refine XS.iand X0.here hx rfl (hb hby at_3) rfl ?_
    show Steps p.tables e below (s₁.setTop (mkF m 4 #[.val (.int p1), .val (.long q2), .second, .val (.long q3), .second, .val (.int p4), .val (.int p5), .val (.int p6), .unset, .unset, .unset, .unset, .unset, .unset, .unset, .unset, .unset, .unset, .unset] [(.int (p1 &&& (3 : Int32))), (.long (1 : Int64))])) _
    refine XS.lshl X0.here hx rfl (hb hby at_4) rfl ?_
    exact k
  show own_Go p e below s₁ (mkF m 5 #[.val (.int p1), .val (.long q2), .second, .val (.long q3), .second, .val (.int p4), .val (.int p5), .val (.int p6), .unset, .unset, .unset, .unset, .unset, .unset, .unset, .unset, .unset, .unset, .unset] [(.long ((1 : Int64) <<< ((p1 &&& (3 : Int32)) &&& 0x3f).toInt64))]) _
  obtain ⟨yS, hyS⟩ : ∃ z : Int64, z = ((1 : Int64) <<< ((p1 &&& (3 : Int32)) &&& 0x3f).toInt64) := ⟨_, rfl⟩
  rw [← hyS]
  have hS := own_S hyS
  have hnz := own_nz hS
  refine own_step (T' := s₁) (f' := (mkF m 21 #[.val (.int p1), .val (.long q2), .second, .val (.long q3), .second, .val (.int p4), .val (.int p5), .val (.int p6), .val (.long yS), .second, .val (.long (yS ||| (q2 &&& (-256 : Int64)))), .second, .unset, .unset, .unset, .unset, .unset, .unset, .unset] [(.int (p6 &&& (1 : Int32)))])) (fun t k => ?_) ?_
  · show Steps p.tables e below (s₁.setTop (mkF m 5 #[.val (.int p1), .val (.long q2), .second, .val (.long q3), .second, .val (.int p4), .val (.int p5), .val (.int p6), .unset, .unset, .unset, .unset, .unset, .unset, .unset, .unset, .unset, .unset, .unset] [(.long yS)])) _
    refine XS.lstore X0.here hx rfl (hb hby at_5) rfl (l' := #[.val (.int p1), .val (.long q2), .second, .val (.long q3), .second, .val (.int p4), .val (.int p5), .val (.int p6), .val (.long yS), .second, .unset, .unset, .unset, .unset, .unset, .unset, .unset, .unset, .unset]) rfl ?_
    show Steps p.tables e below (s₁.setTop (mkF m 7 #[.val (.int p1), .val (.long q2), .second, .val (.long q3), .second, .val (.int p4), .val (.int p5), .val (.int p6), .val (.long yS), .second, .unset, .unset, .unset, .unset, .unset, .unset, .unset, .unset, .unset] [])) _
    refine XS.lload X0.here hx rfl (hb hby at_7) rfl ?_
    show Steps p.tables e below (s₁.setTop (mkF m 9 #[.val (.int p1), .val (.long q2), .second, .val (.long q3), .second, .val (.int p4), .val (.int p5), .val (.int p6), .val (.long yS), .second, .unset, .unset, .unset, .unset, .unset, .unset, .unset, .unset, .unset] [(.long yS)])) _
    refine XS.lloadN X0.here hx rfl (hb hby at_9) rfl ?_
    show Steps p.tables e below (s₁.setTop (mkF m 10 #[.val (.int p1), .val (.long q2), .second, .val (.long q3), .second, .val (.int p4), .val (.int p5), .val (.int p6), .val (.long yS), .second, .unset, .unset, .unset, .unset, .unset, .unset, .unset, .unset, .unset] [(.long q2), (.long yS)])) _
    refine X0.ldc2Long hx hown (mvT hZ (hw _ (List.mem_of_getElem? (i := 0) rfl))) (g := (mkF m 10 #[.val (.int p1), .val (.long q2), .second, .val (.long q3), .second, .val (.int p4), .val (.int p5), .val (.int p6), .val (.long yS), .second, .unset, .unset, .unset, .unset, .unset, .unset, .unset, .unset, .unset] [(.long q2), (.long yS)])) rfl (hb hby at_10) _ ?_
    show Steps p.tables e below (s₁.setTop (mkF m 13 #[.val (.int p1), .val (.long q2), .second, .val (.long q3), .second, .val (.int p4), .val (.int p5), .val (.int p6), .val (.long yS), .second, .unset, .unset, .unset, .unset, .unset, .unset, .unset, .unset, .unset] [(.long (-256 : Int64)), (.long q2), (.long yS)])) _
    refine XS.land X0.here hx rfl (hb hby at_13) rfl ?_
    show Steps p.tables e below (s₁.setTop (mkF m 14 #[.val (.int p1), .val (.long q2), .second, .val (.long q3), .second, .val (.int p4), .val (.int p5), .val (.int p6), .val (.long yS), .second, .unset, .unset, .unset, .unset, .unset, .unset, .unset, .unset, .unset] [(.long (q2 &&& (-256 : Int64))), (.long yS)])) _
    refine XS.lor X0.here hx rfl (hb hby at_14) rfl ?_
    show Steps p.tables e below (s₁.setTop (mkF m 15 #[.val (.int p1), .val (.long q2), .second, .val (.long q3), .second, .val (.int p4), .val (.int p5), .val (.int p6), .val (.long yS), .second, .unset, .unset, .unset, .unset, .unset, .unset, .unset, .unset, .unset] [(.long (yS ||| (q2 &&& (-256 : Int64))))])) _
    refine XS.lstore X0.here hx rfl (hb hby at_15) rfl (l' := #[.val (.int p1), .val (.long q2), .second, .val (.long q3), .second, .val (.int p4), .val (.int p5), .val (.int p6), .val (.long yS), .second, .val (.long (yS ||| (q2 &&& (-256 : Int64)))), .second, .unset, .unset, .unset, .unset, .unset, .unset, .unset]) rfl ?_
    show Steps p.tables e below (s₁.setTop (mkF m 17 #[.val (.int p1), .val (.long q2), .second, .val (.long q3), .second, .val (.int p4), .val (.int p5), .val (.int p6), .val (.long yS), .second, .val (.long (yS ||| (q2 &&& (-256 : Int64)))), .second, .unset, .unset, .unset, .unset, .unset, .unset, .unset] [])) _
    refine XS.iload X0.here hx rfl (hb hby at_17) rfl ?_
    show Steps p.tables e below (s₁.setTop (mkF m 19 #[.val (.int p1), .val (.long q2), .second, .val (.long q3), .second, .val (.int p4), .val (.int p5), .val (.int p6), .val (.long yS), .second, .val (.long (yS ||| (q2 &&& (-256 : Int64)))), .second, .unset, .unset, .unset, .unset, .unset, .unset, .unset] [(.int p6)])) _
    refine XS.iconst X0.here hx rfl (hb hby at_19) ?_
    show Steps p.tables e below (s₁.setTop (mkF m 20 #[.val (.int p1), .val (.long q2), .second, .val (.long q3), .second, .val (.int p4), .val (.int p5), .val (.int p6), .val (.long yS), .second, .val (.long (yS ||| (q2 &&& (-256 : Int64)))), .second, .unset, .unset, .unset, .unset, .unset, .unset, .unset] [(.int (1 : Int32)), (.int p6)])) _
    refine XS.iand X0.here hx rfl (hb hby at_20) rfl ?_
    exact k
  by_cases hc21_1 : (p6 &&& (1 : Int32)) = (0 : Int32)
  · refine own_step (T' := s₁) (f' := (mkF m 55 #[.val (.int p1), .val (.long q2), .second, .val (.long q3), .second, .val (.int p4), .val (.int p5), .val (.int p6), .val (.long yS), .second, .val (.long (yS ||| (q2 &&& (-256 : Int64)))), .second, .unset, .unset, .val (.long ((p4.toInt64) + (((p5 - (p5 / (3 : Int32)) * (3 : Int32)).toInt64) <<< ((31 : Int32) &&& 0x3f).toInt64))), .second, .val (.long (((p6 >>> ((1 : Int32) &&& 31)) - ((p6 >>> ((1 : Int32) &&& 31)) / (3 : Int32)) * (3 : Int32)).toInt64)), .second, .unset] [(.long ((((p4.toInt64) + (((p5 - (p5 / (3 : Int32)) * (3 : Int32)).toInt64) <<< ((31 : Int32) &&& 0x3f).toInt64)) * yS) + (((p6 >>> ((1 : Int32) &&& 31)) - ((p6 >>> ((1 : Int32) &&& 31)) / (3 : Int32)) * (3 : Int32)).toInt64)))])) (fun t k => ?_) ?_
    · show Steps p.tables e below (s₁.setTop (mkF m 21 #[.val (.int p1), .val (.long q2), .second, .val (.long q3), .second, .val (.int p4), .val (.int p5), .val (.int p6), .val (.long yS), .second, .val (.long (yS ||| (q2 &&& (-256 : Int64)))), .second, .unset, .unset, .unset, .unset, .unset, .unset, .unset] [(.int (p6 &&& (1 : Int32)))])) _
      refine XS.ifNo X0.here hx rfl (hb hby at_21) rfl ((if0 _ _).trans (teq hc21_1).2) ?_
      show Steps p.tables e below (s₁.setTop (mkF m 24 #[.val (.int p1), .val (.long q2), .second, .val (.long q3), .second, .val (.int p4), .val (.int p5), .val (.int p6), .val (.long yS), .second, .val (.long (yS ||| (q2 &&& (-256 : Int64)))), .second, .unset, .unset, .unset, .unset, .unset, .unset, .unset] [])) _
      refine XS.iload X0.here hx rfl (hb hby at_24) rfl ?_
      show Steps p.tables e below (s₁.setTop (mkF m 26 #[.val (.int p1), .val (.long q2), .second, .val (.long q3), .second, .val (.int p4), .val (.int p5), .val (.int p6), .val (.long yS), .second, .val (.long (yS ||| (q2 &&& (-256 : Int64)))), .second, .unset, .unset, .unset, .unset, .unset, .unset, .unset] [(.int p4)])) _
      refine XS.i2l X0.here hx rfl (hb hby at_26) rfl ?_
      show Steps p.tables e below (s₁.setTop (mkF m 27 #[.val (.int p1), .val (.long q2), .second, .val (.long q3), .second, .val (.int p4), .val (.int p5), .val (.int p6), .val (.long yS), .second, .val (.long (yS ||| (q2 &&& (-256 : Int64)))), .second, .unset, .unset, .unset, .unset, .unset, .unset, .unset] [(.long (p4.toInt64))])) _
      refine XS.iload X0.here hx rfl (hb hby at_27) rfl ?_
      show Steps p.tables e below (s₁.setTop (mkF m 29 #[.val (.int p1), .val (.long q2), .second, .val (.long q3), .second, .val (.int p4), .val (.int p5), .val (.int p6), .val (.long yS), .second, .val (.long (yS ||| (q2 &&& (-256 : Int64)))), .second, .unset, .unset, .unset, .unset, .unset, .unset, .unset] [(.int p5), (.long (p4.toInt64))])) _
      refine XS.iconst X0.here hx rfl (hb hby at_29) ?_
      show Steps p.tables e below (s₁.setTop (mkF m 30 #[.val (.int p1), .val (.long q2), .second, .val (.long q3), .second, .val (.int p4), .val (.int p5), .val (.int p6), .val (.long yS), .second, .val (.long (yS ||| (q2 &&& (-256 : Int64)))), .second, .unset, .unset, .unset, .unset, .unset, .unset, .unset] [(.int (3 : Int32)), (.int p5), (.long (p4.toInt64))])) _
      refine XS.irem X0.here hx rfl (hb hby at_30) rfl (by decide) ?_
      show Steps p.tables e below (s₁.setTop (mkF m 31 #[.val (.int p1), .val (.long q2), .second, .val (.long q3), .second, .val (.int p4), .val (.int p5), .val (.int p6), .val (.long yS), .second, .val (.long (yS ||| (q2 &&& (-256 : Int64)))), .second, .unset, .unset, .unset, .unset, .unset, .unset, .unset] [(.int (p5 - (p5 / (3 : Int32)) * (3 : Int32))), (.long (p4.toInt64))])) _
      refine XS.i2l X0.here hx rfl (hb hby at_31) rfl ?_
      show Steps p.tables e below (s₁.setTop (mkF m 32 #[.val (.int p1), .val (.long q2), .second, .val (.long q3), .second, .val (.int p4), .val (.int p5), .val (.int p6), .val (.long yS), .second, .val (.long (yS ||| (q2 &&& (-256 : Int64)))), .second, .unset, .unset, .unset, .unset, .unset, .unset, .unset] [(.long ((p5 - (p5 / (3 : Int32)) * (3 : Int32)).toInt64)), (.long (p4.toInt64))])) _
      refine XS.bipush X0.here hx rfl (hb hby at_32) ?_
      show Steps p.tables e below (s₁.setTop (mkF m 34 #[.val (.int p1), .val (.long q2), .second, .val (.long q3), .second, .val (.int p4), .val (.int p5), .val (.int p6), .val (.long yS), .second, .val (.long (yS ||| (q2 &&& (-256 : Int64)))), .second, .unset, .unset, .unset, .unset, .unset, .unset, .unset] [(.int (31 : Int32)), (.long ((p5 - (p5 / (3 : Int32)) * (3 : Int32)).toInt64)), (.long (p4.toInt64))])) _
      refine XS.lshl X0.here hx rfl (hb hby at_34) rfl ?_
      show Steps p.tables e below (s₁.setTop (mkF m 35 #[.val (.int p1), .val (.long q2), .second, .val (.long q3), .second, .val (.int p4), .val (.int p5), .val (.int p6), .val (.long yS), .second, .val (.long (yS ||| (q2 &&& (-256 : Int64)))), .second, .unset, .unset, .unset, .unset, .unset, .unset, .unset] [(.long (((p5 - (p5 / (3 : Int32)) * (3 : Int32)).toInt64) <<< ((31 : Int32) &&& 0x3f).toInt64)), (.long (p4.toInt64))])) _
      refine XS.ladd X0.here hx rfl (hb hby at_35) rfl ?_
      show Steps p.tables e below (s₁.setTop (mkF m 36 #[.val (.int p1), .val (.long q2), .second, .val (.long q3), .second, .val (.int p4), .val (.int p5), .val (.int p6), .val (.long yS), .second, .val (.long (yS ||| (q2 &&& (-256 : Int64)))), .second, .unset, .unset, .unset, .unset, .unset, .unset, .unset] [(.long ((p4.toInt64) + (((p5 - (p5 / (3 : Int32)) * (3 : Int32)).toInt64) <<< ((31 : Int32) &&& 0x3f).toInt64)))])) _
      refine XS.lstore X0.here hx rfl (hb hby at_36) rfl (l' := #[.val (.int p1), .val (.long q2), .second, .val (.long q3), .second, .val (.int p4), .val (.int p5), .val (.int p6), .val (.long yS), .second, .val (.long (yS ||| (q2 &&& (-256 : Int64)))), .second, .unset, .unset, .val (.long ((p4.toInt64) + (((p5 - (p5 / (3 : Int32)) * (3 : Int32)).toInt64) <<< ((31 : Int32) &&& 0x3f).toInt64))), .second, .unset, .unset, .unset]) rfl ?_
      show Steps p.tables e below (s₁.setTop (mkF m 38 #[.val (.int p1), .val (.long q2), .second, .val (.long q3), .second, .val (.int p4), .val (.int p5), .val (.int p6), .val (.long yS), .second, .val (.long (yS ||| (q2 &&& (-256 : Int64)))), .second, .unset, .unset, .val (.long ((p4.toInt64) + (((p5 - (p5 / (3 : Int32)) * (3 : Int32)).toInt64) <<< ((31 : Int32) &&& 0x3f).toInt64))), .second, .unset, .unset, .unset] [])) _
      refine XS.iload X0.here hx rfl (hb hby at_38) rfl ?_
      show Steps p.tables e below (s₁.setTop (mkF m 40 #[.val (.int p1), .val (.long q2), .second, .val (.long q3), .second, .val (.int p4), .val (.int p5), .val (.int p6), .val (.long yS), .second, .val (.long (yS ||| (q2 &&& (-256 : Int64)))), .second, .unset, .unset, .val (.long ((p4.toInt64) + (((p5 - (p5 / (3 : Int32)) * (3 : Int32)).toInt64) <<< ((31 : Int32) &&& 0x3f).toInt64))), .second, .unset, .unset, .unset] [(.int p6)])) _
      refine XS.iconst X0.here hx rfl (hb hby at_40) ?_
      show Steps p.tables e below (s₁.setTop (mkF m 41 #[.val (.int p1), .val (.long q2), .second, .val (.long q3), .second, .val (.int p4), .val (.int p5), .val (.int p6), .val (.long yS), .second, .val (.long (yS ||| (q2 &&& (-256 : Int64)))), .second, .unset, .unset, .val (.long ((p4.toInt64) + (((p5 - (p5 / (3 : Int32)) * (3 : Int32)).toInt64) <<< ((31 : Int32) &&& 0x3f).toInt64))), .second, .unset, .unset, .unset] [(.int (1 : Int32)), (.int p6)])) _
      refine XS.ishr X0.here hx rfl (hb hby at_41) rfl ?_
      show Steps p.tables e below (s₁.setTop (mkF m 42 #[.val (.int p1), .val (.long q2), .second, .val (.long q3), .second, .val (.int p4), .val (.int p5), .val (.int p6), .val (.long yS), .second, .val (.long (yS ||| (q2 &&& (-256 : Int64)))), .second, .unset, .unset, .val (.long ((p4.toInt64) + (((p5 - (p5 / (3 : Int32)) * (3 : Int32)).toInt64) <<< ((31 : Int32) &&& 0x3f).toInt64))), .second, .unset, .unset, .unset] [(.int (p6 >>> ((1 : Int32) &&& 31)))])) _
      refine XS.iconst X0.here hx rfl (hb hby at_42) ?_
      show Steps p.tables e below (s₁.setTop (mkF m 43 #[.val (.int p1), .val (.long q2), .second, .val (.long q3), .second, .val (.int p4), .val (.int p5), .val (.int p6), .val (.long yS), .second, .val (.long (yS ||| (q2 &&& (-256 : Int64)))), .second, .unset, .unset, .val (.long ((p4.toInt64) + (((p5 - (p5 / (3 : Int32)) * (3 : Int32)).toInt64) <<< ((31 : Int32) &&& 0x3f).toInt64))), .second, .unset, .unset, .unset] [(.int (3 : Int32)), (.int (p6 >>> ((1 : Int32) &&& 31)))])) _
      refine XS.irem X0.here hx rfl (hb hby at_43) rfl (by decide) ?_
      show Steps p.tables e below (s₁.setTop (mkF m 44 #[.val (.int p1), .val (.long q2), .second, .val (.long q3), .second, .val (.int p4), .val (.int p5), .val (.int p6), .val (.long yS), .second, .val (.long (yS ||| (q2 &&& (-256 : Int64)))), .second, .unset, .unset, .val (.long ((p4.toInt64) + (((p5 - (p5 / (3 : Int32)) * (3 : Int32)).toInt64) <<< ((31 : Int32) &&& 0x3f).toInt64))), .second, .unset, .unset, .unset] [(.int ((p6 >>> ((1 : Int32) &&& 31)) - ((p6 >>> ((1 : Int32) &&& 31)) / (3 : Int32)) * (3 : Int32)))])) _
      refine XS.i2l X0.here hx rfl (hb hby at_44) rfl ?_
      show Steps p.tables e below (s₁.setTop (mkF m 45 #[.val (.int p1), .val (.long q2), .second, .val (.long q3), .second, .val (.int p4), .val (.int p5), .val (.int p6), .val (.long yS), .second, .val (.long (yS ||| (q2 &&& (-256 : Int64)))), .second, .unset, .unset, .val (.long ((p4.toInt64) + (((p5 - (p5 / (3 : Int32)) * (3 : Int32)).toInt64) <<< ((31 : Int32) &&& 0x3f).toInt64))), .second, .unset, .unset, .unset] [(.long (((p6 >>> ((1 : Int32) &&& 31)) - ((p6 >>> ((1 : Int32) &&& 31)) / (3 : Int32)) * (3 : Int32)).toInt64))])) _
      refine XS.lstore X0.here hx rfl (hb hby at_45) rfl (l' := #[.val (.int p1), .val (.long q2), .second, .val (.long q3), .second, .val (.int p4), .val (.int p5), .val (.int p6), .val (.long yS), .second, .val (.long (yS ||| (q2 &&& (-256 : Int64)))), .second, .unset, .unset, .val (.long ((p4.toInt64) + (((p5 - (p5 / (3 : Int32)) * (3 : Int32)).toInt64) <<< ((31 : Int32) &&& 0x3f).toInt64))), .second, .val (.long (((p6 >>> ((1 : Int32) &&& 31)) - ((p6 >>> ((1 : Int32) &&& 31)) / (3 : Int32)) * (3 : Int32)).toInt64)), .second, .unset]) rfl ?_
      show Steps p.tables e below (s₁.setTop (mkF m 47 #[.val (.int p1), .val (.long q2), .second, .val (.long q3), .second, .val (.int p4), .val (.int p5), .val (.int p6), .val (.long yS), .second, .val (.long (yS ||| (q2 &&& (-256 : Int64)))), .second, .unset, .unset, .val (.long ((p4.toInt64) + (((p5 - (p5 / (3 : Int32)) * (3 : Int32)).toInt64) <<< ((31 : Int32) &&& 0x3f).toInt64))), .second, .val (.long (((p6 >>> ((1 : Int32) &&& 31)) - ((p6 >>> ((1 : Int32) &&& 31)) / (3 : Int32)) * (3 : Int32)).toInt64)), .second, .unset] [])) _
      refine XS.lload X0.here hx rfl (hb hby at_47) rfl ?_
      show Steps p.tables e below (s₁.setTop (mkF m 49 #[.val (.int p1), .val (.long q2), .second, .val (.long q3), .second, .val (.int p4), .val (.int p5), .val (.int p6), .val (.long yS), .second, .val (.long (yS ||| (q2 &&& (-256 : Int64)))), .second, .unset, .unset, .val (.long ((p4.toInt64) + (((p5 - (p5 / (3 : Int32)) * (3 : Int32)).toInt64) <<< ((31 : Int32) &&& 0x3f).toInt64))), .second, .val (.long (((p6 >>> ((1 : Int32) &&& 31)) - ((p6 >>> ((1 : Int32) &&& 31)) / (3 : Int32)) * (3 : Int32)).toInt64)), .second, .unset] [(.long ((p4.toInt64) + (((p5 - (p5 / (3 : Int32)) * (3 : Int32)).toInt64) <<< ((31 : Int32) &&& 0x3f).toInt64)))])) _
      refine XS.lload X0.here hx rfl (hb hby at_49) rfl ?_
      show Steps p.tables e below (s₁.setTop (mkF m 51 #[.val (.int p1), .val (.long q2), .second, .val (.long q3), .second, .val (.int p4), .val (.int p5), .val (.int p6), .val (.long yS), .second, .val (.long (yS ||| (q2 &&& (-256 : Int64)))), .second, .unset, .unset, .val (.long ((p4.toInt64) + (((p5 - (p5 / (3 : Int32)) * (3 : Int32)).toInt64) <<< ((31 : Int32) &&& 0x3f).toInt64))), .second, .val (.long (((p6 >>> ((1 : Int32) &&& 31)) - ((p6 >>> ((1 : Int32) &&& 31)) / (3 : Int32)) * (3 : Int32)).toInt64)), .second, .unset] [(.long yS), (.long ((p4.toInt64) + (((p5 - (p5 / (3 : Int32)) * (3 : Int32)).toInt64) <<< ((31 : Int32) &&& 0x3f).toInt64)))])) _
      refine XS.lmul X0.here hx rfl (hb hby at_51) rfl ?_
      show Steps p.tables e below (s₁.setTop (mkF m 52 #[.val (.int p1), .val (.long q2), .second, .val (.long q3), .second, .val (.int p4), .val (.int p5), .val (.int p6), .val (.long yS), .second, .val (.long (yS ||| (q2 &&& (-256 : Int64)))), .second, .unset, .unset, .val (.long ((p4.toInt64) + (((p5 - (p5 / (3 : Int32)) * (3 : Int32)).toInt64) <<< ((31 : Int32) &&& 0x3f).toInt64))), .second, .val (.long (((p6 >>> ((1 : Int32) &&& 31)) - ((p6 >>> ((1 : Int32) &&& 31)) / (3 : Int32)) * (3 : Int32)).toInt64)), .second, .unset] [(.long (((p4.toInt64) + (((p5 - (p5 / (3 : Int32)) * (3 : Int32)).toInt64) <<< ((31 : Int32) &&& 0x3f).toInt64)) * yS))])) _
      refine XS.lload X0.here hx rfl (hb hby at_52) rfl ?_
      show Steps p.tables e below (s₁.setTop (mkF m 54 #[.val (.int p1), .val (.long q2), .second, .val (.long q3), .second, .val (.int p4), .val (.int p5), .val (.int p6), .val (.long yS), .second, .val (.long (yS ||| (q2 &&& (-256 : Int64)))), .second, .unset, .unset, .val (.long ((p4.toInt64) + (((p5 - (p5 / (3 : Int32)) * (3 : Int32)).toInt64) <<< ((31 : Int32) &&& 0x3f).toInt64))), .second, .val (.long (((p6 >>> ((1 : Int32) &&& 31)) - ((p6 >>> ((1 : Int32) &&& 31)) / (3 : Int32)) * (3 : Int32)).toInt64)), .second, .unset] [(.long (((p6 >>> ((1 : Int32) &&& 31)) - ((p6 >>> ((1 : Int32) &&& 31)) / (3 : Int32)) * (3 : Int32)).toInt64)), (.long (((p4.toInt64) + (((p5 - (p5 / (3 : Int32)) * (3 : Int32)).toInt64) <<< ((31 : Int32) &&& 0x3f).toInt64)) * yS))])) _
      refine XS.ladd X0.here hx rfl (hb hby at_54) rfl ?_
      exact k
    show own_Go p e below s₁ (mkF m 55 #[.val (.int p1), .val (.long q2), .second, .val (.long q3), .second, .val (.int p4), .val (.int p5), .val (.int p6), .val (.long yS), .second, .val (.long (yS ||| (q2 &&& (-256 : Int64)))), .second, .unset, .unset, .val (.long ((p4.toInt64) + (((p5 - (p5 / (3 : Int32)) * (3 : Int32)).toInt64) <<< ((31 : Int32) &&& 0x3f).toInt64))), .second, .val (.long (((p6 >>> ((1 : Int32) &&& 31)) - ((p6 >>> ((1 : Int32) &&& 31)) / (3 : Int32)) * (3 : Int32)).toInt64)), .second, .unset] [(.long ((((p4.toInt64) + (((p5 - (p5 / (3 : Int32)) * (3 : Int32)).toInt64) <<< ((31 : Int32) &&& 0x3f).toInt64)) * yS) + (((p6 >>> ((1 : Int32) &&& 31)) - ((p6 >>> ((1 : Int32) &&& 31)) / (3 : Int32)) * (3 : Int32)).toInt64)))]) _
    obtain ⟨yO, hyO⟩ : ∃ z : Int64, z = ((((p4.toInt64) + (((p5 - (p5 / (3 : Int32)) * (3 : Int32)).toInt64) <<< ((31 : Int32) &&& 0x3f).toInt64)) * yS) + (((p6 >>> ((1 : Int32) &&& 31)) - ((p6 >>> ((1 : Int32) &&& 31)) / (3 : Int32)) * (3 : Int32)).toInt64)) := ⟨_, rfl⟩
    rw [← hyO]
    refine own_step (T' := s₁) (f' := (mkF m 81 #[.val (.int p1), .val (.long q2), .second, .val (.long q3), .second, .val (.int p4), .val (.int p5), .val (.int p6), .val (.long yS), .second, .val (.long (yS ||| (q2 &&& (-256 : Int64)))), .second, .val (.long yO), .second, .val (.long (yO / yS)), .second, .val (.long (yO - (yO / yS) * yS)), .second, .unset] [(.int (lcmpW (yO - (yO / yS) * yS) (0 : Int64)))])) (fun t k => ?_) ?_
    · show Steps p.tables e below (s₁.setTop (mkF m 55 #[.val (.int p1), .val (.long q2), .second, .val (.long q3), .second, .val (.int p4), .val (.int p5), .val (.int p6), .val (.long yS), .second, .val (.long (yS ||| (q2 &&& (-256 : Int64)))), .second, .unset, .unset, .val (.long ((p4.toInt64) + (((p5 - (p5 / (3 : Int32)) * (3 : Int32)).toInt64) <<< ((31 : Int32) &&& 0x3f).toInt64))), .second, .val (.long (((p6 >>> ((1 : Int32) &&& 31)) - ((p6 >>> ((1 : Int32) &&& 31)) / (3 : Int32)) * (3 : Int32)).toInt64)), .second, .unset] [(.long yO)])) _
      refine XS.lstore X0.here hx rfl (hb hby at_55) rfl (l' := #[.val (.int p1), .val (.long q2), .second, .val (.long q3), .second, .val (.int p4), .val (.int p5), .val (.int p6), .val (.long yS), .second, .val (.long (yS ||| (q2 &&& (-256 : Int64)))), .second, .val (.long yO), .second, .val (.long ((p4.toInt64) + (((p5 - (p5 / (3 : Int32)) * (3 : Int32)).toInt64) <<< ((31 : Int32) &&& 0x3f).toInt64))), .second, .val (.long (((p6 >>> ((1 : Int32) &&& 31)) - ((p6 >>> ((1 : Int32) &&& 31)) / (3 : Int32)) * (3 : Int32)).toInt64)), .second, .unset]) rfl ?_
      show Steps p.tables e below (s₁.setTop (mkF m 57 #[.val (.int p1), .val (.long q2), .second, .val (.long q3), .second, .val (.int p4), .val (.int p5), .val (.int p6), .val (.long yS), .second, .val (.long (yS ||| (q2 &&& (-256 : Int64)))), .second, .val (.long yO), .second, .val (.long ((p4.toInt64) + (((p5 - (p5 / (3 : Int32)) * (3 : Int32)).toInt64) <<< ((31 : Int32) &&& 0x3f).toInt64))), .second, .val (.long (((p6 >>> ((1 : Int32) &&& 31)) - ((p6 >>> ((1 : Int32) &&& 31)) / (3 : Int32)) * (3 : Int32)).toInt64)), .second, .unset] [])) _
      refine XS.goto X0.here hx rfl (pc0 := 57) (pc' := 63) rfl (hb hby at_57) (by decide) (by decide) ?_
      show Steps p.tables e below (s₁.setTop (mkF m 63 #[.val (.int p1), .val (.long q2), .second, .val (.long q3), .second, .val (.int p4), .val (.int p5), .val (.int p6), .val (.long yS), .second, .val (.long (yS ||| (q2 &&& (-256 : Int64)))), .second, .val (.long yO), .second, .val (.long ((p4.toInt64) + (((p5 - (p5 / (3 : Int32)) * (3 : Int32)).toInt64) <<< ((31 : Int32) &&& 0x3f).toInt64))), .second, .val (.long (((p6 >>> ((1 : Int32) &&& 31)) - ((p6 >>> ((1 : Int32) &&& 31)) / (3 : Int32)) * (3 : Int32)).toInt64)), .second, .unset] [])) _
      refine XS.lload X0.here hx rfl (hb hby at_63) rfl ?_
      show Steps p.tables e below (s₁.setTop (mkF m 65 #[.val (.int p1), .val (.long q2), .second, .val (.long q3), .second, .val (.int p4), .val (.int p5), .val (.int p6), .val (.long yS), .second, .val (.long (yS ||| (q2 &&& (-256 : Int64)))), .second, .val (.long yO), .second, .val (.long ((p4.toInt64) + (((p5 - (p5 / (3 : Int32)) * (3 : Int32)).toInt64) <<< ((31 : Int32) &&& 0x3f).toInt64))), .second, .val (.long (((p6 >>> ((1 : Int32) &&& 31)) - ((p6 >>> ((1 : Int32) &&& 31)) / (3 : Int32)) * (3 : Int32)).toInt64)), .second, .unset] [(.long yO)])) _
      refine XS.lload X0.here hx rfl (hb hby at_65) rfl ?_
      show Steps p.tables e below (s₁.setTop (mkF m 67 #[.val (.int p1), .val (.long q2), .second, .val (.long q3), .second, .val (.int p4), .val (.int p5), .val (.int p6), .val (.long yS), .second, .val (.long (yS ||| (q2 &&& (-256 : Int64)))), .second, .val (.long yO), .second, .val (.long ((p4.toInt64) + (((p5 - (p5 / (3 : Int32)) * (3 : Int32)).toInt64) <<< ((31 : Int32) &&& 0x3f).toInt64))), .second, .val (.long (((p6 >>> ((1 : Int32) &&& 31)) - ((p6 >>> ((1 : Int32) &&& 31)) / (3 : Int32)) * (3 : Int32)).toInt64)), .second, .unset] [(.long yS), (.long yO)])) _
      refine XS.ldiv X0.here hx rfl (hb hby at_67) rfl hnz ?_
      show Steps p.tables e below (s₁.setTop (mkF m 68 #[.val (.int p1), .val (.long q2), .second, .val (.long q3), .second, .val (.int p4), .val (.int p5), .val (.int p6), .val (.long yS), .second, .val (.long (yS ||| (q2 &&& (-256 : Int64)))), .second, .val (.long yO), .second, .val (.long ((p4.toInt64) + (((p5 - (p5 / (3 : Int32)) * (3 : Int32)).toInt64) <<< ((31 : Int32) &&& 0x3f).toInt64))), .second, .val (.long (((p6 >>> ((1 : Int32) &&& 31)) - ((p6 >>> ((1 : Int32) &&& 31)) / (3 : Int32)) * (3 : Int32)).toInt64)), .second, .unset] [(.long (yO / yS))])) _
      refine XS.lstore X0.here hx rfl (hb hby at_68) rfl (l' := #[.val (.int p1), .val (.long q2), .second, .val (.long q3), .second, .val (.int p4), .val (.int p5), .val (.int p6), .val (.long yS), .second, .val (.long (yS ||| (q2 &&& (-256 : Int64)))), .second, .val (.long yO), .second, .val (.long (yO / yS)), .second, .val (.long (((p6 >>> ((1 : Int32) &&& 31)) - ((p6 >>> ((1 : Int32) &&& 31)) / (3 : Int32)) * (3 : Int32)).toInt64)), .second, .unset]) rfl ?_
      show Steps p.tables e below (s₁.setTop (mkF m 70 #[.val (.int p1), .val (.long q2), .second, .val (.long q3), .second, .val (.int p4), .val (.int p5), .val (.int p6), .val (.long yS), .second, .val (.long (yS ||| (q2 &&& (-256 : Int64)))), .second, .val (.long yO), .second, .val (.long (yO / yS)), .second, .val (.long (((p6 >>> ((1 : Int32) &&& 31)) - ((p6 >>> ((1 : Int32) &&& 31)) / (3 : Int32)) * (3 : Int32)).toInt64)), .second, .unset] [])) _
      refine XS.lload X0.here hx rfl (hb hby at_70) rfl ?_
      show Steps p.tables e below (s₁.setTop (mkF m 72 #[.val (.int p1), .val (.long q2), .second, .val (.long q3), .second, .val (.int p4), .val (.int p5), .val (.int p6), .val (.long yS), .second, .val (.long (yS ||| (q2 &&& (-256 : Int64)))), .second, .val (.long yO), .second, .val (.long (yO / yS)), .second, .val (.long (((p6 >>> ((1 : Int32) &&& 31)) - ((p6 >>> ((1 : Int32) &&& 31)) / (3 : Int32)) * (3 : Int32)).toInt64)), .second, .unset] [(.long yO)])) _
      refine XS.lload X0.here hx rfl (hb hby at_72) rfl ?_
      show Steps p.tables e below (s₁.setTop (mkF m 74 #[.val (.int p1), .val (.long q2), .second, .val (.long q3), .second, .val (.int p4), .val (.int p5), .val (.int p6), .val (.long yS), .second, .val (.long (yS ||| (q2 &&& (-256 : Int64)))), .second, .val (.long yO), .second, .val (.long (yO / yS)), .second, .val (.long (((p6 >>> ((1 : Int32) &&& 31)) - ((p6 >>> ((1 : Int32) &&& 31)) / (3 : Int32)) * (3 : Int32)).toInt64)), .second, .unset] [(.long yS), (.long yO)])) _
      refine XS.lrem X0.here hx rfl (hb hby at_74) rfl hnz ?_
      show Steps p.tables e below (s₁.setTop (mkF m 75 #[.val (.int p1), .val (.long q2), .second, .val (.long q3), .second, .val (.int p4), .val (.int p5), .val (.int p6), .val (.long yS), .second, .val (.long (yS ||| (q2 &&& (-256 : Int64)))), .second, .val (.long yO), .second, .val (.long (yO / yS)), .second, .val (.long (((p6 >>> ((1 : Int32) &&& 31)) - ((p6 >>> ((1 : Int32) &&& 31)) / (3 : Int32)) * (3 : Int32)).toInt64)), .second, .unset] [(.long (yO - (yO / yS) * yS))])) _
      refine XS.lstore X0.here hx rfl (hb hby at_75) rfl (l' := #[.val (.int p1), .val (.long q2), .second, .val (.long q3), .second, .val (.int p4), .val (.int p5), .val (.int p6), .val (.long yS), .second, .val (.long (yS ||| (q2 &&& (-256 : Int64)))), .second, .val (.long yO), .second, .val (.long (yO / yS)), .second, .val (.long (yO - (yO / yS) * yS)), .second, .unset]) rfl ?_
      show Steps p.tables e below (s₁.setTop (mkF m 77 #[.val (.int p1), .val (.long q2), .second, .val (.long q3), .second, .val (.int p4), .val (.int p5), .val (.int p6), .val (.long yS), .second, .val (.long (yS ||| (q2 &&& (-256 : Int64)))), .second, .val (.long yO), .second, .val (.long (yO / yS)), .second, .val (.long (yO - (yO / yS) * yS)), .second, .unset] [])) _
      refine XS.lload X0.here hx rfl (hb hby at_77) rfl ?_
      show Steps p.tables e below (s₁.setTop (mkF m 79 #[.val (.int p1), .val (.long q2), .second, .val (.long q3), .second, .val (.int p4), .val (.int p5), .val (.int p6), .val (.long yS), .second, .val (.long (yS ||| (q2 &&& (-256 : Int64)))), .second, .val (.long yO), .second, .val (.long (yO / yS)), .second, .val (.long (yO - (yO / yS) * yS)), .second, .unset] [(.long (yO - (yO / yS) * yS))])) _
      refine XS.lconst X0.here hx rfl (hb hby at_79) ?_
      show Steps p.tables e below (s₁.setTop (mkF m 80 #[.val (.int p1), .val (.long q2), .second, .val (.long q3), .second, .val (.int p4), .val (.int p5), .val (.int p6), .val (.long yS), .second, .val (.long (yS ||| (q2 &&& (-256 : Int64)))), .second, .val (.long yO), .second, .val (.long (yO / yS)), .second, .val (.long (yO - (yO / yS) * yS)), .second, .unset] [(.long (0 : Int64)), (.long (yO - (yO / yS) * yS))])) _
      refine XS.lcmp X0.here hx rfl (hb hby at_80) rfl ?_
      exact k
    obtain ⟨v101, hv101, st102⟩ : ∃ (v101 : Int32), v101 = (if (yO - (yO / yS) * yS) = (0 : Int64) then (if (yO / yS) < (-2147483648 : Int64) then (-1 : Int32) else (if (2147483647 : Int64) < (yO / yS) then (-1 : Int32) else ((yO / yS).toInt32))) else (-1 : Int32)) ∧ ∀ t, Steps p.tables e below (s₁.setTop (mkF m 113 #[.val (.int p1), .val (.long q2), .second, .val (.long q3), .second, .val (.int p4), .val (.int p5), .val (.int p6), .val (.long yS), .second, .val (.long (yS ||| (q2 &&& (-256 : Int64)))), .second, .val (.long yO), .second, .val (.long (yO / yS)), .second, .val (.long (yO - (yO / yS) * yS)), .second, .val (.int v101)] [])) t → Steps p.tables e below (s₁.setTop (mkF m 81 #[.val (.int p1), .val (.long q2), .second, .val (.long q3), .second, .val (.int p4), .val (.int p5), .val (.int p6), .val (.long yS), .second, .val (.long (yS ||| (q2 &&& (-256 : Int64)))), .second, .val (.long yO), .second, .val (.long (yO / yS)), .second, .val (.long (yO - (yO / yS) * yS)), .second, .unset] [(.int (lcmpW (yO - (yO / yS) * yS) (0 : Int64)))])) t := by
      by_cases hc81_3 : (yO - (yO / yS) * yS) = (0 : Int64)
      · by_cases hc90_4 : (yO / yS) < (-2147483648 : Int64)
        · refine ⟨(-1 : Int32), (by simp only [if_pos hc81_3, if_pos hc90_4]), fun t k => ?_⟩
          show Steps p.tables e below (s₁.setTop (mkF m 81 #[.val (.int p1), .val (.long q2), .second, .val (.long q3), .second, .val (.int p4), .val (.int p5), .val (.int p6), .val (.long yS), .second, .val (.long (yS ||| (q2 &&& (-256 : Int64)))), .second, .val (.long yO), .second, .val (.long (yO / yS)), .second, .val (.long (yO - (yO / yS) * yS)), .second, .unset] [(.int (lcmpW (yO - (yO / yS) * yS) (0 : Int64)))])) _
          refine XS.ifNo X0.here hx rfl (hb hby at_81) rfl ((if0 _ _).trans (teq ((lw_eq (yO - (yO / yS) * yS) (0 : Int64)).mpr hc81_3)).2) ?_
          show Steps p.tables e below (s₁.setTop (mkF m 84 #[.val (.int p1), .val (.long q2), .second, .val (.long q3), .second, .val (.int p4), .val (.int p5), .val (.int p6), .val (.long yS), .second, .val (.long (yS ||| (q2 &&& (-256 : Int64)))), .second, .val (.long yO), .second, .val (.long (yO / yS)), .second, .val (.long (yO - (yO / yS) * yS)), .second, .unset] [])) _
          refine XS.lload X0.here hx rfl (hb hby at_84) rfl ?_
          show Steps p.tables e below (s₁.setTop (mkF m 86 #[.val (.int p1), .val (.long q2), .second, .val (.long q3), .second, .val (.int p4), .val (.int p5), .val (.int p6), .val (.long yS), .second, .val (.long (yS ||| (q2 &&& (-256 : Int64)))), .second, .val (.long yO), .second, .val (.long (yO / yS)), .second, .val (.long (yO - (yO / yS) * yS)), .second, .unset] [(.long (yO / yS))])) _
          refine X0.ldc2Long hx hown (mvT hZ (hw _ (List.mem_of_getElem? (i := 1) rfl))) (g := (mkF m 86 #[.val (.int p1), .val (.long q2), .second, .val (.long q3), .second, .val (.int p4), .val (.int p5), .val (.int p6), .val (.long yS), .second, .val (.long (yS ||| (q2 &&& (-256 : Int64)))), .second, .val (.long yO), .second, .val (.long (yO / yS)), .second, .val (.long (yO - (yO / yS) * yS)), .second, .unset] [(.long (yO / yS))])) rfl (hb hby at_86) _ ?_
          show Steps p.tables e below (s₁.setTop (mkF m 89 #[.val (.int p1), .val (.long q2), .second, .val (.long q3), .second, .val (.int p4), .val (.int p5), .val (.int p6), .val (.long yS), .second, .val (.long (yS ||| (q2 &&& (-256 : Int64)))), .second, .val (.long yO), .second, .val (.long (yO / yS)), .second, .val (.long (yO - (yO / yS) * yS)), .second, .unset] [(.long (-2147483648 : Int64)), (.long (yO / yS))])) _
          refine XS.lcmp X0.here hx rfl (hb hby at_89) rfl ?_
          show Steps p.tables e below (s₁.setTop (mkF m 90 #[.val (.int p1), .val (.long q2), .second, .val (.long q3), .second, .val (.int p4), .val (.int p5), .val (.int p6), .val (.long yS), .second, .val (.long (yS ||| (q2 &&& (-256 : Int64)))), .second, .val (.long yO), .second, .val (.long (yO / yS)), .second, .val (.long (yO - (yO / yS) * yS)), .second, .unset] [(.int (lcmpW (yO / yS) (-2147483648 : Int64)))])) _
          refine XS.ifYes X0.here hx rfl (pc0 := 90) (pc' := 110) rfl (hb hby at_90) rfl ((if0 _ _).trans (tlt ((lw_lt (yO / yS) (-2147483648 : Int64)).mpr hc90_4)).1) (by decide) (by decide) ?_
          show Steps p.tables e below (s₁.setTop (mkF m 110 #[.val (.int p1), .val (.long q2), .second, .val (.long q3), .second, .val (.int p4), .val (.int p5), .val (.int p6), .val (.long yS), .second, .val (.long (yS ||| (q2 &&& (-256 : Int64)))), .second, .val (.long yO), .second, .val (.long (yO / yS)), .second, .val (.long (yO - (yO / yS) * yS)), .second, .unset] [])) _
          refine XS.iconst X0.here hx rfl (hb hby at_110) ?_
          show Steps p.tables e below (s₁.setTop (mkF m 111 #[.val (.int p1), .val (.long q2), .second, .val (.long q3), .second, .val (.int p4), .val (.int p5), .val (.int p6), .val (.long yS), .second, .val (.long (yS ||| (q2 &&& (-256 : Int64)))), .second, .val (.long yO), .second, .val (.long (yO / yS)), .second, .val (.long (yO - (yO / yS) * yS)), .second, .unset] [(.int (-1 : Int32))])) _
          refine XS.istore X0.here hx rfl (hb hby at_111) rfl (l' := #[.val (.int p1), .val (.long q2), .second, .val (.long q3), .second, .val (.int p4), .val (.int p5), .val (.int p6), .val (.long yS), .second, .val (.long (yS ||| (q2 &&& (-256 : Int64)))), .second, .val (.long yO), .second, .val (.long (yO / yS)), .second, .val (.long (yO - (yO / yS) * yS)), .second, .val (.int (-1 : Int32))]) rfl ?_
          exact k
        · by_cases hc99_5 : (2147483647 : Int64) < (yO / yS)
          · refine ⟨(-1 : Int32), (by simp only [if_pos hc81_3, if_neg hc90_4, if_pos hc99_5]), fun t k => ?_⟩
            show Steps p.tables e below (s₁.setTop (mkF m 81 #[.val (.int p1), .val (.long q2), .second, .val (.long q3), .second, .val (.int p4), .val (.int p5), .val (.int p6), .val (.long yS), .second, .val (.long (yS ||| (q2 &&& (-256 : Int64)))), .second, .val (.long yO), .second, .val (.long (yO / yS)), .second, .val (.long (yO - (yO / yS) * yS)), .second, .unset] [(.int (lcmpW (yO - (yO / yS) * yS) (0 : Int64)))])) _
            refine XS.ifNo X0.here hx rfl (hb hby at_81) rfl ((if0 _ _).trans (teq ((lw_eq (yO - (yO / yS) * yS) (0 : Int64)).mpr hc81_3)).2) ?_
            show Steps p.tables e below (s₁.setTop (mkF m 84 #[.val (.int p1), .val (.long q2), .second, .val (.long q3), .second, .val (.int p4), .val (.int p5), .val (.int p6), .val (.long yS), .second, .val (.long (yS ||| (q2 &&& (-256 : Int64)))), .second, .val (.long yO), .second, .val (.long (yO / yS)), .second, .val (.long (yO - (yO / yS) * yS)), .second, .unset] [])) _
            refine XS.lload X0.here hx rfl (hb hby at_84) rfl ?_
            show Steps p.tables e below (s₁.setTop (mkF m 86 #[.val (.int p1), .val (.long q2), .second, .val (.long q3), .second, .val (.int p4), .val (.int p5), .val (.int p6), .val (.long yS), .second, .val (.long (yS ||| (q2 &&& (-256 : Int64)))), .second, .val (.long yO), .second, .val (.long (yO / yS)), .second, .val (.long (yO - (yO / yS) * yS)), .second, .unset] [(.long (yO / yS))])) _
            refine X0.ldc2Long hx hown (mvT hZ (hw _ (List.mem_of_getElem? (i := 1) rfl))) (g := (mkF m 86 #[.val (.int p1), .val (.long q2), .second, .val (.long q3), .second, .val (.int p4), .val (.int p5), .val (.int p6), .val (.long yS), .second, .val (.long (yS ||| (q2 &&& (-256 : Int64)))), .second, .val (.long yO), .second, .val (.long (yO / yS)), .second, .val (.long (yO - (yO / yS) * yS)), .second, .unset] [(.long (yO / yS))])) rfl (hb hby at_86) _ ?_
            show Steps p.tables e below (s₁.setTop (mkF m 89 #[.val (.int p1), .val (.long q2), .second, .val (.long q3), .second, .val (.int p4), .val (.int p5), .val (.int p6), .val (.long yS), .second, .val (.long (yS ||| (q2 &&& (-256 : Int64)))), .second, .val (.long yO), .second, .val (.long (yO / yS)), .second, .val (.long (yO - (yO / yS) * yS)), .second, .unset] [(.long (-2147483648 : Int64)), (.long (yO / yS))])) _
            refine XS.lcmp X0.here hx rfl (hb hby at_89) rfl ?_
            show Steps p.tables e below (s₁.setTop (mkF m 90 #[.val (.int p1), .val (.long q2), .second, .val (.long q3), .second, .val (.int p4), .val (.int p5), .val (.int p6), .val (.long yS), .second, .val (.long (yS ||| (q2 &&& (-256 : Int64)))), .second, .val (.long yO), .second, .val (.long (yO / yS)), .second, .val (.long (yO - (yO / yS) * yS)), .second, .unset] [(.int (lcmpW (yO / yS) (-2147483648 : Int64)))])) _
            refine XS.ifNo X0.here hx rfl (hb hby at_90) rfl ((if0 _ _).trans (flt (fun q => hc90_4 ((lw_lt (yO / yS) (-2147483648 : Int64)).mp q))).1) ?_
            show Steps p.tables e below (s₁.setTop (mkF m 93 #[.val (.int p1), .val (.long q2), .second, .val (.long q3), .second, .val (.int p4), .val (.int p5), .val (.int p6), .val (.long yS), .second, .val (.long (yS ||| (q2 &&& (-256 : Int64)))), .second, .val (.long yO), .second, .val (.long (yO / yS)), .second, .val (.long (yO - (yO / yS) * yS)), .second, .unset] [])) _
            refine XS.lload X0.here hx rfl (hb hby at_93) rfl ?_
            show Steps p.tables e below (s₁.setTop (mkF m 95 #[.val (.int p1), .val (.long q2), .second, .val (.long q3), .second, .val (.int p4), .val (.int p5), .val (.int p6), .val (.long yS), .second, .val (.long (yS ||| (q2 &&& (-256 : Int64)))), .second, .val (.long yO), .second, .val (.long (yO / yS)), .second, .val (.long (yO - (yO / yS) * yS)), .second, .unset] [(.long (yO / yS))])) _
            refine X0.ldc2Long hx hown (mvT hZ (hw _ (List.mem_of_getElem? (i := 13) rfl))) (g := (mkF m 95 #[.val (.int p1), .val (.long q2), .second, .val (.long q3), .second, .val (.int p4), .val (.int p5), .val (.int p6), .val (.long yS), .second, .val (.long (yS ||| (q2 &&& (-256 : Int64)))), .second, .val (.long yO), .second, .val (.long (yO / yS)), .second, .val (.long (yO - (yO / yS) * yS)), .second, .unset] [(.long (yO / yS))])) rfl (hb hby at_95) _ ?_
            show Steps p.tables e below (s₁.setTop (mkF m 98 #[.val (.int p1), .val (.long q2), .second, .val (.long q3), .second, .val (.int p4), .val (.int p5), .val (.int p6), .val (.long yS), .second, .val (.long (yS ||| (q2 &&& (-256 : Int64)))), .second, .val (.long yO), .second, .val (.long (yO / yS)), .second, .val (.long (yO - (yO / yS) * yS)), .second, .unset] [(.long (2147483647 : Int64)), (.long (yO / yS))])) _
            refine XS.lcmp X0.here hx rfl (hb hby at_98) rfl ?_
            show Steps p.tables e below (s₁.setTop (mkF m 99 #[.val (.int p1), .val (.long q2), .second, .val (.long q3), .second, .val (.int p4), .val (.int p5), .val (.int p6), .val (.long yS), .second, .val (.long (yS ||| (q2 &&& (-256 : Int64)))), .second, .val (.long yO), .second, .val (.long (yO / yS)), .second, .val (.long (yO - (yO / yS) * yS)), .second, .unset] [(.int (lcmpW (yO / yS) (2147483647 : Int64)))])) _
            refine XS.ifYes X0.here hx rfl (pc0 := 99) (pc' := 110) rfl (hb hby at_99) rfl ((if0 _ _).trans (tlt ((lw_gt (yO / yS) (2147483647 : Int64)).mpr hc99_5)).2.2.1) (by decide) (by decide) ?_
            show Steps p.tables e below (s₁.setTop (mkF m 110 #[.val (.int p1), .val (.long q2), .second, .val (.long q3), .second, .val (.int p4), .val (.int p5), .val (.int p6), .val (.long yS), .second, .val (.long (yS ||| (q2 &&& (-256 : Int64)))), .second, .val (.long yO), .second, .val (.long (yO / yS)), .second, .val (.long (yO - (yO / yS) * yS)), .second, .unset] [])) _
            refine XS.iconst X0.here hx rfl (hb hby at_110) ?_
            show Steps p.tables e below (s₁.setTop (mkF m 111 #[.val (.int p1), .val (.long q2), .second, .val (.long q3), .second, .val (.int p4), .val (.int p5), .val (.int p6), .val (.long yS), .second, .val (.long (yS ||| (q2 &&& (-256 : Int64)))), .second, .val (.long yO), .second, .val (.long (yO / yS)), .second, .val (.long (yO - (yO / yS) * yS)), .second, .unset] [(.int (-1 : Int32))])) _
            refine XS.istore X0.here hx rfl (hb hby at_111) rfl (l' := #[.val (.int p1), .val (.long q2), .second, .val (.long q3), .second, .val (.int p4), .val (.int p5), .val (.int p6), .val (.long yS), .second, .val (.long (yS ||| (q2 &&& (-256 : Int64)))), .second, .val (.long yO), .second, .val (.long (yO / yS)), .second, .val (.long (yO - (yO / yS) * yS)), .second, .val (.int (-1 : Int32))]) rfl ?_
            exact k
          · refine ⟨((yO / yS).toInt32), (by simp only [if_pos hc81_3, if_neg hc90_4, if_neg hc99_5]), fun t k => ?_⟩
            show Steps p.tables e below (s₁.setTop (mkF m 81 #[.val (.int p1), .val (.long q2), .second, .val (.long q3), .second, .val (.int p4), .val (.int p5), .val (.int p6), .val (.long yS), .second, .val (.long (yS ||| (q2 &&& (-256 : Int64)))), .second, .val (.long yO), .second, .val (.long (yO / yS)), .second, .val (.long (yO - (yO / yS) * yS)), .second, .unset] [(.int (lcmpW (yO - (yO / yS) * yS) (0 : Int64)))])) _
            refine XS.ifNo X0.here hx rfl (hb hby at_81) rfl ((if0 _ _).trans (teq ((lw_eq (yO - (yO / yS) * yS) (0 : Int64)).mpr hc81_3)).2) ?_
            show Steps p.tables e below (s₁.setTop (mkF m 84 #[.val (.int p1), .val (.long q2), .second, .val (.long q3), .second, .val (.int p4), .val (.int p5), .val (.int p6), .val (.long yS), .second, .val (.long (yS ||| (q2 &&& (-256 : Int64)))), .second, .val (.long yO), .second, .val (.long (yO / yS)), .second, .val (.long (yO - (yO / yS) * yS)), .second, .unset] [])) _
            refine XS.lload X0.here hx rfl (hb hby at_84) rfl ?_
            show Steps p.tables e below (s₁.setTop (mkF m 86 #[.val (.int p1), .val (.long q2), .second, .val (.long q3), .second, .val (.int p4), .val (.int p5), .val (.int p6), .val (.long yS), .second, .val (.long (yS ||| (q2 &&& (-256 : Int64)))), .second, .val (.long yO), .second, .val (.long (yO / yS)), .second, .val (.long (yO - (yO / yS) * yS)), .second, .unset] [(.long (yO / yS))])) _
            refine X0.ldc2Long hx hown (mvT hZ (hw _ (List.mem_of_getElem? (i := 1) rfl))) (g := (mkF m 86 #[.val (.int p1), .val (.long q2), .second, .val (.long q3), .second, .val (.int p4), .val (.int p5), .val (.int p6), .val (.long yS), .second, .val (.long (yS ||| (q2 &&& (-256 : Int64)))), .second, .val (.long yO), .second, .val (.long (yO / yS)), .second, .val (.long (yO - (yO / yS) * yS)), .second, .unset] [(.long (yO / yS))])) rfl (hb hby at_86) _ ?_
            show Steps p.tables e below (s₁.setTop (mkF m 89 #[.val (.int p1), .val (.long q2), .second, .val (.long q3), .second, .val (.int p4), .val (.int p5), .val (.int p6), .val (.long yS), .second, .val (.long (yS ||| (q2 &&& (-256 : Int64)))), .second, .val (.long yO), .second, .val (.long (yO / yS)), .second, .val (.long (yO - (yO / yS) * yS)), .second, .unset] [(.long (-2147483648 : Int64)), (.long (yO / yS))])) _
            refine XS.lcmp X0.here hx rfl (hb hby at_89) rfl ?_
            show Steps p.tables e below (s₁.setTop (mkF m 90 #[.val (.int p1), .val (.long q2), .second, .val (.long q3), .second, .val (.int p4), .val (.int p5), .val (.int p6), .val (.long yS), .second, .val (.long (yS ||| (q2 &&& (-256 : Int64)))), .second, .val (.long yO), .second, .val (.long (yO / yS)), .second, .val (.long (yO - (yO / yS) * yS)), .second, .unset] [(.int (lcmpW (yO / yS) (-2147483648 : Int64)))])) _
            refine XS.ifNo X0.here hx rfl (hb hby at_90) rfl ((if0 _ _).trans (flt (fun q => hc90_4 ((lw_lt (yO / yS) (-2147483648 : Int64)).mp q))).1) ?_
            show Steps p.tables e below (s₁.setTop (mkF m 93 #[.val (.int p1), .val (.long q2), .second, .val (.long q3), .second, .val (.int p4), .val (.int p5), .val (.int p6), .val (.long yS), .second, .val (.long (yS ||| (q2 &&& (-256 : Int64)))), .second, .val (.long yO), .second, .val (.long (yO / yS)), .second, .val (.long (yO - (yO / yS) * yS)), .second, .unset] [])) _
            refine XS.lload X0.here hx rfl (hb hby at_93) rfl ?_
            show Steps p.tables e below (s₁.setTop (mkF m 95 #[.val (.int p1), .val (.long q2), .second, .val (.long q3), .second, .val (.int p4), .val (.int p5), .val (.int p6), .val (.long yS), .second, .val (.long (yS ||| (q2 &&& (-256 : Int64)))), .second, .val (.long yO), .second, .val (.long (yO / yS)), .second, .val (.long (yO - (yO / yS) * yS)), .second, .unset] [(.long (yO / yS))])) _
            refine X0.ldc2Long hx hown (mvT hZ (hw _ (List.mem_of_getElem? (i := 13) rfl))) (g := (mkF m 95 #[.val (.int p1), .val (.long q2), .second, .val (.long q3), .second, .val (.int p4), .val (.int p5), .val (.int p6), .val (.long yS), .second, .val (.long (yS ||| (q2 &&& (-256 : Int64)))), .second, .val (.long yO), .second, .val (.long (yO / yS)), .second, .val (.long (yO - (yO / yS) * yS)), .second, .unset] [(.long (yO / yS))])) rfl (hb hby at_95) _ ?_
            show Steps p.tables e below (s₁.setTop (mkF m 98 #[.val (.int p1), .val (.long q2), .second, .val (.long q3), .second, .val (.int p4), .val (.int p5), .val (.int p6), .val (.long yS), .second, .val (.long (yS ||| (q2 &&& (-256 : Int64)))), .second, .val (.long yO), .second, .val (.long (yO / yS)), .second, .val (.long (yO - (yO / yS) * yS)), .second, .unset] [(.long (2147483647 : Int64)), (.long (yO / yS))])) _
            refine XS.lcmp X0.here hx rfl (hb hby at_98) rfl ?_
            show Steps p.tables e below (s₁.setTop (mkF m 99 #[.val (.int p1), .val (.long q2), .second, .val (.long q3), .second, .val (.int p4), .val (.int p5), .val (.int p6), .val (.long yS), .second, .val (.long (yS ||| (q2 &&& (-256 : Int64)))), .second, .val (.long yO), .second, .val (.long (yO / yS)), .second, .val (.long (yO - (yO / yS) * yS)), .second, .unset] [(.int (lcmpW (yO / yS) (2147483647 : Int64)))])) _
            refine XS.ifNo X0.here hx rfl (hb hby at_99) rfl ((if0 _ _).trans (flt (fun q => hc99_5 ((lw_gt (yO / yS) (2147483647 : Int64)).mp q))).2.2.1) ?_
            show Steps p.tables e below (s₁.setTop (mkF m 102 #[.val (.int p1), .val (.long q2), .second, .val (.long q3), .second, .val (.int p4), .val (.int p5), .val (.int p6), .val (.long yS), .second, .val (.long (yS ||| (q2 &&& (-256 : Int64)))), .second, .val (.long yO), .second, .val (.long (yO / yS)), .second, .val (.long (yO - (yO / yS) * yS)), .second, .unset] [])) _
            refine XS.lload X0.here hx rfl (hb hby at_102) rfl ?_
            show Steps p.tables e below (s₁.setTop (mkF m 104 #[.val (.int p1), .val (.long q2), .second, .val (.long q3), .second, .val (.int p4), .val (.int p5), .val (.int p6), .val (.long yS), .second, .val (.long (yS ||| (q2 &&& (-256 : Int64)))), .second, .val (.long yO), .second, .val (.long (yO / yS)), .second, .val (.long (yO - (yO / yS) * yS)), .second, .unset] [(.long (yO / yS))])) _
            refine XS.l2i X0.here hx rfl (hb hby at_104) rfl ?_
            show Steps p.tables e below (s₁.setTop (mkF m 105 #[.val (.int p1), .val (.long q2), .second, .val (.long q3), .second, .val (.int p4), .val (.int p5), .val (.int p6), .val (.long yS), .second, .val (.long (yS ||| (q2 &&& (-256 : Int64)))), .second, .val (.long yO), .second, .val (.long (yO / yS)), .second, .val (.long (yO - (yO / yS) * yS)), .second, .unset] [(.int ((yO / yS).toInt32))])) _
            refine XS.istore X0.here hx rfl (hb hby at_105) rfl (l' := #[.val (.int p1), .val (.long q2), .second, .val (.long q3), .second, .val (.int p4), .val (.int p5), .val (.int p6), .val (.long yS), .second, .val (.long (yS ||| (q2 &&& (-256 : Int64)))), .second, .val (.long yO), .second, .val (.long (yO / yS)), .second, .val (.long (yO - (yO / yS) * yS)), .second, .val (.int ((yO / yS).toInt32))]) rfl ?_
            show Steps p.tables e below (s₁.setTop (mkF m 107 #[.val (.int p1), .val (.long q2), .second, .val (.long q3), .second, .val (.int p4), .val (.int p5), .val (.int p6), .val (.long yS), .second, .val (.long (yS ||| (q2 &&& (-256 : Int64)))), .second, .val (.long yO), .second, .val (.long (yO / yS)), .second, .val (.long (yO - (yO / yS) * yS)), .second, .val (.int ((yO / yS).toInt32))] [])) _
            refine XS.goto X0.here hx rfl (pc0 := 107) (pc' := 113) rfl (hb hby at_107) (by decide) (by decide) ?_
            exact k
      · refine ⟨(-1 : Int32), (by simp only [if_neg hc81_3]), fun t k => ?_⟩
        show Steps p.tables e below (s₁.setTop (mkF m 81 #[.val (.int p1), .val (.long q2), .second, .val (.long q3), .second, .val (.int p4), .val (.int p5), .val (.int p6), .val (.long yS), .second, .val (.long (yS ||| (q2 &&& (-256 : Int64)))), .second, .val (.long yO), .second, .val (.long (yO / yS)), .second, .val (.long (yO - (yO / yS) * yS)), .second, .unset] [(.int (lcmpW (yO - (yO / yS) * yS) (0 : Int64)))])) _
        refine XS.ifYes X0.here hx rfl (pc0 := 81) (pc' := 110) rfl (hb hby at_81) rfl ((if0 _ _).trans (feq (fun q => hc81_3 ((lw_eq (yO - (yO / yS) * yS) (0 : Int64)).mp q))).2) (by decide) (by decide) ?_
        show Steps p.tables e below (s₁.setTop (mkF m 110 #[.val (.int p1), .val (.long q2), .second, .val (.long q3), .second, .val (.int p4), .val (.int p5), .val (.int p6), .val (.long yS), .second, .val (.long (yS ||| (q2 &&& (-256 : Int64)))), .second, .val (.long yO), .second, .val (.long (yO / yS)), .second, .val (.long (yO - (yO / yS) * yS)), .second, .unset] [])) _
        refine XS.iconst X0.here hx rfl (hb hby at_110) ?_
        show Steps p.tables e below (s₁.setTop (mkF m 111 #[.val (.int p1), .val (.long q2), .second, .val (.long q3), .second, .val (.int p4), .val (.int p5), .val (.int p6), .val (.long yS), .second, .val (.long (yS ||| (q2 &&& (-256 : Int64)))), .second, .val (.long yO), .second, .val (.long (yO / yS)), .second, .val (.long (yO - (yO / yS) * yS)), .second, .unset] [(.int (-1 : Int32))])) _
        refine XS.istore X0.here hx rfl (hb hby at_111) rfl (l' := #[.val (.int p1), .val (.long q2), .second, .val (.long q3), .second, .val (.int p4), .val (.int p5), .val (.int p6), .val (.long yS), .second, .val (.long (yS ||| (q2 &&& (-256 : Int64)))), .second, .val (.long yO), .second, .val (.long (yO / yS)), .second, .val (.long (yO - (yO / yS) * yS)), .second, .val (.int (-1 : Int32))]) rfl ?_
        exact k
    refine own_step st102 ?_
    refine own_step (T' := s₁) (f' := (mkF m 117 #[.val (.int p1), .val (.long q2), .second, .val (.long q3), .second, .val (.int p4), .val (.int p5), .val (.int p6), .val (.long yS), .second, .val (.long (yS ||| (q2 &&& (-256 : Int64)))), .second, .val (.long yO), .second, .val (.long (yO / yS)), .second, .val (.long (yO - (yO / yS) * yS)), .second, .val (.int v101)] [(.long yO), (.long (yS ||| (q2 &&& (-256 : Int64))))])) (fun t k => ?_) ?_
    · show Steps p.tables e below (s₁.setTop (mkF m 113 #[.val (.int p1), .val (.long q2), .second, .val (.long q3), .second, .val (.int p4), .val (.int p5), .val (.int p6), .val (.long yS), .second, .val (.long (yS ||| (q2 &&& (-256 : Int64)))), .second, .val (.long yO), .second, .val (.long (yO / yS)), .second, .val (.long (yO - (yO / yS) * yS)), .second, .val (.int v101)] [])) _
      refine XS.lload X0.here hx rfl (hb hby at_113) rfl ?_
      show Steps p.tables e below (s₁.setTop (mkF m 115 #[.val (.int p1), .val (.long q2), .second, .val (.long q3), .second, .val (.int p4), .val (.int p5), .val (.int p6), .val (.long yS), .second, .val (.long (yS ||| (q2 &&& (-256 : Int64)))), .second, .val (.long yO), .second, .val (.long (yO / yS)), .second, .val (.long (yO - (yO / yS) * yS)), .second, .val (.int v101)] [(.long (yS ||| (q2 &&& (-256 : Int64))))])) _
      refine XS.lload X0.here hx rfl (hb hby at_115) rfl ?_
      exact k
    obtain ⟨_, _, ⟨T103, L103, k103, n103⟩, -, X103, ⟨Lc103, hQ103, l103, y103, z103⟩, st103⟩ := Jvm.LawKit.callS X0 hx (y := (⟨"com/example/bridgehead/bridgehead/ValueLayout", "indexAt", "(JJ)I"⟩ : MethodName)) hown (mvT hZ (hw _ (List.mem_of_getElem? (i := 2) rfl))) (mvT hZ (hw _ (List.mem_of_getElem? (i := 3) rfl))) (mvT hZ (hw _ (List.mem_of_getElem? (i := 4) rfl))) (mvT hZ (hw _ (List.mem_of_getElem? (i := 5) rfl))) (by decide) (backOf (W := 0) (own_rm1 l Z a0 hw (yS ||| (q2 &&& (-256 : Int64))) yO h0 n0) hZ (hw _ (List.mem_of_getElem? (i := 5) rfl)) (hw _ (List.mem_of_getElem? (i := 4) rfl)) (by decide) (by decide)) (g := (mkF m 117 #[.val (.int p1), .val (.long q2), .second, .val (.long q3), .second, .val (.int p4), .val (.int p5), .val (.int p6), .val (.long yS), .second, .val (.long (yS ||| (q2 &&& (-256 : Int64)))), .second, .val (.long yO), .second, .val (.long (yO / yS)), .second, .val (.long (yO - (yO / yS) * yS)), .second, .val (.int v101)] [(.long yO), (.long (yS ||| (q2 &&& (-256 : Int64))))])) rfl (by rw [hml]; rfl) (argsL := [(.long (yS ||| (q2 &&& (-256 : Int64)))), (.long yO)]) (rest := []) (lenOf own_pd1 rfl) rfl (by show 2 * 0 + _ ≤ _; exact Nat.le_of_eq rfl) (hb hby at_117) (fun _ _ => ⟨rfl, e0, (by decide : 0 + 0 ≤ _), (by decide : 0 + 0 ≤ _)⟩)
    dsimp only [Pt.U, Pt.locs, Pt.cells, Pt.slots] at X103 l103 y103 z103 st103 hQ103
    subst l103 y103 z103
    obtain ⟨rfl, N103q, e103⟩ := hQ103
    have N103 := Fr.app N0 N103q
    refine own_step (fun t k => st103 _ k) ?_
    refine own_step (T' := T103) (f' := (mkF m 122 #[.val (.int p1), .val (.long q2), .second, .val (.long q3), .second, .val (.int p4), .val (.int p5), .val (.int p6), .val (.long yS), .second, .val (.long (yS ||| (q2 &&& (-256 : Int64)))), .second, .val (.long yO), .second, .val (.long (yO / yS)), .second, .val (.long (yO - (yO / yS) * yS)), .second, .val (.int v101)] [(.int v101), (.int (own_f1 (yS ||| (q2 &&& (-256 : Int64))) yO))])) (fun t k => ?_) ?_
    · show Steps p.tables e below (T103.setTop (mkF m 120 #[.val (.int p1), .val (.long q2), .second, .val (.long q3), .second, .val (.int p4), .val (.int p5), .val (.int p6), .val (.long yS), .second, .val (.long (yS ||| (q2 &&& (-256 : Int64)))), .second, .val (.long yO), .second, .val (.long (yO / yS)), .second, .val (.long (yO - (yO / yS) * yS)), .second, .val (.int v101)] [(.int (own_f1 (yS ||| (q2 &&& (-256 : Int64))) yO))])) _
      refine XS.iload X103.here hx rfl (hb hby at_120) rfl ?_
      exact k
    have hk : (own_f1 (yS ||| (q2 &&& (-256 : Int64))) yO) = v101 := own_key hS hv101
    refine own_step (T' := T103) (f' := (mkF m 130 #[.val (.int p1), .val (.long q2), .second, .val (.long q3), .second, .val (.int p4), .val (.int p5), .val (.int p6), .val (.long yS), .second, .val (.long (yS ||| (q2 &&& (-256 : Int64)))), .second, .val (.long yO), .second, .val (.long (yO / yS)), .second, .val (.long (yO - (yO / yS) * yS)), .second, .val (.int v101)] [(.int (1 : Int32))])) (fun t k => ?_) ?_
    · show Steps p.tables e below (T103.setTop (mkF m 122 #[.val (.int p1), .val (.long q2), .second, .val (.long q3), .second, .val (.int p4), .val (.int p5), .val (.int p6), .val (.long yS), .second, .val (.long (yS ||| (q2 &&& (-256 : Int64)))), .second, .val (.long yO), .second, .val (.long (yO / yS)), .second, .val (.long (yO - (yO / yS) * yS)), .second, .val (.int v101)] [(.int v101), (.int (own_f1 (yS ||| (q2 &&& (-256 : Int64))) yO))])) _
      refine XS.icmpNo X103.here hx rfl (hb hby at_122) rfl (teq hk).2 ?_
      show Steps p.tables e below (T103.setTop (mkF m 125 #[.val (.int p1), .val (.long q2), .second, .val (.long q3), .second, .val (.int p4), .val (.int p5), .val (.int p6), .val (.long yS), .second, .val (.long (yS ||| (q2 &&& (-256 : Int64)))), .second, .val (.long yO), .second, .val (.long (yO / yS)), .second, .val (.long (yO - (yO / yS) * yS)), .second, .val (.int v101)] [])) _
      refine XS.iconst X103.here hx rfl (hb hby at_125) ?_
      show Steps p.tables e below (T103.setTop (mkF m 126 #[.val (.int p1), .val (.long q2), .second, .val (.long q3), .second, .val (.int p4), .val (.int p5), .val (.int p6), .val (.long yS), .second, .val (.long (yS ||| (q2 &&& (-256 : Int64)))), .second, .val (.long yO), .second, .val (.long (yO / yS)), .second, .val (.long (yO - (yO / yS) * yS)), .second, .val (.int v101)] [(.int (1 : Int32))])) _
      refine XS.goto X103.here hx rfl (pc0 := 126) (pc' := 130) rfl (hb hby at_126) (by decide) (by decide) ?_
      exact k
    exact own_retZ X103 hx hret hlk (hb hby at_130) (by decide) (by decide) ⟨rfl, N103⟩
  · refine own_step (T' := s₁) (f' := (mkF m 81 #[.val (.int p1), .val (.long q2), .second, .val (.long q3), .second, .val (.int p4), .val (.int p5), .val (.int p6), .val (.long yS), .second, .val (.long (yS ||| (q2 &&& (-256 : Int64)))), .second, .val (.long q3), .second, .val (.long (q3 / yS)), .second, .val (.long (q3 - (q3 / yS) * yS)), .second, .unset] [(.int (lcmpW (q3 - (q3 / yS) * yS) (0 : Int64)))])) (fun t k => ?_) ?_
    · show Steps p.tables e below (s₁.setTop (mkF m 21 #[.val (.int p1), .val (.long q2), .second, .val (.long q3), .second, .val (.int p4), .val (.int p5), .val (.int p6), .val (.long yS), .second, .val (.long (yS ||| (q2 &&& (-256 : Int64)))), .second, .unset, .unset, .unset, .unset, .unset, .unset, .unset] [(.int (p6 &&& (1 : Int32)))])) _
      refine XS.ifYes X0.here hx rfl (pc0 := 21) (pc' := 60) rfl (hb hby at_21) rfl ((if0 _ _).trans (feq hc21_1).2) (by decide) (by decide) ?_
      show Steps p.tables e below (s₁.setTop (mkF m 60 #[.val (.int p1), .val (.long q2), .second, .val (.long q3), .second, .val (.int p4), .val (.int p5), .val (.int p6), .val (.long yS), .second, .val (.long (yS ||| (q2 &&& (-256 : Int64)))), .second, .unset, .unset, .unset, .unset, .unset, .unset, .unset] [])) _
      refine XS.lloadN X0.here hx rfl (hb hby at_60) rfl ?_
      show Steps p.tables e below (s₁.setTop (mkF m 61 #[.val (.int p1), .val (.long q2), .second, .val (.long q3), .second, .val (.int p4), .val (.int p5), .val (.int p6), .val (.long yS), .second, .val (.long (yS ||| (q2 &&& (-256 : Int64)))), .second, .unset, .unset, .unset, .unset, .unset, .unset, .unset] [(.long q3)])) _
      refine XS.lstore X0.here hx rfl (hb hby at_61) rfl (l' := #[.val (.int p1), .val (.long q2), .second, .val (.long q3), .second, .val (.int p4), .val (.int p5), .val (.int p6), .val (.long yS), .second, .val (.long (yS ||| (q2 &&& (-256 : Int64)))), .second, .val (.long q3), .second, .unset, .unset, .unset, .unset, .unset]) rfl ?_
      show Steps p.tables e below (s₁.setTop (mkF m 63 #[.val (.int p1), .val (.long q2), .second, .val (.long q3), .second, .val (.int p4), .val (.int p5), .val (.int p6), .val (.long yS), .second, .val (.long (yS ||| (q2 &&& (-256 : Int64)))), .second, .val (.long q3), .second, .unset, .unset, .unset, .unset, .unset] [])) _
      refine XS.lload X0.here hx rfl (hb hby at_63) rfl ?_
      show Steps p.tables e below (s₁.setTop (mkF m 65 #[.val (.int p1), .val (.long q2), .second, .val (.long q3), .second, .val (.int p4), .val (.int p5), .val (.int p6), .val (.long yS), .second, .val (.long (yS ||| (q2 &&& (-256 : Int64)))), .second, .val (.long q3), .second, .unset, .unset, .unset, .unset, .unset] [(.long q3)])) _
      refine XS.lload X0.here hx rfl (hb hby at_65) rfl ?_
      show Steps p.tables e below (s₁.setTop (mkF m 67 #[.val (.int p1), .val (.long q2), .second, .val (.long q3), .second, .val (.int p4), .val (.int p5), .val (.int p6), .val (.long yS), .second, .val (.long (yS ||| (q2 &&& (-256 : Int64)))), .second, .val (.long q3), .second, .unset, .unset, .unset, .unset, .unset] [(.long yS), (.long q3)])) _
      refine XS.ldiv X0.here hx rfl (hb hby at_67) rfl hnz ?_
      show Steps p.tables e below (s₁.setTop (mkF m 68 #[.val (.int p1), .val (.long q2), .second, .val (.long q3), .second, .val (.int p4), .val (.int p5), .val (.int p6), .val (.long yS), .second, .val (.long (yS ||| (q2 &&& (-256 : Int64)))), .second, .val (.long q3), .second, .unset, .unset, .unset, .unset, .unset] [(.long (q3 / yS))])) _
      refine XS.lstore X0.here hx rfl (hb hby at_68) rfl (l' := #[.val (.int p1), .val (.long q2), .second, .val (.long q3), .second, .val (.int p4), .val (.int p5), .val (.int p6), .val (.long yS), .second, .val (.long (yS ||| (q2 &&& (-256 : Int64)))), .second, .val (.long q3), .second, .val (.long (q3 / yS)), .second, .unset, .unset, .unset]) rfl ?_
      show Steps p.tables e below (s₁.setTop (mkF m 70 #[.val (.int p1), .val (.long q2), .second, .val (.long q3), .second, .val (.int p4), .val (.int p5), .val (.int p6), .val (.long yS), .second, .val (.long (yS ||| (q2 &&& (-256 : Int64)))), .second, .val (.long q3), .second, .val (.long (q3 / yS)), .second, .unset, .unset, .unset] [])) _
      refine XS.lload X0.here hx rfl (hb hby at_70) rfl ?_
      show Steps p.tables e below (s₁.setTop (mkF m 72 #[.val (.int p1), .val (.long q2), .second, .val (.long q3), .second, .val (.int p4), .val (.int p5), .val (.int p6), .val (.long yS), .second, .val (.long (yS ||| (q2 &&& (-256 : Int64)))), .second, .val (.long q3), .second, .val (.long (q3 / yS)), .second, .unset, .unset, .unset] [(.long q3)])) _
      refine XS.lload X0.here hx rfl (hb hby at_72) rfl ?_
      show Steps p.tables e below (s₁.setTop (mkF m 74 #[.val (.int p1), .val (.long q2), .second, .val (.long q3), .second, .val (.int p4), .val (.int p5), .val (.int p6), .val (.long yS), .second, .val (.long (yS ||| (q2 &&& (-256 : Int64)))), .second, .val (.long q3), .second, .val (.long (q3 / yS)), .second, .unset, .unset, .unset] [(.long yS), (.long q3)])) _
      refine XS.lrem X0.here hx rfl (hb hby at_74) rfl hnz ?_
      show Steps p.tables e below (s₁.setTop (mkF m 75 #[.val (.int p1), .val (.long q2), .second, .val (.long q3), .second, .val (.int p4), .val (.int p5), .val (.int p6), .val (.long yS), .second, .val (.long (yS ||| (q2 &&& (-256 : Int64)))), .second, .val (.long q3), .second, .val (.long (q3 / yS)), .second, .unset, .unset, .unset] [(.long (q3 - (q3 / yS) * yS))])) _
      refine XS.lstore X0.here hx rfl (hb hby at_75) rfl (l' := #[.val (.int p1), .val (.long q2), .second, .val (.long q3), .second, .val (.int p4), .val (.int p5), .val (.int p6), .val (.long yS), .second, .val (.long (yS ||| (q2 &&& (-256 : Int64)))), .second, .val (.long q3), .second, .val (.long (q3 / yS)), .second, .val (.long (q3 - (q3 / yS) * yS)), .second, .unset]) rfl ?_
      show Steps p.tables e below (s₁.setTop (mkF m 77 #[.val (.int p1), .val (.long q2), .second, .val (.long q3), .second, .val (.int p4), .val (.int p5), .val (.int p6), .val (.long yS), .second, .val (.long (yS ||| (q2 &&& (-256 : Int64)))), .second, .val (.long q3), .second, .val (.long (q3 / yS)), .second, .val (.long (q3 - (q3 / yS) * yS)), .second, .unset] [])) _
      refine XS.lload X0.here hx rfl (hb hby at_77) rfl ?_
      show Steps p.tables e below (s₁.setTop (mkF m 79 #[.val (.int p1), .val (.long q2), .second, .val (.long q3), .second, .val (.int p4), .val (.int p5), .val (.int p6), .val (.long yS), .second, .val (.long (yS ||| (q2 &&& (-256 : Int64)))), .second, .val (.long q3), .second, .val (.long (q3 / yS)), .second, .val (.long (q3 - (q3 / yS) * yS)), .second, .unset] [(.long (q3 - (q3 / yS) * yS))])) _
      refine XS.lconst X0.here hx rfl (hb hby at_79) ?_
      show Steps p.tables e below (s₁.setTop (mkF m 80 #[.val (.int p1), .val (.long q2), .second, .val (.long q3), .second, .val (.int p4), .val (.int p5), .val (.int p6), .val (.long yS), .second, .val (.long (yS ||| (q2 &&& (-256 : Int64)))), .second, .val (.long q3), .second, .val (.long (q3 / yS)), .second, .val (.long (q3 - (q3 / yS) * yS)), .second, .unset] [(.long (0 : Int64)), (.long (q3 - (q3 / yS) * yS))])) _
      refine XS.lcmp X0.here hx rfl (hb hby at_80) rfl ?_
      exact k
    obtain ⟨v104, hv104, st105⟩ : ∃ (v104 : Int32), v104 = (if (q3 - (q3 / yS) * yS) = (0 : Int64) then (if (q3 / yS) < (-2147483648 : Int64) then (-1 : Int32) else (if (2147483647 : Int64) < (q3 / yS) then (-1 : Int32) else ((q3 / yS).toInt32))) else (-1 : Int32)) ∧ ∀ t, Steps p.tables e below (s₁.setTop (mkF m 113 #[.val (.int p1), .val (.long q2), .second, .val (.long q3), .second, .val (.int p4), .val (.int p5), .val (.int p6), .val (.long yS), .second, .val (.long (yS ||| (q2 &&& (-256 : Int64)))), .second, .val (.long q3), .second, .val (.long (q3 / yS)), .second, .val (.long (q3 - (q3 / yS) * yS)), .second, .val (.int v104)] [])) t → Steps p.tables e below (s₁.setTop (mkF m 81 #[.val (.int p1), .val (.long q2), .second, .val (.long q3), .second, .val (.int p4), .val (.int p5), .val (.int p6), .val (.long yS), .second, .val (.long (yS ||| (q2 &&& (-256 : Int64)))), .second, .val (.long q3), .second, .val (.long (q3 / yS)), .second, .val (.long (q3 - (q3 / yS) * yS)), .second, .unset] [(.int (lcmpW (q3 - (q3 / yS) * yS) (0 : Int64)))])) t := by
      by_cases hc81_2 : (q3 - (q3 / yS) * yS) = (0 : Int64)
      · by_cases hc90_3 : (q3 / yS) < (-2147483648 : Int64)
        · refine ⟨(-1 : Int32), (by simp only [if_pos hc81_2, if_pos hc90_3]), fun t k => ?_⟩
          show Steps p.tables e below (s₁.setTop (mkF m 81 #[.val (.int p1), .val (.long q2), .second, .val (.long q3), .second, .val (.int p4), .val (.int p5), .val (.int p6), .val (.long yS), .second, .val (.long (yS ||| (q2 &&& (-256 : Int64)))), .second, .val (.long q3), .second, .val (.long (q3 / yS)), .second, .val (.long (q3 - (q3 / yS) * yS)), .second, .unset] [(.int (lcmpW (q3 - (q3 / yS) * yS) (0 : Int64)))])) _
          refine XS.ifNo X0.here hx rfl (hb hby at_81) rfl ((if0 _ _).trans (teq ((lw_eq (q3 - (q3 / yS) * yS) (0 : Int64)).mpr hc81_2)).2) ?_
          show Steps p.tables e below (s₁.setTop (mkF m 84 #[.val (.int p1), .val (.long q2), .second, .val (.long q3), .second, .val (.int p4), .val (.int p5), .val (.int p6), .val (.long yS), .second, .val (.long (yS ||| (q2 &&& (-256 : Int64)))), .second, .val (.long q3), .second, .val (.long (q3 / yS)), .second, .val (.long (q3 - (q3 / yS) * yS)), .second, .unset] [])) _
          refine XS.lload X0.here hx rfl (hb hby at_84) rfl ?_
          show Steps p.tables e below (s₁.setTop (mkF m 86 #[.val (.int p1), .val (.long q2), .second, .val (.long q3), .second, .val (.int p4), .val (.int p5), .val (.int p6), .val (.long yS), .second, .val (.long (yS ||| (q2 &&& (-256 : Int64)))), .second, .val (.long q3), .second, .val (.long (q3 / yS)), .second, .val (.long (q3 - (q3 / yS) * yS)), .second, .unset] [(.long (q3 / yS))])) _
          refine X0.ldc2Long hx hown (mvT hZ (hw _ (List.mem_of_getElem? (i := 1) rfl))) (g := (mkF m 86 #[.val (.int p1), .val (.long q2), .second, .val (.long q3), .second, .val (.int p4), .val (.int p5), .val (.int p6), .val (.long yS), .second, .val (.long (yS ||| (q2 &&& (-256 : Int64)))), .second, .val (.long q3), .second, .val (.long (q3 / yS)), .second, .val (.long (q3 - (q3 / yS) * yS)), .second, .unset] [(.long (q3 / yS))])) rfl (hb hby at_86) _ ?_
          show Steps p.tables e below (s₁.setTop (mkF m 89 #[.val (.int p1), .val (.long q2), .second, .val (.long q3), .second, .val (.int p4), .val (.int p5), .val (.int p6), .val (.long yS), .second, .val (.long (yS ||| (q2 &&& (-256 : Int64)))), .second, .val (.long q3), .second, .val (.long (q3 / yS)), .second, .val (.long (q3 - (q3 / yS) * yS)), .second, .unset] [(.long (-2147483648 : Int64)), (.long (q3 / yS))])) _
          refine XS.lcmp X0.here hx rfl (hb hby at_89) rfl ?_
          show Steps p.tables e below (s₁.setTop (mkF m 90 #[.val (.int p1), .val (.long q2), .second, .val (.long q3), .second, .val (.int p4), .val (.int p5), .val (.int p6), .val (.long yS), .second, .val (.long (yS ||| (q2 &&& (-256 : Int64)))), .second, .val (.long q3), .second, .val (.long (q3 / yS)), .second, .val (.long (q3 - (q3 / yS) * yS)), .second, .unset] [(.int (lcmpW (q3 / yS) (-2147483648 : Int64)))])) _
          refine XS.ifYes X0.here hx rfl (pc0 := 90) (pc' := 110) rfl (hb hby at_90) rfl ((if0 _ _).trans (tlt ((lw_lt (q3 / yS) (-2147483648 : Int64)).mpr hc90_3)).1) (by decide) (by decide) ?_
          show Steps p.tables e below (s₁.setTop (mkF m 110 #[.val (.int p1), .val (.long q2), .second, .val (.long q3), .second, .val (.int p4), .val (.int p5), .val (.int p6), .val (.long yS), .second, .val (.long (yS ||| (q2 &&& (-256 : Int64)))), .second, .val (.long q3), .second, .val (.long (q3 / yS)), .second, .val (.long (q3 - (q3 / yS) * yS)), .second, .unset] [])) _
          refine XS.iconst X0.here hx rfl (hb hby at_110) ?_
          show Steps p.tables e below (s₁.setTop (mkF m 111 #[.val (.int p1), .val (.long q2), .second, .val (.long q3), .second, .val (.int p4), .val (.int p5), .val (.int p6), .val (.long yS), .second, .val (.long (yS ||| (q2 &&& (-256 : Int64)))), .second, .val (.long q3), .second, .val (.long (q3 / yS)), .second, .val (.long (q3 - (q3 / yS) * yS)), .second, .unset] [(.int (-1 : Int32))])) _
          refine XS.istore X0.here hx rfl (hb hby at_111) rfl (l' := #[.val (.int p1), .val (.long q2), .second, .val (.long q3), .second, .val (.int p4), .val (.int p5), .val (.int p6), .val (.long yS), .second, .val (.long (yS ||| (q2 &&& (-256 : Int64)))), .second, .val (.long q3), .second, .val (.long (q3 / yS)), .second, .val (.long (q3 - (q3 / yS) * yS)), .second, .val (.int (-1 : Int32))]) rfl ?_
          exact k
        · by_cases hc99_4 : (2147483647 : Int64) < (q3 / yS)
          · refine ⟨(-1 : Int32), (by simp only [if_pos hc81_2, if_neg hc90_3, if_pos hc99_4]), fun t k => ?_⟩
            show Steps p.tables e below (s₁.setTop (mkF m 81 #[.val (.int p1), .val (.long q2), .second, .val (.long q3), .second, .val (.int p4), .val (.int p5), .val (.int p6), .val (.long yS), .second, .val (.long (yS ||| (q2 &&& (-256 : Int64)))), .second, .val (.long q3), .second, .val (.long (q3 / yS)), .second, .val (.long (q3 - (q3 / yS) * yS)), .second, .unset] [(.int (lcmpW (q3 - (q3 / yS) * yS) (0 : Int64)))])) _
            refine XS.ifNo X0.here hx rfl (hb hby at_81) rfl ((if0 _ _).trans (teq ((lw_eq (q3 - (q3 / yS) * yS) (0 : Int64)).mpr hc81_2)).2) ?_
            show Steps p.tables e below (s₁.setTop (mkF m 84 #[.val (.int p1), .val (.long q2), .second, .val (.long q3), .second, .val (.int p4), .val (.int p5), .val (.int p6), .val (.long yS), .second, .val (.long (yS ||| (q2 &&& (-256 : Int64)))), .second, .val (.long q3), .second, .val (.long (q3 / yS)), .second, .val (.long (q3 - (q3 / yS) * yS)), .second, .unset] [])) _
            refine XS.lload X0.here hx rfl (hb hby at_84) rfl ?_
            show Steps p.tables e below (s₁.setTop (mkF m 86 #[.val (.int p1), .val (.long q2), .second, .val (.long q3), .second, .val (.int p4), .val (.int p5), .val (.int p6), .val (.long yS), .second, .val (.long (yS ||| (q2 &&& (-256 : Int64)))), .second, .val (.long q3), .second, .val (.long (q3 / yS)), .second, .val (.long (q3 - (q3 / yS) * yS)), .second, .unset] [(.long (q3 / yS))])) _
            refine X0.ldc2Long hx hown (mvT hZ (hw _ (List.mem_of_getElem? (i := 1) rfl))) (g := (mkF m 86 #[.val (.int p1), .val (.long q2), .second, .val (.long q3), .second, .val (.int p4), .val (.int p5), .val (.int p6), .val (.long yS), .second, .val (.long (yS ||| (q2 &&& (-256 : Int64)))), .second, .val (.long q3), .second, .val (.long (q3 / yS)), .second, .val (.long (q3 - (q3 / yS) * yS)), .second, .unset] [(.long (q3 / yS))])) rfl (hb hby at_86) _ ?_
            show Steps p.tables e below (s₁.setTop (mkF m 89 #[.val (.int p1), .val (.long q2), .second, .val (.long q3), .second, .val (.int p4), .val (.int p5), .val (.int p6), .val (.long yS), .second, .val (.long (yS ||| (q2 &&& (-256 : Int64)))), .second, .val (.long q3), .second, .val (.long (q3 / yS)), .second, .val (.long (q3 - (q3 / yS) * yS)), .second, .unset] [(.long (-2147483648 : Int64)), (.long (q3 / yS))])) _
            refine XS.lcmp X0.here hx rfl (hb hby at_89) rfl ?_
            show Steps p.tables e below (s₁.setTop (mkF m 90 #[.val (.int p1), .val (.long q2), .second, .val (.long q3), .second, .val (.int p4), .val (.int p5), .val (.int p6), .val (.long yS), .second, .val (.long (yS ||| (q2 &&& (-256 : Int64)))), .second, .val (.long q3), .second, .val (.long (q3 / yS)), .second, .val (.long (q3 - (q3 / yS) * yS)), .second, .unset] [(.int (lcmpW (q3 / yS) (-2147483648 : Int64)))])) _
            refine XS.ifNo X0.here hx rfl (hb hby at_90) rfl ((if0 _ _).trans (flt (fun q => hc90_3 ((lw_lt (q3 / yS) (-2147483648 : Int64)).mp q))).1) ?_
            show Steps p.tables e below (s₁.setTop (mkF m 93 #[.val (.int p1), .val (.long q2), .second, .val (.long q3), .second, .val (.int p4), .val (.int p5), .val (.int p6), .val (.long yS), .second, .val (.long (yS ||| (q2 &&& (-256 : Int64)))), .second, .val (.long q3), .second, .val (.long (q3 / yS)), .second, .val (.long (q3 - (q3 / yS) * yS)), .second, .unset] [])) _
            refine XS.lload X0.here hx rfl (hb hby at_93) rfl ?_
            show Steps p.tables e below (s₁.setTop (mkF m 95 #[.val (.int p1), .val (.long q2), .second, .val (.long q3), .second, .val (.int p4), .val (.int p5), .val (.int p6), .val (.long yS), .second, .val (.long (yS ||| (q2 &&& (-256 : Int64)))), .second, .val (.long q3), .second, .val (.long (q3 / yS)), .second, .val (.long (q3 - (q3 / yS) * yS)), .second, .unset] [(.long (q3 / yS))])) _
            refine X0.ldc2Long hx hown (mvT hZ (hw _ (List.mem_of_getElem? (i := 13) rfl))) (g := (mkF m 95 #[.val (.int p1), .val (.long q2), .second, .val (.long q3), .second, .val (.int p4), .val (.int p5), .val (.int p6), .val (.long yS), .second, .val (.long (yS ||| (q2 &&& (-256 : Int64)))), .second, .val (.long q3), .second, .val (.long (q3 / yS)), .second, .val (.long (q3 - (q3 / yS) * yS)), .second, .unset] [(.long (q3 / yS))])) rfl (hb hby at_95) _ ?_
            show Steps p.tables e below (s₁.setTop (mkF m 98 #[.val (.int p1), .val (.long q2), .second, .val (.long q3), .second, .val (.int p4), .val (.int p5), .val (.int p6), .val (.long yS), .second, .val (.long (yS ||| (q2 &&& (-256 : Int64)))), .second, .val (.long q3), .second, .val (.long (q3 / yS)), .second, .val (.long (q3 - (q3 / yS) * yS)), .second, .unset] [(.long (2147483647 : Int64)), (.long (q3 / yS))])) _
            refine XS.lcmp X0.here hx rfl (hb hby at_98) rfl ?_
            show Steps p.tables e below (s₁.setTop (mkF m 99 #[.val (.int p1), .val (.long q2), .second, .val (.long q3), .second, .val (.int p4), .val (.int p5), .val (.int p6), .val (.long yS), .second, .val (.long (yS ||| (q2 &&& (-256 : Int64)))), .second, .val (.long q3), .second, .val (.long (q3 / yS)), .second, .val (.long (q3 - (q3 / yS) * yS)), .second, .unset] [(.int (lcmpW (q3 / yS) (2147483647 : Int64)))])) _
            refine XS.ifYes X0.here hx rfl (pc0 := 99) (pc' := 110) rfl (hb hby at_99) rfl ((if0 _ _).trans (tlt ((lw_gt (q3 / yS) (2147483647 : Int64)).mpr hc99_4)).2.2.1) (by decide) (by decide) ?_
            show Steps p.tables e below (s₁.setTop (mkF m 110 #[.val (.int p1), .val (.long q2), .second, .val (.long q3), .second, .val (.int p4), .val (.int p5), .val (.int p6), .val (.long yS), .second, .val (.long (yS ||| (q2 &&& (-256 : Int64)))), .second, .val (.long q3), .second, .val (.long (q3 / yS)), .second, .val (.long (q3 - (q3 / yS) * yS)), .second, .unset] [])) _
            refine XS.iconst X0.here hx rfl (hb hby at_110) ?_
            show Steps p.tables e below (s₁.setTop (mkF m 111 #[.val (.int p1), .val (.long q2), .second, .val (.long q3), .second, .val (.int p4), .val (.int p5), .val (.int p6), .val (.long yS), .second, .val (.long (yS ||| (q2 &&& (-256 : Int64)))), .second, .val (.long q3), .second, .val (.long (q3 / yS)), .second, .val (.long (q3 - (q3 / yS) * yS)), .second, .unset] [(.int (-1 : Int32))])) _
            refine XS.istore X0.here hx rfl (hb hby at_111) rfl (l' := #[.val (.int p1), .val (.long q2), .second, .val (.long q3), .second, .val (.int p4), .val (.int p5), .val (.int p6), .val (.long yS), .second, .val (.long (yS ||| (q2 &&& (-256 : Int64)))), .second, .val (.long q3), .second, .val (.long (q3 / yS)), .second, .val (.long (q3 - (q3 / yS) * yS)), .second, .val (.int (-1 : Int32))]) rfl ?_
            exact k
          · refine ⟨((q3 / yS).toInt32), (by simp only [if_pos hc81_2, if_neg hc90_3, if_neg hc99_4]), fun t k => ?_⟩
            show Steps p.tables e below (s₁.setTop (mkF m 81 #[.val (.int p1), .val (.long q2), .second, .val (.long q3), .second, .val (.int p4), .val (.int p5), .val (.int p6), .val (.long yS), .second, .val (.long (yS ||| (q2 &&& (-256 : Int64)))), .second, .val (.long q3), .second, .val (.long (q3 / yS)), .second, .val (.long (q3 - (q3 / yS) * yS)), .second, .unset] [(.int (lcmpW (q3 - (q3 / yS) * yS) (0 : Int64)))])) _
            refine XS.ifNo X0.here hx rfl (hb hby at_81) rfl ((if0 _ _).trans (teq ((lw_eq (q3 - (q3 / yS) * yS) (0 : Int64)).mpr hc81_2)).2) ?_
            show Steps p.tables e below (s₁.setTop (mkF m 84 #[.val (.int p1), .val (.long q2), .second, .val (.long q3), .second, .val (.int p4), .val (.int p5), .val (.int p6), .val (.long yS), .second, .val (.long (yS ||| (q2 &&& (-256 : Int64)))), .second, .val (.long q3), .second, .val (.long (q3 / yS)), .second, .val (.long (q3 - (q3 / yS) * yS)), .second, .unset] [])) _
            refine XS.lload X0.here hx rfl (hb hby at_84) rfl ?_
            show Steps p.tables e below (s₁.setTop (mkF m 86 #[.val (.int p1), .val (.long q2), .second, .val (.long q3), .second, .val (.int p4), .val (.int p5), .val (.int p6), .val (.long yS), .second, .val (.long (yS ||| (q2 &&& (-256 : Int64)))), .second, .val (.long q3), .second, .val (.long (q3 / yS)), .second, .val (.long (q3 - (q3 / yS) * yS)), .second, .unset] [(.long (q3 / yS))])) _
            refine X0.ldc2Long hx hown (mvT hZ (hw _ (List.mem_of_getElem? (i := 1) rfl))) (g := (mkF m 86 #[.val (.int p1), .val (.long q2), .second, .val (.long q3), .second, .val (.int p4), .val (.int p5), .val (.int p6), .val (.long yS), .second, .val (.long (yS ||| (q2 &&& (-256 : Int64)))), .second, .val (.long q3), .second, .val (.long (q3 / yS)), .second, .val (.long (q3 - (q3 / yS) * yS)), .second, .unset] [(.long (q3 / yS))])) rfl (hb hby at_86) _ ?_
            show Steps p.tables e below (s₁.setTop (mkF m 89 #[.val (.int p1), .val (.long q2), .second, .val (.long q3), .second, .val (.int p4), .val (.int p5), .val (.int p6), .val (.long yS), .second, .val (.long (yS ||| (q2 &&& (-256 : Int64)))), .second, .val (.long q3), .second, .val (.long (q3 / yS)), .second, .val (.long (q3 - (q3 / yS) * yS)), .second, .unset] [(.long (-2147483648 : Int64)), (.long (q3 / yS))])) _
            refine XS.lcmp X0.here hx rfl (hb hby at_89) rfl ?_
            show Steps p.tables e below (s₁.setTop (mkF m 90 #[.val (.int p1), .val (.long q2), .second, .val (.long q3), .second, .val (.int p4), .val (.int p5), .val (.int p6), .val (.long yS), .second, .val (.long (yS ||| (q2 &&& (-256 : Int64)))), .second, .val (.long q3), .second, .val (.long (q3 / yS)), .second, .val (.long (q3 - (q3 / yS) * yS)), .second, .unset] [(.int (lcmpW (q3 / yS) (-2147483648 : Int64)))])) _
            refine XS.ifNo X0.here hx rfl (hb hby at_90) rfl ((if0 _ _).trans (flt (fun q => hc90_3 ((lw_lt (q3 / yS) (-2147483648 : Int64)).mp q))).1) ?_
            show Steps p.tables e below (s₁.setTop (mkF m 93 #[.val (.int p1), .val (.long q2), .second, .val (.long q3), .second, .val (.int p4), .val (.int p5), .val (.int p6), .val (.long yS), .second, .val (.long (yS ||| (q2 &&& (-256 : Int64)))), .second, .val (.long q3), .second, .val (.long (q3 / yS)), .second, .val (.long (q3 - (q3 / yS) * yS)), .second, .unset] [])) _
            refine XS.lload X0.here hx rfl (hb hby at_93) rfl ?_
            show Steps p.tables e below (s₁.setTop (mkF m 95 #[.val (.int p1), .val (.long q2), .second, .val (.long q3), .second, .val (.int p4), .val (.int p5), .val (.int p6), .val (.long yS), .second, .val (.long (yS ||| (q2 &&& (-256 : Int64)))), .second, .val (.long q3), .second, .val (.long (q3 / yS)), .second, .val (.long (q3 - (q3 / yS) * yS)), .second, .unset] [(.long (q3 / yS))])) _
            refine X0.ldc2Long hx hown (mvT hZ (hw _ (List.mem_of_getElem? (i := 13) rfl))) (g := (mkF m 95 #[.val (.int p1), .val (.long q2), .second, .val (.long q3), .second, .val (.int p4), .val (.int p5), .val (.int p6), .val (.long yS), .second, .val (.long (yS ||| (q2 &&& (-256 : Int64)))), .second, .val (.long q3), .second, .val (.long (q3 / yS)), .second, .val (.long (q3 - (q3 / yS) * yS)), .second, .unset] [(.long (q3 / yS))])) rfl (hb hby at_95) _ ?_
            show Steps p.tables e below (s₁.setTop (mkF m 98 #[.val (.int p1), .val (.long q2), .second, .val (.long q3), .second, .val (.int p4), .val (.int p5), .val (.int p6), .val (.long yS), .second, .val (.long (yS ||| (q2 &&& (-256 : Int64)))), .second, .val (.long q3), .second, .val (.long (q3 / yS)), .second, .val (.long (q3 - (q3 / yS) * yS)), .second, .unset] [(.long (2147483647 : Int64)), (.long (q3 / yS))])) _
            refine XS.lcmp X0.here hx rfl (hb hby at_98) rfl ?_
            show Steps p.tables e below (s₁.setTop (mkF m 99 #[.val (.int p1), .val (.long q2), .second, .val (.long q3), .second, .val (.int p4), .val (.int p5), .val (.int p6), .val (.long yS), .second, .val (.long (yS ||| (q2 &&& (-256 : Int64)))), .second, .val (.long q3), .second, .val (.long (q3 / yS)), .second, .val (.long (q3 - (q3 / yS) * yS)), .second, .unset] [(.int (lcmpW (q3 / yS) (2147483647 : Int64)))])) _
            refine XS.ifNo X0.here hx rfl (hb hby at_99) rfl ((if0 _ _).trans (flt (fun q => hc99_4 ((lw_gt (q3 / yS) (2147483647 : Int64)).mp q))).2.2.1) ?_
            show Steps p.tables e below (s₁.setTop (mkF m 102 #[.val (.int p1), .val (.long q2), .second, .val (.long q3), .second, .val (.int p4), .val (.int p5), .val (.int p6), .val (.long yS), .second, .val (.long (yS ||| (q2 &&& (-256 : Int64)))), .second, .val (.long q3), .second, .val (.long (q3 / yS)), .second, .val (.long (q3 - (q3 / yS) * yS)), .second, .unset] [])) _
            refine XS.lload X0.here hx rfl (hb hby at_102) rfl ?_
            show Steps p.tables e below (s₁.setTop (mkF m 104 #[.val (.int p1), .val (.long q2), .second, .val (.long q3), .second, .val (.int p4), .val (.int p5), .val (.int p6), .val (.long yS), .second, .val (.long (yS ||| (q2 &&& (-256 : Int64)))), .second, .val (.long q3), .second, .val (.long (q3 / yS)), .second, .val (.long (q3 - (q3 / yS) * yS)), .second, .unset] [(.long (q3 / yS))])) _
            refine XS.l2i X0.here hx rfl (hb hby at_104) rfl ?_
            show Steps p.tables e below (s₁.setTop (mkF m 105 #[.val (.int p1), .val (.long q2), .second, .val (.long q3), .second, .val (.int p4), .val (.int p5), .val (.int p6), .val (.long yS), .second, .val (.long (yS ||| (q2 &&& (-256 : Int64)))), .second, .val (.long q3), .second, .val (.long (q3 / yS)), .second, .val (.long (q3 - (q3 / yS) * yS)), .second, .unset] [(.int ((q3 / yS).toInt32))])) _
            refine XS.istore X0.here hx rfl (hb hby at_105) rfl (l' := #[.val (.int p1), .val (.long q2), .second, .val (.long q3), .second, .val (.int p4), .val (.int p5), .val (.int p6), .val (.long yS), .second, .val (.long (yS ||| (q2 &&& (-256 : Int64)))), .second, .val (.long q3), .second, .val (.long (q3 / yS)), .second, .val (.long (q3 - (q3 / yS) * yS)), .second, .val (.int ((q3 / yS).toInt32))]) rfl ?_
            show Steps p.tables e below (s₁.setTop (mkF m 107 #[.val (.int p1), .val (.long q2), .second, .val (.long q3), .second, .val (.int p4), .val (.int p5), .val (.int p6), .val (.long yS), .second, .val (.long (yS ||| (q2 &&& (-256 : Int64)))), .second, .val (.long q3), .second, .val (.long (q3 / yS)), .second, .val (.long (q3 - (q3 / yS) * yS)), .second, .val (.int ((q3 / yS).toInt32))] [])) _
            refine XS.goto X0.here hx rfl (pc0 := 107) (pc' := 113) rfl (hb hby at_107) (by decide) (by decide) ?_
            exact k
      · refine ⟨(-1 : Int32), (by simp only [if_neg hc81_2]), fun t k => ?_⟩
        show Steps p.tables e below (s₁.setTop (mkF m 81 #[.val (.int p1), .val (.long q2), .second, .val (.long q3), .second, .val (.int p4), .val (.int p5), .val (.int p6), .val (.long yS), .second, .val (.long (yS ||| (q2 &&& (-256 : Int64)))), .second, .val (.long q3), .second, .val (.long (q3 / yS)), .second, .val (.long (q3 - (q3 / yS) * yS)), .second, .unset] [(.int (lcmpW (q3 - (q3 / yS) * yS) (0 : Int64)))])) _
        refine XS.ifYes X0.here hx rfl (pc0 := 81) (pc' := 110) rfl (hb hby at_81) rfl ((if0 _ _).trans (feq (fun q => hc81_2 ((lw_eq (q3 - (q3 / yS) * yS) (0 : Int64)).mp q))).2) (by decide) (by decide) ?_
        show Steps p.tables e below (s₁.setTop (mkF m 110 #[.val (.int p1), .val (.long q2), .second, .val (.long q3), .second, .val (.int p4), .val (.int p5), .val (.int p6), .val (.long yS), .second, .val (.long (yS ||| (q2 &&& (-256 : Int64)))), .second, .val (.long q3), .second, .val (.long (q3 / yS)), .second, .val (.long (q3 - (q3 / yS) * yS)), .second, .unset] [])) _
        refine XS.iconst X0.here hx rfl (hb hby at_110) ?_
        show Steps p.tables e below (s₁.setTop (mkF m 111 #[.val (.int p1), .val (.long q2), .second, .val (.long q3), .second, .val (.int p4), .val (.int p5), .val (.int p6), .val (.long yS), .second, .val (.long (yS ||| (q2 &&& (-256 : Int64)))), .second, .val (.long q3), .second, .val (.long (q3 / yS)), .second, .val (.long (q3 - (q3 / yS) * yS)), .second, .unset] [(.int (-1 : Int32))])) _
        refine XS.istore X0.here hx rfl (hb hby at_111) rfl (l' := #[.val (.int p1), .val (.long q2), .second, .val (.long q3), .second, .val (.int p4), .val (.int p5), .val (.int p6), .val (.long yS), .second, .val (.long (yS ||| (q2 &&& (-256 : Int64)))), .second, .val (.long q3), .second, .val (.long (q3 / yS)), .second, .val (.long (q3 - (q3 / yS) * yS)), .second, .val (.int (-1 : Int32))]) rfl ?_
        exact k
    refine own_step st105 ?_
    refine own_step (T' := s₁) (f' := (mkF m 117 #[.val (.int p1), .val (.long q2), .second, .val (.long q3), .second, .val (.int p4), .val (.int p5), .val (.int p6), .val (.long yS), .second, .val (.long (yS ||| (q2 &&& (-256 : Int64)))), .second, .val (.long q3), .second, .val (.long (q3 / yS)), .second, .val (.long (q3 - (q3 / yS) * yS)), .second, .val (.int v104)] [(.long q3), (.long (yS ||| (q2 &&& (-256 : Int64))))])) (fun t k => ?_) ?_
    · show Steps p.tables e below (s₁.setTop (mkF m 113 #[.val (.int p1), .val (.long q2), .second, .val (.long q3), .second, .val (.int p4), .val (.int p5), .val (.int p6), .val (.long yS), .second, .val (.long (yS ||| (q2 &&& (-256 : Int64)))), .second, .val (.long q3), .second, .val (.long (q3 / yS)), .second, .val (.long (q3 - (q3 / yS) * yS)), .second, .val (.int v104)] [])) _
      refine XS.lload X0.here hx rfl (hb hby at_113) rfl ?_
      show Steps p.tables e below (s₁.setTop (mkF m 115 #[.val (.int p1), .val (.long q2), .second, .val (.long q3), .second, .val (.int p4), .val (.int p5), .val (.int p6), .val (.long yS), .second, .val (.long (yS ||| (q2 &&& (-256 : Int64)))), .second, .val (.long q3), .second, .val (.long (q3 / yS)), .second, .val (.long (q3 - (q3 / yS) * yS)), .second, .val (.int v104)] [(.long (yS ||| (q2 &&& (-256 : Int64))))])) _
      refine XS.lload X0.here hx rfl (hb hby at_115) rfl ?_
      exact k
    obtain ⟨_, _, ⟨T106, L106, k106, n106⟩, -, X106, ⟨Lc106, hQ106, l106, y106, z106⟩, st106⟩ := Jvm.LawKit.callS X0 hx (y := (⟨"com/example/bridgehead/bridgehead/ValueLayout", "indexAt", "(JJ)I"⟩ : MethodName)) hown (mvT hZ (hw _ (List.mem_of_getElem? (i := 2) rfl))) (mvT hZ (hw _ (List.mem_of_getElem? (i := 3) rfl))) (mvT hZ (hw _ (List.mem_of_getElem? (i := 4) rfl))) (mvT hZ (hw _ (List.mem_of_getElem? (i := 5) rfl))) (by decide) (backOf (W := 0) (own_rm1 l Z a0 hw (yS ||| (q2 &&& (-256 : Int64))) q3 h0 n0) hZ (hw _ (List.mem_of_getElem? (i := 5) rfl)) (hw _ (List.mem_of_getElem? (i := 4) rfl)) (by decide) (by decide)) (g := (mkF m 117 #[.val (.int p1), .val (.long q2), .second, .val (.long q3), .second, .val (.int p4), .val (.int p5), .val (.int p6), .val (.long yS), .second, .val (.long (yS ||| (q2 &&& (-256 : Int64)))), .second, .val (.long q3), .second, .val (.long (q3 / yS)), .second, .val (.long (q3 - (q3 / yS) * yS)), .second, .val (.int v104)] [(.long q3), (.long (yS ||| (q2 &&& (-256 : Int64))))])) rfl (by rw [hml]; rfl) (argsL := [(.long (yS ||| (q2 &&& (-256 : Int64)))), (.long q3)]) (rest := []) (lenOf own_pd1 rfl) rfl (by show 2 * 0 + _ ≤ _; exact Nat.le_of_eq rfl) (hb hby at_117) (fun _ _ => ⟨rfl, e0, (by decide : 0 + 0 ≤ _), (by decide : 0 + 0 ≤ _)⟩)
    dsimp only [Pt.U, Pt.locs, Pt.cells, Pt.slots] at X106 l106 y106 z106 st106 hQ106
    subst l106 y106 z106
    obtain ⟨rfl, N106q, e106⟩ := hQ106
    have N106 := Fr.app N0 N106q
    refine own_step (fun t k => st106 _ k) ?_
    refine own_step (T' := T106) (f' := (mkF m 122 #[.val (.int p1), .val (.long q2), .second, .val (.long q3), .second, .val (.int p4), .val (.int p5), .val (.int p6), .val (.long yS), .second, .val (.long (yS ||| (q2 &&& (-256 : Int64)))), .second, .val (.long q3), .second, .val (.long (q3 / yS)), .second, .val (.long (q3 - (q3 / yS) * yS)), .second, .val (.int v104)] [(.int v104), (.int (own_f1 (yS ||| (q2 &&& (-256 : Int64))) q3))])) (fun t k => ?_) ?_
    · show Steps p.tables e below (T106.setTop (mkF m 120 #[.val (.int p1), .val (.long q2), .second, .val (.long q3), .second, .val (.int p4), .val (.int p5), .val (.int p6), .val (.long yS), .second, .val (.long (yS ||| (q2 &&& (-256 : Int64)))), .second, .val (.long q3), .second, .val (.long (q3 / yS)), .second, .val (.long (q3 - (q3 / yS) * yS)), .second, .val (.int v104)] [(.int (own_f1 (yS ||| (q2 &&& (-256 : Int64))) q3))])) _
      refine XS.iload X106.here hx rfl (hb hby at_120) rfl ?_
      exact k
    have hk : (own_f1 (yS ||| (q2 &&& (-256 : Int64))) q3) = v104 := own_key hS hv104
    refine own_step (T' := T106) (f' := (mkF m 130 #[.val (.int p1), .val (.long q2), .second, .val (.long q3), .second, .val (.int p4), .val (.int p5), .val (.int p6), .val (.long yS), .second, .val (.long (yS ||| (q2 &&& (-256 : Int64)))), .second, .val (.long q3), .second, .val (.long (q3 / yS)), .second, .val (.long (q3 - (q3 / yS) * yS)), .second, .val (.int v104)] [(.int (1 : Int32))])) (fun t k => ?_) ?_
    · show Steps p.tables e below (T106.setTop (mkF m 122 #[.val (.int p1), .val (.long q2), .second, .val (.long q3), .second, .val (.int p4), .val (.int p5), .val (.int p6), .val (.long yS), .second, .val (.long (yS ||| (q2 &&& (-256 : Int64)))), .second, .val (.long q3), .second, .val (.long (q3 / yS)), .second, .val (.long (q3 - (q3 / yS) * yS)), .second, .val (.int v104)] [(.int v104), (.int (own_f1 (yS ||| (q2 &&& (-256 : Int64))) q3))])) _
      refine XS.icmpNo X106.here hx rfl (hb hby at_122) rfl (teq hk).2 ?_
      show Steps p.tables e below (T106.setTop (mkF m 125 #[.val (.int p1), .val (.long q2), .second, .val (.long q3), .second, .val (.int p4), .val (.int p5), .val (.int p6), .val (.long yS), .second, .val (.long (yS ||| (q2 &&& (-256 : Int64)))), .second, .val (.long q3), .second, .val (.long (q3 / yS)), .second, .val (.long (q3 - (q3 / yS) * yS)), .second, .val (.int v104)] [])) _
      refine XS.iconst X106.here hx rfl (hb hby at_125) ?_
      show Steps p.tables e below (T106.setTop (mkF m 126 #[.val (.int p1), .val (.long q2), .second, .val (.long q3), .second, .val (.int p4), .val (.int p5), .val (.int p6), .val (.long yS), .second, .val (.long (yS ||| (q2 &&& (-256 : Int64)))), .second, .val (.long q3), .second, .val (.long (q3 / yS)), .second, .val (.long (q3 - (q3 / yS) * yS)), .second, .val (.int v104)] [(.int (1 : Int32))])) _
      refine XS.goto X106.here hx rfl (pc0 := 126) (pc' := 130) rfl (hb hby at_126) (by decide) (by decide) ?_
      exact k
    exact own_retZ X106 hx hret hlk (hb hby at_130) (by decide) (by decide) ⟨rfl, N106⟩
set_option maxRecDepth 65536 in
set_option maxHeartbeats 40000000 in
theorem comes_1 {Post : Tables → Env → Array Value → State → Outcome → State → Prop} (hpost : ∀ tb e args s v u, (limb_1_1.after args s (.returned v) u = true ∧ limb_1_2.after args s (.returned v) u = true ∧ True) → FrameEnd s (.returned v) u (Jvm.fieldLocs frame_1_writes args s ++ Jvm.arrayLocs frame_1_arrays args s ++ Jvm.staticLocs frame_1_statics s) 0 0 → Post tb e args s (.returned v) u) :
    ArmFor flags0 classFile x code maxLocals ret World_1 tables_1 room_1 Calls_1 rest_1 Pre_1 Post := by
  intro l hfl _ _ p e ha hc hk s m args below hf hA hF happ hP
  obtain ⟨hcalls, hrest, hpre⟩ := hP
  obtain ⟨-, -, -, hnamed, -, -, -, hat⟩ := (Spec.applies_iff hf).mp happ
  obtain ⟨hg, hn⟩ := and_e (Cond.before_iff.mp (show (Jvm.Cond.and given_1 narrow_1).before args s = true from hpre))
  obtain ⟨g1, g2⟩ := and_e hg
  obtain ⟨ga0, gb0⟩ := and_e g2
  obtain ⟨ga1, gb1⟩ := and_e gb0
  obtain ⟨ga2, gb2⟩ := and_e gb1
  obtain ⟨ga3, gb3⟩ := and_e gb2
  obtain ⟨ga4, gb4⟩ := and_e gb3
  obtain ⟨w0, w1, w2, w3, w4, w5, rfl⟩ : ∃ w0 w1 w2 w3 w4 w5 : Value, args = #[w0, w1, w2, w3, w4, w5] := by
    have hs : args.size = 6 := by simpa [Cond.value, given_1] using g1
    obtain ⟨L⟩ := args
    match L, hs with
    | [w0, w1, w2, w3, w4, w5], _ => exact ⟨w0, w1, w2, w3, w4, w5, rfl⟩
  have hw := fun d (hd : d ∈ tables_1) => atoms_spec (ws := Jvm.Cond.code x code maxLocals ret :: tables_1) hat d (List.mem_cons_of_mem _ hd)
  obtain ⟨i0, ei0⟩ := is_v ga0
  obtain rfl : w0 = (.int i0) := Option.some.inj ei0
  obtain ⟨i1, ei1⟩ := isL_v ga1
  obtain rfl : w1 = (.long i1) := Option.some.inj ei1
  obtain ⟨i2, ei2⟩ := isL_v ga2
  obtain rfl : w2 = (.long i2) := Option.some.inj ei2
  obtain ⟨i3, ei3⟩ := is_v ga3
  obtain rfl : w3 = (.int i3) := Option.some.inj ei3
  obtain ⟨i4, ei4⟩ := is_v ga4
  obtain rfl : w4 = (.int i4) := Option.some.inj ei4
  obtain ⟨i5, ei5⟩ := is_v gb4
  obtain rfl : w5 = (.int i5) := Option.some.inj ei5
  obtain ⟨n, o, h1, h2, h3, _, L, rfl, ⟨rfl, N⟩, hq⟩ := own_rm0 l s _ hw tables_1 i0 i1 i2 i3 i4 i5 s.heap s.heap.size p e ha hc hk s m _ below hf ((Spec.applies_iff_loose hf).mp happ).1 ⟨rfl, State.Warmed39.refl s, rfl⟩ trivial
  refine ⟨n, _, h1, h2, h3, hpost _ _ _ _ _ _ ⟨Cond.after_iff.mpr rfl, Cond.after_iff.mpr (eq_i res_at (Term.int_eval (1)) rfl), trivial⟩ ⟨hq.1, hq.2.1, (hq.2.2.sift fun y hy => Or.inr (N y hy)).mono (by decide) (by decide)⟩⟩
theorem main_1_1 : Claimed_1_1 := comes_1 fun _ _ _ _ _ _ h hF => ⟨h.1, hF⟩
theorem main_1_2 : Claimed_1_2 := comes_1 fun _ _ _ _ _ _ h hF => ⟨h.2.1, hF⟩
end Jvm.Pilot.@@N@@
namespace Jvm.Pilot.@@N@@
open Jvm Jvm.ClassFile Sem Op Lib Jvm.Free Jvm.Stand Jvm.Pilot.@@N@@.Jvm.D
/-! MADE BY PROGRAM (witnessworld.py) out of the Statement's table words and the real class files: 10 classes; the members and pool entries that the words name. The judged class is class 1, her method 1. -/
namespace start1
open Jvm.ClassFile
def u (s : String) : CpInfo := .utf8 (stringToUtf16 s)
/-- a pool by its gaps: so many unusable entries, then the entry; so many at the end -/
def gap : Nat → List CpInfo → List CpInfo
  | 0, r => r
  | n + 1, r => .unusable :: gap n r
def poolList (es : List (Nat × CpInfo)) (last : Nat) : List CpInfo := es.foldr (fun e r => gap e.1 (e.2 :: r)) (gap last [])
def pool (es : List (Nat × CpInfo)) (last : Nat) : Array CpInfo := ⟨poolList es last⟩
def fileOf (pool : Array CpInfo) (this : Nat) (attrs : Array Attribute := #[]) (ms : Array MethodInfo := #[]) (fl : Nat := 33) (sup : Nat := 0) (ifs : Array Nat := #[]) (fds : Array FieldInfo := #[]) : ClassFile where
  minorVersion := 0
  majorVersion := 65
  constantPool := pool
  accessFlags := fl
  thisClass := this
  superClass := sup
  interfaces := ifs
  fields := fds
  methods := ms
  attributes := attrs
def plain (name : String) (sup : Option ClassId) : Class where
  name := name
  kind := .ordinary
  loader := none
  accessFlags := 33
  super := sup
  interfaces := #[]
  cf := none
  fields := #[]
  methods := #[]
  instanceTypes := #[]
  staticTypes := #[]
  resolved := #[]
  callSites := []
  init := .initialized
  statics := none
  mirror := none

def pool0 : Array CpInfo := pool [(5, u "<init>"), (0, u "()V"), (1, .class_ 10), (1, u "java/lang/Object")] 113

def k0m0 : Method := { name := "<init>", desc := "()V", sig := { parameters := [], returnType := none }, accessFlags := 1, code := none }
/-- java/lang/Object -/
def k0 : Class := { plain "java/lang/Object" none with
  accessFlags := 33
  interfaces := #[]
  cf := some (fileOf pool0 8 #[] #[{ accessFlags := 1, nameIndex := 5, descriptorIndex := 6, attributes := #[] }] 33 0 #[] #[])
  fields := #[]
  methods := #[k0m0]
  instanceTypes := #[]
  staticTypes := #[]
  resolved := Array.replicate 124 none
  statics := none }

def pool1 : Array CpInfo := pool [(2, .class_ 4), (1, u "java/lang/Object"), (0, u "<init>"), (0, u "()V"), (0, .long 18446744073709551360), (3, .long 18446744071562067968), (1, .long 2147483647), (1, .methodref 16 17), (0, .class_ 18), (0, .nameAndType 19 20), (0, u "com/example/bridgehead/bridgehead/ValueLayout"), (0, u "indexAt"), (0, u "(JJ)I"), (0, .class_ 22), (0, u "com/example/bridgehead/bridgehead/ValueLayoutIndexAtPinLaw"), (2, u "law"), (0, u "(IJJIII)Z")] 3

def k1m0 : Method := { name := "<init>", desc := "()V", sig := { parameters := [], returnType := none }, accessFlags := 2, code := none }
def k1c1 : Code := { maxStack := 6, maxLocals := 19, code := code, exceptionTable := #[], attributes := #[] }
def k1m1 : Method := { name := "law", desc := "(IJJIII)Z", sig := { parameters := [.int, .long, .long, .int, .int, .int], returnType := some .boolean }, accessFlags := 9, code := some k1c1 }
/-- com/example/bridgehead/bridgehead/ValueLayoutIndexAtPinLaw -/
def k1 : Class := { plain "com/example/bridgehead/bridgehead/ValueLayoutIndexAtPinLaw" (some 0) with
  accessFlags := 49
  interfaces := #[]
  cf := some (fileOf pool1 21 #[] #[{ accessFlags := 2, nameIndex := 5, descriptorIndex := 6, attributes := #[] }, { accessFlags := 9, nameIndex := 25, descriptorIndex := 26, attributes := #[] }] 49 2 #[] #[])
  fields := #[]
  methods := #[k1m0, k1m1]
  instanceTypes := #[]
  staticTypes := #[]
  resolved := Array.replicate 30 none
  statics := none }

def pool2 : Array CpInfo := pool [(2, .class_ 4), (1, u "java/lang/Object"), (3, .class_ 10), (1, u "com/example/bridgehead/bridgehead/Layout"), (0, u "byteSize"), (0, u "J"), (2, u "byteAlignment"), (2, u "name"), (0, u "Ljava/lang/String;"), (197, .class_ 218), (0, u "com/example/bridgehead/bridgehead/Layout$PathElement")] 65

/-- com/example/bridgehead/bridgehead/Layout -/
def k2 : Class := { plain "com/example/bridgehead/bridgehead/Layout" (some 0) with
  accessFlags := 1057
  interfaces := #[]
  cf := some (fileOf pool2 8 #[.nestMembers #[217]] #[] 1057 2 #[] #[{ accessFlags := 18, nameIndex := 11, descriptorIndex := 12, attributes := #[] }, { accessFlags := 18, nameIndex := 15, descriptorIndex := 12, attributes := #[] }, { accessFlags := 18, nameIndex := 18, descriptorIndex := 19, attributes := #[] }])
  fields := #[{ name := "byteSize", type := .long, accessFlags := 18, slot := 0, constantValue := 0 }, { name := "byteAlignment", type := .long, accessFlags := 18, slot := 1, constantValue := 0 }, { name := "name", type := (.object "java/lang/String"), accessFlags := 18, slot := 2, constantValue := 0 }]
  methods := #[]
  instanceTypes := #[.long, .long, (.object "java/lang/String")]
  staticTypes := #[]
  resolved := Array.replicate 284 none
  statics := none }

def pool3 : Array CpInfo := pool [(2, .class_ 4), (1, u "com/example/bridgehead/bridgehead/Layout"), (3, .class_ 10), (1, u "com/example/bridgehead/bridgehead/ValueLayout"), (0, u "typeName"), (0, u "Ljava/lang/String;"), (2, u "typeCode"), (0, u "I"), (2, u "carrier"), (0, u "Ljava/lang/Class;"), (8, u "order"), (0, u "Ljava/nio/ByteOrder;"), (2, u "shape"), (3, u "J"), (20, u "CONSTANTS"), (0, u "Ljava/util/List;"), (38, u "DOUBLE"), (0, u "Lcom/example/bridgehead/bridgehead/ValueLayout$OfDouble;"), (2, u "SINT32"), (0, u "Lcom/example/bridgehead/bridgehead/ValueLayout$OfInt;"), (1, .class_ 106), (0, u "com/example/bridgehead/bridgehead/ValueLayout$OfInt"), (2, u "FLOAT"), (0, u "Lcom/example/bridgehead/bridgehead/ValueLayout$OfFloat;"), (2, u "INT_SHAPE"), (2, u "SINT64"), (0, u "Lcom/example/bridgehead/bridgehead/ValueLayout$OfLong;"), (2, u "POINTER"), (0, u "Lcom/example/bridgehead/bridgehead/ValueLayout$OfPointer;"), (2, u "LONG_SHAPE"), (2, u "SINT16"), (0, u "Lcom/example/bridgehead/bridgehead/ValueLayout$OfShort;"), (2, u "SHORT_SHAPE"), (2, u "SINT8"), (0, u "Lcom/example/bridgehead/bridgehead/ValueLayout$OfByte;"), (2, u "BYTE_SHAPE"), (10, .long 255), (6, u "(J)J"), (4, .long 8), (1, .methodref 8 164), (0, .nameAndType 165 156), (0, u "sizeOf"), (2, .long 4), (3, .long 2), (57, .class_ 231), (0, u "com/example/bridgehead/bridgehead/ValueLayout$OfByte"), (4, .class_ 237), (0, u "com/example/bridgehead/bridgehead/ValueLayout$OfShort"), (4, .class_ 243), (0, u "com/example/bridgehead/bridgehead/ValueLayout$OfLong"), (3, u "UINT8"), (3, u "UINT16"), (3, u "UINT32"), (3, u "UINT64"), (2, .class_ 263), (0, u "com/example/bridgehead/bridgehead/ValueLayout$OfFloat"), (2, .class_ 267), (0, u "com/example/bridgehead/bridgehead/ValueLayout$OfDouble"), (2, .class_ 271), (0, u "com/example/bridgehead/bridgehead/ValueLayout$OfPointer"), (5, u "SIZE"), (1, u "ALIGNMENT_SHIFT"), (1, u "SWAPS"), (32, u "indexAt"), (0, u "(JJ)I"), (14, .class_ 331), (0, u "com/example/bridgehead/bridgehead/ValueLayout$OfString")] 32

def k3c0 : Code := { maxStack := 4, maxLocals := 2, code := prog_96_method_18_code, exceptionTable := #[], attributes := #[] }
def k3m0 : Method := { name := "sizeOf", desc := "(J)J", sig := { parameters := [.long], returnType := some .long }, accessFlags := 8, code := some k3c0 }
def k3c1 : Code := { maxStack := 4, maxLocals := 9, code := prog_96_method_21_code, exceptionTable := #[], attributes := #[] }
def k3m1 : Method := { name := "indexAt", desc := "(JJ)I", sig := { parameters := [.long, .long], returnType := some .int }, accessFlags := 8, code := some k3c1 }
/-- com/example/bridgehead/bridgehead/ValueLayout -/
def k3 : Class := { plain "com/example/bridgehead/bridgehead/ValueLayout" (some 2) with
  accessFlags := 1057
  interfaces := #[]
  cf := some (fileOf pool3 8 #[.nestMembers #[330, 270, 266, 262, 242, 105, 236, 230]] #[{ accessFlags := 8, nameIndex := 165, descriptorIndex := 156, attributes := #[] }, { accessFlags := 8, nameIndex := 314, descriptorIndex := 315, attributes := #[] }] 1057 2 #[] #[{ accessFlags := 25, nameIndex := 134, descriptorIndex := 135, attributes := #[] }, { accessFlags := 25, nameIndex := 127, descriptorIndex := 128, attributes := #[] }, { accessFlags := 25, nameIndex := 102, descriptorIndex := 103, attributes := #[] }, { accessFlags := 25, nameIndex := 116, descriptorIndex := 117, attributes := #[] }, { accessFlags := 25, nameIndex := 247, descriptorIndex := 103, attributes := #[] }, { accessFlags := 25, nameIndex := 251, descriptorIndex := 103, attributes := #[] }, { accessFlags := 25, nameIndex := 255, descriptorIndex := 117, attributes := #[] }, { accessFlags := 25, nameIndex := 259, descriptorIndex := 117, attributes := #[] }, { accessFlags := 25, nameIndex := 109, descriptorIndex := 110, attributes := #[] }, { accessFlags := 25, nameIndex := 98, descriptorIndex := 99, attributes := #[] }, { accessFlags := 25, nameIndex := 120, descriptorIndex := 121, attributes := #[] }, { accessFlags := 26, nameIndex := 277, descriptorIndex := 37, attributes := #[] }, { accessFlags := 26, nameIndex := 279, descriptorIndex := 16, attributes := #[] }, { accessFlags := 26, nameIndex := 281, descriptorIndex := 37, attributes := #[] }, { accessFlags := 26, nameIndex := 58, descriptorIndex := 59, attributes := #[] }, { accessFlags := 26, nameIndex := 138, descriptorIndex := 37, attributes := #[] }, { accessFlags := 26, nameIndex := 131, descriptorIndex := 37, attributes := #[] }, { accessFlags := 26, nameIndex := 113, descriptorIndex := 37, attributes := #[] }, { accessFlags := 26, nameIndex := 124, descriptorIndex := 37, attributes := #[] }, { accessFlags := 18, nameIndex := 11, descriptorIndex := 12, attributes := #[] }, { accessFlags := 18, nameIndex := 15, descriptorIndex := 16, attributes := #[] }, { accessFlags := 18, nameIndex := 19, descriptorIndex := 20, attributes := #[] }, { accessFlags := 18, nameIndex := 29, descriptorIndex := 30, attributes := #[] }, { accessFlags := 18, nameIndex := 33, descriptorIndex := 37, attributes := #[] }])
  fields := #[{ name := "SINT8", type := (.object "com/example/bridgehead/bridgehead/ValueLayout$OfByte"), accessFlags := 25, slot := 0, constantValue := 0 }, { name := "SINT16", type := (.object "com/example/bridgehead/bridgehead/ValueLayout$OfShort"), accessFlags := 25, slot := 1, constantValue := 0 }, { name := "SINT32", type := (.object "com/example/bridgehead/bridgehead/ValueLayout$OfInt"), accessFlags := 25, slot := 2, constantValue := 0 }, { name := "SINT64", type := (.object "com/example/bridgehead/bridgehead/ValueLayout$OfLong"), accessFlags := 25, slot := 3, constantValue := 0 }, { name := "UINT8", type := (.object "com/example/bridgehead/bridgehead/ValueLayout$OfInt"), accessFlags := 25, slot := 4, constantValue := 0 }, { name := "UINT16", type := (.object "com/example/bridgehead/bridgehead/ValueLayout$OfInt"), accessFlags := 25, slot := 5, constantValue := 0 }, { name := "UINT32", type := (.object "com/example/bridgehead/bridgehead/ValueLayout$OfLong"), accessFlags := 25, slot := 6, constantValue := 0 }, { name := "UINT64", type := (.object "com/example/bridgehead/bridgehead/ValueLayout$OfLong"), accessFlags := 25, slot := 7, constantValue := 0 }, { name := "FLOAT", type := (.object "com/example/bridgehead/bridgehead/ValueLayout$OfFloat"), accessFlags := 25, slot := 8, constantValue := 0 }, { name := "DOUBLE", type := (.object "com/example/bridgehead/bridgehead/ValueLayout$OfDouble"), accessFlags := 25, slot := 9, constantValue := 0 }, { name := "POINTER", type := (.object "com/example/bridgehead/bridgehead/ValueLayout$OfPointer"), accessFlags := 25, slot := 10, constantValue := 0 }, { name := "SIZE", type := .long, accessFlags := 26, slot := 11, constantValue := 0 }, { name := "ALIGNMENT_SHIFT", type := .int, accessFlags := 26, slot := 12, constantValue := 0 }, { name := "SWAPS", type := .long, accessFlags := 26, slot := 13, constantValue := 0 }, { name := "CONSTANTS", type := (.object "java/util/List"), accessFlags := 26, slot := 14, constantValue := 0 }, { name := "BYTE_SHAPE", type := .long, accessFlags := 26, slot := 15, constantValue := 0 }, { name := "SHORT_SHAPE", type := .long, accessFlags := 26, slot := 16, constantValue := 0 }, { name := "INT_SHAPE", type := .long, accessFlags := 26, slot := 17, constantValue := 0 }, { name := "LONG_SHAPE", type := .long, accessFlags := 26, slot := 18, constantValue := 0 }, { name := "typeName", type := (.object "java/lang/String"), accessFlags := 18, slot := 3, constantValue := 0 }, { name := "typeCode", type := .int, accessFlags := 18, slot := 4, constantValue := 0 }, { name := "carrier", type := (.object "java/lang/Class"), accessFlags := 18, slot := 5, constantValue := 0 }, { name := "order", type := (.object "java/nio/ByteOrder"), accessFlags := 18, slot := 6, constantValue := 0 }, { name := "shape", type := .long, accessFlags := 18, slot := 7, constantValue := 0 }]
  methods := #[k3m0, k3m1]
  instanceTypes := #[.long, .long, (.object "java/lang/String"), (.object "java/lang/String"), .int, (.object "java/lang/Class"), (.object "java/nio/ByteOrder"), .long]
  staticTypes := #[(.object "com/example/bridgehead/bridgehead/ValueLayout$OfByte"), (.object "com/example/bridgehead/bridgehead/ValueLayout$OfShort"), (.object "com/example/bridgehead/bridgehead/ValueLayout$OfInt"), (.object "com/example/bridgehead/bridgehead/ValueLayout$OfLong"), (.object "com/example/bridgehead/bridgehead/ValueLayout$OfInt"), (.object "com/example/bridgehead/bridgehead/ValueLayout$OfInt"), (.object "com/example/bridgehead/bridgehead/ValueLayout$OfLong"), (.object "com/example/bridgehead/bridgehead/ValueLayout$OfLong"), (.object "com/example/bridgehead/bridgehead/ValueLayout$OfFloat"), (.object "com/example/bridgehead/bridgehead/ValueLayout$OfDouble"), (.object "com/example/bridgehead/bridgehead/ValueLayout$OfPointer"), .long, .int, .long, (.object "java/util/List"), .long, .long, .long, .long]
  resolved := Array.replicate 364 none
  statics := none }

def pool4 : Array CpInfo := pool [(1, u "java/lang/Cloneable"), (0, .class_ 1), (0, u "java/lang/Object"), (0, .class_ 3)] 3

/-- java/lang/Cloneable -/
def k4 : Class := { plain "java/lang/Cloneable" (some 0) with
  accessFlags := 1537
  interfaces := #[]
  cf := some (fileOf pool4 2 #[] #[] 1537 4 #[] #[])
  fields := #[]
  methods := #[]
  instanceTypes := #[]
  staticTypes := #[]
  resolved := Array.replicate 8 none
  statics := none }

def pool5 : Array CpInfo := pool [(1, u "java/io/Serializable"), (0, .class_ 1), (0, u "java/lang/Object"), (0, .class_ 3)] 3

/-- java/io/Serializable -/
def k5 : Class := { plain "java/io/Serializable" (some 0) with
  accessFlags := 1537
  interfaces := #[]
  cf := some (fileOf pool5 2 #[] #[] 1537 4 #[] #[])
  fields := #[]
  methods := #[]
  instanceTypes := #[]
  staticTypes := #[]
  resolved := Array.replicate 8 none
  statics := none }

/-- the primitive byte -/
def k6 : Class := { plain "byte" none with kind := .primitive 'B', accessFlags := 0x411 }
/-- [B -/
def k7 : Class := { plain "[B" (some 0) with kind := .array 6 .byte, interfaces := #[4, 5], accessFlags := 1041 }

/-- the primitive int -/
def k8 : Class := { plain "int" none with kind := .primitive 'I', accessFlags := 0x411 }
/-- [I -/
def k9 : Class := { plain "[I" (some 0) with kind := .array 8 .int, interfaces := #[4, 5], accessFlags := 1041 }

def heap : Heap := #[]
def classes : Array Class := #[k0, k1, k2, k3, k4, k5, k6, k7, k8, k9]
def interned : List (Array UInt16 × Addr) := []
def slotsUsed : Nat := 0
def theMethod : MethodId := ⟨1, 1⟩
def args0 : Array Value := #[.int 5, .long 300, .long 77, .int 3, .int 4, .int 6]
def aboutOver (below : List Frame) : State where
  vm := { classes := classes, interned := interned.toArray }
  heap := heap
  slotsUsed := slotsUsed
  threads := #[{ frames := .invoking theMethod args0 :: below }]
def below0 : List Frame := [.native { method := ⟨0, 0⟩, args := #[] }]
def about1 : State := aboutOver below0
def p0 : Program := .bare "" "" ""
def e0 : Env := launch0.env 0 0 0
theorem w_frames : about1.frames = Frame.invoking theMethod args0 :: below0 := rfl
set_option maxRecDepth 65536 in
theorem w_args : argsFit about1.vm theMethod args0 = true := by decide +kernel
set_option maxRecDepth 65536 in
theorem w_heap : heapFits about1 = true := by decide +kernel
set_option maxRecDepth 65536 in
theorem w_runnable : about1.curStatus? = some .runnable := by decide +kernel
set_option maxRecDepth 65536 in
theorem w_alone : about1.alone = true := by decide +kernel
set_option maxRecDepth 65536 in
theorem w_named : about1.methodNamed? x = some theMethod := by decide +kernel
set_option maxRecDepth 65536 in
theorem w_hears : about1.hears theMethod below0 = true := by decide +kernel
set_option maxRecDepth 65536 in
theorem w_ripe : about1.ripe theMethod args0 below0 = true := by decide +kernel
theorem w_running : about1.status = .running := rfl
set_option maxRecDepth 65536 in
theorem w_room : about1.hasRoom e0.platform room_1 = true :=
  launch0.hasRoom_least _ room_1 (by decide +kernel) (by decide +kernel) (by decide +kernel) (by decide +kernel) (by decide +kernel) (by decide +kernel)
theorem allAtoms_all (ts : List Jvm.Cond) (a : Array Jvm.Value) (st : Jvm.State) : (allAtoms ts).before a st = ts.all (fun c => c.before a st) := by
  induction ts with
  | nil => rfl
  | cons c t ih =>
    show (Jvm.Cond.and c (allAtoms t)).before a st = _
    rw [Jvm.Cond.before_and, ih, List.all_cons]
def words1 : List Jvm.Cond := Jvm.Cond.code x code maxLocals ret :: tables_1
/-- a 'code' word, met by the world's own term for the bytes: nothing is compared byte by byte -/
theorem code_word {y : MethodName} {bytes : ByteArray} {mx : Nat} {rt : Option FieldType} {a : Array Value} {s : State} {m : MethodId} {meth : Method} {c : Code} (h1 : s.methodNamed? y = some m) (h2 : s.vm.method? m = some meth) (h3 : meth.code = some c) (h4 : c.code = bytes)
    (h5 : (c.maxLocals == mx && c.exceptionTable.isEmpty && decide (c.maxStack ≤ mostOperands) && decide (meth.sig.returnType = rt) && !meth.locks && decide (parseMethodDescriptor y.desc = some meth.sig)) = true) : (Jvm.Cond.code y bytes mx rt).before a s = true := by
  simp only [Bool.and_eq_true, beq_iff_eq, Bool.not_eq_true', decide_eq_true_eq] at h5
  obtain ⟨⟨⟨⟨⟨g1, g2⟩, g3⟩, g4⟩, g5⟩, g6⟩ := h5
  simp [Cond.before, Cond.holds, Cond.value, h1, h2, h3, h4, g1, g2, g3, g4, g5, g6]
def isCode : Jvm.Cond → Bool
  | .code _ _ _ _ => true
  | _ => false
theorem all_split {L : List Jvm.Cond} {P : Jvm.Cond → Bool} (h1 : L.all (fun c => isCode c || P c) = true) (h2 : ∀ c ∈ L.filter isCode, P c = true) : L.all P = true := by
  refine List.all_eq_true.mpr fun c hc => ?_
  have h := List.all_eq_true.mp h1 c hc
  rcases Bool.eq_false_or_eq_true (isCode c) with hi | hi
  · exact h2 c (List.mem_filter.mpr ⟨hc, hi⟩)
  · simpa [hi] using h
set_option maxRecDepth 65536 in
theorem w_c0 : (Jvm.Cond.code x code maxLocals ret).before args0 about1 = true := code_word (m := ⟨1, 1⟩) (meth := k1m1) (c := k1c1) (by decide +kernel) rfl rfl rfl (by decide +kernel)
set_option maxRecDepth 65536 in
theorem w_c1 : (Jvm.Cond.code ({ cls := "com/example/bridgehead/bridgehead/ValueLayout", name := "indexAt", desc := "(JJ)I" } : Jvm.MethodName) prog_96_method_21_code (9 : Nat) (Option.some Jvm.ClassFile.FieldType.int)).before args0 about1 = true := code_word (m := ⟨3, 1⟩) (meth := k3m1) (c := k3c1) (by decide +kernel) rfl rfl rfl (by decide +kernel)
set_option maxRecDepth 65536 in
theorem w_c2 : (Jvm.Cond.code ({ cls := "com/example/bridgehead/bridgehead/ValueLayout", name := "sizeOf", desc := "(J)J" } : Jvm.MethodName) prog_96_method_18_code (2 : Nat) (Option.some Jvm.ClassFile.FieldType.long)).before args0 about1 = true := code_word (m := ⟨3, 0⟩) (meth := k3m0) (c := k3c0) (by decide +kernel) rfl rfl rfl (by decide +kernel)
def codes1 : List Jvm.Cond := [Jvm.Cond.code x code maxLocals ret, Jvm.Cond.code ({ cls := "com/example/bridgehead/bridgehead/ValueLayout", name := "indexAt", desc := "(JJ)I" } : Jvm.MethodName) prog_96_method_21_code (9 : Nat) (Option.some Jvm.ClassFile.FieldType.int), Jvm.Cond.code ({ cls := "com/example/bridgehead/bridgehead/ValueLayout", name := "sizeOf", desc := "(J)J" } : Jvm.MethodName) prog_96_method_18_code (2 : Nat) (Option.some Jvm.ClassFile.FieldType.long)]
set_option maxRecDepth 65536 in
theorem codes_eq : words1.filter isCode = codes1 := rfl
theorem w_codes : ∀ c ∈ words1.filter isCode, c.before args0 about1 = true := by
  rw [codes_eq]
  intro c hc
  simp only [codes1, List.mem_cons, List.not_mem_nil, or_false] at hc
  rcases hc with rfl | rfl | rfl
  · exact w_c0
  · exact w_c1
  · exact w_c2
set_option maxRecDepth 65536 in
theorem w_t1 : words1.all (fun c => isCode c || c.before args0 about1) = true := by decide +kernel
theorem w_tables : (allAtoms (Jvm.Cond.code x code maxLocals ret :: tables_1)).before args0 about1 = true := by
  rw [allAtoms_all]
  show words1.all (fun c => c.before args0 about1) = true
  refine all_split ?_ w_codes
  rw [w_t1]
set_option maxRecDepth 65536 in
theorem w_case : (Jvm.Cond.and given_1 narrow_1).before args0 about1 = true := by decide +kernel
theorem w_applies : (headSpec (Jvm.Cond.code x code maxLocals ret :: tables_1) room_1).applies x e0.platform about1 = true :=
  (Spec.applies_iff w_frames).mpr ⟨w_running, w_runnable, w_alone, w_named, w_hears, w_ripe, w_room, w_tables⟩
theorem atStart : AtStart classFile x code maxLocals ret World_1 tables_1 room_1 Calls_1 rest_1 Pre_1 launch0 p0 e0 about1 theMethod args0 below0 :=
  ⟨lists_1, trivial, launch0.admits_env _ _ _, launch0.least_env, fairChoices_fair.cas, fairChoices_fair.clock, w_frames, w_args, w_heap, w_applies, trivial, trivial, w_case⟩
end start1
theorem witness_1 : WitnessClaimed_1 := ⟨start1.p0, start1.e0, start1.about1, start1.theMethod, start1.args0, start1.below0, start1.atStart⟩
end Jvm.Pilot.@@N@@
