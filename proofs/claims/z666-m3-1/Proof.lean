import JvmDerived
import JvmDerived.Pilot.@@N@@Statement
import JvmDerived.Pilot.@@N@@Code
set_option linter.unusedVariables false
set_option linter.unusedSimpArgs false
namespace Jvm.Pilot.@@N@@
open Jvm Jvm.ClassFile Sem Op Lib Jvm.Free Jvm.Stand Jvm.LawKit Jvm.RoadKit Bundle Jvm.Pilot.@@N@@.Jvm.D
section OwnGo
variable {p : Program} {l : Launch} {e : Env} {R : Room} {s : State} {m : MethodId} {args : Array Value} {below : List Frame} {meth : Method} {c : Code} {T T' : State} {locs : List Loc} {cells slots : Nat} {f f' : JFrame} {P : Outcome → State → Prop}
/-- what is left of a body's run: from the state T with the frame f on top it ends, and P holds of the end -/
def own_Go (p : Program) (e : Env) (below : List Frame) (T : State) (f : JFrame) (P : Outcome → State → Prop) : Prop :=
  ∃ s₂ o, Steps p.tables e below (T.setTop f) s₂ ∧ s₂.status = .running ∧ Ended s₂ below o ∧ P o s₂
theorem own_step (h : ∀ t, Steps p.tables e below (T'.setTop f') t → Steps p.tables e below (T.setTop f) t) (k : own_Go p e below T' f' P) : own_Go p e below T f P := by
  obtain ⟨s₂, o, a, b, c, d⟩ := k
  exact ⟨s₂, o, h _ a, b, c, d⟩
theorem own_Go.cast (q : f = f') (k : own_Go p e below T f' P) : own_Go p e below T f P := q ▸ k
theorem own_done (X : Stand p l e R s m args below meth c T locs cells slots) {v : Option Value} {Q : Option Value → Heap → List Loc → Prop} {C S : Nat} (hlk : meth.locks = false) (hv : meth.sig.returnType = none → v = none)
    (hs : ∀ fs, (∀ (f : JFrame) (acts : List Action), f.method = m → f.locked = none → f.entered = [] → (doReturn e (T.setTop f) acts v).1 = T.setFrames fs) → Steps p.tables e below (T.setTop f) (T.setFrames fs))
    (hC : cells ≤ C) (hS : slots ≤ S) (hQ : Q v T.heap locs) : own_Go p e below T f (fun o U' => ∃ v L, o = .returned v ∧ Q v U'.heap L ∧ FrameEnd s o U' L C S) := by
  obtain ⟨fs, hr, hrun, hended, hW, hsame⟩ := X.leave (v := v) hv hlk
  exact ⟨_, _, hs fs hr, hrun, hended, _, _, rfl, hQ, ⟨_, rfl⟩, hW, hsame.mono hC hS⟩
theorem own_retZ (X : Stand p l e R s m args below meth c T locs cells slots) (hx : p.tables.exec = Jvm.exec) {pc : Nat} {Ls : Array Slot} {z : Int32} {rest : List Value} {Q : Option Value → Heap → List Loc → Prop} {C S : Nat}
    (hret : meth.sig.returnType = some .boolean) (hlk : meth.locks = false) (hd : decode c.code pc = .ok (.ireturn, 1)) (hC : cells ≤ C) (hS : slots ≤ S) (hQ : Q (some (.int (nar .boolean z))) T.heap locs) :
    own_Go p e below T (mkF m pc Ls (.int z :: rest)) (fun o U' => ∃ v L, o = .returned v ∧ Q v U'.heap L ∧ FrameEnd s o U' L C S) :=
  own_done X hlk (fun h => by rw [hret] at h; cases h) (fun fs hr => retN X hx (t := .boolean) hret (by simp) hd hr) hC hS hQ
theorem own_retI (X : Stand p l e R s m args below meth c T locs cells slots) (hx : p.tables.exec = Jvm.exec) {pc : Nat} {Ls : Array Slot} {z : Int32} {rest : List Value} {Q : Option Value → Heap → List Loc → Prop} {C S : Nat}
    (hret : meth.sig.returnType = some .int) (hlk : meth.locks = false) (hd : decode c.code pc = .ok (.ireturn, 1)) (hC : cells ≤ C) (hS : slots ≤ S) (hQ : Q (some (.int z)) T.heap locs) :
    own_Go p e below T (mkF m pc Ls (.int z :: rest)) (fun o U' => ∃ v L, o = .returned v ∧ Q v U'.heap L ∧ FrameEnd s o U' L C S) :=
  own_done X hlk (fun h => by rw [hret] at h; cases h) (fun fs hr => retOut X hx hret rfl (Or.inl ⟨rfl, Or.inl rfl, _, rfl⟩) hd hr) hC hS hQ
theorem own_retJ (X : Stand p l e R s m args below meth c T locs cells slots) (hx : p.tables.exec = Jvm.exec) {pc : Nat} {Ls : Array Slot} {z : Int64} {rest : List Value} {Q : Option Value → Heap → List Loc → Prop} {C S : Nat}
    (hret : meth.sig.returnType = some .long) (hlk : meth.locks = false) (hd : decode c.code pc = .ok (.lreturn, 1)) (hC : cells ≤ C) (hS : slots ≤ S) (hQ : Q (some (.long z)) T.heap locs) :
    own_Go p e below T (mkF m pc Ls (.long z :: rest)) (fun o U' => ∃ v L, o = .returned v ∧ Q v U'.heap L ∧ FrameEnd s o U' L C S) :=
  own_done X hlk (fun h => by rw [hret] at h; cases h) (fun fs hr => retOut X hx hret rfl (Or.inr (Or.inl ⟨rfl, rfl, _, rfl⟩)) hd hr) hC hS hQ
theorem own_retA (X : Stand p l e R s m args below meth c T locs cells slots) (hx : p.tables.exec = Jvm.exec) {pc : Nat} {Ls : Array Slot} {a : Addr} {ty : FieldType} {rest : List Value} {Q : Option Value → Heap → List Loc → Prop} {C S : Nat}
    (hret : meth.sig.returnType = some (.array ty)) (hlk : meth.locks = false) (hd : decode c.code pc = .ok (.areturn, 1)) (hC : cells ≤ C) (hS : slots ≤ S) (hQ : Q (some (.ref a)) T.heap locs) :
    own_Go p e below T (mkF m pc Ls (.ref a :: rest)) (fun o U' => ∃ v L, o = .returned v ∧ Q v U'.heap L ∧ FrameEnd s o U' L C S) :=
  own_done X hlk (fun h => by rw [hret] at h; cases h) (fun fs hr => retOut X hx hret rfl (Or.inr (Or.inr (Or.inr (Or.inr ⟨rfl, rfl, rfl⟩)))) hd hr) hC hS hQ
theorem own_retV (X : Stand p l e R s m args below meth c T locs cells slots) (hx : p.tables.exec = Jvm.exec) {pc : Nat} {Ls : Array Slot} {Q : Option Value → Heap → List Loc → Prop} {C S : Nat}
    (hret : meth.sig.returnType = none) (hlk : meth.locks = false) (hd : decode c.code pc = .ok (.return_, 1)) (hC : cells ≤ C) (hS : slots ≤ S) (hQ : Q none T.heap locs) :
    own_Go p e below T (mkF m pc Ls []) (fun o U' => ∃ v L, o = .returned v ∧ Q v U'.heap L ∧ FrameEnd s o U' L C S) :=
  own_done X hlk (fun _ => rfl) (fun fs hr => X.returnOut hx hret hd hr) hC hS hQ
end OwnGo
/-- what the law leaves -/
def own_QL (n0 : Nat) (v : Option Value) (h : Heap) (L : List Loc) : Prop := v = some (.int 1) ∧ Fr n0 L
section OwnArr
variable {p : Program} {l : Launch} {e : Env} {R : Room} {s : State} {m : MethodId} {args : Array Value} {below : List Frame} {meth : Method} {c : Code} {T : State} {locs : List Loc} {cells slots : Nat} {Z : State} {h h' : Heap} {a b : Addr} {ty : FieldType} {n i sl : Nat} {f : Nat → Value} {v w : Value} {ws : List Addr} {j x z : Int32}
def own_upd (f : Nat → Value) (i : Nat) (v : Value) : Nat → Value := fun k => if k = i then v else f k
theorem own_upd_hit (f : Nat → Value) (i : Nat) (v : Value) : own_upd f i v i = v := if_pos rfl
theorem own_upd_miss (f : Nat → Value) {i k : Nat} (v : Value) (q : k ≠ i) : own_upd f i v k = f k := if_neg q
/-- an array of n places, place i holding f i -/
def own_A (Z : State) (h : Heap) (a : Addr) (ty : FieldType) (n : Nat) (f : Nat → Value) : Prop := ∃ c : Cell, Arr Z h a c ty ∧ c.slots.size = n ∧ ∀ i, i < n → c.slots[i]? = some (f i)
theorem own_A.lt (F : own_A Z h a ty n f) : a < h.size := by obtain ⟨c, A, -⟩ := F; exact A.lt
theorem own_A.ext (F : own_A Z h a ty n f) (E : Ext h h') : own_A Z h' a ty n f := by obtain ⟨c, A, r⟩ := F; exact ⟨c, A.ext E, r⟩
theorem own_A.other (F : own_A Z h b ty n f) (W : Wr h h' a sl v) (q : b ≠ a) : own_A Z h' b ty n f := by obtain ⟨c, A, r⟩ := F; exact ⟨c, A.other W q, r⟩
theorem own_A.keep (F : own_A Z h a ty n f) (K : Keep h h' ws) (q : a ∉ ws) : own_A Z h' a ty n f := by obtain ⟨c, A, r⟩ := F; exact ⟨c, ⟨K.2.1 a c A.1 q, A.2⟩, r⟩
theorem own_A.new {k : ClassId} {z : Int32} (A : Arr Z h a (newA k ty z) ty) (q : z.toNatClampNeg = n) : own_A Z h a ty n (fun _ => defaultValue ty) := ⟨_, A, by rw [sz_new]; exact q, fun i hi => by
  have hi' : i < z.toNatClampNeg := by rw [q]; exact hi
  simp [newA, hi']⟩
theorem own_A.put (F : own_A Z h a ty n f) (W : Wr h h' a i v) (hi : i < n) : own_A Z h' a ty n (own_upd f i v) := by
  obtain ⟨c, A, S, H⟩ := F
  refine ⟨_, A.same W, by rw [sz_set]; exact S, fun k hk => ?_⟩
  by_cases u : k = i
  · subst u; rw [own_upd_hit]; simp [Cell.setSlot, S, hi]
  · rw [own_upd_miss _ _ u, ← H k hk]; simp only [Cell.setSlot]; exact Array.getElem?_setIfInBounds_ne (Ne.symm u)
theorem own_A.cong {g : Nat → Value} (F : own_A Z h a ty n f) (q : ∀ i, i < n → f i = g i) : own_A Z h a ty n g := by
  obtain ⟨c, A, S, H⟩ := F; exact ⟨c, A, S, fun i hi => by rw [H i hi, q i hi]⟩
def own_at (j : Int32) (i : Nat) : Prop := ¬ j < 0 ∧ j.toNatClampNeg = i
theorem own_at_lit (q : j.toNatClampNeg = i) (r : ¬ j < 0) : own_at j i := ⟨r, q⟩
theorem own_at_int (q : j.toInt = (i : Int)) : own_at j i := by
  refine ⟨?_, ?_⟩
  · rw [Int32.lt_iff_toInt_lt, q, show (0 : Int32).toInt = 0 from rfl]; omega
  · simp only [Int32.toNatClampNeg, q]; rfl
theorem own_in {c : Cell} (hj : own_at j i) (S : c.slots.size = n) (hi : i < n) : ¬ (j < 0 ∨ c.slots.size ≤ j.toNatClampNeg) := by
  rintro (q | q)
  · exact hj.1 q
  · rw [hj.2, S] at q; omega
theorem own_ldI (X : Stand p l e R s m args below meth c T locs cells slots) (hx : p.tables.exec = Jvm.exec) (hZ : Z.Warmed39 s.vm) (eT : T.heap = h) (A : own_A Z h a .int n f) (hj : own_at j i) (hi : i < n) {v : Int32} (hv : f i = .int v) {g : JFrame} (hg : g.method = m) {rest : List Value} (hs : g.stack = .int j :: .ref a :: rest) (hd : decode c.code g.pc = .ok (.iaload, 1)) :
    ∀ target, Steps p.tables e below (T.setTop { g with pc := g.pc + 1, stack := .int v :: rest }) target → Steps p.tables e below (T.setTop g) target := by
  obtain ⟨cl, Ar, S, H⟩ := A
  exact X.iaload hx (j := j) (v := .int v) (by rw [eT]; exact Ar.1) (State.isArrayOf_alike hZ.alike Ar.2.1) Ar.2.2 (own_in hj S hi) (by rw [hj.2, H i hi, hv]) (g := g) hg hs hd
theorem own_ldJ (X : Stand p l e R s m args below meth c T locs cells slots) (hx : p.tables.exec = Jvm.exec) (hZ : Z.Warmed39 s.vm) (eT : T.heap = h) (A : own_A Z h a .long n f) (hj : own_at j i) (hi : i < n) {v : Int64} (hv : f i = .long v) {g : JFrame} (hg : g.method = m) {rest : List Value} (hs : g.stack = .int j :: .ref a :: rest) (hd : decode c.code g.pc = .ok (.laload, 1)) :
    ∀ target, Steps p.tables e below (T.setTop { g with pc := g.pc + 1, stack := .long v :: rest }) target → Steps p.tables e below (T.setTop g) target := by
  obtain ⟨cl, Ar, S, H⟩ := A
  exact X.laload hx (j := j) (v := .long v) (by rw [eT]; exact Ar.1) (State.isArrayOf_alike hZ.alike Ar.2.1) Ar.2.2 (own_in hj S hi) (by rw [hj.2, H i hi, hv]) (g := g) hg hs hd
theorem own_ldB (X : Stand p l e R s m args below meth c T locs cells slots) (hx : p.tables.exec = Jvm.exec) (hZ : Z.Warmed39 s.vm) (eT : T.heap = h) (A : own_A Z h a .byte n f) (hj : own_at j i) (hi : i < n) {v : Int32} (hv : f i = .int v) {g : JFrame} (hg : g.method = m) {rest : List Value} (hs : g.stack = .int j :: .ref a :: rest) (hd : decode c.code g.pc = .ok (.baload, 1)) :
    ∀ target, Steps p.tables e below (T.setTop { g with pc := g.pc + 1, stack := .int v :: rest }) target → Steps p.tables e below (T.setTop g) target := by
  obtain ⟨cl, Ar, S, H⟩ := A
  exact X.baloadBytes hx (j := j) (v := .int v) (by rw [eT]; exact Ar.1) (State.isArrayOf_alike hZ.alike Ar.2.1) Ar.2.2 (own_in hj S hi) (by rw [hj.2, H i hi, hv]) (g := g) hg hs hd
theorem own_alen (X : Stand p l e R s m args below meth c T locs cells slots) (hx : p.tables.exec = Jvm.exec) (hZ : Z.Warmed39 s.vm) (eT : T.heap = h) (A : own_A Z h a ty n f) (hz : n.toInt32 = z) {g : JFrame} (hg : g.method = m) {rest : List Value} (hs : g.stack = .ref a :: rest) (hd : decode c.code g.pc = .ok (.arraylength, 1)) :
    ∀ target, Steps p.tables e below (T.setTop { g with pc := g.pc + 1, stack := .int z :: rest }) target → Steps p.tables e below (T.setTop g) target := by
  obtain ⟨cl, Ar, S, H⟩ := A
  subst hz
  rw [← S]
  exact X.arraylength hx (by rw [eT]; exact Ar.1) (State.isArrayOf_alike hZ.alike Ar.2.1) (g := g) hg hs hd
theorem own_stI (X : Stand p l e R s m args below meth c T locs cells slots) (hx : p.tables.exec = Jvm.exec) (hZ : Z.Warmed39 s.vm) (eT : T.heap = h) (A : own_A Z h a .int n f) (hj : own_at j i) (hi : i < n) {g : JFrame} (hg : g.method = m) {rest : List Value} (hs : g.stack = .int x :: .int j :: .ref a :: rest) (hd : decode c.code g.pc = .ok (.iastore, 1)) :
    ∃ T' h', Stand p l e R s m args below meth c T' (locs ++ [⟨a, i⟩]) cells slots ∧ T'.heap = h' ∧ Wr h h' a i (.int x) ∧ own_A Z h' a .int n (own_upd f i (.int x)) ∧ ∀ target, Steps p.tables e below (T'.setTop { g with pc := g.pc + 1, stack := rest }) target → Steps p.tables e below (T.setTop g) target := by
  obtain ⟨cl, Ar, S, H⟩ := A
  obtain ⟨T', h', X', e', W, st⟩ := stI X hx hZ eT Ar (j := j) (own_in hj S hi) hg hs hd
  rw [hj.2] at X' W
  exact ⟨T', h', X', e', W, own_A.put ⟨cl, Ar, S, H⟩ W hi, st⟩
theorem own_stJ {x : Int64} (X : Stand p l e R s m args below meth c T locs cells slots) (hx : p.tables.exec = Jvm.exec) (hZ : Z.Warmed39 s.vm) (eT : T.heap = h) (A : own_A Z h a .long n f) (hj : own_at j i) (hi : i < n) {g : JFrame} (hg : g.method = m) {rest : List Value} (hs : g.stack = .long x :: .int j :: .ref a :: rest) (hd : decode c.code g.pc = .ok (.lastore, 1)) :
    ∃ T' h', Stand p l e R s m args below meth c T' (locs ++ [⟨a, i⟩]) cells slots ∧ T'.heap = h' ∧ Wr h h' a i (.long x) ∧ own_A Z h' a .long n (own_upd f i (.long x)) ∧ ∀ target, Steps p.tables e below (T'.setTop { g with pc := g.pc + 1, stack := rest }) target → Steps p.tables e below (T.setTop g) target := by
  obtain ⟨cl, Ar, S, H⟩ := A
  obtain ⟨T', h', X', e', W, st⟩ := stJ X hx hZ eT Ar (j := j) (own_in hj S hi) hg hs hd
  rw [hj.2] at X' W
  exact ⟨T', h', X', e', W, own_A.put ⟨cl, Ar, S, H⟩ W hi, st⟩
theorem own_stB (X : Stand p l e R s m args below meth c T locs cells slots) (hx : p.tables.exec = Jvm.exec) (hZ : Z.Warmed39 s.vm) (eT : T.heap = h) (A : own_A Z h a .byte n f) (hj : own_at j i) (hi : i < n) {g : JFrame} (hg : g.method = m) {rest : List Value} (hs : g.stack = .int x :: .int j :: .ref a :: rest) (hd : decode c.code g.pc = .ok (.bastore, 1)) :
    ∃ T' h', Stand p l e R s m args below meth c T' (locs ++ [⟨a, i⟩]) cells slots ∧ T'.heap = h' ∧ Wr h h' a i (.int (nar .byte x)) ∧ own_A Z h' a .byte n (own_upd f i (.int (nar .byte x))) ∧ ∀ target, Steps p.tables e below (T'.setTop { g with pc := g.pc + 1, stack := rest }) target → Steps p.tables e below (T.setTop g) target := by
  obtain ⟨cl, Ar, S, H⟩ := A
  obtain ⟨T', h', X', e', W, st⟩ := stB X hx hZ eT Ar (j := j) (own_in hj S hi) hg hs hd
  rw [hj.2] at X' W
  exact ⟨T', h', X', e', W, own_A.put ⟨cl, Ar, S, H⟩ W hi, st⟩
/-- a private method is selected by itself -/
theorem own_selp {a0 args' : Array Value} {y : MethodName} {kk : Nat} (hZ : Z.Warmed39 s.vm) (wp : (Cond.privateMethod y).before a0 Z = true) (wi : (Cond.instanceMethod y).before a0 Z = true) (wk : (Cond.instantiable y.cls kk).before a0 Z = true) (hy : y.cls ≠ "java/lang/invoke/MethodHandle" ∧ y.cls ≠ "java/lang/invoke/VarHandle") : (Cond.selects y.cls y y).before args' s = true := by
  obtain ⟨c2, k2, i1, i2, i3, i4, -⟩ := Cond.instantiable_spec (mvT hZ wk (args := args'))
  have hni : k2.isInterface = false := by simp only [Bool.or_eq_false_iff] at i4; exact i4.1
  exact Stand.selects_self_of_private i1 i2 hni (Cond.privateMethod_at (mvP hZ wp (args := args'))) (mvT hZ wi) hy
end OwnArr
def own_f5 (p1 : Int32) (p2 : Int32) : Int32 := (if p1 < p2 then p2 else p1)
theorem d5_0 : decode jdk_29_method_65_code 0 = .ok (.iload_n 0, 1) := by decide +kernel
theorem d5_1 : decode jdk_29_method_65_code 1 = .ok (.iload_n 1, 1) := by decide +kernel
theorem d5_2 : decode jdk_29_method_65_code 2 = .ok (.if_icmp .lt 7, 3) := by decide +kernel
theorem d5_5 : decode jdk_29_method_65_code 5 = .ok (.iload_n 0, 1) := by decide +kernel
theorem d5_6 : decode jdk_29_method_65_code 6 = .ok (.goto 4, 3) := by decide +kernel
theorem d5_9 : decode jdk_29_method_65_code 9 = .ok (.iload_n 1, 1) := by decide +kernel
theorem d5_10 : decode jdk_29_method_65_code 10 = .ok (.ireturn, 1) := by decide +kernel
theorem own_ef_own_rm5 (m : MethodId) (x0 : Int32) (x1 : Int32) : entryFrame m #[(.int x0), (.int x1)] 2 = mkF m 0 #[.val (.int x0), .val (.int x1)] [] := by first | (simp [entryFrame, mkF, argsToLocals, Value.category]; done) | rfl
def own_Q_rm5 (Z : State) (p1 : Int32) (p2 : Int32) (h0 : Heap) (n0 : Nat) (v : Option Value) (h : Heap) (L : List Loc) : Prop := v = some (.int (own_f5 p1 p2)) ∧ Fr n0 L ∧ h = h0
set_option maxRecDepth 65536 in
set_option maxHeartbeats 40000000 in
theorem own_rm5 (l : Launch) (Z : State) (a0 : Array Value) (hw : ∀ d ∈ tables_1, d.before a0 Z = true) (p1 : Int32) (p2 : Int32) (h0 : Heap) (n0 : Nat) :
    MetFree l (⟨"java/lang/Math", "max", "(II)I"⟩ : MethodName) (head1 [Jvm.Cond.code (⟨"java/lang/Math", "max", "(II)I"⟩ : MethodName) jdk_29_method_65_code 2 (some .int)] ({ frames := 0, cells := 0, slots := 0, locals := 0 } : Room)) (fun a U => a = #[(.int p1), (.int p2)] ∧ Z.Warmed39 U.vm ∧ U.heap = h0) (fun _ _ _ _ _ => True) (fun _ U o U' => ∃ v L, o = .returned v ∧ own_Q_rm5 Z p1 p2 h0 n0 v U'.heap L ∧ FrameEnd U o U' L ({ frames := 0, cells := 0, slots := 0, locals := 0 } : Room).cells ({ frames := 0, cells := 0, slots := 0, locals := 0 } : Room).slots) := by
  refine MetFree.of_bodySF (Jvm.Free.JP.mathPlain rfl (by decide +kernel)) hisR ?_
  intro p e s m args below meth c s₁ Bd hml0 hP hK
  obtain ⟨rfl, hZ, hh⟩ := hP
  have hx := Bd.exec
  have hby := Bd.bytes
  have hret := Bd.returns
  have hlk := Bd.notSynchronized
  have hml : c.maxLocals = 2 := hml0
  have hown : s.vm.findClass "java/lang/Math" = some m.cls := findClass_of_methodNamed Bd.named
  have hnm := (name_of_methodNamed Bd.named Bd.method).1
  have X0 : Stand p l e ({ frames := 0, cells := 0, slots := 0, locals := 0 } : Room) s m #[(.int p1), (.int p2)] below meth c s₁ [] 0 0 := Stand.of_body Bd
  have e0 : s₁.heap = h0 := by rw [← hh, Bd.state]; rfl
  have N0 := Fr.nil n0
  refine own_Go.cast (own_ef_own_rm5 m p1 p2) ?_
  refine own_step (T' := s₁) (f' := (mkF m 2 #[.val (.int p1), .val (.int p2)] [(.int p2), (.int p1)])) (fun tt kont => ?_) ?_
  · show Steps p.tables e below (s₁.setTop (mkF m 0 #[.val (.int p1), .val (.int p2)] [])) _
    refine XS.iloadN X0.here hx rfl (hb hby d5_0) rfl ?_
    show Steps p.tables e below (s₁.setTop (mkF m 1 #[.val (.int p1), .val (.int p2)] [(.int p1)])) _
    refine XS.iloadN X0.here hx rfl (hb hby d5_1) rfl ?_
    exact kont
  by_cases hc2_0 : p1 < p2
  · refine own_step (T' := s₁) (f' := (mkF m 10 #[.val (.int p1), .val (.int p2)] [(.int p2)])) (fun tt kont => ?_) ?_
    · show Steps p.tables e below (s₁.setTop (mkF m 2 #[.val (.int p1), .val (.int p2)] [(.int p2), (.int p1)])) _
      refine XS.icmpYes X0.here hx rfl (pc0 := 2) (pc' := 9) rfl (hb hby d5_2) rfl (tlt hc2_0).1 (by decide) (by decide) ?_
      show Steps p.tables e below (s₁.setTop (mkF m 9 #[.val (.int p1), .val (.int p2)] [])) _
      refine XS.iloadN X0.here hx rfl (hb hby d5_9) rfl ?_
      exact kont
    exact own_retI X0 hx hret hlk (hb hby d5_10) (by decide) (by decide) ⟨(congrArg (fun z => some (Value.int z)) (show p2 = own_f5 p1 p2 from (by rw [own_f5, if_pos hc2_0]))), N0, e0⟩
  · refine own_step (T' := s₁) (f' := (mkF m 10 #[.val (.int p1), .val (.int p2)] [(.int p1)])) (fun tt kont => ?_) ?_
    · show Steps p.tables e below (s₁.setTop (mkF m 2 #[.val (.int p1), .val (.int p2)] [(.int p2), (.int p1)])) _
      refine XS.icmpNo X0.here hx rfl (hb hby d5_2) rfl (flt hc2_0).1 ?_
      show Steps p.tables e below (s₁.setTop (mkF m 5 #[.val (.int p1), .val (.int p2)] [])) _
      refine XS.iloadN X0.here hx rfl (hb hby d5_5) rfl ?_
      show Steps p.tables e below (s₁.setTop (mkF m 6 #[.val (.int p1), .val (.int p2)] [(.int p1)])) _
      refine XS.goto X0.here hx rfl (pc0 := 6) (pc' := 10) rfl (hb hby d5_6) (by decide) (by decide) ?_
      exact kont
    exact own_retI X0 hx hret hlk (hb hby d5_10) (by decide) (by decide) ⟨(congrArg (fun z => some (Value.int z)) (show p1 = own_f5 p1 p2 from (by rw [own_f5, if_neg hc2_0]))), N0, e0⟩
def own_f7 (p1 : Int32) (p2 : Int32) : Int32 := (if p2 < p1 then p2 else p1)
theorem d7_0 : decode jdk_29_method_69_code 0 = .ok (.iload_n 0, 1) := by decide +kernel
theorem d7_1 : decode jdk_29_method_69_code 1 = .ok (.iload_n 1, 1) := by decide +kernel
theorem d7_2 : decode jdk_29_method_69_code 2 = .ok (.if_icmp .gt 7, 3) := by decide +kernel
theorem d7_5 : decode jdk_29_method_69_code 5 = .ok (.iload_n 0, 1) := by decide +kernel
theorem d7_6 : decode jdk_29_method_69_code 6 = .ok (.goto 4, 3) := by decide +kernel
theorem d7_9 : decode jdk_29_method_69_code 9 = .ok (.iload_n 1, 1) := by decide +kernel
theorem d7_10 : decode jdk_29_method_69_code 10 = .ok (.ireturn, 1) := by decide +kernel
theorem own_ef_own_rm7 (m : MethodId) (x0 : Int32) (x1 : Int32) : entryFrame m #[(.int x0), (.int x1)] 2 = mkF m 0 #[.val (.int x0), .val (.int x1)] [] := by first | (simp [entryFrame, mkF, argsToLocals, Value.category]; done) | rfl
def own_Q_rm7 (Z : State) (p1 : Int32) (p2 : Int32) (h0 : Heap) (n0 : Nat) (v : Option Value) (h : Heap) (L : List Loc) : Prop := v = some (.int (own_f7 p1 p2)) ∧ Fr n0 L ∧ h = h0
set_option maxRecDepth 65536 in
set_option maxHeartbeats 40000000 in
theorem own_rm7 (l : Launch) (Z : State) (a0 : Array Value) (hw : ∀ d ∈ tables_1, d.before a0 Z = true) (p1 : Int32) (p2 : Int32) (h0 : Heap) (n0 : Nat) :
    MetFree l (⟨"java/lang/Math", "min", "(II)I"⟩ : MethodName) (head1 [Jvm.Cond.code (⟨"java/lang/Math", "min", "(II)I"⟩ : MethodName) jdk_29_method_69_code 2 (some .int)] ({ frames := 0, cells := 0, slots := 0, locals := 0 } : Room)) (fun a U => a = #[(.int p1), (.int p2)] ∧ Z.Warmed39 U.vm ∧ U.heap = h0) (fun _ _ _ _ _ => True) (fun _ U o U' => ∃ v L, o = .returned v ∧ own_Q_rm7 Z p1 p2 h0 n0 v U'.heap L ∧ FrameEnd U o U' L ({ frames := 0, cells := 0, slots := 0, locals := 0 } : Room).cells ({ frames := 0, cells := 0, slots := 0, locals := 0 } : Room).slots) := by
  refine MetFree.of_bodySF (Jvm.Free.JP.mathPlain rfl (by decide +kernel)) hisR ?_
  intro p e s m args below meth c s₁ Bd hml0 hP hK
  obtain ⟨rfl, hZ, hh⟩ := hP
  have hx := Bd.exec
  have hby := Bd.bytes
  have hret := Bd.returns
  have hlk := Bd.notSynchronized
  have hml : c.maxLocals = 2 := hml0
  have hown : s.vm.findClass "java/lang/Math" = some m.cls := findClass_of_methodNamed Bd.named
  have hnm := (name_of_methodNamed Bd.named Bd.method).1
  have X0 : Stand p l e ({ frames := 0, cells := 0, slots := 0, locals := 0 } : Room) s m #[(.int p1), (.int p2)] below meth c s₁ [] 0 0 := Stand.of_body Bd
  have e0 : s₁.heap = h0 := by rw [← hh, Bd.state]; rfl
  have N0 := Fr.nil n0
  refine own_Go.cast (own_ef_own_rm7 m p1 p2) ?_
  refine own_step (T' := s₁) (f' := (mkF m 2 #[.val (.int p1), .val (.int p2)] [(.int p2), (.int p1)])) (fun tt kont => ?_) ?_
  · show Steps p.tables e below (s₁.setTop (mkF m 0 #[.val (.int p1), .val (.int p2)] [])) _
    refine XS.iloadN X0.here hx rfl (hb hby d7_0) rfl ?_
    show Steps p.tables e below (s₁.setTop (mkF m 1 #[.val (.int p1), .val (.int p2)] [(.int p1)])) _
    refine XS.iloadN X0.here hx rfl (hb hby d7_1) rfl ?_
    exact kont
  by_cases hc2_0 : p2 < p1
  · refine own_step (T' := s₁) (f' := (mkF m 10 #[.val (.int p1), .val (.int p2)] [(.int p2)])) (fun tt kont => ?_) ?_
    · show Steps p.tables e below (s₁.setTop (mkF m 2 #[.val (.int p1), .val (.int p2)] [(.int p2), (.int p1)])) _
      refine XS.icmpYes X0.here hx rfl (pc0 := 2) (pc' := 9) rfl (hb hby d7_2) rfl (tlt hc2_0).2.2.1 (by decide) (by decide) ?_
      show Steps p.tables e below (s₁.setTop (mkF m 9 #[.val (.int p1), .val (.int p2)] [])) _
      refine XS.iloadN X0.here hx rfl (hb hby d7_9) rfl ?_
      exact kont
    exact own_retI X0 hx hret hlk (hb hby d7_10) (by decide) (by decide) ⟨(congrArg (fun z => some (Value.int z)) (show p2 = own_f7 p1 p2 from (by rw [own_f7, if_pos hc2_0]))), N0, e0⟩
  · refine own_step (T' := s₁) (f' := (mkF m 10 #[.val (.int p1), .val (.int p2)] [(.int p1)])) (fun tt kont => ?_) ?_
    · show Steps p.tables e below (s₁.setTop (mkF m 2 #[.val (.int p1), .val (.int p2)] [(.int p2), (.int p1)])) _
      refine XS.icmpNo X0.here hx rfl (hb hby d7_2) rfl (flt hc2_0).2.2.1 ?_
      show Steps p.tables e below (s₁.setTop (mkF m 5 #[.val (.int p1), .val (.int p2)] [])) _
      refine XS.iloadN X0.here hx rfl (hb hby d7_5) rfl ?_
      show Steps p.tables e below (s₁.setTop (mkF m 6 #[.val (.int p1), .val (.int p2)] [(.int p1)])) _
      refine XS.goto X0.here hx rfl (pc0 := 6) (pc' := 10) rfl (hb hby d7_6) (by decide) (by decide) ?_
      exact kont
    exact own_retI X0 hx hret hlk (hb hby d7_10) (by decide) (by decide) ⟨(congrArg (fun z => some (Value.int z)) (show p1 = own_f7 p1 p2 from (by rw [own_f7, if_neg hc2_0]))), N0, e0⟩
section OwnCp
variable {p : Program} {l : Launch} {e : Env} {R : Room} {s : State} {m : MethodId} {args : Array Value} {below : List Frame} {meth : Method} {c : Code} {T : State} {locs : List Loc} {cells slots : Nat} {Z : State} {h : Heap} {a b : Addr} {n n' k : Nat} {F F' : Nat → Int32} {z z' nn : Int32}
theorem own_arv (A : own_A Z h a .int n (fun i => .int (F i))) (hz : own_at z n) : ∃ k, Arv Z h a k .int z ((List.range n).map fun i => .int (F i)) (.int 0) := by
  obtain ⟨c, Ar, S, H⟩ := A
  refine ⟨c.cls, c, Ar, rfl, by rw [S]; exact hz.2.symm, hz.1, fun i hi => ?_, fun i hi => ?_⟩
  · rw [S] at hi
    rw [H i hi]; simp [hi]
  · rw [S] at hi
    simp [hi, fits]
theorem own_cp (X : Stand p l e R s m args below meth c T locs cells slots) (hx : p.tables.exec = Jvm.exec) (hZ : Z.Warmed39 s.vm) {a0 : Array Value} {own : String} {index : Nat} (hown : s.vm.findClass own = some m.cls)
    (w1 : (Cond.methodLink own index Jvm.Stand.acN).before a0 Z = true) (w2 : (Cond.native Jvm.Stand.acN).before a0 Z = true) (w3 : (Cond.static Jvm.Stand.acN).before a0 Z = true) (w4 : (Cond.initialized "java/lang/System").before a0 Z = true) (eT : T.heap = h)
    (A : own_A Z h a .int n (fun i => .int (F i))) (B : own_A Z h b .int n' (fun _ => .int (0 : Int32))) (hz : own_at z n) (hz' : own_at z' n') (hn : own_at nn k) (hk : k ≤ n) (hk' : k ≤ n') {n0 : Nat} (N : Fr n0 locs) (ge : n0 ≤ b)
    {g : JFrame} (hg : g.method = m) (hsize : g.locals.size = c.maxLocals) {rest : List Value} (hs : g.stack = .int nn :: .int (0 : Int32) :: .ref b :: .int (0 : Int32) :: .ref a :: rest) (hd : decode c.code g.pc = .ok (.invokestatic index, 3))
    (hf : 1 ≤ R.frames) {W : Nat} (hW : 2 * g.monitorRoom + (rest.map fun v => v.category).sum ≤ W) (hlo : W + (nativeFrameWords "java/lang/System" "arraycopy" 5 + 11) ≤ R.locals) :
    ∃ T' h' L, Stand p l e R s m args below meth c T' L cells slots ∧ T'.heap = h' ∧ Fr n0 L ∧ Keep h h' [b] ∧ own_A Z h' b .int n' (fun i => .int (if i < k then F i else 0)) ∧
      ∀ target, Steps p.tables e below (T'.setTop { g with pc := g.pc + 3, stack := rest }) target → Steps p.tables e below (T.setTop g) target := by
  obtain ⟨kA, A'⟩ := own_arv A hz
  obtain ⟨kB, B'⟩ := own_arv (F := fun _ => 0) B hz'
  have z0 : (0 : Int32).toNatClampNeg = 0 := rfl
  obtain ⟨T', h', L, X', e', N', K', V', st⟩ := cpA X hx hZ hown w1 w2 w3 w4 eT (sp := 0) (dp := 0) (nn := nn) (us := (List.range nn.toNatClampNeg).map fun i => ((List.range n).map fun i => Value.int (F i)).getD ((0 : Int32).toNatClampNeg + i) (.int 0)) A' B' (Or.inl ⟨rfl, rfl⟩) (by decide) (by decide) hn.1
    (by rw [z0, hn.2, hz.2]; omega) (by rw [z0, hn.2, hz'.2]; omega) rfl (by rw [z0, hn.2]; simpa using hk') N ge hg hsize hs hd hf hW hlo
  refine ⟨T', h', L, X', e', N', K', ?_, st⟩
  obtain ⟨cb, Ar, -, S, -, H, -⟩ := V'
  rw [hz'.2] at S
  refine ⟨cb, Ar, S, fun i hi => ?_⟩
  rw [H i (by rw [S]; exact hi), z0, hn.2]
  show _ = some (Value.int (if i < k then F i else 0))
  congr 1
  by_cases q : i < k
  · rw [if_pos q]
    have : i < n := by omega
    simp only [List.take_zero, List.nil_append, Nat.zero_add, List.getD_eq_getElem?_getD]
    rw [List.getElem?_append_left (by simpa using q)]
    simp [q, this]
  · rw [if_neg q]
    simp only [List.take_zero, List.nil_append, Nat.zero_add, List.getD_eq_getElem?_getD]
    rw [List.getElem?_append_right (by simp; omega)]
    simp only [List.length_map, List.length_range, List.getElem?_drop]
    rw [show k + (i - k) = i by omega]
    simp [hi]
end OwnCp
theorem own_len_of {z : Int32} {n : Nat} (h : own_at z n) : n.toInt32 = z := by rw [← h.2]; exact (back32 h.1).1
theorem own_at_toInt {z : Int32} {n : Nat} (h : own_at z n) : z.toInt = (n : Int) := by
  have h1 := h.1; rw [Int32.lt_iff_toInt_lt, show (0 : Int32).toInt = 0 from rfl] at h1
  have h2 := h.2; simp only [Int32.toNatClampNeg] at h2; omega
theorem own_at_lt {p z : Int32} {i n : Nat} (h : own_at p i) (hz : own_at z n) (q : p < z) : i < n := by
  have a := own_at_toInt h; have b := own_at_toInt hz; rw [Int32.lt_iff_toInt_lt] at q; omega
theorem own_at_ge {p z : Int32} {i n : Nat} (h : own_at p i) (hz : own_at z n) (q : ¬ p < z) : ¬ i < n := by
  have a := own_at_toInt h; have b := own_at_toInt hz; rw [Int32.lt_iff_toInt_lt] at q; omega

theorem d6_0 : decode jdk_65_method_123_code 0 = .ok (.iload_n 1, 1) := by decide +kernel
theorem d6_1 : decode jdk_65_method_123_code 1 = .ok (.aload_n 0, 1) := by decide +kernel
theorem d6_2 : decode jdk_65_method_123_code 2 = .ok (.arraylength, 1) := by decide +kernel
theorem d6_3 : decode jdk_65_method_123_code 3 = .ok (.if_icmp .ne 11, 3) := by decide +kernel
theorem d6_6 : decode jdk_65_method_123_code 6 = .ok (.aload_n 0, 1) := by decide +kernel
theorem d6_7 : decode jdk_65_method_123_code 7 = .ok (.invokevirtual 316, 3) := by decide +kernel
theorem d6_10 : decode jdk_65_method_123_code 10 = .ok (.checkcast 317, 3) := by decide +kernel
theorem d6_13 : decode jdk_65_method_123_code 13 = .ok (.areturn, 1) := by decide +kernel
theorem d6_14 : decode jdk_65_method_123_code 14 = .ok (.iload_n 1, 1) := by decide +kernel
theorem d6_15 : decode jdk_65_method_123_code 15 = .ok (.newarray .int, 2) := by decide +kernel
theorem d6_17 : decode jdk_65_method_123_code 17 = .ok (.astore_n 2, 1) := by decide +kernel
theorem d6_18 : decode jdk_65_method_123_code 18 = .ok (.aload_n 0, 1) := by decide +kernel
theorem d6_19 : decode jdk_65_method_123_code 19 = .ok (.iconst 0, 1) := by decide +kernel
theorem d6_20 : decode jdk_65_method_123_code 20 = .ok (.aload_n 2, 1) := by decide +kernel
theorem d6_21 : decode jdk_65_method_123_code 21 = .ok (.iconst 0, 1) := by decide +kernel
theorem d6_22 : decode jdk_65_method_123_code 22 = .ok (.aload_n 0, 1) := by decide +kernel
theorem d6_23 : decode jdk_65_method_123_code 23 = .ok (.arraylength, 1) := by decide +kernel
theorem d6_24 : decode jdk_65_method_123_code 24 = .ok (.iload_n 1, 1) := by decide +kernel
theorem d6_25 : decode jdk_65_method_123_code 25 = .ok (.invokestatic 304, 3) := by decide +kernel
theorem d6_28 : decode jdk_65_method_123_code 28 = .ok (.invokestatic 150, 3) := by decide +kernel
theorem d6_31 : decode jdk_65_method_123_code 31 = .ok (.aload_n 2, 1) := by decide +kernel
theorem d6_32 : decode jdk_65_method_123_code 32 = .ok (.areturn, 1) := by decide +kernel
theorem own_pn0 : plainName "java/util/Arrays" = true := by first | (simp [plainName, overriddenIn]; done) | decide +kernel
theorem own_ef_own_rm6 (m : MethodId) (x0 : Addr) (x1 : Int32) : entryFrame m #[(.ref x0), (.int x1)] 3 = mkF m 0 #[.val (.ref x0), .val (.int x1), .unset] [] := by first | (simp [entryFrame, mkF, argsToLocals, Value.category]; done) | rfl
theorem own_pd0 : parseMethodDescriptor "(II)I" = some ⟨[.int, .int], some .int⟩ := by decide +kernel
def own_Q_rm6 (Z : State) (a1 : Addr) (p2 : Int32) (N M : Nat) (F : Nat → Int32) (zN : Int32) (h0 : Heap) (n0 : Nat) (v : Option Value) (h : Heap) (L : List Loc) : Prop := ∃ b : Addr, v = some (.ref b) ∧ Fr n0 L ∧ n0 ≤ b ∧ h0.size ≤ b ∧ Keep h0 h [] ∧ own_A Z h b .int M (fun i => .int (if i < N then F i else 0))
set_option maxRecDepth 65536 in
set_option maxHeartbeats 40000000 in
theorem own_rm6 (l : Launch) (Z : State) (a0 : Array Value) (hw : ∀ d ∈ tables_1, d.before a0 Z = true) (a1 : Addr) (p2 : Int32) (N M : Nat) (F : Nat → Int32) (zN : Int32) (h0 : Heap) (n0 : Nat) (Z0 : n0 ≤ h0.size) (VA : own_A Z h0 a1 .int N (fun i => .int (F i))) (hzN : own_at zN N) (hM : own_at p2 M) (hNM : N < M) (hM64 : M ≤ 64) (hne : ¬ (p2 = zN)) (hlt : ¬ (p2 < zN)) :
    MetFree l (⟨"java/util/Arrays", "copyOf", "([II)[I"⟩ : MethodName) (head1 [Jvm.Cond.code (⟨"java/util/Arrays", "copyOf", "([II)[I"⟩ : MethodName) jdk_65_method_123_code 3 (some (.array .int))] ({ frames := 1, cells := 1, slots := 64, locals := 18 } : Room)) (fun a U => a = #[(.ref a1), (.int p2)] ∧ Z.Warmed39 U.vm ∧ U.heap = h0) (fun _ _ _ _ _ => True) (fun _ U o U' => ∃ v L, o = .returned v ∧ own_Q_rm6 Z a1 p2 N M F zN h0 n0 v U'.heap L ∧ FrameEnd U o U' L ({ frames := 1, cells := 1, slots := 64, locals := 18 } : Room).cells ({ frames := 1, cells := 1, slots := 64, locals := 18 } : Room).slots) := by
  refine MetFree.of_bodySF (plainFor_of_name own_pn0) hisR ?_
  intro p e s m args below meth c s₁ Bd hml0 hP hK
  obtain ⟨rfl, hZ, hh⟩ := hP
  have hx := Bd.exec
  have hby := Bd.bytes
  have hret := Bd.returns
  have hlk := Bd.notSynchronized
  have hml : c.maxLocals = 3 := hml0
  have hown : s.vm.findClass "java/util/Arrays" = some m.cls := findClass_of_methodNamed Bd.named
  have hnm := (name_of_methodNamed Bd.named Bd.method).1
  have X0 : Stand p l e ({ frames := 1, cells := 1, slots := 64, locals := 18 } : Room) s m #[(.ref a1), (.int p2)] below meth c s₁ [] 0 0 := Stand.of_body Bd
  have e0 : s₁.heap = h0 := by rw [← hh, Bd.state]; rfl
  have N0 := Fr.nil n0
  refine own_Go.cast (own_ef_own_rm6 m a1 p2) ?_
  refine own_step (T' := s₁) (f' := (mkF m 2 #[.val (.ref a1), .val (.int p2), .unset] [(.ref a1), (.int p2)])) (fun tt kont => ?_) ?_
  · show Steps p.tables e below (s₁.setTop (mkF m 0 #[.val (.ref a1), .val (.int p2), .unset] [])) _
    refine XS.iloadN X0.here hx rfl (hb hby d6_0) rfl ?_
    show Steps p.tables e below (s₁.setTop (mkF m 1 #[.val (.ref a1), .val (.int p2), .unset] [(.int p2)])) _
    refine XS.aloadN X0.here hx rfl (hb hby d6_1) rfl rfl ?_
    exact kont
  refine own_step (T' := s₁) (f' := (mkF m 15 #[.val (.ref a1), .val (.int p2), .unset] [(.int p2)])) (fun tt kont => ?_) ?_
  · show Steps p.tables e below (s₁.setTop (mkF m 2 #[.val (.ref a1), .val (.int p2), .unset] [(.ref a1), (.int p2)])) _
    refine own_alen X0 hx hZ e0 VA (z := zN) (own_len_of hzN) (g := (mkF m 2 #[.val (.ref a1), .val (.int p2), .unset] [(.ref a1), (.int p2)])) rfl rfl (hb hby d6_2) _ ?_
    show Steps p.tables e below (s₁.setTop (mkF m 3 #[.val (.ref a1), .val (.int p2), .unset] [(.int zN), (.int p2)])) _
    refine XS.icmpYes X0.here hx rfl (pc0 := 3) (pc' := 14) rfl (hb hby d6_3) rfl (feq hne).2 (by decide) (by decide) ?_
    show Steps p.tables e below (s₁.setTop (mkF m 14 #[.val (.ref a1), .val (.int p2), .unset] [])) _
    refine XS.iloadN X0.here hx rfl (hb hby d6_14) rfl ?_
    exact kont
  obtain ⟨T101, h101, k101, X101, e101, E101, A101, st101⟩ := newP X0 hx hZ (hw _ (List.mem_of_getElem? (i := 9) rfl)) e0 (g := (mkF m 15 #[.val (.ref a1), .val (.int p2), .unset] [(.int p2)])) rfl (hb hby d6_15) rfl hM.1 (cap := 64) (by rw [hM.2]; omega) (by decide) (by decide) (by decide)
  obtain ⟨b1, g101⟩ : ∃ z, z = h0.size := ⟨_, rfl⟩
  have g_b1 : n0 ≤ b1 := Nat.le_trans Z0 (Nat.le_of_eq g101.symm)
  have sz_b1 : h0.size ≤ b1 := Nat.le_trans (Keep.refl h0 []).1 (Nat.le_of_eq g101.symm)
  have Z101 : n0 ≤ h101.size := Nat.le_trans Z0 E101.1
  have K101 := (Keep.refl h0 []).ext E101
  have ne_a1_b1 : a1 ≠ b1 := Nat.ne_of_lt (Nat.lt_of_lt_of_le VA.lt (Nat.le_of_eq g101.symm))
  rw [← g101] at A101 st101
  have V_a1_101 : own_A Z h101 a1 .int N (fun i => .int (F i)) := VA.ext E101
  have V_b1_101 : own_A Z h101 b1 .int M (fun _ => (.int (0 : Int32))) := own_A.new A101 hM.2
  refine own_step st101 ?_
  refine own_step (T' := T101) (f' := (mkF m 23 #[.val (.ref a1), .val (.int p2), .val (.ref b1)] [(.ref a1), (.int (0 : Int32)), (.ref b1), (.int (0 : Int32)), (.ref a1)])) (fun tt kont => ?_) ?_
  · show Steps p.tables e below (T101.setTop (mkF m 17 #[.val (.ref a1), .val (.int p2), .unset] [(.ref b1)])) _
    refine XS.astoreN X101.here hx rfl (hb hby d6_17) rfl rfl (l' := #[.val (.ref a1), .val (.int p2), .val (.ref b1)]) rfl ?_
    show Steps p.tables e below (T101.setTop (mkF m 18 #[.val (.ref a1), .val (.int p2), .val (.ref b1)] [])) _
    refine XS.aloadN X101.here hx rfl (hb hby d6_18) rfl rfl ?_
    show Steps p.tables e below (T101.setTop (mkF m 19 #[.val (.ref a1), .val (.int p2), .val (.ref b1)] [(.ref a1)])) _
    refine XS.iconst X101.here hx rfl (hb hby d6_19) ?_
    show Steps p.tables e below (T101.setTop (mkF m 20 #[.val (.ref a1), .val (.int p2), .val (.ref b1)] [(.int (0 : Int32)), (.ref a1)])) _
    refine XS.aloadN X101.here hx rfl (hb hby d6_20) rfl rfl ?_
    show Steps p.tables e below (T101.setTop (mkF m 21 #[.val (.ref a1), .val (.int p2), .val (.ref b1)] [(.ref b1), (.int (0 : Int32)), (.ref a1)])) _
    refine XS.iconst X101.here hx rfl (hb hby d6_21) ?_
    show Steps p.tables e below (T101.setTop (mkF m 22 #[.val (.ref a1), .val (.int p2), .val (.ref b1)] [(.int (0 : Int32)), (.ref b1), (.int (0 : Int32)), (.ref a1)])) _
    refine XS.aloadN X101.here hx rfl (hb hby d6_22) rfl rfl ?_
    exact kont
  refine own_step (T' := T101) (f' := (mkF m 25 #[.val (.ref a1), .val (.int p2), .val (.ref b1)] [(.int p2), (.int zN), (.int (0 : Int32)), (.ref b1), (.int (0 : Int32)), (.ref a1)])) (fun tt kont => ?_) ?_
  · show Steps p.tables e below (T101.setTop (mkF m 23 #[.val (.ref a1), .val (.int p2), .val (.ref b1)] [(.ref a1), (.int (0 : Int32)), (.ref b1), (.int (0 : Int32)), (.ref a1)])) _
    refine own_alen X101 hx hZ e101 V_a1_101 (z := zN) (own_len_of hzN) (g := (mkF m 23 #[.val (.ref a1), .val (.int p2), .val (.ref b1)] [(.ref a1), (.int (0 : Int32)), (.ref b1), (.int (0 : Int32)), (.ref a1)])) rfl rfl (hb hby d6_23) _ ?_
    show Steps p.tables e below (T101.setTop (mkF m 24 #[.val (.ref a1), .val (.int p2), .val (.ref b1)] [(.int zN), (.int (0 : Int32)), (.ref b1), (.int (0 : Int32)), (.ref a1)])) _
    refine XS.iloadN X101.here hx rfl (hb hby d6_24) rfl ?_
    exact kont
  obtain ⟨_, _, ⟨T102, L102, k102, n102⟩, -, X102, ⟨Lc102, hQ102, l102, y102, z102⟩, st102⟩ := Jvm.LawKit.callS X101 hx (y := (⟨"java/lang/Math", "min", "(II)I"⟩ : MethodName)) hown (mvT hZ (hw _ (List.mem_of_getElem? (i := 43) rfl))) (mvT hZ (hw _ (List.mem_of_getElem? (i := 44) rfl))) (mvT hZ (hw _ (List.mem_of_getElem? (i := 37) rfl))) (mvT hZ (hw _ (List.mem_of_getElem? (i := 45) rfl))) (by decide) (backOf (W := 4) (own_rm7 l Z a0 hw zN p2 h101 n0) hZ (hw _ (List.mem_of_getElem? (i := 45) rfl)) (hw _ (List.mem_of_getElem? (i := 37) rfl)) (by decide) (by decide)) (g := (mkF m 25 #[.val (.ref a1), .val (.int p2), .val (.ref b1)] [(.int p2), (.int zN), (.int (0 : Int32)), (.ref b1), (.int (0 : Int32)), (.ref a1)])) rfl (by rw [hml]; rfl) (argsL := [(.int zN), (.int p2)]) (rest := [(.int (0 : Int32)), (.ref b1), (.int (0 : Int32)), (.ref a1)]) (lenOf own_pd0 rfl) rfl (by show 2 * 0 + _ ≤ _; exact Nat.le_of_eq rfl) (hb hby d6_25) (fun _ _ => ⟨rfl, e101, (by decide : 1 + 0 ≤ _), (by decide : 64 + 0 ≤ _)⟩)
  dsimp only [Pt.U, Pt.locs, Pt.cells, Pt.slots] at X102 l102 y102 z102 st102 hQ102
  subst l102 y102 z102
  obtain ⟨rfl, N102q, e102⟩ := hQ102
  have N102 := Fr.app N0 N102q
  refine own_step (fun tt kont => st102 _ kont) ?_
  have hmin : own_f7 zN p2 = zN := if_neg hlt
  rw [hmin]
  obtain ⟨T103, h103, L103, X103, e103, N103, K103c, V_b1_103, st103⟩ := own_cp X102 hx hZ hown (hw _ (List.mem_of_getElem? (i := 46) rfl)) (hw _ (List.mem_of_getElem? (i := 49) rfl)) (hw _ (List.mem_of_getElem? (i := 47) rfl)) (hw _ (List.mem_of_getElem? (i := 48) rfl)) e102 V_a1_101 V_b1_101 hzN hM hzN (Nat.le_refl _) (by omega) N102 g_b1 (g := (mkF m 28 #[.val (.ref a1), .val (.int p2), .val (.ref b1)] [(.int zN), (.int (0 : Int32)), (.ref b1), (.int (0 : Int32)), (.ref a1)])) rfl (by rw [hml]; rfl) rfl (hb hby d6_28) (by decide) (W := 0) (by show 2 * 0 + _ ≤ _; exact Nat.le_of_eq rfl) (by decide)
  have K103 := K101.trans K103c (allS (Or.inr sz_b1) all0)
  refine own_step st103 ?_
  refine own_step (T' := T103) (f' := (mkF m 32 #[.val (.ref a1), .val (.int p2), .val (.ref b1)] [(.ref b1)])) (fun tt kont => ?_) ?_
  · show Steps p.tables e below (T103.setTop (mkF m 31 #[.val (.ref a1), .val (.int p2), .val (.ref b1)] [])) _
    refine XS.aloadN X103.here hx rfl (hb hby d6_31) rfl rfl ?_
    exact kont
  exact own_retA X103 hx hret hlk (hb hby d6_32) (by decide) (by decide) (by rw [e103]; exact ⟨_, rfl, N103, g_b1, sz_b1, K103, V_b1_103⟩)
/-- a BidIndex whose slots are the first N of F, made since the law began -/
def own_Bid (Z : State) (h : Heap) (n0 : Nat) (a arr rg : Addr) (N : Nat) (F : Nat → Int32) : Prop :=
  Exa Z h a "com/example/crossquote/crossquote/BidIndex" ∧ Fld Z h a "com/example/crossquote/crossquote/BidIndex" "slots" "[I" (.ref arr) ∧ Fld Z h a "com/example/crossquote/crossquote/BidIndex" "rungs" "[Lcom/example/crossquote/crossquote/Rung;" (.ref rg) ∧ own_A Z h arr .int N (fun i => .int (F i)) ∧ own_A Z h rg (.object "com/example/crossquote/crossquote/Rung") 16 (fun _ => .null) ∧ a ≠ arr ∧ a ≠ rg ∧ arr ≠ rg ∧ n0 ≤ a ∧ n0 ≤ arr
def own_get (N : Nat) (F : Nat → Int32) (i : Nat) : Int32 := if i < N then F i else 0
theorem own_get1 {N i : Nat} {F : Nat → Int32} {p z : Int32} (h : own_at p i) (hz : own_at z N) (q : p < z) : F i = own_get N F i := (if_pos (own_at_lt h hz q)).symm
theorem own_get0 {N i : Nat} {F : Nat → Int32} {p z : Int32} (h : own_at p i) (hz : own_at z N) (q : ¬ p < z) : (0 : Int32) = own_get N F i := (if_neg (own_at_ge h hz q)).symm
def own_updI (F : Nat → Int32) (i : Nat) (x : Int32) : Nat → Int32 := fun k => if k = i then x else F k
theorem own_toI {Z : State} {h : Heap} {a : Addr} {n i : Nat} {F : Nat → Int32} {x : Int32} (A : own_A Z h a .int n (own_upd (fun i => .int (F i)) i (.int x))) : own_A Z h a .int n (fun k => .int (own_updI F i x k)) :=
  A.cong fun k _ => by simp only [own_upd, own_updI]; split <;> rfl
theorem own_M {y p z : Int32} {i N : Nat} (hy : y = own_f5 (p + (1 : Int32)) (16 : Int32)) (hi : own_at p i) (hi63 : i ≤ 63) (hz : own_at z N) (hN : 16 ≤ N ∧ N ≤ 64) (q : ¬ p < z) :
    ∃ M, own_at y M ∧ N < M ∧ M ≤ 64 ∧ 16 ≤ M ∧ ¬ (y = z) ∧ ¬ (y < z) ∧ i < M := by
  have a := own_at_toInt hi; have b := own_at_toInt hz
  have g := own_at_ge hi hz q
  have e := c_iadd p 1; have r := rng32 (p + 1)
  rw [show (1 : Int32).toInt = 1 from rfl] at e
  have k16 : (16 : Int32).toInt = 16 := rfl
  have hv : y.toInt = ((i + 1 : Nat) : Int) := by
    rw [hy, own_f5]
    split
    · rename_i u; rw [Int32.lt_iff_toInt_lt, k16] at u; omega
    · omega
  refine ⟨i + 1, own_at_int hv, by omega, by omega, by omega, ?_, ?_, by omega⟩
  · intro u; rw [u] at hv; omega
  · rw [Int32.lt_iff_toInt_lt]; omega
theorem own_set1 {N i : Nat} {F : Nat → Int32} {x : Int32} (hi : i < N) : ∀ j, own_get N (own_updI F i x) j = if j = i then x else own_get N F j := fun j => by
  simp only [own_get, own_updI]
  by_cases q : j = i
  · subst q; rw [if_pos hi, if_pos rfl, if_pos rfl]
  · rw [if_neg q, if_neg q]
theorem own_set2 {N M i : Nat} {F : Nat → Int32} {x : Int32} (hNM : N < M) (hi : i < M) : ∀ j, own_get M (own_updI (fun i => if i < N then F i else 0) i x) j = if j = i then x else own_get N F j := fun j => by
  rw [own_set1 hi]
  by_cases q : j = i
  · rw [if_pos q, if_pos q]
  · rw [if_neg q, if_neg q]
    simp only [own_get]
    by_cases u : j < N
    · simp [u, show j < M by omega]
    · simp [u]

theorem d1_0 : decode prog_12_method_1_code 0 = .ok (.aload_n 0, 1) := by decide +kernel
theorem d1_1 : decode prog_12_method_1_code 1 = .ok (.invokespecial 1, 3) := by decide +kernel
theorem d1_4 : decode prog_12_method_1_code 4 = .ok (.aload_n 0, 1) := by decide +kernel
theorem d1_5 : decode prog_12_method_1_code 5 = .ok (.bipush 32, 2) := by decide +kernel
theorem d1_7 : decode prog_12_method_1_code 7 = .ok (.newarray .int, 2) := by decide +kernel
theorem d1_9 : decode prog_12_method_1_code 9 = .ok (.putfield 7, 3) := by decide +kernel
theorem d1_12 : decode prog_12_method_1_code 12 = .ok (.aload_n 0, 1) := by decide +kernel
theorem d1_13 : decode prog_12_method_1_code 13 = .ok (.bipush 16, 2) := by decide +kernel
theorem d1_15 : decode prog_12_method_1_code 15 = .ok (.newarray .long, 2) := by decide +kernel
theorem d1_17 : decode prog_12_method_1_code 17 = .ok (.putfield 13, 3) := by decide +kernel
theorem d1_20 : decode prog_12_method_1_code 20 = .ok (.aload_n 0, 1) := by decide +kernel
theorem d1_21 : decode prog_12_method_1_code 21 = .ok (.bipush 16, 2) := by decide +kernel
theorem d1_23 : decode prog_12_method_1_code 23 = .ok (.newarray .int, 2) := by decide +kernel
theorem d1_25 : decode prog_12_method_1_code 25 = .ok (.putfield 17, 3) := by decide +kernel
theorem d1_28 : decode prog_12_method_1_code 28 = .ok (.aload_n 0, 1) := by decide +kernel
theorem d1_29 : decode prog_12_method_1_code 29 = .ok (.bipush 16, 2) := by decide +kernel
theorem d1_31 : decode prog_12_method_1_code 31 = .ok (.anewarray 20, 3) := by decide +kernel
theorem d1_34 : decode prog_12_method_1_code 34 = .ok (.putfield 22, 3) := by decide +kernel
theorem d1_37 : decode prog_12_method_1_code 37 = .ok (.aload_n 0, 1) := by decide +kernel
theorem d1_38 : decode prog_12_method_1_code 38 = .ok (.bipush 16, 2) := by decide +kernel
theorem d1_40 : decode prog_12_method_1_code 40 = .ok (.newarray .int, 2) := by decide +kernel
theorem d1_42 : decode prog_12_method_1_code 42 = .ok (.putfield 26, 3) := by decide +kernel
theorem d1_45 : decode prog_12_method_1_code 45 = .ok (.aload_n 0, 1) := by decide +kernel
theorem d1_46 : decode prog_12_method_1_code 46 = .ok (.iconst 1, 1) := by decide +kernel
theorem d1_47 : decode prog_12_method_1_code 47 = .ok (.putfield 29, 3) := by decide +kernel
theorem d1_50 : decode prog_12_method_1_code 50 = .ok (.return_, 1) := by decide +kernel
theorem own_pn1 : plainName "com/example/crossquote/crossquote/BidIndex" = true := by first | (simp [plainName, overriddenIn]; done) | decide +kernel
theorem own_ef_own_rm1 (m : MethodId) (x0 : Addr) : entryFrame m #[(.ref x0)] 1 = mkF m 0 #[.val (.ref x0)] [] := by first | (simp [entryFrame, mkF, argsToLocals, Value.category]; done) | rfl
def own_Q_rm1 (Z : State) (a1 : Addr) (h0 : Heap) (n0 : Nat) (v : Option Value) (h : Heap) (L : List Loc) : Prop := v = none ∧ Fr n0 L ∧ n0 ≤ h.size ∧ ∃ arr rg : Addr, own_Bid Z h n0 a1 arr rg 16 (fun _ => 0)
set_option maxRecDepth 65536 in
set_option maxHeartbeats 40000000 in
theorem own_rm1 (l : Launch) (Z : State) (a0 : Array Value) (hw : ∀ d ∈ tables_1, d.before a0 Z = true) (a1 : Addr) (h0 : Heap) (n0 : Nat) (Z0 : n0 ≤ h0.size) (ga1 : n0 ≤ a1) (Ea1 : Exa Z h0 a1 "com/example/crossquote/crossquote/BidIndex") (F_heads : Fld Z h0 a1 "com/example/crossquote/crossquote/BidIndex" "heads" "[I" .null) (F_links : Fld Z h0 a1 "com/example/crossquote/crossquote/BidIndex" "links" "[J" .null) (F_slots : Fld Z h0 a1 "com/example/crossquote/crossquote/BidIndex" "slots" "[I" .null) (F_rungs : Fld Z h0 a1 "com/example/crossquote/crossquote/BidIndex" "rungs" "[Lcom/example/crossquote/crossquote/Rung;" .null) (F_free : Fld Z h0 a1 "com/example/crossquote/crossquote/BidIndex" "free" "[I" .null) (F_end : Fld Z h0 a1 "com/example/crossquote/crossquote/BidIndex" "end" "I" (.int (0 : Int32))) :
    MetFree l (⟨"com/example/crossquote/crossquote/BidIndex", "<init>", "()V"⟩ : MethodName) (head1 [Jvm.Cond.code (⟨"com/example/crossquote/crossquote/BidIndex", "<init>", "()V"⟩ : MethodName) prog_12_method_1_code 1 none] ({ frames := 1, cells := 5, slots := 96, locals := 12 } : Room)) (fun a U => a = #[(.ref a1)] ∧ Z.Warmed39 U.vm ∧ U.heap = h0) (fun _ _ _ _ _ => True) (fun _ U o U' => ∃ v L, o = .returned v ∧ own_Q_rm1 Z a1 h0 n0 v U'.heap L ∧ FrameEnd U o U' L ({ frames := 1, cells := 5, slots := 96, locals := 12 } : Room).cells ({ frames := 1, cells := 5, slots := 96, locals := 12 } : Room).slots) := by
  refine MetFree.of_bodySF (plainFor_of_name own_pn1) hisR ?_
  intro p e s m args below meth c s₁ Bd hml0 hP hK
  obtain ⟨rfl, hZ, hh⟩ := hP
  have hx := Bd.exec
  have hby := Bd.bytes
  have hret := Bd.returns
  have hlk := Bd.notSynchronized
  have hml : c.maxLocals = 1 := hml0
  have hown : s.vm.findClass "com/example/crossquote/crossquote/BidIndex" = some m.cls := findClass_of_methodNamed Bd.named
  have hnm := (name_of_methodNamed Bd.named Bd.method).1
  have X0 : Stand p l e ({ frames := 1, cells := 5, slots := 96, locals := 12 } : Room) s m #[(.ref a1)] below meth c s₁ [] 0 0 := Stand.of_body Bd
  have e0 : s₁.heap = h0 := by rw [← hh, Bd.state]; rfl
  have N0 := Fr.nil n0
  refine own_Go.cast (own_ef_own_rm1 m a1) ?_
  refine own_step (T' := s₁) (f' := (mkF m 1 #[.val (.ref a1)] [(.ref a1)])) (fun tt kont => ?_) ?_
  · show Steps p.tables e below (s₁.setTop (mkF m 0 #[.val (.ref a1)] [])) _
    refine XS.aloadN X0.here hx rfl (hb hby d1_0) rfl rfl ?_
    exact kont
  obtain ⟨T101, X101, e101, st101⟩ := initO X0 hx hZ hown (hw _ (List.mem_of_getElem? (i := 6) rfl)) (hw _ (List.mem_of_getElem? (i := 7) rfl)) (hw _ (List.mem_of_getElem? (i := 8) rfl)) e0 (g := (mkF m 1 #[.val (.ref a1)] [(.ref a1)])) rfl (by rw [hml]; rfl) rfl (hb hby d1_1) (by decide) (W := 0) (by show 2 * 0 + _ ≤ _; exact Nat.le_of_eq rfl) (by decide)
  refine own_step st101 ?_
  refine own_step (T' := T101) (f' := (mkF m 7 #[.val (.ref a1)] [(.int (32 : Int32)), (.ref a1)])) (fun tt kont => ?_) ?_
  · show Steps p.tables e below (T101.setTop (mkF m 4 #[.val (.ref a1)] [])) _
    refine XS.aloadN X101.here hx rfl (hb hby d1_4) rfl rfl ?_
    show Steps p.tables e below (T101.setTop (mkF m 5 #[.val (.ref a1)] [(.ref a1)])) _
    refine XS.bipush X101.here hx rfl (hb hby d1_5) ?_
    exact kont
  obtain ⟨T102, h102, k102, X102, e102, E102, A102, st102⟩ := newP X101 hx hZ (hw _ (List.mem_of_getElem? (i := 9) rfl)) e101 (g := (mkF m 7 #[.val (.ref a1)] [(.int (32 : Int32)), (.ref a1)])) rfl (hb hby d1_7) rfl (by decide) (cap := 32) (by decide) (by decide) (by decide) (by decide)
  obtain ⟨hd, g102⟩ : ∃ z, z = h0.size := ⟨_, rfl⟩
  have g_hd : n0 ≤ hd := Nat.le_trans Z0 (Nat.le_of_eq g102.symm)
  have Z102 : n0 ≤ h102.size := Nat.le_trans Z0 E102.1
  have ne_a1_hd : a1 ≠ hd := Nat.ne_of_lt (Nat.lt_of_lt_of_le Ea1.lt (Nat.le_of_eq g102.symm))
  rw [← g102] at A102 st102
  have E_a1_102 : Exa Z h102 a1 "com/example/crossquote/crossquote/BidIndex" := Ea1.ext E102
  have F_a1_heads_102 : Fld Z h102 a1 "com/example/crossquote/crossquote/BidIndex" "heads" "[I" .null := F_heads.ext E102
  have F_a1_links_102 : Fld Z h102 a1 "com/example/crossquote/crossquote/BidIndex" "links" "[J" .null := F_links.ext E102
  have F_a1_slots_102 : Fld Z h102 a1 "com/example/crossquote/crossquote/BidIndex" "slots" "[I" .null := F_slots.ext E102
  have F_a1_rungs_102 : Fld Z h102 a1 "com/example/crossquote/crossquote/BidIndex" "rungs" "[Lcom/example/crossquote/crossquote/Rung;" .null := F_rungs.ext E102
  have F_a1_free_102 : Fld Z h102 a1 "com/example/crossquote/crossquote/BidIndex" "free" "[I" .null := F_free.ext E102
  have F_a1_end_102 : Fld Z h102 a1 "com/example/crossquote/crossquote/BidIndex" "end" "I" (.int (0 : Int32)) := F_end.ext E102
  have V_hd_102 : own_A Z h102 hd .int 32 (fun _ => (.int (0 : Int32))) := own_A.new A102 rfl
  refine own_step st102 ?_
  obtain ⟨T103, h103, X103, e103, W103, st103⟩ := putF X102 hx hZ hown (host := "") (Or.inl (hw _ (List.mem_of_getElem? (i := 10) rfl))) Via.refl e102 F_a1_heads_102 E_a1_102 (Or.inl (hw _ (List.mem_of_getElem? (i := 11) rfl))) (hw _ (List.mem_of_getElem? (i := 1) rfl)) (ty := (.array .int)) (by decide) rfl rfl (g := (mkF m 9 #[.val (.ref a1)] [(.ref hd), (.ref a1)])) rfl rfl (hb hby d1_9)
  have N103 := Fr.snoc X103 N0 ga1
  have Z103 : n0 ≤ h103.size := Nat.le_trans Z102 (Keep.of_wr W103).1
  have E_a1_103 : Exa Z h103 a1 "com/example/crossquote/crossquote/BidIndex" := E_a1_102.wr W103
  have F_a1_links_103 : Fld Z h103 a1 "com/example/crossquote/crossquote/BidIndex" "links" "[J" .null := F_a1_links_102.other W103 (Or.inr (slot_ne (Or.inl (hw _ (List.mem_of_getElem? (i := 14) rfl))) (Or.inl (hw _ (List.mem_of_getElem? (i := 11) rfl))) (by decide) (t := (.array .long)) (t' := (.array .int)) (by decide) (by decide)))
  have F_a1_slots_103 : Fld Z h103 a1 "com/example/crossquote/crossquote/BidIndex" "slots" "[I" .null := F_a1_slots_102.other W103 (Or.inr (slot_ne (Or.inl (hw _ (List.mem_of_getElem? (i := 16) rfl))) (Or.inl (hw _ (List.mem_of_getElem? (i := 11) rfl))) (by decide) (t := (.array .int)) (t' := (.array .int)) (by decide) (by decide)))
  have F_a1_rungs_103 : Fld Z h103 a1 "com/example/crossquote/crossquote/BidIndex" "rungs" "[Lcom/example/crossquote/crossquote/Rung;" .null := F_a1_rungs_102.other W103 (Or.inr (slot_ne (Or.inl (hw _ (List.mem_of_getElem? (i := 20) rfl))) (Or.inl (hw _ (List.mem_of_getElem? (i := 11) rfl))) (by decide) (t := (.array (.object "com/example/crossquote/crossquote/Rung"))) (t' := (.array .int)) (by decide) (by decide)))
  have F_a1_free_103 : Fld Z h103 a1 "com/example/crossquote/crossquote/BidIndex" "free" "[I" .null := F_a1_free_102.other W103 (Or.inr (slot_ne (Or.inl (hw _ (List.mem_of_getElem? (i := 22) rfl))) (Or.inl (hw _ (List.mem_of_getElem? (i := 11) rfl))) (by decide) (t := (.array .int)) (t' := (.array .int)) (by decide) (by decide)))
  have F_a1_end_103 : Fld Z h103 a1 "com/example/crossquote/crossquote/BidIndex" "end" "I" (.int (0 : Int32)) := F_a1_end_102.other W103 (Or.inr (slot_ne (Or.inl (hw _ (List.mem_of_getElem? (i := 24) rfl))) (Or.inl (hw _ (List.mem_of_getElem? (i := 11) rfl))) (by decide) (t := .int) (t' := (.array .int)) (by decide) (by decide)))
  have V_hd_103 : own_A Z h103 hd .int 32 (fun _ => (.int (0 : Int32))) := V_hd_102.other W103 (Ne.symm ne_a1_hd)
  have F_a1_heads_103 : Fld Z h103 a1 "com/example/crossquote/crossquote/BidIndex" "heads" "[I" (.ref hd) := F_a1_heads_102.same W103
  refine own_step st103 ?_
  refine own_step (T' := T103) (f' := (mkF m 15 #[.val (.ref a1)] [(.int (16 : Int32)), (.ref a1)])) (fun tt kont => ?_) ?_
  · show Steps p.tables e below (T103.setTop (mkF m 12 #[.val (.ref a1)] [])) _
    refine XS.aloadN X103.here hx rfl (hb hby d1_12) rfl rfl ?_
    show Steps p.tables e below (T103.setTop (mkF m 13 #[.val (.ref a1)] [(.ref a1)])) _
    refine XS.bipush X103.here hx rfl (hb hby d1_13) ?_
    exact kont
  obtain ⟨T104, h104, k104, X104, e104, E104, A104, st104⟩ := newP X103 hx hZ (hw _ (List.mem_of_getElem? (i := 12) rfl)) e103 (g := (mkF m 15 #[.val (.ref a1)] [(.int (16 : Int32)), (.ref a1)])) rfl (hb hby d1_15) rfl (by decide) (cap := 16) (by decide) (by decide) (by decide) (by decide)
  obtain ⟨lk, g104⟩ : ∃ z, z = h103.size := ⟨_, rfl⟩
  have g_lk : n0 ≤ lk := Nat.le_trans Z103 (Nat.le_of_eq g104.symm)
  have Z104 : n0 ≤ h104.size := Nat.le_trans Z103 E104.1
  have ne_a1_lk : a1 ≠ lk := Nat.ne_of_lt (Nat.lt_of_lt_of_le E_a1_103.lt (Nat.le_of_eq g104.symm))
  rw [← g104] at A104 st104
  have E_a1_104 : Exa Z h104 a1 "com/example/crossquote/crossquote/BidIndex" := E_a1_103.ext E104
  have F_a1_links_104 : Fld Z h104 a1 "com/example/crossquote/crossquote/BidIndex" "links" "[J" .null := F_a1_links_103.ext E104
  have F_a1_slots_104 : Fld Z h104 a1 "com/example/crossquote/crossquote/BidIndex" "slots" "[I" .null := F_a1_slots_103.ext E104
  have F_a1_rungs_104 : Fld Z h104 a1 "com/example/crossquote/crossquote/BidIndex" "rungs" "[Lcom/example/crossquote/crossquote/Rung;" .null := F_a1_rungs_103.ext E104
  have F_a1_free_104 : Fld Z h104 a1 "com/example/crossquote/crossquote/BidIndex" "free" "[I" .null := F_a1_free_103.ext E104
  have F_a1_end_104 : Fld Z h104 a1 "com/example/crossquote/crossquote/BidIndex" "end" "I" (.int (0 : Int32)) := F_a1_end_103.ext E104
  have V_lk_104 : own_A Z h104 lk .long 16 (fun _ => (.long (0 : Int64))) := own_A.new A104 rfl
  refine own_step st104 ?_
  obtain ⟨T105, h105, X105, e105, W105, st105⟩ := putF X104 hx hZ hown (host := "") (Or.inl (hw _ (List.mem_of_getElem? (i := 13) rfl))) Via.refl e104 F_a1_links_104 E_a1_104 (Or.inl (hw _ (List.mem_of_getElem? (i := 14) rfl))) (hw _ (List.mem_of_getElem? (i := 1) rfl)) (ty := (.array .long)) (by decide) rfl rfl (g := (mkF m 17 #[.val (.ref a1)] [(.ref lk), (.ref a1)])) rfl rfl (hb hby d1_17)
  have N105 := Fr.snoc X105 N103 ga1
  have Z105 : n0 ≤ h105.size := Nat.le_trans Z104 (Keep.of_wr W105).1
  have E_a1_105 : Exa Z h105 a1 "com/example/crossquote/crossquote/BidIndex" := E_a1_104.wr W105
  have F_a1_slots_105 : Fld Z h105 a1 "com/example/crossquote/crossquote/BidIndex" "slots" "[I" .null := F_a1_slots_104.other W105 (Or.inr (slot_ne (Or.inl (hw _ (List.mem_of_getElem? (i := 16) rfl))) (Or.inl (hw _ (List.mem_of_getElem? (i := 14) rfl))) (by decide) (t := (.array .int)) (t' := (.array .long)) (by decide) (by decide)))
  have F_a1_rungs_105 : Fld Z h105 a1 "com/example/crossquote/crossquote/BidIndex" "rungs" "[Lcom/example/crossquote/crossquote/Rung;" .null := F_a1_rungs_104.other W105 (Or.inr (slot_ne (Or.inl (hw _ (List.mem_of_getElem? (i := 20) rfl))) (Or.inl (hw _ (List.mem_of_getElem? (i := 14) rfl))) (by decide) (t := (.array (.object "com/example/crossquote/crossquote/Rung"))) (t' := (.array .long)) (by decide) (by decide)))
  have F_a1_free_105 : Fld Z h105 a1 "com/example/crossquote/crossquote/BidIndex" "free" "[I" .null := F_a1_free_104.other W105 (Or.inr (slot_ne (Or.inl (hw _ (List.mem_of_getElem? (i := 22) rfl))) (Or.inl (hw _ (List.mem_of_getElem? (i := 14) rfl))) (by decide) (t := (.array .int)) (t' := (.array .long)) (by decide) (by decide)))
  have F_a1_end_105 : Fld Z h105 a1 "com/example/crossquote/crossquote/BidIndex" "end" "I" (.int (0 : Int32)) := F_a1_end_104.other W105 (Or.inr (slot_ne (Or.inl (hw _ (List.mem_of_getElem? (i := 24) rfl))) (Or.inl (hw _ (List.mem_of_getElem? (i := 14) rfl))) (by decide) (t := .int) (t' := (.array .long)) (by decide) (by decide)))
  have V_lk_105 : own_A Z h105 lk .long 16 (fun _ => (.long (0 : Int64))) := V_lk_104.other W105 (Ne.symm ne_a1_lk)
  have F_a1_links_105 : Fld Z h105 a1 "com/example/crossquote/crossquote/BidIndex" "links" "[J" (.ref lk) := F_a1_links_104.same W105
  refine own_step st105 ?_
  refine own_step (T' := T105) (f' := (mkF m 23 #[.val (.ref a1)] [(.int (16 : Int32)), (.ref a1)])) (fun tt kont => ?_) ?_
  · show Steps p.tables e below (T105.setTop (mkF m 20 #[.val (.ref a1)] [])) _
    refine XS.aloadN X105.here hx rfl (hb hby d1_20) rfl rfl ?_
    show Steps p.tables e below (T105.setTop (mkF m 21 #[.val (.ref a1)] [(.ref a1)])) _
    refine XS.bipush X105.here hx rfl (hb hby d1_21) ?_
    exact kont
  obtain ⟨T106, h106, k106, X106, e106, E106, A106, st106⟩ := newP X105 hx hZ (hw _ (List.mem_of_getElem? (i := 9) rfl)) e105 (g := (mkF m 23 #[.val (.ref a1)] [(.int (16 : Int32)), (.ref a1)])) rfl (hb hby d1_23) rfl (by decide) (cap := 16) (by decide) (by decide) (by decide) (by decide)
  obtain ⟨ar, g106⟩ : ∃ z, z = h105.size := ⟨_, rfl⟩
  have g_ar : n0 ≤ ar := Nat.le_trans Z105 (Nat.le_of_eq g106.symm)
  have Z106 : n0 ≤ h106.size := Nat.le_trans Z105 E106.1
  have ne_a1_ar : a1 ≠ ar := Nat.ne_of_lt (Nat.lt_of_lt_of_le E_a1_105.lt (Nat.le_of_eq g106.symm))
  rw [← g106] at A106 st106
  have E_a1_106 : Exa Z h106 a1 "com/example/crossquote/crossquote/BidIndex" := E_a1_105.ext E106
  have F_a1_slots_106 : Fld Z h106 a1 "com/example/crossquote/crossquote/BidIndex" "slots" "[I" .null := F_a1_slots_105.ext E106
  have F_a1_rungs_106 : Fld Z h106 a1 "com/example/crossquote/crossquote/BidIndex" "rungs" "[Lcom/example/crossquote/crossquote/Rung;" .null := F_a1_rungs_105.ext E106
  have F_a1_free_106 : Fld Z h106 a1 "com/example/crossquote/crossquote/BidIndex" "free" "[I" .null := F_a1_free_105.ext E106
  have F_a1_end_106 : Fld Z h106 a1 "com/example/crossquote/crossquote/BidIndex" "end" "I" (.int (0 : Int32)) := F_a1_end_105.ext E106
  have V_ar_106 : own_A Z h106 ar .int 16 (fun _ => (.int (0 : Int32))) := own_A.new A106 rfl
  refine own_step st106 ?_
  obtain ⟨T107, h107, X107, e107, W107, st107⟩ := putF X106 hx hZ hown (host := "") (Or.inl (hw _ (List.mem_of_getElem? (i := 15) rfl))) Via.refl e106 F_a1_slots_106 E_a1_106 (Or.inl (hw _ (List.mem_of_getElem? (i := 16) rfl))) (hw _ (List.mem_of_getElem? (i := 1) rfl)) (ty := (.array .int)) (by decide) rfl rfl (g := (mkF m 25 #[.val (.ref a1)] [(.ref ar), (.ref a1)])) rfl rfl (hb hby d1_25)
  have N107 := Fr.snoc X107 N105 ga1
  have Z107 : n0 ≤ h107.size := Nat.le_trans Z106 (Keep.of_wr W107).1
  have E_a1_107 : Exa Z h107 a1 "com/example/crossquote/crossquote/BidIndex" := E_a1_106.wr W107
  have F_a1_rungs_107 : Fld Z h107 a1 "com/example/crossquote/crossquote/BidIndex" "rungs" "[Lcom/example/crossquote/crossquote/Rung;" .null := F_a1_rungs_106.other W107 (Or.inr (slot_ne (Or.inl (hw _ (List.mem_of_getElem? (i := 20) rfl))) (Or.inl (hw _ (List.mem_of_getElem? (i := 16) rfl))) (by decide) (t := (.array (.object "com/example/crossquote/crossquote/Rung"))) (t' := (.array .int)) (by decide) (by decide)))
  have F_a1_free_107 : Fld Z h107 a1 "com/example/crossquote/crossquote/BidIndex" "free" "[I" .null := F_a1_free_106.other W107 (Or.inr (slot_ne (Or.inl (hw _ (List.mem_of_getElem? (i := 22) rfl))) (Or.inl (hw _ (List.mem_of_getElem? (i := 16) rfl))) (by decide) (t := (.array .int)) (t' := (.array .int)) (by decide) (by decide)))
  have F_a1_end_107 : Fld Z h107 a1 "com/example/crossquote/crossquote/BidIndex" "end" "I" (.int (0 : Int32)) := F_a1_end_106.other W107 (Or.inr (slot_ne (Or.inl (hw _ (List.mem_of_getElem? (i := 24) rfl))) (Or.inl (hw _ (List.mem_of_getElem? (i := 16) rfl))) (by decide) (t := .int) (t' := (.array .int)) (by decide) (by decide)))
  have V_ar_107 : own_A Z h107 ar .int 16 (fun _ => (.int (0 : Int32))) := V_ar_106.other W107 (Ne.symm ne_a1_ar)
  have F_a1_slots_107 : Fld Z h107 a1 "com/example/crossquote/crossquote/BidIndex" "slots" "[I" (.ref ar) := F_a1_slots_106.same W107
  refine own_step st107 ?_
  refine own_step (T' := T107) (f' := (mkF m 31 #[.val (.ref a1)] [(.int (16 : Int32)), (.ref a1)])) (fun tt kont => ?_) ?_
  · show Steps p.tables e below (T107.setTop (mkF m 28 #[.val (.ref a1)] [])) _
    refine XS.aloadN X107.here hx rfl (hb hby d1_28) rfl rfl ?_
    show Steps p.tables e below (T107.setTop (mkF m 29 #[.val (.ref a1)] [(.ref a1)])) _
    refine XS.bipush X107.here hx rfl (hb hby d1_29) ?_
    exact kont
  obtain ⟨T108, h108, k108, X108, e108, E108, A108, O108, st108⟩ := newR X107 hx hZ hown (hw _ (List.mem_of_getElem? (i := 17) rfl)) (hw _ (List.mem_of_getElem? (i := 18) rfl)) e107 (g := (mkF m 31 #[.val (.ref a1)] [(.int (16 : Int32)), (.ref a1)])) rfl (hb hby d1_31) rfl (by decide) (cap := 16) (by decide) (by decide) (by decide) (by decide)
  obtain ⟨rg, g108⟩ : ∃ z, z = h107.size := ⟨_, rfl⟩
  have g_rg : n0 ≤ rg := Nat.le_trans Z107 (Nat.le_of_eq g108.symm)
  have Z108 : n0 ≤ h108.size := Nat.le_trans Z107 E108.1
  have ne_a1_rg : a1 ≠ rg := Nat.ne_of_lt (Nat.lt_of_lt_of_le E_a1_107.lt (Nat.le_of_eq g108.symm))
  have ne_ar_rg : ar ≠ rg := Nat.ne_of_lt (Nat.lt_of_lt_of_le V_ar_107.lt (Nat.le_of_eq g108.symm))
  rw [← g108] at A108 st108
  have E_a1_108 : Exa Z h108 a1 "com/example/crossquote/crossquote/BidIndex" := E_a1_107.ext E108
  have F_a1_slots_108 : Fld Z h108 a1 "com/example/crossquote/crossquote/BidIndex" "slots" "[I" (.ref ar) := F_a1_slots_107.ext E108
  have F_a1_rungs_108 : Fld Z h108 a1 "com/example/crossquote/crossquote/BidIndex" "rungs" "[Lcom/example/crossquote/crossquote/Rung;" .null := F_a1_rungs_107.ext E108
  have F_a1_free_108 : Fld Z h108 a1 "com/example/crossquote/crossquote/BidIndex" "free" "[I" .null := F_a1_free_107.ext E108
  have F_a1_end_108 : Fld Z h108 a1 "com/example/crossquote/crossquote/BidIndex" "end" "I" (.int (0 : Int32)) := F_a1_end_107.ext E108
  have V_ar_108 : own_A Z h108 ar .int 16 (fun _ => (.int (0 : Int32))) := V_ar_107.ext E108
  have V_rg_108 : own_A Z h108 rg (.object "com/example/crossquote/crossquote/Rung") 16 (fun _ => .null) := own_A.new A108 rfl
  refine own_step st108 ?_
  obtain ⟨T109, h109, X109, e109, W109, st109⟩ := putF X108 hx hZ hown (host := "") (Or.inl (hw _ (List.mem_of_getElem? (i := 19) rfl))) Via.refl e108 F_a1_rungs_108 E_a1_108 (Or.inl (hw _ (List.mem_of_getElem? (i := 20) rfl))) (hw _ (List.mem_of_getElem? (i := 1) rfl)) (ty := (.array (.object "com/example/crossquote/crossquote/Rung"))) (by decide) rfl rfl (g := (mkF m 34 #[.val (.ref a1)] [(.ref rg), (.ref a1)])) rfl rfl (hb hby d1_34)
  have N109 := Fr.snoc X109 N107 ga1
  have Z109 : n0 ≤ h109.size := Nat.le_trans Z108 (Keep.of_wr W109).1
  have E_a1_109 : Exa Z h109 a1 "com/example/crossquote/crossquote/BidIndex" := E_a1_108.wr W109
  have F_a1_slots_109 : Fld Z h109 a1 "com/example/crossquote/crossquote/BidIndex" "slots" "[I" (.ref ar) := F_a1_slots_108.other W109 (Or.inr (slot_ne (Or.inl (hw _ (List.mem_of_getElem? (i := 16) rfl))) (Or.inl (hw _ (List.mem_of_getElem? (i := 20) rfl))) (by decide) (t := (.array .int)) (t' := (.array (.object "com/example/crossquote/crossquote/Rung"))) (by decide) (by decide)))
  have F_a1_free_109 : Fld Z h109 a1 "com/example/crossquote/crossquote/BidIndex" "free" "[I" .null := F_a1_free_108.other W109 (Or.inr (slot_ne (Or.inl (hw _ (List.mem_of_getElem? (i := 22) rfl))) (Or.inl (hw _ (List.mem_of_getElem? (i := 20) rfl))) (by decide) (t := (.array .int)) (t' := (.array (.object "com/example/crossquote/crossquote/Rung"))) (by decide) (by decide)))
  have F_a1_end_109 : Fld Z h109 a1 "com/example/crossquote/crossquote/BidIndex" "end" "I" (.int (0 : Int32)) := F_a1_end_108.other W109 (Or.inr (slot_ne (Or.inl (hw _ (List.mem_of_getElem? (i := 24) rfl))) (Or.inl (hw _ (List.mem_of_getElem? (i := 20) rfl))) (by decide) (t := .int) (t' := (.array (.object "com/example/crossquote/crossquote/Rung"))) (by decide) (by decide)))
  have V_ar_109 : own_A Z h109 ar .int 16 (fun _ => (.int (0 : Int32))) := V_ar_108.other W109 (Ne.symm ne_a1_ar)
  have V_rg_109 : own_A Z h109 rg (.object "com/example/crossquote/crossquote/Rung") 16 (fun _ => .null) := V_rg_108.other W109 (Ne.symm ne_a1_rg)
  have F_a1_rungs_109 : Fld Z h109 a1 "com/example/crossquote/crossquote/BidIndex" "rungs" "[Lcom/example/crossquote/crossquote/Rung;" (.ref rg) := F_a1_rungs_108.same W109
  refine own_step st109 ?_
  refine own_step (T' := T109) (f' := (mkF m 40 #[.val (.ref a1)] [(.int (16 : Int32)), (.ref a1)])) (fun tt kont => ?_) ?_
  · show Steps p.tables e below (T109.setTop (mkF m 37 #[.val (.ref a1)] [])) _
    refine XS.aloadN X109.here hx rfl (hb hby d1_37) rfl rfl ?_
    show Steps p.tables e below (T109.setTop (mkF m 38 #[.val (.ref a1)] [(.ref a1)])) _
    refine XS.bipush X109.here hx rfl (hb hby d1_38) ?_
    exact kont
  obtain ⟨T110, h110, k110, X110, e110, E110, A110, st110⟩ := newP X109 hx hZ (hw _ (List.mem_of_getElem? (i := 9) rfl)) e109 (g := (mkF m 40 #[.val (.ref a1)] [(.int (16 : Int32)), (.ref a1)])) rfl (hb hby d1_40) rfl (by decide) (cap := 16) (by decide) (by decide) (by decide) (by decide)
  obtain ⟨fr, g110⟩ : ∃ z, z = h109.size := ⟨_, rfl⟩
  have g_fr : n0 ≤ fr := Nat.le_trans Z109 (Nat.le_of_eq g110.symm)
  have Z110 : n0 ≤ h110.size := Nat.le_trans Z109 E110.1
  have ne_a1_fr : a1 ≠ fr := Nat.ne_of_lt (Nat.lt_of_lt_of_le E_a1_109.lt (Nat.le_of_eq g110.symm))
  have ne_ar_fr : ar ≠ fr := Nat.ne_of_lt (Nat.lt_of_lt_of_le V_ar_109.lt (Nat.le_of_eq g110.symm))
  have ne_rg_fr : rg ≠ fr := Nat.ne_of_lt (Nat.lt_of_lt_of_le V_rg_109.lt (Nat.le_of_eq g110.symm))
  rw [← g110] at A110 st110
  have E_a1_110 : Exa Z h110 a1 "com/example/crossquote/crossquote/BidIndex" := E_a1_109.ext E110
  have F_a1_slots_110 : Fld Z h110 a1 "com/example/crossquote/crossquote/BidIndex" "slots" "[I" (.ref ar) := F_a1_slots_109.ext E110
  have F_a1_rungs_110 : Fld Z h110 a1 "com/example/crossquote/crossquote/BidIndex" "rungs" "[Lcom/example/crossquote/crossquote/Rung;" (.ref rg) := F_a1_rungs_109.ext E110
  have F_a1_free_110 : Fld Z h110 a1 "com/example/crossquote/crossquote/BidIndex" "free" "[I" .null := F_a1_free_109.ext E110
  have F_a1_end_110 : Fld Z h110 a1 "com/example/crossquote/crossquote/BidIndex" "end" "I" (.int (0 : Int32)) := F_a1_end_109.ext E110
  have V_ar_110 : own_A Z h110 ar .int 16 (fun _ => (.int (0 : Int32))) := V_ar_109.ext E110
  have V_rg_110 : own_A Z h110 rg (.object "com/example/crossquote/crossquote/Rung") 16 (fun _ => .null) := V_rg_109.ext E110
  have V_fr_110 : own_A Z h110 fr .int 16 (fun _ => (.int (0 : Int32))) := own_A.new A110 rfl
  refine own_step st110 ?_
  obtain ⟨T111, h111, X111, e111, W111, st111⟩ := putF X110 hx hZ hown (host := "") (Or.inl (hw _ (List.mem_of_getElem? (i := 21) rfl))) Via.refl e110 F_a1_free_110 E_a1_110 (Or.inl (hw _ (List.mem_of_getElem? (i := 22) rfl))) (hw _ (List.mem_of_getElem? (i := 1) rfl)) (ty := (.array .int)) (by decide) rfl rfl (g := (mkF m 42 #[.val (.ref a1)] [(.ref fr), (.ref a1)])) rfl rfl (hb hby d1_42)
  have N111 := Fr.snoc X111 N109 ga1
  have Z111 : n0 ≤ h111.size := Nat.le_trans Z110 (Keep.of_wr W111).1
  have E_a1_111 : Exa Z h111 a1 "com/example/crossquote/crossquote/BidIndex" := E_a1_110.wr W111
  have F_a1_slots_111 : Fld Z h111 a1 "com/example/crossquote/crossquote/BidIndex" "slots" "[I" (.ref ar) := F_a1_slots_110.other W111 (Or.inr (slot_ne (Or.inl (hw _ (List.mem_of_getElem? (i := 16) rfl))) (Or.inl (hw _ (List.mem_of_getElem? (i := 22) rfl))) (by decide) (t := (.array .int)) (t' := (.array .int)) (by decide) (by decide)))
  have F_a1_rungs_111 : Fld Z h111 a1 "com/example/crossquote/crossquote/BidIndex" "rungs" "[Lcom/example/crossquote/crossquote/Rung;" (.ref rg) := F_a1_rungs_110.other W111 (Or.inr (slot_ne (Or.inl (hw _ (List.mem_of_getElem? (i := 20) rfl))) (Or.inl (hw _ (List.mem_of_getElem? (i := 22) rfl))) (by decide) (t := (.array (.object "com/example/crossquote/crossquote/Rung"))) (t' := (.array .int)) (by decide) (by decide)))
  have F_a1_end_111 : Fld Z h111 a1 "com/example/crossquote/crossquote/BidIndex" "end" "I" (.int (0 : Int32)) := F_a1_end_110.other W111 (Or.inr (slot_ne (Or.inl (hw _ (List.mem_of_getElem? (i := 24) rfl))) (Or.inl (hw _ (List.mem_of_getElem? (i := 22) rfl))) (by decide) (t := .int) (t' := (.array .int)) (by decide) (by decide)))
  have V_ar_111 : own_A Z h111 ar .int 16 (fun _ => (.int (0 : Int32))) := V_ar_110.other W111 (Ne.symm ne_a1_ar)
  have V_rg_111 : own_A Z h111 rg (.object "com/example/crossquote/crossquote/Rung") 16 (fun _ => .null) := V_rg_110.other W111 (Ne.symm ne_a1_rg)
  have V_fr_111 : own_A Z h111 fr .int 16 (fun _ => (.int (0 : Int32))) := V_fr_110.other W111 (Ne.symm ne_a1_fr)
  have F_a1_free_111 : Fld Z h111 a1 "com/example/crossquote/crossquote/BidIndex" "free" "[I" (.ref fr) := F_a1_free_110.same W111
  refine own_step st111 ?_
  refine own_step (T' := T111) (f' := (mkF m 47 #[.val (.ref a1)] [(.int (1 : Int32)), (.ref a1)])) (fun tt kont => ?_) ?_
  · show Steps p.tables e below (T111.setTop (mkF m 45 #[.val (.ref a1)] [])) _
    refine XS.aloadN X111.here hx rfl (hb hby d1_45) rfl rfl ?_
    show Steps p.tables e below (T111.setTop (mkF m 46 #[.val (.ref a1)] [(.ref a1)])) _
    refine XS.iconst X111.here hx rfl (hb hby d1_46) ?_
    exact kont
  obtain ⟨T112, h112, X112, e112, W112, st112⟩ := putF X111 hx hZ hown (host := "") (Or.inl (hw _ (List.mem_of_getElem? (i := 23) rfl))) Via.refl e111 F_a1_end_111 E_a1_111 (Or.inl (hw _ (List.mem_of_getElem? (i := 24) rfl))) (hw _ (List.mem_of_getElem? (i := 1) rfl)) (ty := .int) (by decide) rfl rfl (g := (mkF m 47 #[.val (.ref a1)] [(.int (1 : Int32)), (.ref a1)])) rfl rfl (hb hby d1_47)
  have N112 := Fr.snoc X112 N111 ga1
  have Z112 : n0 ≤ h112.size := Nat.le_trans Z111 (Keep.of_wr W112).1
  have E_a1_112 : Exa Z h112 a1 "com/example/crossquote/crossquote/BidIndex" := E_a1_111.wr W112
  have F_a1_slots_112 : Fld Z h112 a1 "com/example/crossquote/crossquote/BidIndex" "slots" "[I" (.ref ar) := F_a1_slots_111.other W112 (Or.inr (slot_ne (Or.inl (hw _ (List.mem_of_getElem? (i := 16) rfl))) (Or.inl (hw _ (List.mem_of_getElem? (i := 24) rfl))) (by decide) (t := (.array .int)) (t' := .int) (by decide) (by decide)))
  have F_a1_rungs_112 : Fld Z h112 a1 "com/example/crossquote/crossquote/BidIndex" "rungs" "[Lcom/example/crossquote/crossquote/Rung;" (.ref rg) := F_a1_rungs_111.other W112 (Or.inr (slot_ne (Or.inl (hw _ (List.mem_of_getElem? (i := 20) rfl))) (Or.inl (hw _ (List.mem_of_getElem? (i := 24) rfl))) (by decide) (t := (.array (.object "com/example/crossquote/crossquote/Rung"))) (t' := .int) (by decide) (by decide)))
  have V_ar_112 : own_A Z h112 ar .int 16 (fun _ => (.int (0 : Int32))) := V_ar_111.other W112 (Ne.symm ne_a1_ar)
  have V_rg_112 : own_A Z h112 rg (.object "com/example/crossquote/crossquote/Rung") 16 (fun _ => .null) := V_rg_111.other W112 (Ne.symm ne_a1_rg)
  have F_a1_end_112 : Fld Z h112 a1 "com/example/crossquote/crossquote/BidIndex" "end" "I" (.int (1 : Int32)) := F_a1_end_111.same W112
  refine own_step st112 ?_
  exact own_retV X112 hx hret hlk (hb hby d1_50) (by decide) (by decide) (by rw [e112]; exact ⟨rfl, N112, Z112, ar, rg, E_a1_112, F_a1_slots_112, F_a1_rungs_112, V_ar_112, V_rg_112, ne_a1_ar, ne_a1_rg, ne_ar_rg, ga1, g_ar⟩)
theorem d3_0 : decode prog_12_method_7_code 0 = .ok (.iload_n 1, 1) := by decide +kernel
theorem d3_1 : decode prog_12_method_7_code 1 = .ok (.aload_n 0, 1) := by decide +kernel
theorem d3_2 : decode prog_12_method_7_code 2 = .ok (.getfield 17, 3) := by decide +kernel
theorem d3_5 : decode prog_12_method_7_code 5 = .ok (.arraylength, 1) := by decide +kernel
theorem d3_6 : decode prog_12_method_7_code 6 = .ok (.if_icmp .ge 12, 3) := by decide +kernel
theorem d3_9 : decode prog_12_method_7_code 9 = .ok (.aload_n 0, 1) := by decide +kernel
theorem d3_10 : decode prog_12_method_7_code 10 = .ok (.getfield 17, 3) := by decide +kernel
theorem d3_13 : decode prog_12_method_7_code 13 = .ok (.iload_n 1, 1) := by decide +kernel
theorem d3_14 : decode prog_12_method_7_code 14 = .ok (.iaload, 1) := by decide +kernel
theorem d3_15 : decode prog_12_method_7_code 15 = .ok (.goto 4, 3) := by decide +kernel
theorem d3_18 : decode prog_12_method_7_code 18 = .ok (.iconst 0, 1) := by decide +kernel
theorem d3_19 : decode prog_12_method_7_code 19 = .ok (.ireturn, 1) := by decide +kernel
theorem own_ef_own_rm3 (m : MethodId) (x0 : Addr) (x1 : Int32) : entryFrame m #[(.ref x0), (.int x1)] 2 = mkF m 0 #[.val (.ref x0), .val (.int x1)] [] := by first | (simp [entryFrame, mkF, argsToLocals, Value.category]; done) | rfl
def own_Q_rm3 (Z : State) (a1 : Addr) (p2 : Int32) (arr rg : Addr) (N i : Nat) (F : Nat → Int32) (zN : Int32) (h0 : Heap) (n0 : Nat) (v : Option Value) (h : Heap) (L : List Loc) : Prop := v = some (.int (own_get N F i)) ∧ Fr n0 L ∧ h = h0
set_option maxRecDepth 65536 in
set_option maxHeartbeats 40000000 in
theorem own_rm3 (l : Launch) (Z : State) (a0 : Array Value) (hw : ∀ d ∈ tables_1, d.before a0 Z = true) (a1 : Addr) (p2 : Int32) (arr rg : Addr) (N i : Nat) (F : Nat → Int32) (zN : Int32) (h0 : Heap) (n0 : Nat) (BD : own_Bid Z h0 n0 a1 arr rg N F) (hzN : own_at zN N) (hi : own_at p2 i) :
    MetFree l (⟨"com/example/crossquote/crossquote/BidIndex", "slot", "(I)I"⟩ : MethodName) (head1 [Jvm.Cond.code (⟨"com/example/crossquote/crossquote/BidIndex", "slot", "(I)I"⟩ : MethodName) prog_12_method_7_code 2 (some .int)] ({ frames := 0, cells := 0, slots := 0, locals := 0 } : Room)) (fun a U => a = #[(.ref a1), (.int p2)] ∧ Z.Warmed39 U.vm ∧ U.heap = h0) (fun _ _ _ _ _ => True) (fun _ U o U' => ∃ v L, o = .returned v ∧ own_Q_rm3 Z a1 p2 arr rg N i F zN h0 n0 v U'.heap L ∧ FrameEnd U o U' L ({ frames := 0, cells := 0, slots := 0, locals := 0 } : Room).cells ({ frames := 0, cells := 0, slots := 0, locals := 0 } : Room).slots) := by
  refine MetFree.of_bodySF (plainFor_of_name own_pn1) hisR ?_
  intro p e s m args below meth c s₁ Bd hml0 hP hK
  obtain ⟨rfl, hZ, hh⟩ := hP
  have hx := Bd.exec
  have hby := Bd.bytes
  have hret := Bd.returns
  have hlk := Bd.notSynchronized
  have hml : c.maxLocals = 2 := hml0
  have hown : s.vm.findClass "com/example/crossquote/crossquote/BidIndex" = some m.cls := findClass_of_methodNamed Bd.named
  have hnm := (name_of_methodNamed Bd.named Bd.method).1
  have X0 : Stand p l e ({ frames := 0, cells := 0, slots := 0, locals := 0 } : Room) s m #[(.ref a1), (.int p2)] below meth c s₁ [] 0 0 := Stand.of_body Bd
  have e0 : s₁.heap = h0 := by rw [← hh, Bd.state]; rfl
  have N0 := Fr.nil n0
  refine own_Go.cast (own_ef_own_rm3 m a1 p2) ?_
  refine own_step (T' := s₁) (f' := (mkF m 2 #[.val (.ref a1), .val (.int p2)] [(.ref a1), (.int p2)])) (fun tt kont => ?_) ?_
  · show Steps p.tables e below (s₁.setTop (mkF m 0 #[.val (.ref a1), .val (.int p2)] [])) _
    refine XS.iloadN X0.here hx rfl (hb hby d3_0) rfl ?_
    show Steps p.tables e below (s₁.setTop (mkF m 1 #[.val (.ref a1), .val (.int p2)] [(.int p2)])) _
    refine XS.aloadN X0.here hx rfl (hb hby d3_1) rfl rfl ?_
    exact kont
  obtain ⟨T101, X101, e101, st101⟩ := getF X0 hx hZ hown (host := "") (Or.inl (hw _ (List.mem_of_getElem? (i := 15) rfl))) Via.refl e0 BD.2.1 (g := (mkF m 2 #[.val (.ref a1), .val (.int p2)] [(.ref a1), (.int p2)])) rfl rfl (hb hby d3_2)
  refine own_step st101 ?_
  refine own_step (T' := T101) (f' := (mkF m 6 #[.val (.ref a1), .val (.int p2)] [(.int zN), (.int p2)])) (fun tt kont => ?_) ?_
  · show Steps p.tables e below (T101.setTop (mkF m 5 #[.val (.ref a1), .val (.int p2)] [(.ref arr), (.int p2)])) _
    refine own_alen X101 hx hZ e101 BD.2.2.2.1 (z := zN) (own_len_of hzN) (g := (mkF m 5 #[.val (.ref a1), .val (.int p2)] [(.ref arr), (.int p2)])) rfl rfl (hb hby d3_5) _ ?_
    exact kont
  by_cases hc6_0 : p2 < zN
  · refine own_step (T' := T101) (f' := (mkF m 10 #[.val (.ref a1), .val (.int p2)] [(.ref a1)])) (fun tt kont => ?_) ?_
    · show Steps p.tables e below (T101.setTop (mkF m 6 #[.val (.ref a1), .val (.int p2)] [(.int zN), (.int p2)])) _
      refine XS.icmpNo X101.here hx rfl (hb hby d3_6) rfl (tlt hc6_0).2.1 ?_
      show Steps p.tables e below (T101.setTop (mkF m 9 #[.val (.ref a1), .val (.int p2)] [])) _
      refine XS.aloadN X101.here hx rfl (hb hby d3_9) rfl rfl ?_
      exact kont
    obtain ⟨T102, X102, e102, st102⟩ := getF X101 hx hZ hown (host := "") (Or.inl (hw _ (List.mem_of_getElem? (i := 15) rfl))) Via.refl e101 BD.2.1 (g := (mkF m 10 #[.val (.ref a1), .val (.int p2)] [(.ref a1)])) rfl rfl (hb hby d3_10)
    refine own_step st102 ?_
    refine own_step (T' := T102) (f' := (mkF m 14 #[.val (.ref a1), .val (.int p2)] [(.int p2), (.ref arr)])) (fun tt kont => ?_) ?_
    · show Steps p.tables e below (T102.setTop (mkF m 13 #[.val (.ref a1), .val (.int p2)] [(.ref arr)])) _
      refine XS.iloadN X102.here hx rfl (hb hby d3_13) rfl ?_
      exact kont
    refine own_step (T' := T102) (f' := (mkF m 19 #[.val (.ref a1), .val (.int p2)] [(.int (F i))])) (fun tt kont => ?_) ?_
    · show Steps p.tables e below (T102.setTop (mkF m 14 #[.val (.ref a1), .val (.int p2)] [(.int p2), (.ref arr)])) _
      refine own_ldI X102 hx hZ e102 BD.2.2.2.1 (j := p2) (i := i) hi (own_at_lt hi hzN hc6_0) (v := (F i)) rfl (g := (mkF m 14 #[.val (.ref a1), .val (.int p2)] [(.int p2), (.ref arr)])) rfl rfl (hb hby d3_14) _ ?_
      show Steps p.tables e below (T102.setTop (mkF m 15 #[.val (.ref a1), .val (.int p2)] [(.int (F i))])) _
      refine XS.goto X102.here hx rfl (pc0 := 15) (pc' := 19) rfl (hb hby d3_15) (by decide) (by decide) ?_
      exact kont
    exact own_retI X102 hx hret hlk (hb hby d3_19) (by decide) (by decide) ⟨congrArg (fun z => some (Value.int z)) (own_get1 hi hzN hc6_0), N0, e102⟩
  · refine own_step (T' := T101) (f' := (mkF m 19 #[.val (.ref a1), .val (.int p2)] [(.int (0 : Int32))])) (fun tt kont => ?_) ?_
    · show Steps p.tables e below (T101.setTop (mkF m 6 #[.val (.ref a1), .val (.int p2)] [(.int zN), (.int p2)])) _
      refine XS.icmpYes X101.here hx rfl (pc0 := 6) (pc' := 18) rfl (hb hby d3_6) rfl (flt hc6_0).2.1 (by decide) (by decide) ?_
      show Steps p.tables e below (T101.setTop (mkF m 18 #[.val (.ref a1), .val (.int p2)] [])) _
      refine XS.iconst X101.here hx rfl (hb hby d3_18) ?_
      exact kont
    exact own_retI X101 hx hret hlk (hb hby d3_19) (by decide) (by decide) ⟨congrArg (fun z => some (Value.int z)) (own_get0 hi hzN hc6_0), N0, e101⟩
theorem d4_0 : decode prog_12_method_8_code 0 = .ok (.iload_n 1, 1) := by decide +kernel
theorem d4_1 : decode prog_12_method_8_code 1 = .ok (.aload_n 0, 1) := by decide +kernel
theorem d4_2 : decode prog_12_method_8_code 2 = .ok (.getfield 17, 3) := by decide +kernel
theorem d4_5 : decode prog_12_method_8_code 5 = .ok (.arraylength, 1) := by decide +kernel
theorem d4_6 : decode prog_12_method_8_code 6 = .ok (.if_icmp .lt 25, 3) := by decide +kernel
theorem d4_9 : decode prog_12_method_8_code 9 = .ok (.aload_n 0, 1) := by decide +kernel
theorem d4_10 : decode prog_12_method_8_code 10 = .ok (.aload_n 0, 1) := by decide +kernel
theorem d4_11 : decode prog_12_method_8_code 11 = .ok (.getfield 17, 3) := by decide +kernel
theorem d4_14 : decode prog_12_method_8_code 14 = .ok (.iload_n 1, 1) := by decide +kernel
theorem d4_15 : decode prog_12_method_8_code 15 = .ok (.iconst 1, 1) := by decide +kernel
theorem d4_16 : decode prog_12_method_8_code 16 = .ok (.iadd, 1) := by decide +kernel
theorem d4_17 : decode prog_12_method_8_code 17 = .ok (.aload_n 0, 1) := by decide +kernel
theorem d4_18 : decode prog_12_method_8_code 18 = .ok (.getfield 22, 3) := by decide +kernel
theorem d4_21 : decode prog_12_method_8_code 21 = .ok (.arraylength, 1) := by decide +kernel
theorem d4_22 : decode prog_12_method_8_code 22 = .ok (.invokestatic 111, 3) := by decide +kernel
theorem d4_25 : decode prog_12_method_8_code 25 = .ok (.invokestatic 102, 3) := by decide +kernel
theorem d4_28 : decode prog_12_method_8_code 28 = .ok (.putfield 17, 3) := by decide +kernel
theorem d4_31 : decode prog_12_method_8_code 31 = .ok (.aload_n 0, 1) := by decide +kernel
theorem d4_32 : decode prog_12_method_8_code 32 = .ok (.getfield 17, 3) := by decide +kernel
theorem d4_35 : decode prog_12_method_8_code 35 = .ok (.iload_n 1, 1) := by decide +kernel
theorem d4_36 : decode prog_12_method_8_code 36 = .ok (.iload_n 2, 1) := by decide +kernel
theorem d4_37 : decode prog_12_method_8_code 37 = .ok (.iastore, 1) := by decide +kernel
theorem d4_38 : decode prog_12_method_8_code 38 = .ok (.return_, 1) := by decide +kernel
theorem own_ef_own_rm4 (m : MethodId) (x0 : Addr) (x1 : Int32) (x2 : Int32) : entryFrame m #[(.ref x0), (.int x1), (.int x2)] 3 = mkF m 0 #[.val (.ref x0), .val (.int x1), .val (.int x2)] [] := by first | (simp [entryFrame, mkF, argsToLocals, Value.category]; done) | rfl
theorem own_pd1 : parseMethodDescriptor "([II)[I" = some ⟨[(.array .int), .int], some (.array .int)⟩ := by decide +kernel
def own_Q_rm4 (Z : State) (a1 : Addr) (p2 : Int32) (p3 : Int32) (arr rg : Addr) (N i : Nat) (F : Nat → Int32) (zN : Int32) (h0 : Heap) (n0 : Nat) (v : Option Value) (h : Heap) (L : List Loc) : Prop := v = none ∧ Fr n0 L ∧ n0 ≤ h.size ∧ ∃ (arr' : Addr) (N' : Nat) (F' : Nat → Int32), own_Bid Z h n0 a1 arr' rg N' F' ∧ (16 ≤ N' ∧ N' ≤ 64) ∧ ∀ j, own_get N' F' j = if j = i then p3 else own_get N F j
set_option maxRecDepth 65536 in
set_option maxHeartbeats 40000000 in
theorem own_rm4 (l : Launch) (Z : State) (a0 : Array Value) (hw : ∀ d ∈ tables_1, d.before a0 Z = true) (a1 : Addr) (p2 : Int32) (p3 : Int32) (arr rg : Addr) (N i : Nat) (F : Nat → Int32) (zN : Int32) (h0 : Heap) (n0 : Nat) (Z0 : n0 ≤ h0.size) (BD : own_Bid Z h0 n0 a1 arr rg N F) (hzN : own_at zN N) (hi : own_at p2 i) (hN : 16 ≤ N ∧ N ≤ 64) (hi63 : i ≤ 63) :
    MetFree l (⟨"com/example/crossquote/crossquote/BidIndex", "setSlot", "(II)V"⟩ : MethodName) (head1 [Jvm.Cond.code (⟨"com/example/crossquote/crossquote/BidIndex", "setSlot", "(II)V"⟩ : MethodName) prog_12_method_8_code 3 none] ({ frames := 2, cells := 1, slots := 64, locals := 33 } : Room)) (fun a U => a = #[(.ref a1), (.int p2), (.int p3)] ∧ Z.Warmed39 U.vm ∧ U.heap = h0) (fun _ _ _ _ _ => True) (fun _ U o U' => ∃ v L, o = .returned v ∧ own_Q_rm4 Z a1 p2 p3 arr rg N i F zN h0 n0 v U'.heap L ∧ FrameEnd U o U' L ({ frames := 2, cells := 1, slots := 64, locals := 33 } : Room).cells ({ frames := 2, cells := 1, slots := 64, locals := 33 } : Room).slots) := by
  refine MetFree.of_bodySF (plainFor_of_name own_pn1) hisR ?_
  intro p e s m args below meth c s₁ Bd hml0 hP hK
  obtain ⟨rfl, hZ, hh⟩ := hP
  have hx := Bd.exec
  have hby := Bd.bytes
  have hret := Bd.returns
  have hlk := Bd.notSynchronized
  have hml : c.maxLocals = 3 := hml0
  have hown : s.vm.findClass "com/example/crossquote/crossquote/BidIndex" = some m.cls := findClass_of_methodNamed Bd.named
  have hnm := (name_of_methodNamed Bd.named Bd.method).1
  have X0 : Stand p l e ({ frames := 2, cells := 1, slots := 64, locals := 33 } : Room) s m #[(.ref a1), (.int p2), (.int p3)] below meth c s₁ [] 0 0 := Stand.of_body Bd
  have e0 : s₁.heap = h0 := by rw [← hh, Bd.state]; rfl
  have N0 := Fr.nil n0
  refine own_Go.cast (own_ef_own_rm4 m a1 p2 p3) ?_
  refine own_step (T' := s₁) (f' := (mkF m 2 #[.val (.ref a1), .val (.int p2), .val (.int p3)] [(.ref a1), (.int p2)])) (fun tt kont => ?_) ?_
  · show Steps p.tables e below (s₁.setTop (mkF m 0 #[.val (.ref a1), .val (.int p2), .val (.int p3)] [])) _
    refine XS.iloadN X0.here hx rfl (hb hby d4_0) rfl ?_
    show Steps p.tables e below (s₁.setTop (mkF m 1 #[.val (.ref a1), .val (.int p2), .val (.int p3)] [(.int p2)])) _
    refine XS.aloadN X0.here hx rfl (hb hby d4_1) rfl rfl ?_
    exact kont
  obtain ⟨T101, X101, e101, st101⟩ := getF X0 hx hZ hown (host := "") (Or.inl (hw _ (List.mem_of_getElem? (i := 15) rfl))) Via.refl e0 BD.2.1 (g := (mkF m 2 #[.val (.ref a1), .val (.int p2), .val (.int p3)] [(.ref a1), (.int p2)])) rfl rfl (hb hby d4_2)
  refine own_step st101 ?_
  refine own_step (T' := T101) (f' := (mkF m 6 #[.val (.ref a1), .val (.int p2), .val (.int p3)] [(.int zN), (.int p2)])) (fun tt kont => ?_) ?_
  · show Steps p.tables e below (T101.setTop (mkF m 5 #[.val (.ref a1), .val (.int p2), .val (.int p3)] [(.ref arr), (.int p2)])) _
    refine own_alen X101 hx hZ e101 BD.2.2.2.1 (z := zN) (own_len_of hzN) (g := (mkF m 5 #[.val (.ref a1), .val (.int p2), .val (.int p3)] [(.ref arr), (.int p2)])) rfl rfl (hb hby d4_5) _ ?_
    exact kont
  by_cases hc6_0 : p2 < zN
  · refine own_step (T' := T101) (f' := (mkF m 32 #[.val (.ref a1), .val (.int p2), .val (.int p3)] [(.ref a1)])) (fun tt kont => ?_) ?_
    · show Steps p.tables e below (T101.setTop (mkF m 6 #[.val (.ref a1), .val (.int p2), .val (.int p3)] [(.int zN), (.int p2)])) _
      refine XS.icmpYes X101.here hx rfl (pc0 := 6) (pc' := 31) rfl (hb hby d4_6) rfl (tlt hc6_0).1 (by decide) (by decide) ?_
      show Steps p.tables e below (T101.setTop (mkF m 31 #[.val (.ref a1), .val (.int p2), .val (.int p3)] [])) _
      refine XS.aloadN X101.here hx rfl (hb hby d4_31) rfl rfl ?_
      exact kont
    obtain ⟨T102, X102, e102, st102⟩ := getF X101 hx hZ hown (host := "") (Or.inl (hw _ (List.mem_of_getElem? (i := 15) rfl))) Via.refl e101 BD.2.1 (g := (mkF m 32 #[.val (.ref a1), .val (.int p2), .val (.int p3)] [(.ref a1)])) rfl rfl (hb hby d4_32)
    refine own_step st102 ?_
    refine own_step (T' := T102) (f' := (mkF m 37 #[.val (.ref a1), .val (.int p2), .val (.int p3)] [(.int p3), (.int p2), (.ref arr)])) (fun tt kont => ?_) ?_
    · show Steps p.tables e below (T102.setTop (mkF m 35 #[.val (.ref a1), .val (.int p2), .val (.int p3)] [(.ref arr)])) _
      refine XS.iloadN X102.here hx rfl (hb hby d4_35) rfl ?_
      show Steps p.tables e below (T102.setTop (mkF m 36 #[.val (.ref a1), .val (.int p2), .val (.int p3)] [(.int p2), (.ref arr)])) _
      refine XS.iloadN X102.here hx rfl (hb hby d4_36) rfl ?_
      exact kont
    obtain ⟨T103, h103, X103, e103, W103, V_arr_103, st103⟩ := own_stI X102 hx hZ e102 BD.2.2.2.1 (j := p2) (i := i) hi (own_at_lt hi hzN hc6_0) (g := (mkF m 37 #[.val (.ref a1), .val (.int p2), .val (.int p3)] [(.int p3), (.int p2), (.ref arr)])) rfl rfl (hb hby d4_37)
    have N103 := Fr.snoc X103 N0 BD.2.2.2.2.2.2.2.2.2
    have Z103 : n0 ≤ h103.size := Nat.le_trans Z0 (Keep.of_wr W103).1
    have E_a1_103 : Exa Z h103 a1 "com/example/crossquote/crossquote/BidIndex" := BD.1.wr W103
    have F_a1_slots_103 : Fld Z h103 a1 "com/example/crossquote/crossquote/BidIndex" "slots" "[I" (.ref arr) := BD.2.1.other W103 (Or.inl BD.2.2.2.2.2.1)
    have F_a1_rungs_103 : Fld Z h103 a1 "com/example/crossquote/crossquote/BidIndex" "rungs" "[Lcom/example/crossquote/crossquote/Rung;" (.ref rg) := BD.2.2.1.other W103 (Or.inl BD.2.2.2.2.2.1)
    have V_rg_103 : own_A Z h103 rg (.object "com/example/crossquote/crossquote/Rung") 16 (fun _ => .null) := BD.2.2.2.2.1.other W103 (Ne.symm BD.2.2.2.2.2.2.2.1)
    refine own_step st103 ?_
    exact own_retV X103 hx hret hlk (hb hby d4_38) (by decide) (by decide) (by rw [e103]; exact ⟨rfl, N103, Z103, arr, N, own_updI F i p3, ⟨E_a1_103, F_a1_slots_103, F_a1_rungs_103, own_toI V_arr_103, V_rg_103, BD.2.2.2.2.2.1, BD.2.2.2.2.2.2.1, BD.2.2.2.2.2.2.2.1, BD.2.2.2.2.2.2.2.2.1, BD.2.2.2.2.2.2.2.2.2⟩, hN, own_set1 (own_at_lt hi hzN hc6_0)⟩)
  · refine own_step (T' := T101) (f' := (mkF m 11 #[.val (.ref a1), .val (.int p2), .val (.int p3)] [(.ref a1), (.ref a1)])) (fun tt kont => ?_) ?_
    · show Steps p.tables e below (T101.setTop (mkF m 6 #[.val (.ref a1), .val (.int p2), .val (.int p3)] [(.int zN), (.int p2)])) _
      refine XS.icmpNo X101.here hx rfl (hb hby d4_6) rfl (flt hc6_0).1 ?_
      show Steps p.tables e below (T101.setTop (mkF m 9 #[.val (.ref a1), .val (.int p2), .val (.int p3)] [])) _
      refine XS.aloadN X101.here hx rfl (hb hby d4_9) rfl rfl ?_
      show Steps p.tables e below (T101.setTop (mkF m 10 #[.val (.ref a1), .val (.int p2), .val (.int p3)] [(.ref a1)])) _
      refine XS.aloadN X101.here hx rfl (hb hby d4_10) rfl rfl ?_
      exact kont
    obtain ⟨T104, X104, e104, st104⟩ := getF X101 hx hZ hown (host := "") (Or.inl (hw _ (List.mem_of_getElem? (i := 15) rfl))) Via.refl e101 BD.2.1 (g := (mkF m 11 #[.val (.ref a1), .val (.int p2), .val (.int p3)] [(.ref a1), (.ref a1)])) rfl rfl (hb hby d4_11)
    refine own_step st104 ?_
    refine own_step (T' := T104) (f' := (mkF m 18 #[.val (.ref a1), .val (.int p2), .val (.int p3)] [(.ref a1), (.int (p2 + (1 : Int32))), (.ref arr), (.ref a1)])) (fun tt kont => ?_) ?_
    · show Steps p.tables e below (T104.setTop (mkF m 14 #[.val (.ref a1), .val (.int p2), .val (.int p3)] [(.ref arr), (.ref a1)])) _
      refine XS.iloadN X104.here hx rfl (hb hby d4_14) rfl ?_
      show Steps p.tables e below (T104.setTop (mkF m 15 #[.val (.ref a1), .val (.int p2), .val (.int p3)] [(.int p2), (.ref arr), (.ref a1)])) _
      refine XS.iconst X104.here hx rfl (hb hby d4_15) ?_
      show Steps p.tables e below (T104.setTop (mkF m 16 #[.val (.ref a1), .val (.int p2), .val (.int p3)] [(.int (1 : Int32)), (.int p2), (.ref arr), (.ref a1)])) _
      refine XS.iadd X104.here hx rfl (hb hby d4_16) rfl ?_
      show Steps p.tables e below (T104.setTop (mkF m 17 #[.val (.ref a1), .val (.int p2), .val (.int p3)] [(.int (p2 + (1 : Int32))), (.ref arr), (.ref a1)])) _
      refine XS.aloadN X104.here hx rfl (hb hby d4_17) rfl rfl ?_
      exact kont
    obtain ⟨T105, X105, e105, st105⟩ := getF X104 hx hZ hown (host := "") (Or.inl (hw _ (List.mem_of_getElem? (i := 19) rfl))) Via.refl e104 BD.2.2.1 (g := (mkF m 18 #[.val (.ref a1), .val (.int p2), .val (.int p3)] [(.ref a1), (.int (p2 + (1 : Int32))), (.ref arr), (.ref a1)])) rfl rfl (hb hby d4_18)
    refine own_step st105 ?_
    refine own_step (T' := T105) (f' := (mkF m 22 #[.val (.ref a1), .val (.int p2), .val (.int p3)] [(.int (16 : Int32)), (.int (p2 + (1 : Int32))), (.ref arr), (.ref a1)])) (fun tt kont => ?_) ?_
    · show Steps p.tables e below (T105.setTop (mkF m 21 #[.val (.ref a1), .val (.int p2), .val (.int p3)] [(.ref rg), (.int (p2 + (1 : Int32))), (.ref arr), (.ref a1)])) _
      refine own_alen X105 hx hZ e105 BD.2.2.2.2.1 (z := (16 : Int32)) rfl (g := (mkF m 21 #[.val (.ref a1), .val (.int p2), .val (.int p3)] [(.ref rg), (.int (p2 + (1 : Int32))), (.ref arr), (.ref a1)])) rfl rfl (hb hby d4_21) _ ?_
      exact kont
    obtain ⟨_, _, ⟨T106, L106, k106, n106⟩, -, X106, ⟨Lc106, hQ106, l106, y106, z106⟩, st106⟩ := Jvm.LawKit.callS X105 hx (y := (⟨"java/lang/Math", "max", "(II)I"⟩ : MethodName)) hown (mvT hZ (hw _ (List.mem_of_getElem? (i := 35) rfl))) (mvT hZ (hw _ (List.mem_of_getElem? (i := 36) rfl))) (mvT hZ (hw _ (List.mem_of_getElem? (i := 37) rfl))) (mvT hZ (hw _ (List.mem_of_getElem? (i := 38) rfl))) (by decide) (backOf (W := 2) (own_rm5 l Z a0 hw (p2 + (1 : Int32)) (16 : Int32) h0 n0) hZ (hw _ (List.mem_of_getElem? (i := 38) rfl)) (hw _ (List.mem_of_getElem? (i := 37) rfl)) (by decide) (by decide)) (g := (mkF m 22 #[.val (.ref a1), .val (.int p2), .val (.int p3)] [(.int (16 : Int32)), (.int (p2 + (1 : Int32))), (.ref arr), (.ref a1)])) rfl (by rw [hml]; rfl) (argsL := [(.int (p2 + (1 : Int32))), (.int (16 : Int32))]) (rest := [(.ref arr), (.ref a1)]) (lenOf own_pd0 rfl) rfl (by show 2 * 0 + _ ≤ _; exact Nat.le_of_eq rfl) (hb hby d4_22) (fun _ _ => ⟨rfl, e105, (by decide : 0 + 0 ≤ _), (by decide : 0 + 0 ≤ _)⟩)
    dsimp only [Pt.U, Pt.locs, Pt.cells, Pt.slots] at X106 l106 y106 z106 st106 hQ106
    subst l106 y106 z106
    obtain ⟨rfl, N106q, e106⟩ := hQ106
    have N106 := Fr.app N0 N106q
    refine own_step (fun tt kont => st106 _ kont) ?_
    show own_Go p e below T106 (mkF m 25 #[.val (.ref a1), .val (.int p2), .val (.int p3)] [(.int (own_f5 (p2 + (1 : Int32)) (16 : Int32))), (.ref arr), (.ref a1)]) _
    obtain ⟨yM, hyM⟩ : ∃ z : Int32, z = (own_f5 (p2 + (1 : Int32)) (16 : Int32)) := ⟨_, rfl⟩
    rw [← hyM]
    obtain ⟨M, hM, hNM, hM64, hM16, hMne, hMlt, hiM⟩ := own_M hyM hi hi63 hzN hN hc6_0
    obtain ⟨_, _, ⟨T107, L107, k107, n107⟩, -, X107, ⟨Lc107, hQ107, l107, y107, z107⟩, st107⟩ := Jvm.LawKit.callS X106 hx (y := (⟨"java/util/Arrays", "copyOf", "([II)[I"⟩ : MethodName)) hown (mvT hZ (hw _ (List.mem_of_getElem? (i := 39) rfl))) (mvT hZ (hw _ (List.mem_of_getElem? (i := 40) rfl))) (mvT hZ (hw _ (List.mem_of_getElem? (i := 41) rfl))) (mvT hZ (hw _ (List.mem_of_getElem? (i := 42) rfl))) (by decide) (backOf (W := 1) (own_rm6 l Z a0 hw arr yM N M F zN h0 n0 Z0 BD.2.2.2.1 hzN hM hNM hM64 hMne hMlt) hZ (hw _ (List.mem_of_getElem? (i := 42) rfl)) (hw _ (List.mem_of_getElem? (i := 41) rfl)) (by decide) (by decide)) (g := (mkF m 25 #[.val (.ref a1), .val (.int p2), .val (.int p3)] [(.int yM), (.ref arr), (.ref a1)])) rfl (by rw [hml]; rfl) (argsL := [(.ref arr), (.int yM)]) (rest := [(.ref a1)]) (lenOf own_pd1 rfl) rfl (by show 2 * 0 + _ ≤ _; exact Nat.le_of_eq rfl) (hb hby d4_25) (fun _ _ => ⟨rfl, e106, (by decide : 0 + 1 ≤ _), (by decide : 0 + 64 ≤ _)⟩)
    dsimp only [Pt.U, Pt.locs, Pt.cells, Pt.slots] at X107 l107 y107 z107 st107 hQ107
    subst l107 y107 z107
    obtain ⟨cp, rfl, N107q, gcp, sz107, K107, VC107⟩ := hQ107
    have N107 := Fr.app N106 N107q
    refine own_step (fun tt kont => st107 _ kont) ?_
    have Z107 := Nat.le_trans Z0 K107.1
    have Ea1_107 : Exa Z T107.heap a1 "com/example/crossquote/crossquote/BidIndex" := BD.1.keep K107
    have Fa1_slots_107 : Fld Z T107.heap a1 "com/example/crossquote/crossquote/BidIndex" "slots" "[I" (.ref arr) := BD.2.1.keep K107 nin0
    have Fa1_rungs_107 : Fld Z T107.heap a1 "com/example/crossquote/crossquote/BidIndex" "rungs" "[Lcom/example/crossquote/crossquote/Rung;" (.ref rg) := BD.2.2.1.keep K107 nin0
    have Vrg_107 : own_A Z T107.heap rg (.object "com/example/crossquote/crossquote/Rung") 16 (fun _ => .null) := BD.2.2.2.2.1.keep K107 nin0
    have ne_a1_cp : a1 ≠ cp := Nat.ne_of_lt (Nat.lt_of_lt_of_le BD.1.lt sz107)
    have ne_rg_cp : rg ≠ cp := Nat.ne_of_lt (Nat.lt_of_lt_of_le BD.2.2.2.2.1.lt sz107)
    obtain ⟨T108, h108, X108, e108, W108, st108⟩ := putF X107 hx hZ hown (host := "") (Or.inl (hw _ (List.mem_of_getElem? (i := 15) rfl))) Via.refl rfl Fa1_slots_107 Ea1_107 (Or.inl (hw _ (List.mem_of_getElem? (i := 16) rfl))) (hw _ (List.mem_of_getElem? (i := 1) rfl)) (ty := (.array .int)) (by decide) rfl rfl (g := (mkF m 28 #[.val (.ref a1), .val (.int p2), .val (.int p3)] [(.ref cp), (.ref a1)])) rfl rfl (hb hby d4_28)
    have N108 := Fr.snoc X108 N107 BD.2.2.2.2.2.2.2.2.1
    have Z108 : n0 ≤ h108.size := Nat.le_trans Z107 (Keep.of_wr W108).1
    have E_a1_108 : Exa Z h108 a1 "com/example/crossquote/crossquote/BidIndex" := Ea1_107.wr W108
    have F_a1_rungs_108 : Fld Z h108 a1 "com/example/crossquote/crossquote/BidIndex" "rungs" "[Lcom/example/crossquote/crossquote/Rung;" (.ref rg) := Fa1_rungs_107.other W108 (Or.inr (slot_ne (Or.inl (hw _ (List.mem_of_getElem? (i := 20) rfl))) (Or.inl (hw _ (List.mem_of_getElem? (i := 16) rfl))) (by decide) (t := (.array (.object "com/example/crossquote/crossquote/Rung"))) (t' := (.array .int)) (by decide) (by decide)))
    have V_rg_108 : own_A Z h108 rg (.object "com/example/crossquote/crossquote/Rung") 16 (fun _ => .null) := Vrg_107.other W108 (Ne.symm BD.2.2.2.2.2.2.1)
    have V_cp_108 : own_A Z h108 cp .int M (fun i => .int (if i < N then F i else 0)) := VC107.other W108 (Ne.symm ne_a1_cp)
    have F_a1_slots_108 : Fld Z h108 a1 "com/example/crossquote/crossquote/BidIndex" "slots" "[I" (.ref cp) := Fa1_slots_107.same W108
    refine own_step st108 ?_
    refine own_step (T' := T108) (f' := (mkF m 32 #[.val (.ref a1), .val (.int p2), .val (.int p3)] [(.ref a1)])) (fun tt kont => ?_) ?_
    · show Steps p.tables e below (T108.setTop (mkF m 31 #[.val (.ref a1), .val (.int p2), .val (.int p3)] [])) _
      refine XS.aloadN X108.here hx rfl (hb hby d4_31) rfl rfl ?_
      exact kont
    obtain ⟨T109, X109, e109, st109⟩ := getF X108 hx hZ hown (host := "") (Or.inl (hw _ (List.mem_of_getElem? (i := 15) rfl))) Via.refl e108 F_a1_slots_108 (g := (mkF m 32 #[.val (.ref a1), .val (.int p2), .val (.int p3)] [(.ref a1)])) rfl rfl (hb hby d4_32)
    refine own_step st109 ?_
    refine own_step (T' := T109) (f' := (mkF m 37 #[.val (.ref a1), .val (.int p2), .val (.int p3)] [(.int p3), (.int p2), (.ref cp)])) (fun tt kont => ?_) ?_
    · show Steps p.tables e below (T109.setTop (mkF m 35 #[.val (.ref a1), .val (.int p2), .val (.int p3)] [(.ref cp)])) _
      refine XS.iloadN X109.here hx rfl (hb hby d4_35) rfl ?_
      show Steps p.tables e below (T109.setTop (mkF m 36 #[.val (.ref a1), .val (.int p2), .val (.int p3)] [(.int p2), (.ref cp)])) _
      refine XS.iloadN X109.here hx rfl (hb hby d4_36) rfl ?_
      exact kont
    obtain ⟨T110, h110, X110, e110, W110, V_cp_110, st110⟩ := own_stI X109 hx hZ e109 V_cp_108 (j := p2) (i := i) hi hiM (g := (mkF m 37 #[.val (.ref a1), .val (.int p2), .val (.int p3)] [(.int p3), (.int p2), (.ref cp)])) rfl rfl (hb hby d4_37)
    have N110 := Fr.snoc X110 N108 gcp
    have Z110 : n0 ≤ h110.size := Nat.le_trans Z108 (Keep.of_wr W110).1
    have E_a1_110 : Exa Z h110 a1 "com/example/crossquote/crossquote/BidIndex" := E_a1_108.wr W110
    have F_a1_slots_110 : Fld Z h110 a1 "com/example/crossquote/crossquote/BidIndex" "slots" "[I" (.ref cp) := F_a1_slots_108.other W110 (Or.inl ne_a1_cp)
    have F_a1_rungs_110 : Fld Z h110 a1 "com/example/crossquote/crossquote/BidIndex" "rungs" "[Lcom/example/crossquote/crossquote/Rung;" (.ref rg) := F_a1_rungs_108.other W110 (Or.inl ne_a1_cp)
    have V_rg_110 : own_A Z h110 rg (.object "com/example/crossquote/crossquote/Rung") 16 (fun _ => .null) := V_rg_108.other W110 ne_rg_cp
    refine own_step st110 ?_
    exact own_retV X110 hx hret hlk (hb hby d4_38) (by decide) (by decide) (by rw [e110]; exact ⟨rfl, N110, Z110, cp, M, own_updI (fun i => if i < N then F i else 0) i p3, ⟨E_a1_110, F_a1_slots_110, F_a1_rungs_110, own_toI V_cp_110, V_rg_110, ne_a1_cp, BD.2.2.2.2.2.2.1, (Ne.symm ne_rg_cp), BD.2.2.2.2.2.2.2.2.1, gcp⟩, ⟨hM16, hM64⟩, own_set2 hNM hiM⟩)
theorem own_at16 : own_at (16 : Int32) 16 := ⟨by decide, rfl⟩
theorem own_16 : 16 ≤ 16 ∧ 16 ≤ 64 := by decide
theorem own_zof {N : Nat} (h : 16 ≤ N ∧ N ≤ 64) : ∃ z : Int32, own_at z N := ⟨Int32.ofNat N, own_at_int (by rw [Int32.toInt_ofNat_of_lt]; omega)⟩
theorem own_mask63 {x y : Int32} (h : y = (x &&& (63 : Int32))) : ∃ k, own_at y k ∧ k ≤ 63 := by
  have e := c_mask x 63 6 (by decide) (by decide); rw [← h] at e
  exact ⟨y.toInt.toNat, own_at_int (by omega), by omega⟩
theorem own_mask127 {x y : Int32} (h : y = (x &&& (127 : Int32))) : ∃ k, own_at y k ∧ k ≤ 127 := by
  have e := c_mask x 127 7 (by decide) (by decide); rw [← h] at e
  exact ⟨y.toInt.toNat, own_at_int (by omega), by omega⟩
theorem own_ateq {y y' : Int32} {k k' : Nat} (h : own_at y k) (h' : own_at y' k') : y = y' ↔ k = k' := by
  have a := own_at_toInt h; have b := own_at_toInt h'
  rw [← Int32.toInt_inj]; omega
theorem own_getZ (k : Nat) : own_get 16 (fun _ => 0) k = (0 : Int32) := by simp [own_get]
section
variable {N1 N2 k1 k2 k3 : Nat} {F1 F2 : Nat → Int32} {y1 y2 y3 s1 s2 v : Int32}
theorem own_B {N k : Nat} {F : Nat → Int32} {s : Int32} {G : Nat → Int32} (G1 : ∀ j, own_get N F j = if j = k then s else G j) : own_get N F k = s := by rw [G1, if_pos rfl]
theorem own_C (G1 : ∀ j, own_get N1 F1 j = if j = k1 then s1 else own_get 16 (fun _ => 0) j) (h1 : own_at y1 k1) (h2 : own_at y2 k2) (hv : v = (if y2 = y1 then s1 else (0 : Int32))) : own_get N1 F1 k2 = v := by
  rw [G1, hv, own_getZ]
  by_cases q : k2 = k1
  · rw [if_pos q, if_pos ((own_ateq h2 h1).mpr q)]
  · rw [if_neg q, if_neg (fun u => q ((own_ateq h2 h1).mp u))]
theorem own_D (G1 : ∀ j, own_get N1 F1 j = if j = k1 then s1 else own_get 16 (fun _ => 0) j) (G2 : ∀ j, own_get N2 F2 j = if j = k2 then s2 else own_get N1 F1 j) (h1 : own_at y1 k1) (h2 : own_at y2 k2) (hv : v = (if y1 = y2 then s2 else s1)) : own_get N2 F2 k1 = v := by
  rw [G2, hv, own_B G1]
  by_cases q : k1 = k2
  · rw [if_pos q, if_pos ((own_ateq h1 h2).mpr q)]
  · rw [if_neg q, if_neg (fun u => q ((own_ateq h1 h2).mp u))]
theorem own_E (G1 : ∀ j, own_get N1 F1 j = if j = k1 then s1 else own_get 16 (fun _ => 0) j) (G2 : ∀ j, own_get N2 F2 j = if j = k2 then s2 else own_get N1 F1 j) (h1 : own_at y1 k1) (h2 : own_at y2 k2) (h3 : own_at y3 k3)
    (hv : v = (if y3 = y2 then s2 else (if y3 = y1 then s1 else (0 : Int32)))) : own_get N2 F2 k3 = v := by
  rw [G2, G1, hv, own_getZ]
  by_cases q : k3 = k2
  · rw [if_pos q, if_pos ((own_ateq h3 h2).mpr q)]
  · rw [if_neg q, if_neg (fun u => q ((own_ateq h3 h2).mp u))]
    by_cases q' : k3 = k1
    · rw [if_pos q', if_pos ((own_ateq h3 h1).mpr q')]
    · rw [if_neg q', if_neg (fun u => q' ((own_ateq h3 h1).mp u))]
end

theorem own_pn2 : plainName "com/example/crossquote/crossquote/BidIndexSlotPinLaw" = true := by first | (simp [plainName, overriddenIn]; done) | decide +kernel
theorem own_ef_own_rm0 (m : MethodId) (x0 : Int32) (x1 : Int32) (x2 : Int32) (x3 : Int32) (x4 : Int32) : entryFrame m #[(.int x0), (.int x1), (.int x2), (.int x3), (.int x4)] maxLocals = mkF m 0 #[.val (.int x0), .val (.int x1), .val (.int x2), .val (.int x3), .val (.int x4), .unset, .unset, .unset, .unset, .unset, .unset] [] := by first | (simp [entryFrame, mkF, argsToLocals, Value.category, maxLocals]; done) | rfl
theorem own_pd2 : parseMethodDescriptor "()V" = some ⟨[], none⟩ := by decide +kernel
theorem own_pd3 : parseMethodDescriptor "(I)I" = some ⟨[.int], some .int⟩ := by decide +kernel
theorem own_pd4 : parseMethodDescriptor "(II)V" = some ⟨[.int, .int], none⟩ := by decide +kernel
def own_Q_rm0 (Z : State) (p1 : Int32) (p2 : Int32) (p3 : Int32) (p4 : Int32) (p5 : Int32) (h0 : Heap) (n0 : Nat) (v : Option Value) (h : Heap) (L : List Loc) : Prop := v = some (.int 1) ∧ Fr n0 L
set_option maxRecDepth 65536 in
set_option maxHeartbeats 40000000 in
theorem own_rm0 (l : Launch) (Z : State) (a0 : Array Value) (hw : ∀ d ∈ tables_1, d.before a0 Z = true) (ws : List Jvm.Cond) (p1 : Int32) (p2 : Int32) (p3 : Int32) (p4 : Int32) (p5 : Int32) (h0 : Heap) (n0 : Nat) (Z0 : n0 ≤ h0.size) :
    MetFree l x (head1 (Jvm.Cond.code x code maxLocals ret :: ws) room_1) (fun a U => a = #[(.int p1), (.int p2), (.int p3), (.int p4), (.int p5)] ∧ Z.Warmed39 U.vm ∧ U.heap = h0) (fun _ _ _ _ _ => True) (fun _ U o U' => ∃ v L, o = .returned v ∧ own_Q_rm0 Z p1 p2 p3 p4 p5 h0 n0 v U'.heap L ∧ FrameEnd U o U' L 24 576) := by
  refine MetFree.of_bodySF (plainFor_of_name own_pn2) hisR ?_
  intro p e s m args below meth c s₁ Bd hml0 hP hK
  obtain ⟨rfl, hZ, hh⟩ := hP
  have hx := Bd.exec
  have hby := Bd.bytes
  have hret := Bd.returns
  have hlk := Bd.notSynchronized
  have hml : c.maxLocals = 11 := hml0
  have hown : s.vm.findClass "com/example/crossquote/crossquote/BidIndexSlotPinLaw" = some m.cls := findClass_of_methodNamed Bd.named
  have hnm := (name_of_methodNamed Bd.named Bd.method).1
  have X0 : Stand p l e room_1 s m #[(.int p1), (.int p2), (.int p3), (.int p4), (.int p5)] below meth c s₁ [] 0 0 := Stand.of_body Bd
  have e0 : s₁.heap = h0 := by rw [← hh, Bd.state]; rfl
  have N0 := Fr.nil n0
  refine own_Go.cast (own_ef_own_rm0 m p1 p2 p3 p4 p5) ?_
  refine own_step (T' := s₁) (f' := (mkF m 4 #[.val (.int p1), .val (.int p2), .val (.int p3), .val (.int p4), .val (.int p5), .unset, .unset, .unset, .unset, .unset, .unset] [(.int (p1 &&& (63 : Int32)))])) (fun tt kont => ?_) ?_
  · show Steps p.tables e below (s₁.setTop (mkF m 0 #[.val (.int p1), .val (.int p2), .val (.int p3), .val (.int p4), .val (.int p5), .unset, .unset, .unset, .unset, .unset, .unset] [])) _
    refine XS.iloadN X0.here hx rfl (hb hby at_0) rfl ?_
    show Steps p.tables e below (s₁.setTop (mkF m 1 #[.val (.int p1), .val (.int p2), .val (.int p3), .val (.int p4), .val (.int p5), .unset, .unset, .unset, .unset, .unset, .unset] [(.int p1)])) _
    refine XS.bipush X0.here hx rfl (hb hby at_1) ?_
    show Steps p.tables e below (s₁.setTop (mkF m 3 #[.val (.int p1), .val (.int p2), .val (.int p3), .val (.int p4), .val (.int p5), .unset, .unset, .unset, .unset, .unset, .unset] [(.int (63 : Int32)), (.int p1)])) _
    refine XS.iand X0.here hx rfl (hb hby at_3) rfl ?_
    exact kont
  show own_Go p e below s₁ (mkF m 4 #[.val (.int p1), .val (.int p2), .val (.int p3), .val (.int p4), .val (.int p5), .unset, .unset, .unset, .unset, .unset, .unset] [(.int (p1 &&& (63 : Int32)))]) _
  obtain ⟨yN1, hyN1⟩ : ∃ z : Int32, z = (p1 &&& (63 : Int32)) := ⟨_, rfl⟩
  rw [← hyN1]
  refine own_step (T' := s₁) (f' := (mkF m 10 #[.val (.int p1), .val (.int p2), .val (.int p3), .val (.int p4), .val (.int p5), .val (.int yN1), .unset, .unset, .unset, .unset, .unset] [(.int (p2 &&& (63 : Int32)))])) (fun tt kont => ?_) ?_
  · show Steps p.tables e below (s₁.setTop (mkF m 4 #[.val (.int p1), .val (.int p2), .val (.int p3), .val (.int p4), .val (.int p5), .unset, .unset, .unset, .unset, .unset, .unset] [(.int yN1)])) _
    refine XS.istore X0.here hx rfl (hb hby at_4) rfl (l' := #[.val (.int p1), .val (.int p2), .val (.int p3), .val (.int p4), .val (.int p5), .val (.int yN1), .unset, .unset, .unset, .unset, .unset]) rfl ?_
    show Steps p.tables e below (s₁.setTop (mkF m 6 #[.val (.int p1), .val (.int p2), .val (.int p3), .val (.int p4), .val (.int p5), .val (.int yN1), .unset, .unset, .unset, .unset, .unset] [])) _
    refine XS.iloadN X0.here hx rfl (hb hby at_6) rfl ?_
    show Steps p.tables e below (s₁.setTop (mkF m 7 #[.val (.int p1), .val (.int p2), .val (.int p3), .val (.int p4), .val (.int p5), .val (.int yN1), .unset, .unset, .unset, .unset, .unset] [(.int p2)])) _
    refine XS.bipush X0.here hx rfl (hb hby at_7) ?_
    show Steps p.tables e below (s₁.setTop (mkF m 9 #[.val (.int p1), .val (.int p2), .val (.int p3), .val (.int p4), .val (.int p5), .val (.int yN1), .unset, .unset, .unset, .unset, .unset] [(.int (63 : Int32)), (.int p2)])) _
    refine XS.iand X0.here hx rfl (hb hby at_9) rfl ?_
    exact kont
  show own_Go p e below s₁ (mkF m 10 #[.val (.int p1), .val (.int p2), .val (.int p3), .val (.int p4), .val (.int p5), .val (.int yN1), .unset, .unset, .unset, .unset, .unset] [(.int (p2 &&& (63 : Int32)))]) _
  obtain ⟨yN2, hyN2⟩ : ∃ z : Int32, z = (p2 &&& (63 : Int32)) := ⟨_, rfl⟩
  rw [← hyN2]
  refine own_step (T' := s₁) (f' := (mkF m 16 #[.val (.int p1), .val (.int p2), .val (.int p3), .val (.int p4), .val (.int p5), .val (.int yN1), .val (.int yN2), .unset, .unset, .unset, .unset] [(.int (p3 &&& (127 : Int32)))])) (fun tt kont => ?_) ?_
  · show Steps p.tables e below (s₁.setTop (mkF m 10 #[.val (.int p1), .val (.int p2), .val (.int p3), .val (.int p4), .val (.int p5), .val (.int yN1), .unset, .unset, .unset, .unset, .unset] [(.int yN2)])) _
    refine XS.istore X0.here hx rfl (hb hby at_10) rfl (l' := #[.val (.int p1), .val (.int p2), .val (.int p3), .val (.int p4), .val (.int p5), .val (.int yN1), .val (.int yN2), .unset, .unset, .unset, .unset]) rfl ?_
    show Steps p.tables e below (s₁.setTop (mkF m 12 #[.val (.int p1), .val (.int p2), .val (.int p3), .val (.int p4), .val (.int p5), .val (.int yN1), .val (.int yN2), .unset, .unset, .unset, .unset] [])) _
    refine XS.iloadN X0.here hx rfl (hb hby at_12) rfl ?_
    show Steps p.tables e below (s₁.setTop (mkF m 13 #[.val (.int p1), .val (.int p2), .val (.int p3), .val (.int p4), .val (.int p5), .val (.int yN1), .val (.int yN2), .unset, .unset, .unset, .unset] [(.int p3)])) _
    refine XS.bipush X0.here hx rfl (hb hby at_13) ?_
    show Steps p.tables e below (s₁.setTop (mkF m 15 #[.val (.int p1), .val (.int p2), .val (.int p3), .val (.int p4), .val (.int p5), .val (.int yN1), .val (.int yN2), .unset, .unset, .unset, .unset] [(.int (127 : Int32)), (.int p3)])) _
    refine XS.iand X0.here hx rfl (hb hby at_15) rfl ?_
    exact kont
  show own_Go p e below s₁ (mkF m 16 #[.val (.int p1), .val (.int p2), .val (.int p3), .val (.int p4), .val (.int p5), .val (.int yN1), .val (.int yN2), .unset, .unset, .unset, .unset] [(.int (p3 &&& (127 : Int32)))]) _
  obtain ⟨yN3, hyN3⟩ : ∃ z : Int32, z = (p3 &&& (127 : Int32)) := ⟨_, rfl⟩
  rw [← hyN3]
  refine own_step (T' := s₁) (f' := (mkF m 18 #[.val (.int p1), .val (.int p2), .val (.int p3), .val (.int p4), .val (.int p5), .val (.int yN1), .val (.int yN2), .val (.int yN3), .unset, .unset, .unset] [])) (fun tt kont => ?_) ?_
  · show Steps p.tables e below (s₁.setTop (mkF m 16 #[.val (.int p1), .val (.int p2), .val (.int p3), .val (.int p4), .val (.int p5), .val (.int yN1), .val (.int yN2), .unset, .unset, .unset, .unset] [(.int yN3)])) _
    refine XS.istore X0.here hx rfl (hb hby at_16) rfl (l' := #[.val (.int p1), .val (.int p2), .val (.int p3), .val (.int p4), .val (.int p5), .val (.int yN1), .val (.int yN2), .val (.int yN3), .unset, .unset, .unset]) rfl ?_
    exact kont
  obtain ⟨k1, hk1, hb1⟩ := own_mask63 hyN1
  obtain ⟨k2, hk2, hb2⟩ := own_mask63 hyN2
  obtain ⟨k3, hk3, hb3⟩ := own_mask127 hyN3
  obtain ⟨T101, h101, X101, e101, E101, A101, D101, -, st101⟩ := newO X0 hx hZ hown (hw _ (List.mem_of_getElem? (i := 0) rfl)) (hw _ (List.mem_of_getElem? (i := 1) rfl)) (hw _ (List.mem_of_getElem? (i := 2) rfl)) e0 (g := (mkF m 18 #[.val (.int p1), .val (.int p2), .val (.int p3), .val (.int p4), .val (.int p5), .val (.int yN1), .val (.int yN2), .val (.int yN3), .unset, .unset, .unset] [])) rfl (hb hby at_18) (by decide) (by decide)
  obtain ⟨ob, g101⟩ : ∃ z, z = h0.size := ⟨_, rfl⟩
  have g_ob : n0 ≤ ob := Nat.le_trans Z0 (Nat.le_of_eq g101.symm)
  have Z101 : n0 ≤ h101.size := Nat.le_trans Z0 E101.1
  rw [← g101] at A101 D101 st101
  have F_ob_heads_101 : Fld Z h101 ob "com/example/crossquote/crossquote/BidIndex" "heads" "[I" .null := D101 (Or.inl (hw _ (List.mem_of_getElem? (i := 11) rfl))) (ty := (.array .int)) (by decide)
  have F_ob_links_101 : Fld Z h101 ob "com/example/crossquote/crossquote/BidIndex" "links" "[J" .null := D101 (Or.inl (hw _ (List.mem_of_getElem? (i := 14) rfl))) (ty := (.array .long)) (by decide)
  have F_ob_slots_101 : Fld Z h101 ob "com/example/crossquote/crossquote/BidIndex" "slots" "[I" .null := D101 (Or.inl (hw _ (List.mem_of_getElem? (i := 16) rfl))) (ty := (.array .int)) (by decide)
  have F_ob_rungs_101 : Fld Z h101 ob "com/example/crossquote/crossquote/BidIndex" "rungs" "[Lcom/example/crossquote/crossquote/Rung;" .null := D101 (Or.inl (hw _ (List.mem_of_getElem? (i := 20) rfl))) (ty := (.array (.object "com/example/crossquote/crossquote/Rung"))) (by decide)
  have F_ob_free_101 : Fld Z h101 ob "com/example/crossquote/crossquote/BidIndex" "free" "[I" .null := D101 (Or.inl (hw _ (List.mem_of_getElem? (i := 22) rfl))) (ty := (.array .int)) (by decide)
  have F_ob_end_101 : Fld Z h101 ob "com/example/crossquote/crossquote/BidIndex" "end" "I" (.int (0 : Int32)) := D101 (Or.inl (hw _ (List.mem_of_getElem? (i := 24) rfl))) (ty := .int) (by decide)
  refine own_step st101 ?_
  refine own_step (T' := T101) (f' := (mkF m 22 #[.val (.int p1), .val (.int p2), .val (.int p3), .val (.int p4), .val (.int p5), .val (.int yN1), .val (.int yN2), .val (.int yN3), .unset, .unset, .unset] [(.ref ob), (.ref ob)])) (fun tt kont => ?_) ?_
  · show Steps p.tables e below (T101.setTop (mkF m 21 #[.val (.int p1), .val (.int p2), .val (.int p3), .val (.int p4), .val (.int p5), .val (.int yN1), .val (.int yN2), .val (.int yN3), .unset, .unset, .unset] [(.ref ob)])) _
    refine XS.dup X101.here hx rfl (hb hby at_21) rfl rfl ?_
    exact kont
  obtain ⟨_, _, ⟨T102, L102, k102, n102⟩, -, X102, ⟨Lc102, hQ102, l102, y102, z102⟩, st102⟩ := X101.specialBack hx (y := (⟨"com/example/crossquote/crossquote/BidIndex", "<init>", "()V"⟩ : MethodName)) rfl hown (mvT hZ (hw _ (List.mem_of_getElem? (i := 3) rfl))) (mvT hZ (hw _ (List.mem_of_getElem? (i := 4) rfl))) (mvT hZ (hw _ (List.mem_of_getElem? (i := 5) rfl))) (by decide) (backOf (W := 1) (own_rm1 l Z a0 hw ob h101 n0 Z101 g_ob A101 F_ob_heads_101 F_ob_links_101 F_ob_slots_101 F_ob_rungs_101 F_ob_free_101 F_ob_end_101) hZ (hw _ (List.mem_of_getElem? (i := 5) rfl)) (hw _ (List.mem_of_getElem? (i := 2) rfl)) (by decide) (by decide)) (g := (mkF m 22 #[.val (.int p1), .val (.int p2), .val (.int p3), .val (.int p4), .val (.int p5), .val (.int yN1), .val (.int yN2), .val (.int yN3), .unset, .unset, .unset] [(.ref ob), (.ref ob)])) rfl (by rw [hml]; rfl) (Steps.refl _) (a := ob) (argsL := []) (rest := [(.ref ob)]) (lenOf own_pd2 rfl) rfl (by show 2 * 0 + _ ≤ _; exact Nat.le_of_eq rfl) (hb hby at_22) (fun _ _ => ⟨rfl, e101, (by decide : 1 + 5 ≤ _), (by decide : 9 + 96 ≤ _)⟩)
  dsimp only [Pt.U, Pt.locs, Pt.cells, Pt.slots] at X102 l102 y102 z102 st102 hQ102
  subst l102 y102 z102
  obtain ⟨rfl, N102q, SZ102, ar0, rg, BD0⟩ := hQ102
  have N102 := Fr.app N0 N102q
  refine own_step (fun tt kont => st102.trans kont) ?_
  refine own_step (T' := T102) (f' := (mkF m 31 #[.val (.int p1), .val (.int p2), .val (.int p3), .val (.int p4), .val (.int p5), .val (.int yN1), .val (.int yN2), .val (.int yN3), .val (.ref ob), .unset, .unset] [(.int yN2), (.ref ob)])) (fun tt kont => ?_) ?_
  · show Steps p.tables e below (T102.setTop (mkF m 25 #[.val (.int p1), .val (.int p2), .val (.int p3), .val (.int p4), .val (.int p5), .val (.int yN1), .val (.int yN2), .val (.int yN3), .unset, .unset, .unset] [(.ref ob)])) _
    refine XS.astore X102.here hx rfl (hb hby at_25) rfl rfl (l' := #[.val (.int p1), .val (.int p2), .val (.int p3), .val (.int p4), .val (.int p5), .val (.int yN1), .val (.int yN2), .val (.int yN3), .val (.ref ob), .unset, .unset]) rfl ?_
    show Steps p.tables e below (T102.setTop (mkF m 27 #[.val (.int p1), .val (.int p2), .val (.int p3), .val (.int p4), .val (.int p5), .val (.int yN1), .val (.int yN2), .val (.int yN3), .val (.ref ob), .unset, .unset] [])) _
    refine XS.aload X102.here hx rfl (hb hby at_27) rfl rfl ?_
    show Steps p.tables e below (T102.setTop (mkF m 29 #[.val (.int p1), .val (.int p2), .val (.int p3), .val (.int p4), .val (.int p5), .val (.int yN1), .val (.int yN2), .val (.int yN3), .val (.ref ob), .unset, .unset] [(.ref ob)])) _
    refine XS.iload X102.here hx rfl (hb hby at_29) rfl ?_
    exact kont
  obtain ⟨cq103, kq103, q103a, q103b, q103c⟩ := isOf hZ rfl BD0.1
  obtain ⟨_, _, ⟨T103, L103, k103, n103⟩, -, X103, ⟨Lc103, hQ103, l103, y103, z103⟩, st103⟩ := X102.virtualBack hx (y := (⟨"com/example/crossquote/crossquote/BidIndex", "slot", "(I)I"⟩ : MethodName)) (z := (⟨"com/example/crossquote/crossquote/BidIndex", "slot", "(I)I"⟩ : MethodName)) hown (mvT hZ (hw _ (List.mem_of_getElem? (i := 25) rfl))) (mvT hZ (hw _ (List.mem_of_getElem? (i := 26) rfl))) (notFace_of_selects (args := #[]) (mvT hZ (hw _ (List.mem_of_getElem? (i := 28) rfl)))) (mvT hZ (hw _ (List.mem_of_getElem? (i := 28) rfl))) (mvT hZ (hw _ (List.mem_of_getElem? (i := 27) rfl))) (by decide) (backOf (W := 0) (own_rm3 l Z a0 hw ob yN2 ar0 rg 16 k2 (fun _ => 0) (16 : Int32) T102.heap n0 BD0 own_at16 hk2) hZ (hw _ (List.mem_of_getElem? (i := 29) rfl)) (hw _ (List.mem_of_getElem? (i := 2) rfl)) (by decide) (by decide)) q103a q103c (g := (mkF m 31 #[.val (.int p1), .val (.int p2), .val (.int p3), .val (.int p4), .val (.int p5), .val (.int yN1), .val (.int yN2), .val (.int yN3), .val (.ref ob), .unset, .unset] [(.int yN2), (.ref ob)])) rfl (by rw [hml]; rfl) (Steps.refl _) (argsL := [(.int yN2)]) (rest := []) (lenOf own_pd3 rfl) rfl (by show 2 * 0 + _ ≤ _; exact Nat.le_of_eq rfl) (hb hby at_31) (fun _ _ => ⟨rfl, rfl, (by decide : 6 + 0 ≤ _), (by decide : 105 + 0 ≤ _)⟩)
  dsimp only [Pt.U, Pt.locs, Pt.cells, Pt.slots] at X103 l103 y103 z103 st103 hQ103
  subst l103 y103 z103
  obtain ⟨rfl, N103q, e103⟩ := hQ103
  have N103 := Fr.app N102 N103q
  refine own_step (fun tt kont => st103.trans kont) ?_
  have hA : (own_get 16 (fun _ => 0) k2) = (0 : Int32) := own_getZ _
  refine own_step (T' := T103) (f' := (mkF m 49 #[.val (.int p1), .val (.int p2), .val (.int p3), .val (.int p4), .val (.int p5), .val (.int yN1), .val (.int yN2), .val (.int yN3), .val (.ref ob), .val (.int (1 : Int32)), .unset] [(.int p4), (.int yN1), (.ref ob)])) (fun tt kont => ?_) ?_
  · show Steps p.tables e below (T103.setTop (mkF m 34 #[.val (.int p1), .val (.int p2), .val (.int p3), .val (.int p4), .val (.int p5), .val (.int yN1), .val (.int yN2), .val (.int yN3), .val (.ref ob), .unset, .unset] [(.int (own_get 16 (fun _ => 0) k2))])) _
    refine XS.ifNo X103.here hx rfl (hb hby at_34) rfl ((if0 _ _).trans (teq hA).2) ?_
    show Steps p.tables e below (T103.setTop (mkF m 37 #[.val (.int p1), .val (.int p2), .val (.int p3), .val (.int p4), .val (.int p5), .val (.int yN1), .val (.int yN2), .val (.int yN3), .val (.ref ob), .unset, .unset] [])) _
    refine XS.iconst X103.here hx rfl (hb hby at_37) ?_
    show Steps p.tables e below (T103.setTop (mkF m 38 #[.val (.int p1), .val (.int p2), .val (.int p3), .val (.int p4), .val (.int p5), .val (.int yN1), .val (.int yN2), .val (.int yN3), .val (.ref ob), .unset, .unset] [(.int (1 : Int32))])) _
    refine XS.goto X103.here hx rfl (pc0 := 38) (pc' := 42) rfl (hb hby at_38) (by decide) (by decide) ?_
    show Steps p.tables e below (T103.setTop (mkF m 42 #[.val (.int p1), .val (.int p2), .val (.int p3), .val (.int p4), .val (.int p5), .val (.int yN1), .val (.int yN2), .val (.int yN3), .val (.ref ob), .unset, .unset] [(.int (1 : Int32))])) _
    refine XS.istore X103.here hx rfl (hb hby at_42) rfl (l' := #[.val (.int p1), .val (.int p2), .val (.int p3), .val (.int p4), .val (.int p5), .val (.int yN1), .val (.int yN2), .val (.int yN3), .val (.ref ob), .val (.int (1 : Int32)), .unset]) rfl ?_
    show Steps p.tables e below (T103.setTop (mkF m 44 #[.val (.int p1), .val (.int p2), .val (.int p3), .val (.int p4), .val (.int p5), .val (.int yN1), .val (.int yN2), .val (.int yN3), .val (.ref ob), .val (.int (1 : Int32)), .unset] [])) _
    refine XS.aload X103.here hx rfl (hb hby at_44) rfl rfl ?_
    show Steps p.tables e below (T103.setTop (mkF m 46 #[.val (.int p1), .val (.int p2), .val (.int p3), .val (.int p4), .val (.int p5), .val (.int yN1), .val (.int yN2), .val (.int yN3), .val (.ref ob), .val (.int (1 : Int32)), .unset] [(.ref ob)])) _
    refine XS.iload X103.here hx rfl (hb hby at_46) rfl ?_
    show Steps p.tables e below (T103.setTop (mkF m 48 #[.val (.int p1), .val (.int p2), .val (.int p3), .val (.int p4), .val (.int p5), .val (.int yN1), .val (.int yN2), .val (.int yN3), .val (.ref ob), .val (.int (1 : Int32)), .unset] [(.int yN1), (.ref ob)])) _
    refine XS.iloadN X103.here hx rfl (hb hby at_48) rfl ?_
    exact kont
  obtain ⟨cq104, kq104, q104a, q104b, q104c⟩ := isOf hZ e103 BD0.1
  obtain ⟨_, _, ⟨T104, L104, k104, n104⟩, -, X104, ⟨Lc104, hQ104, l104, y104, z104⟩, st104⟩ := X103.virtualBack hx (y := (⟨"com/example/crossquote/crossquote/BidIndex", "setSlot", "(II)V"⟩ : MethodName)) (z := (⟨"com/example/crossquote/crossquote/BidIndex", "setSlot", "(II)V"⟩ : MethodName)) hown (mvT hZ (hw _ (List.mem_of_getElem? (i := 30) rfl))) (mvT hZ (hw _ (List.mem_of_getElem? (i := 31) rfl))) (notFace_of_selects (args := #[]) (mvT hZ (hw _ (List.mem_of_getElem? (i := 33) rfl)))) (mvT hZ (hw _ (List.mem_of_getElem? (i := 33) rfl))) (mvT hZ (hw _ (List.mem_of_getElem? (i := 32) rfl))) (by decide) (backOf (W := 0) (own_rm4 l Z a0 hw ob yN1 p4 ar0 rg 16 k1 (fun _ => 0) (16 : Int32) T102.heap n0 SZ102 BD0 own_at16 hk1 own_16 hb1) hZ (hw _ (List.mem_of_getElem? (i := 34) rfl)) (hw _ (List.mem_of_getElem? (i := 2) rfl)) (by decide) (by decide)) q104a q104c (g := (mkF m 49 #[.val (.int p1), .val (.int p2), .val (.int p3), .val (.int p4), .val (.int p5), .val (.int yN1), .val (.int yN2), .val (.int yN3), .val (.ref ob), .val (.int (1 : Int32)), .unset] [(.int p4), (.int yN1), (.ref ob)])) rfl (by rw [hml]; rfl) (Steps.refl _) (argsL := [(.int yN1), (.int p4)]) (rest := []) (lenOf own_pd4 rfl) rfl (by show 2 * 0 + _ ≤ _; exact Nat.le_of_eq rfl) (hb hby at_49) (fun _ _ => ⟨rfl, e103, (by decide : 6 + 1 ≤ _), (by decide : 105 + 64 ≤ _)⟩)
  dsimp only [Pt.U, Pt.locs, Pt.cells, Pt.slots] at X104 l104 y104 z104 st104 hQ104
  subst l104 y104 z104
  obtain ⟨rfl, N104q, SZ104, ar1, N1, F1, BD1, HN1, G1⟩ := hQ104
  have N104 := Fr.app N103 N104q
  refine own_step (fun tt kont => st104.trans kont) ?_
  obtain ⟨z1, hz1⟩ := own_zof HN1
  refine own_step (T' := T104) (f' := (mkF m 61 #[.val (.int p1), .val (.int p2), .val (.int p3), .val (.int p4), .val (.int p5), .val (.int yN1), .val (.int yN2), .val (.int yN3), .val (.ref ob), .val (.int (1 : Int32)), .unset] [(.int yN1), (.ref ob)])) (fun tt kont => ?_) ?_
  · show Steps p.tables e below (T104.setTop (mkF m 52 #[.val (.int p1), .val (.int p2), .val (.int p3), .val (.int p4), .val (.int p5), .val (.int yN1), .val (.int yN2), .val (.int yN3), .val (.ref ob), .val (.int (1 : Int32)), .unset] [])) _
    refine XS.iload X104.here hx rfl (hb hby at_52) rfl ?_
    show Steps p.tables e below (T104.setTop (mkF m 54 #[.val (.int p1), .val (.int p2), .val (.int p3), .val (.int p4), .val (.int p5), .val (.int yN1), .val (.int yN2), .val (.int yN3), .val (.ref ob), .val (.int (1 : Int32)), .unset] [(.int (1 : Int32))])) _
    refine XS.ifNo X104.here hx rfl (hb hby at_54) rfl ((if0 _ _).trans (feq (by decide : ¬ ((1 : Int32) = (0 : Int32)))).1) ?_
    show Steps p.tables e below (T104.setTop (mkF m 57 #[.val (.int p1), .val (.int p2), .val (.int p3), .val (.int p4), .val (.int p5), .val (.int yN1), .val (.int yN2), .val (.int yN3), .val (.ref ob), .val (.int (1 : Int32)), .unset] [])) _
    refine XS.aload X104.here hx rfl (hb hby at_57) rfl rfl ?_
    show Steps p.tables e below (T104.setTop (mkF m 59 #[.val (.int p1), .val (.int p2), .val (.int p3), .val (.int p4), .val (.int p5), .val (.int yN1), .val (.int yN2), .val (.int yN3), .val (.ref ob), .val (.int (1 : Int32)), .unset] [(.ref ob)])) _
    refine XS.iload X104.here hx rfl (hb hby at_59) rfl ?_
    exact kont
  obtain ⟨cq105, kq105, q105a, q105b, q105c⟩ := isOf hZ rfl BD1.1
  obtain ⟨_, _, ⟨T105, L105, k105, n105⟩, -, X105, ⟨Lc105, hQ105, l105, y105, z105⟩, st105⟩ := X104.virtualBack hx (y := (⟨"com/example/crossquote/crossquote/BidIndex", "slot", "(I)I"⟩ : MethodName)) (z := (⟨"com/example/crossquote/crossquote/BidIndex", "slot", "(I)I"⟩ : MethodName)) hown (mvT hZ (hw _ (List.mem_of_getElem? (i := 25) rfl))) (mvT hZ (hw _ (List.mem_of_getElem? (i := 26) rfl))) (notFace_of_selects (args := #[]) (mvT hZ (hw _ (List.mem_of_getElem? (i := 28) rfl)))) (mvT hZ (hw _ (List.mem_of_getElem? (i := 28) rfl))) (mvT hZ (hw _ (List.mem_of_getElem? (i := 27) rfl))) (by decide) (backOf (W := 0) (own_rm3 l Z a0 hw ob yN1 ar1 rg N1 k1 F1 z1 T104.heap n0 BD1 hz1 hk1) hZ (hw _ (List.mem_of_getElem? (i := 29) rfl)) (hw _ (List.mem_of_getElem? (i := 2) rfl)) (by decide) (by decide)) q105a q105c (g := (mkF m 61 #[.val (.int p1), .val (.int p2), .val (.int p3), .val (.int p4), .val (.int p5), .val (.int yN1), .val (.int yN2), .val (.int yN3), .val (.ref ob), .val (.int (1 : Int32)), .unset] [(.int yN1), (.ref ob)])) rfl (by rw [hml]; rfl) (Steps.refl _) (argsL := [(.int yN1)]) (rest := []) (lenOf own_pd3 rfl) rfl (by show 2 * 0 + _ ≤ _; exact Nat.le_of_eq rfl) (hb hby at_61) (fun _ _ => ⟨rfl, rfl, (by decide : 7 + 0 ≤ _), (by decide : 169 + 0 ≤ _)⟩)
  dsimp only [Pt.U, Pt.locs, Pt.cells, Pt.slots] at X105 l105 y105 z105 st105 hQ105
  subst l105 y105 z105
  obtain ⟨rfl, N105q, e105⟩ := hQ105
  have N105 := Fr.app N104 N105q
  refine own_step (fun tt kont => st105.trans kont) ?_
  refine own_step (T' := T105) (f' := (mkF m 65 #[.val (.int p1), .val (.int p2), .val (.int p3), .val (.int p4), .val (.int p5), .val (.int yN1), .val (.int yN2), .val (.int yN3), .val (.ref ob), .val (.int (1 : Int32)), .unset] [(.int p4), (.int (own_get N1 F1 k1))])) (fun tt kont => ?_) ?_
  · show Steps p.tables e below (T105.setTop (mkF m 64 #[.val (.int p1), .val (.int p2), .val (.int p3), .val (.int p4), .val (.int p5), .val (.int yN1), .val (.int yN2), .val (.int yN3), .val (.ref ob), .val (.int (1 : Int32)), .unset] [(.int (own_get N1 F1 k1))])) _
    refine XS.iloadN X105.here hx rfl (hb hby at_64) rfl ?_
    exact kont
  have hB : (own_get N1 F1 k1) = p4 := own_B G1
  refine own_step (T' := T105) (f' := (mkF m 84 #[.val (.int p1), .val (.int p2), .val (.int p3), .val (.int p4), .val (.int p5), .val (.int yN1), .val (.int yN2), .val (.int yN3), .val (.ref ob), .val (.int (1 : Int32)), .unset] [(.int yN2), (.ref ob)])) (fun tt kont => ?_) ?_
  · show Steps p.tables e below (T105.setTop (mkF m 65 #[.val (.int p1), .val (.int p2), .val (.int p3), .val (.int p4), .val (.int p5), .val (.int yN1), .val (.int yN2), .val (.int yN3), .val (.ref ob), .val (.int (1 : Int32)), .unset] [(.int p4), (.int (own_get N1 F1 k1))])) _
    refine XS.icmpNo X105.here hx rfl (hb hby at_65) rfl (teq hB).2 ?_
    show Steps p.tables e below (T105.setTop (mkF m 68 #[.val (.int p1), .val (.int p2), .val (.int p3), .val (.int p4), .val (.int p5), .val (.int yN1), .val (.int yN2), .val (.int yN3), .val (.ref ob), .val (.int (1 : Int32)), .unset] [])) _
    refine XS.iconst X105.here hx rfl (hb hby at_68) ?_
    show Steps p.tables e below (T105.setTop (mkF m 69 #[.val (.int p1), .val (.int p2), .val (.int p3), .val (.int p4), .val (.int p5), .val (.int yN1), .val (.int yN2), .val (.int yN3), .val (.ref ob), .val (.int (1 : Int32)), .unset] [(.int (1 : Int32))])) _
    refine XS.goto X105.here hx rfl (pc0 := 69) (pc' := 73) rfl (hb hby at_69) (by decide) (by decide) ?_
    show Steps p.tables e below (T105.setTop (mkF m 73 #[.val (.int p1), .val (.int p2), .val (.int p3), .val (.int p4), .val (.int p5), .val (.int yN1), .val (.int yN2), .val (.int yN3), .val (.ref ob), .val (.int (1 : Int32)), .unset] [(.int (1 : Int32))])) _
    refine XS.istore X105.here hx rfl (hb hby at_73) rfl (l' := #[.val (.int p1), .val (.int p2), .val (.int p3), .val (.int p4), .val (.int p5), .val (.int yN1), .val (.int yN2), .val (.int yN3), .val (.ref ob), .val (.int (1 : Int32)), .unset]) rfl ?_
    show Steps p.tables e below (T105.setTop (mkF m 75 #[.val (.int p1), .val (.int p2), .val (.int p3), .val (.int p4), .val (.int p5), .val (.int yN1), .val (.int yN2), .val (.int yN3), .val (.ref ob), .val (.int (1 : Int32)), .unset] [])) _
    refine XS.iload X105.here hx rfl (hb hby at_75) rfl ?_
    show Steps p.tables e below (T105.setTop (mkF m 77 #[.val (.int p1), .val (.int p2), .val (.int p3), .val (.int p4), .val (.int p5), .val (.int yN1), .val (.int yN2), .val (.int yN3), .val (.ref ob), .val (.int (1 : Int32)), .unset] [(.int (1 : Int32))])) _
    refine XS.ifNo X105.here hx rfl (hb hby at_77) rfl ((if0 _ _).trans (feq (by decide : ¬ ((1 : Int32) = (0 : Int32)))).1) ?_
    show Steps p.tables e below (T105.setTop (mkF m 80 #[.val (.int p1), .val (.int p2), .val (.int p3), .val (.int p4), .val (.int p5), .val (.int yN1), .val (.int yN2), .val (.int yN3), .val (.ref ob), .val (.int (1 : Int32)), .unset] [])) _
    refine XS.aload X105.here hx rfl (hb hby at_80) rfl rfl ?_
    show Steps p.tables e below (T105.setTop (mkF m 82 #[.val (.int p1), .val (.int p2), .val (.int p3), .val (.int p4), .val (.int p5), .val (.int yN1), .val (.int yN2), .val (.int yN3), .val (.ref ob), .val (.int (1 : Int32)), .unset] [(.ref ob)])) _
    refine XS.iload X105.here hx rfl (hb hby at_82) rfl ?_
    exact kont
  obtain ⟨cq106, kq106, q106a, q106b, q106c⟩ := isOf hZ e105 BD1.1
  obtain ⟨_, _, ⟨T106, L106, k106, n106⟩, -, X106, ⟨Lc106, hQ106, l106, y106, z106⟩, st106⟩ := X105.virtualBack hx (y := (⟨"com/example/crossquote/crossquote/BidIndex", "slot", "(I)I"⟩ : MethodName)) (z := (⟨"com/example/crossquote/crossquote/BidIndex", "slot", "(I)I"⟩ : MethodName)) hown (mvT hZ (hw _ (List.mem_of_getElem? (i := 25) rfl))) (mvT hZ (hw _ (List.mem_of_getElem? (i := 26) rfl))) (notFace_of_selects (args := #[]) (mvT hZ (hw _ (List.mem_of_getElem? (i := 28) rfl)))) (mvT hZ (hw _ (List.mem_of_getElem? (i := 28) rfl))) (mvT hZ (hw _ (List.mem_of_getElem? (i := 27) rfl))) (by decide) (backOf (W := 0) (own_rm3 l Z a0 hw ob yN2 ar1 rg N1 k2 F1 z1 T104.heap n0 BD1 hz1 hk2) hZ (hw _ (List.mem_of_getElem? (i := 29) rfl)) (hw _ (List.mem_of_getElem? (i := 2) rfl)) (by decide) (by decide)) q106a q106c (g := (mkF m 84 #[.val (.int p1), .val (.int p2), .val (.int p3), .val (.int p4), .val (.int p5), .val (.int yN1), .val (.int yN2), .val (.int yN3), .val (.ref ob), .val (.int (1 : Int32)), .unset] [(.int yN2), (.ref ob)])) rfl (by rw [hml]; rfl) (Steps.refl _) (argsL := [(.int yN2)]) (rest := []) (lenOf own_pd3 rfl) rfl (by show 2 * 0 + _ ≤ _; exact Nat.le_of_eq rfl) (hb hby at_84) (fun _ _ => ⟨rfl, e105, (by decide : 7 + 0 ≤ _), (by decide : 169 + 0 ≤ _)⟩)
  dsimp only [Pt.U, Pt.locs, Pt.cells, Pt.slots] at X106 l106 y106 z106 st106 hQ106
  subst l106 y106 z106
  obtain ⟨rfl, N106q, e106⟩ := hQ106
  have N106 := Fr.app N105 N106q
  refine own_step (fun tt kont => st106.trans kont) ?_
  refine own_step (T' := T106) (f' := (mkF m 91 #[.val (.int p1), .val (.int p2), .val (.int p3), .val (.int p4), .val (.int p5), .val (.int yN1), .val (.int yN2), .val (.int yN3), .val (.ref ob), .val (.int (1 : Int32)), .unset] [(.int yN1), (.int yN2), (.int (own_get N1 F1 k2))])) (fun tt kont => ?_) ?_
  · show Steps p.tables e below (T106.setTop (mkF m 87 #[.val (.int p1), .val (.int p2), .val (.int p3), .val (.int p4), .val (.int p5), .val (.int yN1), .val (.int yN2), .val (.int yN3), .val (.ref ob), .val (.int (1 : Int32)), .unset] [(.int (own_get N1 F1 k2))])) _
    refine XS.iload X106.here hx rfl (hb hby at_87) rfl ?_
    show Steps p.tables e below (T106.setTop (mkF m 89 #[.val (.int p1), .val (.int p2), .val (.int p3), .val (.int p4), .val (.int p5), .val (.int yN1), .val (.int yN2), .val (.int yN3), .val (.ref ob), .val (.int (1 : Int32)), .unset] [(.int yN2), (.int (own_get N1 F1 k2))])) _
    refine XS.iload X106.here hx rfl (hb hby at_89) rfl ?_
    exact kont
  obtain ⟨v107, hv107, st108⟩ : ∃ (v107 : Int32), v107 = (if yN2 = yN1 then p4 else (0 : Int32)) ∧ ∀ t, Steps p.tables e below (T106.setTop (mkF m 99 #[.val (.int p1), .val (.int p2), .val (.int p3), .val (.int p4), .val (.int p5), .val (.int yN1), .val (.int yN2), .val (.int yN3), .val (.ref ob), .val (.int (1 : Int32)), .unset] [(.int v107), (.int (own_get N1 F1 k2))])) t → Steps p.tables e below (T106.setTop (mkF m 91 #[.val (.int p1), .val (.int p2), .val (.int p3), .val (.int p4), .val (.int p5), .val (.int yN1), .val (.int yN2), .val (.int yN3), .val (.ref ob), .val (.int (1 : Int32)), .unset] [(.int yN1), (.int yN2), (.int (own_get N1 F1 k2))])) t := by
    by_cases hc91_9 : yN2 = yN1
    · refine ⟨p4, (by simp only [if_pos hc91_9]), fun tt kont => ?_⟩
      show Steps p.tables e below (T106.setTop (mkF m 91 #[.val (.int p1), .val (.int p2), .val (.int p3), .val (.int p4), .val (.int p5), .val (.int yN1), .val (.int yN2), .val (.int yN3), .val (.ref ob), .val (.int (1 : Int32)), .unset] [(.int yN1), (.int yN2), (.int (own_get N1 F1 k2))])) _
      refine XS.icmpNo X106.here hx rfl (hb hby at_91) rfl (teq hc91_9).2 ?_
      show Steps p.tables e below (T106.setTop (mkF m 94 #[.val (.int p1), .val (.int p2), .val (.int p3), .val (.int p4), .val (.int p5), .val (.int yN1), .val (.int yN2), .val (.int yN3), .val (.ref ob), .val (.int (1 : Int32)), .unset] [(.int (own_get N1 F1 k2))])) _
      refine XS.iloadN X106.here hx rfl (hb hby at_94) rfl ?_
      show Steps p.tables e below (T106.setTop (mkF m 95 #[.val (.int p1), .val (.int p2), .val (.int p3), .val (.int p4), .val (.int p5), .val (.int yN1), .val (.int yN2), .val (.int yN3), .val (.ref ob), .val (.int (1 : Int32)), .unset] [(.int p4), (.int (own_get N1 F1 k2))])) _
      refine XS.goto X106.here hx rfl (pc0 := 95) (pc' := 99) rfl (hb hby at_95) (by decide) (by decide) ?_
      exact kont
    · refine ⟨(0 : Int32), (by simp only [if_neg hc91_9]), fun tt kont => ?_⟩
      show Steps p.tables e below (T106.setTop (mkF m 91 #[.val (.int p1), .val (.int p2), .val (.int p3), .val (.int p4), .val (.int p5), .val (.int yN1), .val (.int yN2), .val (.int yN3), .val (.ref ob), .val (.int (1 : Int32)), .unset] [(.int yN1), (.int yN2), (.int (own_get N1 F1 k2))])) _
      refine XS.icmpYes X106.here hx rfl (pc0 := 91) (pc' := 98) rfl (hb hby at_91) rfl (feq hc91_9).2 (by decide) (by decide) ?_
      show Steps p.tables e below (T106.setTop (mkF m 98 #[.val (.int p1), .val (.int p2), .val (.int p3), .val (.int p4), .val (.int p5), .val (.int yN1), .val (.int yN2), .val (.int yN3), .val (.ref ob), .val (.int (1 : Int32)), .unset] [(.int (own_get N1 F1 k2))])) _
      refine XS.iconst X106.here hx rfl (hb hby at_98) ?_
      exact kont
  refine own_step st108 ?_
  have hCc : (own_get N1 F1 k2) = v107 := own_C G1 hk1 hk2 hv107
  refine own_step (T' := T106) (f' := (mkF m 115 #[.val (.int p1), .val (.int p2), .val (.int p3), .val (.int p4), .val (.int p5), .val (.int yN1), .val (.int yN2), .val (.int yN3), .val (.ref ob), .val (.int (1 : Int32)), .unset] [(.int p5), (.int yN2), (.ref ob)])) (fun tt kont => ?_) ?_
  · show Steps p.tables e below (T106.setTop (mkF m 99 #[.val (.int p1), .val (.int p2), .val (.int p3), .val (.int p4), .val (.int p5), .val (.int yN1), .val (.int yN2), .val (.int yN3), .val (.ref ob), .val (.int (1 : Int32)), .unset] [(.int v107), (.int (own_get N1 F1 k2))])) _
    refine XS.icmpNo X106.here hx rfl (hb hby at_99) rfl (teq hCc).2 ?_
    show Steps p.tables e below (T106.setTop (mkF m 102 #[.val (.int p1), .val (.int p2), .val (.int p3), .val (.int p4), .val (.int p5), .val (.int yN1), .val (.int yN2), .val (.int yN3), .val (.ref ob), .val (.int (1 : Int32)), .unset] [])) _
    refine XS.iconst X106.here hx rfl (hb hby at_102) ?_
    show Steps p.tables e below (T106.setTop (mkF m 103 #[.val (.int p1), .val (.int p2), .val (.int p3), .val (.int p4), .val (.int p5), .val (.int yN1), .val (.int yN2), .val (.int yN3), .val (.ref ob), .val (.int (1 : Int32)), .unset] [(.int (1 : Int32))])) _
    refine XS.goto X106.here hx rfl (pc0 := 103) (pc' := 107) rfl (hb hby at_103) (by decide) (by decide) ?_
    show Steps p.tables e below (T106.setTop (mkF m 107 #[.val (.int p1), .val (.int p2), .val (.int p3), .val (.int p4), .val (.int p5), .val (.int yN1), .val (.int yN2), .val (.int yN3), .val (.ref ob), .val (.int (1 : Int32)), .unset] [(.int (1 : Int32))])) _
    refine XS.istore X106.here hx rfl (hb hby at_107) rfl (l' := #[.val (.int p1), .val (.int p2), .val (.int p3), .val (.int p4), .val (.int p5), .val (.int yN1), .val (.int yN2), .val (.int yN3), .val (.ref ob), .val (.int (1 : Int32)), .unset]) rfl ?_
    show Steps p.tables e below (T106.setTop (mkF m 109 #[.val (.int p1), .val (.int p2), .val (.int p3), .val (.int p4), .val (.int p5), .val (.int yN1), .val (.int yN2), .val (.int yN3), .val (.ref ob), .val (.int (1 : Int32)), .unset] [])) _
    refine XS.aload X106.here hx rfl (hb hby at_109) rfl rfl ?_
    show Steps p.tables e below (T106.setTop (mkF m 111 #[.val (.int p1), .val (.int p2), .val (.int p3), .val (.int p4), .val (.int p5), .val (.int yN1), .val (.int yN2), .val (.int yN3), .val (.ref ob), .val (.int (1 : Int32)), .unset] [(.ref ob)])) _
    refine XS.iload X106.here hx rfl (hb hby at_111) rfl ?_
    show Steps p.tables e below (T106.setTop (mkF m 113 #[.val (.int p1), .val (.int p2), .val (.int p3), .val (.int p4), .val (.int p5), .val (.int yN1), .val (.int yN2), .val (.int yN3), .val (.ref ob), .val (.int (1 : Int32)), .unset] [(.int yN2), (.ref ob)])) _
    refine XS.iload X106.here hx rfl (hb hby at_113) rfl ?_
    exact kont
  obtain ⟨cq109, kq109, q109a, q109b, q109c⟩ := isOf hZ e106 BD1.1
  obtain ⟨_, _, ⟨T109, L109, k109, n109⟩, -, X109, ⟨Lc109, hQ109, l109, y109, z109⟩, st109⟩ := X106.virtualBack hx (y := (⟨"com/example/crossquote/crossquote/BidIndex", "setSlot", "(II)V"⟩ : MethodName)) (z := (⟨"com/example/crossquote/crossquote/BidIndex", "setSlot", "(II)V"⟩ : MethodName)) hown (mvT hZ (hw _ (List.mem_of_getElem? (i := 30) rfl))) (mvT hZ (hw _ (List.mem_of_getElem? (i := 31) rfl))) (notFace_of_selects (args := #[]) (mvT hZ (hw _ (List.mem_of_getElem? (i := 33) rfl)))) (mvT hZ (hw _ (List.mem_of_getElem? (i := 33) rfl))) (mvT hZ (hw _ (List.mem_of_getElem? (i := 32) rfl))) (by decide) (backOf (W := 0) (own_rm4 l Z a0 hw ob yN2 p5 ar1 rg N1 k2 F1 z1 T104.heap n0 SZ104 BD1 hz1 hk2 HN1 hb2) hZ (hw _ (List.mem_of_getElem? (i := 34) rfl)) (hw _ (List.mem_of_getElem? (i := 2) rfl)) (by decide) (by decide)) q109a q109c (g := (mkF m 115 #[.val (.int p1), .val (.int p2), .val (.int p3), .val (.int p4), .val (.int p5), .val (.int yN1), .val (.int yN2), .val (.int yN3), .val (.ref ob), .val (.int (1 : Int32)), .unset] [(.int p5), (.int yN2), (.ref ob)])) rfl (by rw [hml]; rfl) (Steps.refl _) (argsL := [(.int yN2), (.int p5)]) (rest := []) (lenOf own_pd4 rfl) rfl (by show 2 * 0 + _ ≤ _; exact Nat.le_of_eq rfl) (hb hby at_115) (fun _ _ => ⟨rfl, e106, (by decide : 7 + 1 ≤ _), (by decide : 169 + 64 ≤ _)⟩)
  dsimp only [Pt.U, Pt.locs, Pt.cells, Pt.slots] at X109 l109 y109 z109 st109 hQ109
  subst l109 y109 z109
  obtain ⟨rfl, N109q, SZ109, ar2, N2, F2, BD2, HN2, G2⟩ := hQ109
  have N109 := Fr.app N106 N109q
  refine own_step (fun tt kont => st109.trans kont) ?_
  obtain ⟨z2, hz2⟩ := own_zof HN2
  refine own_step (T' := T109) (f' := (mkF m 127 #[.val (.int p1), .val (.int p2), .val (.int p3), .val (.int p4), .val (.int p5), .val (.int yN1), .val (.int yN2), .val (.int yN3), .val (.ref ob), .val (.int (1 : Int32)), .unset] [(.int yN1), (.ref ob)])) (fun tt kont => ?_) ?_
  · show Steps p.tables e below (T109.setTop (mkF m 118 #[.val (.int p1), .val (.int p2), .val (.int p3), .val (.int p4), .val (.int p5), .val (.int yN1), .val (.int yN2), .val (.int yN3), .val (.ref ob), .val (.int (1 : Int32)), .unset] [])) _
    refine XS.iload X109.here hx rfl (hb hby at_118) rfl ?_
    show Steps p.tables e below (T109.setTop (mkF m 120 #[.val (.int p1), .val (.int p2), .val (.int p3), .val (.int p4), .val (.int p5), .val (.int yN1), .val (.int yN2), .val (.int yN3), .val (.ref ob), .val (.int (1 : Int32)), .unset] [(.int (1 : Int32))])) _
    refine XS.ifNo X109.here hx rfl (hb hby at_120) rfl ((if0 _ _).trans (feq (by decide : ¬ ((1 : Int32) = (0 : Int32)))).1) ?_
    show Steps p.tables e below (T109.setTop (mkF m 123 #[.val (.int p1), .val (.int p2), .val (.int p3), .val (.int p4), .val (.int p5), .val (.int yN1), .val (.int yN2), .val (.int yN3), .val (.ref ob), .val (.int (1 : Int32)), .unset] [])) _
    refine XS.aload X109.here hx rfl (hb hby at_123) rfl rfl ?_
    show Steps p.tables e below (T109.setTop (mkF m 125 #[.val (.int p1), .val (.int p2), .val (.int p3), .val (.int p4), .val (.int p5), .val (.int yN1), .val (.int yN2), .val (.int yN3), .val (.ref ob), .val (.int (1 : Int32)), .unset] [(.ref ob)])) _
    refine XS.iload X109.here hx rfl (hb hby at_125) rfl ?_
    exact kont
  obtain ⟨cq110, kq110, q110a, q110b, q110c⟩ := isOf hZ rfl BD2.1
  obtain ⟨_, _, ⟨T110, L110, k110, n110⟩, -, X110, ⟨Lc110, hQ110, l110, y110, z110⟩, st110⟩ := X109.virtualBack hx (y := (⟨"com/example/crossquote/crossquote/BidIndex", "slot", "(I)I"⟩ : MethodName)) (z := (⟨"com/example/crossquote/crossquote/BidIndex", "slot", "(I)I"⟩ : MethodName)) hown (mvT hZ (hw _ (List.mem_of_getElem? (i := 25) rfl))) (mvT hZ (hw _ (List.mem_of_getElem? (i := 26) rfl))) (notFace_of_selects (args := #[]) (mvT hZ (hw _ (List.mem_of_getElem? (i := 28) rfl)))) (mvT hZ (hw _ (List.mem_of_getElem? (i := 28) rfl))) (mvT hZ (hw _ (List.mem_of_getElem? (i := 27) rfl))) (by decide) (backOf (W := 0) (own_rm3 l Z a0 hw ob yN1 ar2 rg N2 k1 F2 z2 T109.heap n0 BD2 hz2 hk1) hZ (hw _ (List.mem_of_getElem? (i := 29) rfl)) (hw _ (List.mem_of_getElem? (i := 2) rfl)) (by decide) (by decide)) q110a q110c (g := (mkF m 127 #[.val (.int p1), .val (.int p2), .val (.int p3), .val (.int p4), .val (.int p5), .val (.int yN1), .val (.int yN2), .val (.int yN3), .val (.ref ob), .val (.int (1 : Int32)), .unset] [(.int yN1), (.ref ob)])) rfl (by rw [hml]; rfl) (Steps.refl _) (argsL := [(.int yN1)]) (rest := []) (lenOf own_pd3 rfl) rfl (by show 2 * 0 + _ ≤ _; exact Nat.le_of_eq rfl) (hb hby at_127) (fun _ _ => ⟨rfl, rfl, (by decide : 8 + 0 ≤ _), (by decide : 233 + 0 ≤ _)⟩)
  dsimp only [Pt.U, Pt.locs, Pt.cells, Pt.slots] at X110 l110 y110 z110 st110 hQ110
  subst l110 y110 z110
  obtain ⟨rfl, N110q, e110⟩ := hQ110
  have N110 := Fr.app N109 N110q
  refine own_step (fun tt kont => st110.trans kont) ?_
  refine own_step (T' := T110) (f' := (mkF m 134 #[.val (.int p1), .val (.int p2), .val (.int p3), .val (.int p4), .val (.int p5), .val (.int yN1), .val (.int yN2), .val (.int yN3), .val (.ref ob), .val (.int (1 : Int32)), .unset] [(.int yN2), (.int yN1), (.int (own_get N2 F2 k1))])) (fun tt kont => ?_) ?_
  · show Steps p.tables e below (T110.setTop (mkF m 130 #[.val (.int p1), .val (.int p2), .val (.int p3), .val (.int p4), .val (.int p5), .val (.int yN1), .val (.int yN2), .val (.int yN3), .val (.ref ob), .val (.int (1 : Int32)), .unset] [(.int (own_get N2 F2 k1))])) _
    refine XS.iload X110.here hx rfl (hb hby at_130) rfl ?_
    show Steps p.tables e below (T110.setTop (mkF m 132 #[.val (.int p1), .val (.int p2), .val (.int p3), .val (.int p4), .val (.int p5), .val (.int yN1), .val (.int yN2), .val (.int yN3), .val (.ref ob), .val (.int (1 : Int32)), .unset] [(.int yN1), (.int (own_get N2 F2 k1))])) _
    refine XS.iload X110.here hx rfl (hb hby at_132) rfl ?_
    exact kont
  obtain ⟨v111, hv111, st112⟩ : ∃ (v111 : Int32), v111 = (if yN1 = yN2 then p5 else p4) ∧ ∀ t, Steps p.tables e below (T110.setTop (mkF m 143 #[.val (.int p1), .val (.int p2), .val (.int p3), .val (.int p4), .val (.int p5), .val (.int yN1), .val (.int yN2), .val (.int yN3), .val (.ref ob), .val (.int (1 : Int32)), .unset] [(.int v111), (.int (own_get N2 F2 k1))])) t → Steps p.tables e below (T110.setTop (mkF m 134 #[.val (.int p1), .val (.int p2), .val (.int p3), .val (.int p4), .val (.int p5), .val (.int yN1), .val (.int yN2), .val (.int yN3), .val (.ref ob), .val (.int (1 : Int32)), .unset] [(.int yN2), (.int yN1), (.int (own_get N2 F2 k1))])) t := by
    by_cases hc134_13 : yN1 = yN2
    · refine ⟨p5, (by simp only [if_pos hc134_13]), fun tt kont => ?_⟩
      show Steps p.tables e below (T110.setTop (mkF m 134 #[.val (.int p1), .val (.int p2), .val (.int p3), .val (.int p4), .val (.int p5), .val (.int yN1), .val (.int yN2), .val (.int yN3), .val (.ref ob), .val (.int (1 : Int32)), .unset] [(.int yN2), (.int yN1), (.int (own_get N2 F2 k1))])) _
      refine XS.icmpNo X110.here hx rfl (hb hby at_134) rfl (teq hc134_13).2 ?_
      show Steps p.tables e below (T110.setTop (mkF m 137 #[.val (.int p1), .val (.int p2), .val (.int p3), .val (.int p4), .val (.int p5), .val (.int yN1), .val (.int yN2), .val (.int yN3), .val (.ref ob), .val (.int (1 : Int32)), .unset] [(.int (own_get N2 F2 k1))])) _
      refine XS.iload X110.here hx rfl (hb hby at_137) rfl ?_
      show Steps p.tables e below (T110.setTop (mkF m 139 #[.val (.int p1), .val (.int p2), .val (.int p3), .val (.int p4), .val (.int p5), .val (.int yN1), .val (.int yN2), .val (.int yN3), .val (.ref ob), .val (.int (1 : Int32)), .unset] [(.int p5), (.int (own_get N2 F2 k1))])) _
      refine XS.goto X110.here hx rfl (pc0 := 139) (pc' := 143) rfl (hb hby at_139) (by decide) (by decide) ?_
      exact kont
    · refine ⟨p4, (by simp only [if_neg hc134_13]), fun tt kont => ?_⟩
      show Steps p.tables e below (T110.setTop (mkF m 134 #[.val (.int p1), .val (.int p2), .val (.int p3), .val (.int p4), .val (.int p5), .val (.int yN1), .val (.int yN2), .val (.int yN3), .val (.ref ob), .val (.int (1 : Int32)), .unset] [(.int yN2), (.int yN1), (.int (own_get N2 F2 k1))])) _
      refine XS.icmpYes X110.here hx rfl (pc0 := 134) (pc' := 142) rfl (hb hby at_134) rfl (feq hc134_13).2 (by decide) (by decide) ?_
      show Steps p.tables e below (T110.setTop (mkF m 142 #[.val (.int p1), .val (.int p2), .val (.int p3), .val (.int p4), .val (.int p5), .val (.int yN1), .val (.int yN2), .val (.int yN3), .val (.ref ob), .val (.int (1 : Int32)), .unset] [(.int (own_get N2 F2 k1))])) _
      refine XS.iloadN X110.here hx rfl (hb hby at_142) rfl ?_
      exact kont
  refine own_step st112 ?_
  have hD : (own_get N2 F2 k1) = v111 := own_D G1 G2 hk1 hk2 hv111
  refine own_step (T' := T110) (f' := (mkF m 162 #[.val (.int p1), .val (.int p2), .val (.int p3), .val (.int p4), .val (.int p5), .val (.int yN1), .val (.int yN2), .val (.int yN3), .val (.ref ob), .val (.int (1 : Int32)), .unset] [(.int yN2), (.ref ob)])) (fun tt kont => ?_) ?_
  · show Steps p.tables e below (T110.setTop (mkF m 143 #[.val (.int p1), .val (.int p2), .val (.int p3), .val (.int p4), .val (.int p5), .val (.int yN1), .val (.int yN2), .val (.int yN3), .val (.ref ob), .val (.int (1 : Int32)), .unset] [(.int v111), (.int (own_get N2 F2 k1))])) _
    refine XS.icmpNo X110.here hx rfl (hb hby at_143) rfl (teq hD).2 ?_
    show Steps p.tables e below (T110.setTop (mkF m 146 #[.val (.int p1), .val (.int p2), .val (.int p3), .val (.int p4), .val (.int p5), .val (.int yN1), .val (.int yN2), .val (.int yN3), .val (.ref ob), .val (.int (1 : Int32)), .unset] [])) _
    refine XS.iconst X110.here hx rfl (hb hby at_146) ?_
    show Steps p.tables e below (T110.setTop (mkF m 147 #[.val (.int p1), .val (.int p2), .val (.int p3), .val (.int p4), .val (.int p5), .val (.int yN1), .val (.int yN2), .val (.int yN3), .val (.ref ob), .val (.int (1 : Int32)), .unset] [(.int (1 : Int32))])) _
    refine XS.goto X110.here hx rfl (pc0 := 147) (pc' := 151) rfl (hb hby at_147) (by decide) (by decide) ?_
    show Steps p.tables e below (T110.setTop (mkF m 151 #[.val (.int p1), .val (.int p2), .val (.int p3), .val (.int p4), .val (.int p5), .val (.int yN1), .val (.int yN2), .val (.int yN3), .val (.ref ob), .val (.int (1 : Int32)), .unset] [(.int (1 : Int32))])) _
    refine XS.istore X110.here hx rfl (hb hby at_151) rfl (l' := #[.val (.int p1), .val (.int p2), .val (.int p3), .val (.int p4), .val (.int p5), .val (.int yN1), .val (.int yN2), .val (.int yN3), .val (.ref ob), .val (.int (1 : Int32)), .unset]) rfl ?_
    show Steps p.tables e below (T110.setTop (mkF m 153 #[.val (.int p1), .val (.int p2), .val (.int p3), .val (.int p4), .val (.int p5), .val (.int yN1), .val (.int yN2), .val (.int yN3), .val (.ref ob), .val (.int (1 : Int32)), .unset] [])) _
    refine XS.iload X110.here hx rfl (hb hby at_153) rfl ?_
    show Steps p.tables e below (T110.setTop (mkF m 155 #[.val (.int p1), .val (.int p2), .val (.int p3), .val (.int p4), .val (.int p5), .val (.int yN1), .val (.int yN2), .val (.int yN3), .val (.ref ob), .val (.int (1 : Int32)), .unset] [(.int (1 : Int32))])) _
    refine XS.ifNo X110.here hx rfl (hb hby at_155) rfl ((if0 _ _).trans (feq (by decide : ¬ ((1 : Int32) = (0 : Int32)))).1) ?_
    show Steps p.tables e below (T110.setTop (mkF m 158 #[.val (.int p1), .val (.int p2), .val (.int p3), .val (.int p4), .val (.int p5), .val (.int yN1), .val (.int yN2), .val (.int yN3), .val (.ref ob), .val (.int (1 : Int32)), .unset] [])) _
    refine XS.aload X110.here hx rfl (hb hby at_158) rfl rfl ?_
    show Steps p.tables e below (T110.setTop (mkF m 160 #[.val (.int p1), .val (.int p2), .val (.int p3), .val (.int p4), .val (.int p5), .val (.int yN1), .val (.int yN2), .val (.int yN3), .val (.ref ob), .val (.int (1 : Int32)), .unset] [(.ref ob)])) _
    refine XS.iload X110.here hx rfl (hb hby at_160) rfl ?_
    exact kont
  obtain ⟨cq113, kq113, q113a, q113b, q113c⟩ := isOf hZ e110 BD2.1
  obtain ⟨_, _, ⟨T113, L113, k113, n113⟩, -, X113, ⟨Lc113, hQ113, l113, y113, z113⟩, st113⟩ := X110.virtualBack hx (y := (⟨"com/example/crossquote/crossquote/BidIndex", "slot", "(I)I"⟩ : MethodName)) (z := (⟨"com/example/crossquote/crossquote/BidIndex", "slot", "(I)I"⟩ : MethodName)) hown (mvT hZ (hw _ (List.mem_of_getElem? (i := 25) rfl))) (mvT hZ (hw _ (List.mem_of_getElem? (i := 26) rfl))) (notFace_of_selects (args := #[]) (mvT hZ (hw _ (List.mem_of_getElem? (i := 28) rfl)))) (mvT hZ (hw _ (List.mem_of_getElem? (i := 28) rfl))) (mvT hZ (hw _ (List.mem_of_getElem? (i := 27) rfl))) (by decide) (backOf (W := 0) (own_rm3 l Z a0 hw ob yN2 ar2 rg N2 k2 F2 z2 T109.heap n0 BD2 hz2 hk2) hZ (hw _ (List.mem_of_getElem? (i := 29) rfl)) (hw _ (List.mem_of_getElem? (i := 2) rfl)) (by decide) (by decide)) q113a q113c (g := (mkF m 162 #[.val (.int p1), .val (.int p2), .val (.int p3), .val (.int p4), .val (.int p5), .val (.int yN1), .val (.int yN2), .val (.int yN3), .val (.ref ob), .val (.int (1 : Int32)), .unset] [(.int yN2), (.ref ob)])) rfl (by rw [hml]; rfl) (Steps.refl _) (argsL := [(.int yN2)]) (rest := []) (lenOf own_pd3 rfl) rfl (by show 2 * 0 + _ ≤ _; exact Nat.le_of_eq rfl) (hb hby at_162) (fun _ _ => ⟨rfl, e110, (by decide : 8 + 0 ≤ _), (by decide : 233 + 0 ≤ _)⟩)
  dsimp only [Pt.U, Pt.locs, Pt.cells, Pt.slots] at X113 l113 y113 z113 st113 hQ113
  subst l113 y113 z113
  obtain ⟨rfl, N113q, e113⟩ := hQ113
  have N113 := Fr.app N110 N113q
  refine own_step (fun tt kont => st113.trans kont) ?_
  refine own_step (T' := T113) (f' := (mkF m 167 #[.val (.int p1), .val (.int p2), .val (.int p3), .val (.int p4), .val (.int p5), .val (.int yN1), .val (.int yN2), .val (.int yN3), .val (.ref ob), .val (.int (1 : Int32)), .unset] [(.int p5), (.int (own_get N2 F2 k2))])) (fun tt kont => ?_) ?_
  · show Steps p.tables e below (T113.setTop (mkF m 165 #[.val (.int p1), .val (.int p2), .val (.int p3), .val (.int p4), .val (.int p5), .val (.int yN1), .val (.int yN2), .val (.int yN3), .val (.ref ob), .val (.int (1 : Int32)), .unset] [(.int (own_get N2 F2 k2))])) _
    refine XS.iload X113.here hx rfl (hb hby at_165) rfl ?_
    exact kont
  have hE : (own_get N2 F2 k2) = p5 := own_B G2
  refine own_step (T' := T113) (f' := (mkF m 181 #[.val (.int p1), .val (.int p2), .val (.int p3), .val (.int p4), .val (.int p5), .val (.int yN1), .val (.int yN2), .val (.int yN3), .val (.ref ob), .val (.int (1 : Int32)), .unset] [(.int yN2), (.int yN3)])) (fun tt kont => ?_) ?_
  · show Steps p.tables e below (T113.setTop (mkF m 167 #[.val (.int p1), .val (.int p2), .val (.int p3), .val (.int p4), .val (.int p5), .val (.int yN1), .val (.int yN2), .val (.int yN3), .val (.ref ob), .val (.int (1 : Int32)), .unset] [(.int p5), (.int (own_get N2 F2 k2))])) _
    refine XS.icmpNo X113.here hx rfl (hb hby at_167) rfl (teq hE).2 ?_
    show Steps p.tables e below (T113.setTop (mkF m 170 #[.val (.int p1), .val (.int p2), .val (.int p3), .val (.int p4), .val (.int p5), .val (.int yN1), .val (.int yN2), .val (.int yN3), .val (.ref ob), .val (.int (1 : Int32)), .unset] [])) _
    refine XS.iconst X113.here hx rfl (hb hby at_170) ?_
    show Steps p.tables e below (T113.setTop (mkF m 171 #[.val (.int p1), .val (.int p2), .val (.int p3), .val (.int p4), .val (.int p5), .val (.int yN1), .val (.int yN2), .val (.int yN3), .val (.ref ob), .val (.int (1 : Int32)), .unset] [(.int (1 : Int32))])) _
    refine XS.goto X113.here hx rfl (pc0 := 171) (pc' := 175) rfl (hb hby at_171) (by decide) (by decide) ?_
    show Steps p.tables e below (T113.setTop (mkF m 175 #[.val (.int p1), .val (.int p2), .val (.int p3), .val (.int p4), .val (.int p5), .val (.int yN1), .val (.int yN2), .val (.int yN3), .val (.ref ob), .val (.int (1 : Int32)), .unset] [(.int (1 : Int32))])) _
    refine XS.istore X113.here hx rfl (hb hby at_175) rfl (l' := #[.val (.int p1), .val (.int p2), .val (.int p3), .val (.int p4), .val (.int p5), .val (.int yN1), .val (.int yN2), .val (.int yN3), .val (.ref ob), .val (.int (1 : Int32)), .unset]) rfl ?_
    show Steps p.tables e below (T113.setTop (mkF m 177 #[.val (.int p1), .val (.int p2), .val (.int p3), .val (.int p4), .val (.int p5), .val (.int yN1), .val (.int yN2), .val (.int yN3), .val (.ref ob), .val (.int (1 : Int32)), .unset] [])) _
    refine XS.iload X113.here hx rfl (hb hby at_177) rfl ?_
    show Steps p.tables e below (T113.setTop (mkF m 179 #[.val (.int p1), .val (.int p2), .val (.int p3), .val (.int p4), .val (.int p5), .val (.int yN1), .val (.int yN2), .val (.int yN3), .val (.ref ob), .val (.int (1 : Int32)), .unset] [(.int yN3)])) _
    refine XS.iload X113.here hx rfl (hb hby at_179) rfl ?_
    exact kont
  obtain ⟨v114, hv114, st115⟩ : ∃ (v114 : Int32), v114 = (if yN3 = yN2 then p5 else (if yN3 = yN1 then p4 else (0 : Int32))) ∧ ∀ t, Steps p.tables e below (T113.setTop (mkF m 207 #[.val (.int p1), .val (.int p2), .val (.int p3), .val (.int p4), .val (.int p5), .val (.int yN1), .val (.int yN2), .val (.int yN3), .val (.ref ob), .val (.int (1 : Int32)), .val (.int v114)] [])) t → Steps p.tables e below (T113.setTop (mkF m 181 #[.val (.int p1), .val (.int p2), .val (.int p3), .val (.int p4), .val (.int p5), .val (.int yN1), .val (.int yN2), .val (.int yN3), .val (.ref ob), .val (.int (1 : Int32)), .unset] [(.int yN2), (.int yN3)])) t := by
    by_cases hc181_19 : yN3 = yN2
    · refine ⟨p5, (by simp only [if_pos hc181_19]), fun tt kont => ?_⟩
      show Steps p.tables e below (T113.setTop (mkF m 181 #[.val (.int p1), .val (.int p2), .val (.int p3), .val (.int p4), .val (.int p5), .val (.int yN1), .val (.int yN2), .val (.int yN3), .val (.ref ob), .val (.int (1 : Int32)), .unset] [(.int yN2), (.int yN3)])) _
      refine XS.icmpNo X113.here hx rfl (hb hby at_181) rfl (teq hc181_19).2 ?_
      show Steps p.tables e below (T113.setTop (mkF m 184 #[.val (.int p1), .val (.int p2), .val (.int p3), .val (.int p4), .val (.int p5), .val (.int yN1), .val (.int yN2), .val (.int yN3), .val (.ref ob), .val (.int (1 : Int32)), .unset] [])) _
      refine XS.iload X113.here hx rfl (hb hby at_184) rfl ?_
      show Steps p.tables e below (T113.setTop (mkF m 186 #[.val (.int p1), .val (.int p2), .val (.int p3), .val (.int p4), .val (.int p5), .val (.int yN1), .val (.int yN2), .val (.int yN3), .val (.ref ob), .val (.int (1 : Int32)), .unset] [(.int p5)])) _
      refine XS.istore X113.here hx rfl (hb hby at_186) rfl (l' := #[.val (.int p1), .val (.int p2), .val (.int p3), .val (.int p4), .val (.int p5), .val (.int yN1), .val (.int yN2), .val (.int yN3), .val (.ref ob), .val (.int (1 : Int32)), .val (.int p5)]) rfl ?_
      show Steps p.tables e below (T113.setTop (mkF m 188 #[.val (.int p1), .val (.int p2), .val (.int p3), .val (.int p4), .val (.int p5), .val (.int yN1), .val (.int yN2), .val (.int yN3), .val (.ref ob), .val (.int (1 : Int32)), .val (.int p5)] [])) _
      refine XS.goto X113.here hx rfl (pc0 := 188) (pc' := 207) rfl (hb hby at_188) (by decide) (by decide) ?_
      exact kont
    · by_cases hc195_20 : yN3 = yN1
      · refine ⟨p4, (by simp only [if_neg hc181_19, if_pos hc195_20]), fun tt kont => ?_⟩
        show Steps p.tables e below (T113.setTop (mkF m 181 #[.val (.int p1), .val (.int p2), .val (.int p3), .val (.int p4), .val (.int p5), .val (.int yN1), .val (.int yN2), .val (.int yN3), .val (.ref ob), .val (.int (1 : Int32)), .unset] [(.int yN2), (.int yN3)])) _
        refine XS.icmpYes X113.here hx rfl (pc0 := 181) (pc' := 191) rfl (hb hby at_181) rfl (feq hc181_19).2 (by decide) (by decide) ?_
        show Steps p.tables e below (T113.setTop (mkF m 191 #[.val (.int p1), .val (.int p2), .val (.int p3), .val (.int p4), .val (.int p5), .val (.int yN1), .val (.int yN2), .val (.int yN3), .val (.ref ob), .val (.int (1 : Int32)), .unset] [])) _
        refine XS.iload X113.here hx rfl (hb hby at_191) rfl ?_
        show Steps p.tables e below (T113.setTop (mkF m 193 #[.val (.int p1), .val (.int p2), .val (.int p3), .val (.int p4), .val (.int p5), .val (.int yN1), .val (.int yN2), .val (.int yN3), .val (.ref ob), .val (.int (1 : Int32)), .unset] [(.int yN3)])) _
        refine XS.iload X113.here hx rfl (hb hby at_193) rfl ?_
        show Steps p.tables e below (T113.setTop (mkF m 195 #[.val (.int p1), .val (.int p2), .val (.int p3), .val (.int p4), .val (.int p5), .val (.int yN1), .val (.int yN2), .val (.int yN3), .val (.ref ob), .val (.int (1 : Int32)), .unset] [(.int yN1), (.int yN3)])) _
        refine XS.icmpNo X113.here hx rfl (hb hby at_195) rfl (teq hc195_20).2 ?_
        show Steps p.tables e below (T113.setTop (mkF m 198 #[.val (.int p1), .val (.int p2), .val (.int p3), .val (.int p4), .val (.int p5), .val (.int yN1), .val (.int yN2), .val (.int yN3), .val (.ref ob), .val (.int (1 : Int32)), .unset] [])) _
        refine XS.iloadN X113.here hx rfl (hb hby at_198) rfl ?_
        show Steps p.tables e below (T113.setTop (mkF m 199 #[.val (.int p1), .val (.int p2), .val (.int p3), .val (.int p4), .val (.int p5), .val (.int yN1), .val (.int yN2), .val (.int yN3), .val (.ref ob), .val (.int (1 : Int32)), .unset] [(.int p4)])) _
        refine XS.istore X113.here hx rfl (hb hby at_199) rfl (l' := #[.val (.int p1), .val (.int p2), .val (.int p3), .val (.int p4), .val (.int p5), .val (.int yN1), .val (.int yN2), .val (.int yN3), .val (.ref ob), .val (.int (1 : Int32)), .val (.int p4)]) rfl ?_
        show Steps p.tables e below (T113.setTop (mkF m 201 #[.val (.int p1), .val (.int p2), .val (.int p3), .val (.int p4), .val (.int p5), .val (.int yN1), .val (.int yN2), .val (.int yN3), .val (.ref ob), .val (.int (1 : Int32)), .val (.int p4)] [])) _
        refine XS.goto X113.here hx rfl (pc0 := 201) (pc' := 207) rfl (hb hby at_201) (by decide) (by decide) ?_
        exact kont
      · refine ⟨(0 : Int32), (by simp only [if_neg hc181_19, if_neg hc195_20]), fun tt kont => ?_⟩
        show Steps p.tables e below (T113.setTop (mkF m 181 #[.val (.int p1), .val (.int p2), .val (.int p3), .val (.int p4), .val (.int p5), .val (.int yN1), .val (.int yN2), .val (.int yN3), .val (.ref ob), .val (.int (1 : Int32)), .unset] [(.int yN2), (.int yN3)])) _
        refine XS.icmpYes X113.here hx rfl (pc0 := 181) (pc' := 191) rfl (hb hby at_181) rfl (feq hc181_19).2 (by decide) (by decide) ?_
        show Steps p.tables e below (T113.setTop (mkF m 191 #[.val (.int p1), .val (.int p2), .val (.int p3), .val (.int p4), .val (.int p5), .val (.int yN1), .val (.int yN2), .val (.int yN3), .val (.ref ob), .val (.int (1 : Int32)), .unset] [])) _
        refine XS.iload X113.here hx rfl (hb hby at_191) rfl ?_
        show Steps p.tables e below (T113.setTop (mkF m 193 #[.val (.int p1), .val (.int p2), .val (.int p3), .val (.int p4), .val (.int p5), .val (.int yN1), .val (.int yN2), .val (.int yN3), .val (.ref ob), .val (.int (1 : Int32)), .unset] [(.int yN3)])) _
        refine XS.iload X113.here hx rfl (hb hby at_193) rfl ?_
        show Steps p.tables e below (T113.setTop (mkF m 195 #[.val (.int p1), .val (.int p2), .val (.int p3), .val (.int p4), .val (.int p5), .val (.int yN1), .val (.int yN2), .val (.int yN3), .val (.ref ob), .val (.int (1 : Int32)), .unset] [(.int yN1), (.int yN3)])) _
        refine XS.icmpYes X113.here hx rfl (pc0 := 195) (pc' := 204) rfl (hb hby at_195) rfl (feq hc195_20).2 (by decide) (by decide) ?_
        show Steps p.tables e below (T113.setTop (mkF m 204 #[.val (.int p1), .val (.int p2), .val (.int p3), .val (.int p4), .val (.int p5), .val (.int yN1), .val (.int yN2), .val (.int yN3), .val (.ref ob), .val (.int (1 : Int32)), .unset] [])) _
        refine XS.iconst X113.here hx rfl (hb hby at_204) ?_
        show Steps p.tables e below (T113.setTop (mkF m 205 #[.val (.int p1), .val (.int p2), .val (.int p3), .val (.int p4), .val (.int p5), .val (.int yN1), .val (.int yN2), .val (.int yN3), .val (.ref ob), .val (.int (1 : Int32)), .unset] [(.int (0 : Int32))])) _
        refine XS.istore X113.here hx rfl (hb hby at_205) rfl (l' := #[.val (.int p1), .val (.int p2), .val (.int p3), .val (.int p4), .val (.int p5), .val (.int yN1), .val (.int yN2), .val (.int yN3), .val (.ref ob), .val (.int (1 : Int32)), .val (.int (0 : Int32))]) rfl ?_
        exact kont
  refine own_step st115 ?_
  refine own_step (T' := T113) (f' := (mkF m 216 #[.val (.int p1), .val (.int p2), .val (.int p3), .val (.int p4), .val (.int p5), .val (.int yN1), .val (.int yN2), .val (.int yN3), .val (.ref ob), .val (.int (1 : Int32)), .val (.int v114)] [(.int yN3), (.ref ob)])) (fun tt kont => ?_) ?_
  · show Steps p.tables e below (T113.setTop (mkF m 207 #[.val (.int p1), .val (.int p2), .val (.int p3), .val (.int p4), .val (.int p5), .val (.int yN1), .val (.int yN2), .val (.int yN3), .val (.ref ob), .val (.int (1 : Int32)), .val (.int v114)] [])) _
    refine XS.iload X113.here hx rfl (hb hby at_207) rfl ?_
    show Steps p.tables e below (T113.setTop (mkF m 209 #[.val (.int p1), .val (.int p2), .val (.int p3), .val (.int p4), .val (.int p5), .val (.int yN1), .val (.int yN2), .val (.int yN3), .val (.ref ob), .val (.int (1 : Int32)), .val (.int v114)] [(.int (1 : Int32))])) _
    refine XS.ifNo X113.here hx rfl (hb hby at_209) rfl ((if0 _ _).trans (feq (by decide : ¬ ((1 : Int32) = (0 : Int32)))).1) ?_
    show Steps p.tables e below (T113.setTop (mkF m 212 #[.val (.int p1), .val (.int p2), .val (.int p3), .val (.int p4), .val (.int p5), .val (.int yN1), .val (.int yN2), .val (.int yN3), .val (.ref ob), .val (.int (1 : Int32)), .val (.int v114)] [])) _
    refine XS.aload X113.here hx rfl (hb hby at_212) rfl rfl ?_
    show Steps p.tables e below (T113.setTop (mkF m 214 #[.val (.int p1), .val (.int p2), .val (.int p3), .val (.int p4), .val (.int p5), .val (.int yN1), .val (.int yN2), .val (.int yN3), .val (.ref ob), .val (.int (1 : Int32)), .val (.int v114)] [(.ref ob)])) _
    refine XS.iload X113.here hx rfl (hb hby at_214) rfl ?_
    exact kont
  obtain ⟨cq116, kq116, q116a, q116b, q116c⟩ := isOf hZ e113 BD2.1
  obtain ⟨_, _, ⟨T116, L116, k116, n116⟩, -, X116, ⟨Lc116, hQ116, l116, y116, z116⟩, st116⟩ := X113.virtualBack hx (y := (⟨"com/example/crossquote/crossquote/BidIndex", "slot", "(I)I"⟩ : MethodName)) (z := (⟨"com/example/crossquote/crossquote/BidIndex", "slot", "(I)I"⟩ : MethodName)) hown (mvT hZ (hw _ (List.mem_of_getElem? (i := 25) rfl))) (mvT hZ (hw _ (List.mem_of_getElem? (i := 26) rfl))) (notFace_of_selects (args := #[]) (mvT hZ (hw _ (List.mem_of_getElem? (i := 28) rfl)))) (mvT hZ (hw _ (List.mem_of_getElem? (i := 28) rfl))) (mvT hZ (hw _ (List.mem_of_getElem? (i := 27) rfl))) (by decide) (backOf (W := 0) (own_rm3 l Z a0 hw ob yN3 ar2 rg N2 k3 F2 z2 T109.heap n0 BD2 hz2 hk3) hZ (hw _ (List.mem_of_getElem? (i := 29) rfl)) (hw _ (List.mem_of_getElem? (i := 2) rfl)) (by decide) (by decide)) q116a q116c (g := (mkF m 216 #[.val (.int p1), .val (.int p2), .val (.int p3), .val (.int p4), .val (.int p5), .val (.int yN1), .val (.int yN2), .val (.int yN3), .val (.ref ob), .val (.int (1 : Int32)), .val (.int v114)] [(.int yN3), (.ref ob)])) rfl (by rw [hml]; rfl) (Steps.refl _) (argsL := [(.int yN3)]) (rest := []) (lenOf own_pd3 rfl) rfl (by show 2 * 0 + _ ≤ _; exact Nat.le_of_eq rfl) (hb hby at_216) (fun _ _ => ⟨rfl, e113, (by decide : 8 + 0 ≤ _), (by decide : 233 + 0 ≤ _)⟩)
  dsimp only [Pt.U, Pt.locs, Pt.cells, Pt.slots] at X116 l116 y116 z116 st116 hQ116
  subst l116 y116 z116
  obtain ⟨rfl, N116q, e116⟩ := hQ116
  have N116 := Fr.app N113 N116q
  refine own_step (fun tt kont => st116.trans kont) ?_
  refine own_step (T' := T116) (f' := (mkF m 221 #[.val (.int p1), .val (.int p2), .val (.int p3), .val (.int p4), .val (.int p5), .val (.int yN1), .val (.int yN2), .val (.int yN3), .val (.ref ob), .val (.int (1 : Int32)), .val (.int v114)] [(.int v114), (.int (own_get N2 F2 k3))])) (fun tt kont => ?_) ?_
  · show Steps p.tables e below (T116.setTop (mkF m 219 #[.val (.int p1), .val (.int p2), .val (.int p3), .val (.int p4), .val (.int p5), .val (.int yN1), .val (.int yN2), .val (.int yN3), .val (.ref ob), .val (.int (1 : Int32)), .val (.int v114)] [(.int (own_get N2 F2 k3))])) _
    refine XS.iload X116.here hx rfl (hb hby at_219) rfl ?_
    exact kont
  have hFf : (own_get N2 F2 k3) = v114 := own_E G1 G2 hk1 hk2 hk3 hv114
  refine own_step (T' := T116) (f' := (mkF m 233 #[.val (.int p1), .val (.int p2), .val (.int p3), .val (.int p4), .val (.int p5), .val (.int yN1), .val (.int yN2), .val (.int yN3), .val (.ref ob), .val (.int (1 : Int32)), .val (.int v114)] [(.int (1 : Int32))])) (fun tt kont => ?_) ?_
  · show Steps p.tables e below (T116.setTop (mkF m 221 #[.val (.int p1), .val (.int p2), .val (.int p3), .val (.int p4), .val (.int p5), .val (.int yN1), .val (.int yN2), .val (.int yN3), .val (.ref ob), .val (.int (1 : Int32)), .val (.int v114)] [(.int v114), (.int (own_get N2 F2 k3))])) _
    refine XS.icmpNo X116.here hx rfl (hb hby at_221) rfl (teq hFf).2 ?_
    show Steps p.tables e below (T116.setTop (mkF m 224 #[.val (.int p1), .val (.int p2), .val (.int p3), .val (.int p4), .val (.int p5), .val (.int yN1), .val (.int yN2), .val (.int yN3), .val (.ref ob), .val (.int (1 : Int32)), .val (.int v114)] [])) _
    refine XS.iconst X116.here hx rfl (hb hby at_224) ?_
    show Steps p.tables e below (T116.setTop (mkF m 225 #[.val (.int p1), .val (.int p2), .val (.int p3), .val (.int p4), .val (.int p5), .val (.int yN1), .val (.int yN2), .val (.int yN3), .val (.ref ob), .val (.int (1 : Int32)), .val (.int v114)] [(.int (1 : Int32))])) _
    refine XS.goto X116.here hx rfl (pc0 := 225) (pc' := 229) rfl (hb hby at_225) (by decide) (by decide) ?_
    show Steps p.tables e below (T116.setTop (mkF m 229 #[.val (.int p1), .val (.int p2), .val (.int p3), .val (.int p4), .val (.int p5), .val (.int yN1), .val (.int yN2), .val (.int yN3), .val (.ref ob), .val (.int (1 : Int32)), .val (.int v114)] [(.int (1 : Int32))])) _
    refine XS.istore X116.here hx rfl (hb hby at_229) rfl (l' := #[.val (.int p1), .val (.int p2), .val (.int p3), .val (.int p4), .val (.int p5), .val (.int yN1), .val (.int yN2), .val (.int yN3), .val (.ref ob), .val (.int (1 : Int32)), .val (.int v114)]) rfl ?_
    show Steps p.tables e below (T116.setTop (mkF m 231 #[.val (.int p1), .val (.int p2), .val (.int p3), .val (.int p4), .val (.int p5), .val (.int yN1), .val (.int yN2), .val (.int yN3), .val (.ref ob), .val (.int (1 : Int32)), .val (.int v114)] [])) _
    refine XS.iload X116.here hx rfl (hb hby at_231) rfl ?_
    exact kont
  exact own_retZ X116 hx hret hlk (hb hby at_233) (by decide) (by decide) ⟨rfl, N116⟩
set_option maxRecDepth 65536 in
set_option maxHeartbeats 40000000 in
theorem comes_1 {Post : Tables → Env → Array Value → State → Outcome → State → Prop} (hpost : ∀ tb e args s v u, (limb_1_1.after args s (.returned v) u = true ∧ limb_1_2.after args s (.returned v) u = true ∧ True) → FrameEnd s (.returned v) u (Jvm.fieldLocs frame_1_writes args s ++ Jvm.arrayLocs frame_1_arrays args s ++ Jvm.staticLocs frame_1_statics s) 24 576 → Post tb e args s (.returned v) u) :
    ArmFor flags0 classFile x code maxLocals ret World_1 tables_1 room_1 Calls_1 rest_1 Pre_1 Post := by
  intro l hfl _ _ p e ha hc hk s m args below hf hA hF happ hP
  obtain ⟨hcalls, hrest, hpre⟩ := hP
  obtain ⟨-, -, -, hnamed, -, -, -, hat⟩ := (Spec.applies_iff hf).mp happ
  obtain ⟨hg, hn⟩ := and_e (Cond.before_iff.mp (show (Jvm.Cond.and given_1 narrow_1).before args s = true from hpre))
  obtain ⟨g1, g2⟩ := and_e hg
  obtain ⟨ga0, gb0⟩ := and_e g2
  obtain ⟨ga1, gb1⟩ := and_e gb0
  obtain ⟨ga2, gb2⟩ := and_e gb1
  obtain ⟨ga3, gb3⟩ := and_e gb2
  obtain ⟨w0, w1, w2, w3, w4, rfl⟩ : ∃ w0 w1 w2 w3 w4 : Value, args = #[w0, w1, w2, w3, w4] := by
    have hs : args.size = 5 := by simpa [Cond.value, given_1] using g1
    obtain ⟨L⟩ := args
    match L, hs with
    | [w0, w1, w2, w3, w4], _ => exact ⟨w0, w1, w2, w3, w4, rfl⟩
  have hw := fun d (hd : d ∈ tables_1) => atoms_spec (ws := Jvm.Cond.code x code maxLocals ret :: tables_1) hat d (List.mem_cons_of_mem _ hd)
  obtain ⟨i0, ei0⟩ := is_v ga0
  obtain rfl : w0 = (.int i0) := Option.some.inj ei0
  obtain ⟨i1, ei1⟩ := is_v ga1
  obtain rfl : w1 = (.int i1) := Option.some.inj ei1
  obtain ⟨i2, ei2⟩ := is_v ga2
  obtain rfl : w2 = (.int i2) := Option.some.inj ei2
  obtain ⟨i3, ei3⟩ := is_v ga3
  obtain rfl : w3 = (.int i3) := Option.some.inj ei3
  obtain ⟨i4, ei4⟩ := is_v gb3
  obtain rfl : w4 = (.int i4) := Option.some.inj ei4
  obtain ⟨n, o, h1, h2, h3, _, L, rfl, ⟨rfl, N⟩, hq⟩ := own_rm0 l s _ hw tables_1 i0 i1 i2 i3 i4 s.heap s.heap.size (Nat.le_refl _) p e ha hc hk s m _ below hf ((Spec.applies_iff_loose hf).mp happ).1 ⟨rfl, State.Warmed39.refl s, rfl⟩ trivial
  refine ⟨n, _, h1, h2, h3, hpost _ _ _ _ _ _ ⟨Cond.after_iff.mpr rfl, Cond.after_iff.mpr (eq_i res_at (Term.int_eval (1)) rfl), trivial⟩ ⟨hq.1, hq.2.1, (hq.2.2.sift fun y hy => Or.inr (N y hy)).mono (by decide) (by decide)⟩⟩
theorem main_1_1 : Claimed_1_1 := comes_1 fun _ _ _ _ _ _ h hF => ⟨h.1, hF⟩
theorem main_1_2 : Claimed_1_2 := comes_1 fun _ _ _ _ _ _ h hF => ⟨h.2.1, hF⟩
end Jvm.Pilot.@@N@@
namespace Jvm.Pilot.@@N@@
open Jvm Jvm.ClassFile Sem Op Lib Jvm.Free Jvm.Stand Jvm.Pilot.@@N@@.Jvm.D
/-! MADE BY PROGRAM (witnessworld.py) out of the Statement's table words and the real class files: 16 classes; the members and pool entries that the words name. The judged class is class 1, her method 1. -/
namespace start1
open Jvm.ClassFile
def u (s : String) : CpInfo := .utf8 (stringToUtf16 s)
/-- a pool by its gaps: so many unusable entries, then the entry; so many at the end -/
def gap : Nat → List CpInfo → List CpInfo
  | 0, r => r
  | n + 1, r => .unusable :: gap n r
def poolList (es : List (Nat × CpInfo)) (last : Nat) : List CpInfo := es.foldr (fun e r => gap e.1 (e.2 :: r)) (gap last [])
def pool (es : List (Nat × CpInfo)) (last : Nat) : Array CpInfo := ⟨poolList es last⟩
def fileOf (pool : Array CpInfo) (this : Nat) (attrs : Array Attribute := #[]) (ms : Array MethodInfo := #[]) (fl : Nat := 33) (sup : Nat := 0) (ifs : Array Nat := #[]) (fds : Array FieldInfo := #[]) : ClassFile where
  minorVersion := 0
  majorVersion := 65
  constantPool := pool
  accessFlags := fl
  thisClass := this
  superClass := sup
  interfaces := ifs
  fields := fds
  methods := ms
  attributes := attrs
def plain (name : String) (sup : Option ClassId) : Class where
  name := name
  kind := .ordinary
  loader := none
  accessFlags := 33
  super := sup
  interfaces := #[]
  cf := none
  fields := #[]
  methods := #[]
  instanceTypes := #[]
  staticTypes := #[]
  resolved := #[]
  callSites := []
  init := .initialized
  statics := none
  mirror := none

def pool0 : Array CpInfo := pool [(5, u "<init>"), (0, u "()V"), (1, .class_ 10), (1, u "java/lang/Object")] 113

def k0c0 : Code := { maxStack := 0, maxLocals := 1, code := object_method_1_code, exceptionTable := #[], attributes := #[] }
def k0m0 : Method := { name := "<init>", desc := "()V", sig := { parameters := [], returnType := none }, accessFlags := 1, code := some k0c0 }
/-- java/lang/Object -/
def k0 : Class := { plain "java/lang/Object" none with
  accessFlags := 33
  interfaces := #[]
  cf := some (fileOf pool0 8 #[] #[{ accessFlags := 1, nameIndex := 5, descriptorIndex := 6, attributes := #[] }] 33 0 #[] #[])
  fields := #[]
  methods := #[k0m0]
  instanceTypes := #[]
  staticTypes := #[]
  resolved := Array.replicate 124 none
  statics := none }

def pool1 : Array CpInfo := pool [(2, .class_ 4), (0, .nameAndType 5 6), (0, u "java/lang/Object"), (0, u "<init>"), (0, u "()V"), (0, .class_ 8), (0, u "com/example/crossquote/crossquote/BidIndex"), (0, .methodref 7 3), (0, .methodref 7 11), (0, .nameAndType 12 13), (0, u "slot"), (0, u "(I)I"), (0, .methodref 7 15), (0, .nameAndType 16 17), (0, u "setSlot"), (0, u "(II)V"), (0, .class_ 19), (0, u "com/example/crossquote/crossquote/BidIndexSlotPinLaw"), (2, u "law"), (0, u "(IIIII)Z")] 3

def k1m0 : Method := { name := "<init>", desc := "()V", sig := { parameters := [], returnType := none }, accessFlags := 2, code := none }
def k1c1 : Code := { maxStack := 3, maxLocals := 11, code := code, exceptionTable := #[], attributes := #[] }
def k1m1 : Method := { name := "law", desc := "(IIIII)Z", sig := { parameters := [.int, .int, .int, .int, .int], returnType := some .boolean }, accessFlags := 9, code := some k1c1 }
/-- com/example/crossquote/crossquote/BidIndexSlotPinLaw -/
def k1 : Class := { plain "com/example/crossquote/crossquote/BidIndexSlotPinLaw" (some 0) with
  accessFlags := 49
  interfaces := #[]
  cf := some (fileOf pool1 18 #[] #[{ accessFlags := 2, nameIndex := 5, descriptorIndex := 6, attributes := #[] }, { accessFlags := 9, nameIndex := 22, descriptorIndex := 23, attributes := #[] }] 49 2 #[] #[])
  fields := #[]
  methods := #[k1m0, k1m1]
  instanceTypes := #[]
  staticTypes := #[]
  resolved := Array.replicate 27 none
  statics := none }

def pool2 : Array CpInfo := pool [(1, .methodref 2 3), (0, .class_ 4), (0, .nameAndType 5 6), (0, u "java/lang/Object"), (0, u "<init>"), (0, u "()V"), (0, .fieldref 8 9), (0, .class_ 10), (0, .nameAndType 11 12), (0, u "com/example/crossquote/crossquote/BidIndex"), (0, u "heads"), (0, u "[I"), (0, .fieldref 8 14), (0, .nameAndType 15 16), (0, u "links"), (0, u "[J"), (0, .fieldref 8 18), (0, .nameAndType 19 12), (0, u "slots"), (0, .class_ 21), (0, u "com/example/crossquote/crossquote/Rung"), (0, .fieldref 8 23), (0, .nameAndType 24 25), (0, u "rungs"), (0, u "[Lcom/example/crossquote/crossquote/Rung;"), (0, .fieldref 8 27), (0, .nameAndType 28 12), (0, u "free"), (0, .fieldref 8 30), (0, .nameAndType 31 32), (0, u "end"), (0, u "I"), (2, u "map"), (0, u "Ljava/util/Map;"), (61, u "(II)V"), (2, u "freeCount"), (0, .methodref 103 104), (0, .class_ 105), (0, .nameAndType 106 107), (0, u "java/util/Arrays"), (0, u "copyOf"), (0, u "([II)[I"), (2, u "size"), (0, .methodref 112 113), (0, .class_ 114), (0, .nameAndType 115 116), (0, u "java/lang/Math"), (0, u "max"), (0, u "(II)I"), (30, u "LONG_CHAIN"), (2, u "FOURFOLD"), (12, u "slot"), (0, u "(I)I"), (0, u "setSlot")] 3

def k2c0 : Code := { maxStack := 2, maxLocals := 1, code := prog_12_method_1_code, exceptionTable := #[], attributes := #[] }
def k2m0 : Method := { name := "<init>", desc := "()V", sig := { parameters := [], returnType := none }, accessFlags := 0, code := some k2c0 }
def k2c1 : Code := { maxStack := 2, maxLocals := 2, code := prog_12_method_7_code, exceptionTable := #[], attributes := #[] }
def k2m1 : Method := { name := "slot", desc := "(I)I", sig := { parameters := [.int], returnType := some .int }, accessFlags := 0, code := some k2c1 }
def k2c2 : Code := { maxStack := 4, maxLocals := 3, code := prog_12_method_8_code, exceptionTable := #[], attributes := #[] }
def k2m2 : Method := { name := "setSlot", desc := "(II)V", sig := { parameters := [.int, .int], returnType := none }, accessFlags := 0, code := some k2c2 }
/-- com/example/crossquote/crossquote/BidIndex -/
def k2 : Class := { plain "com/example/crossquote/crossquote/BidIndex" (some 0) with
  accessFlags := 32
  interfaces := #[]
  cf := some (fileOf pool2 8 #[] #[{ accessFlags := 0, nameIndex := 5, descriptorIndex := 6, attributes := #[] }, { accessFlags := 0, nameIndex := 163, descriptorIndex := 164, attributes := #[] }, { accessFlags := 0, nameIndex := 165, descriptorIndex := 98, attributes := #[] }] 32 2 #[] #[{ accessFlags := 26, nameIndex := 147, descriptorIndex := 32, attributes := #[] }, { accessFlags := 26, nameIndex := 150, descriptorIndex := 32, attributes := #[] }, { accessFlags := 2, nameIndex := 11, descriptorIndex := 12, attributes := #[] }, { accessFlags := 2, nameIndex := 15, descriptorIndex := 16, attributes := #[] }, { accessFlags := 2, nameIndex := 19, descriptorIndex := 12, attributes := #[] }, { accessFlags := 2, nameIndex := 24, descriptorIndex := 25, attributes := #[] }, { accessFlags := 2, nameIndex := 28, descriptorIndex := 12, attributes := #[] }, { accessFlags := 2, nameIndex := 101, descriptorIndex := 32, attributes := #[] }, { accessFlags := 2, nameIndex := 31, descriptorIndex := 32, attributes := #[] }, { accessFlags := 2, nameIndex := 110, descriptorIndex := 32, attributes := #[] }, { accessFlags := 2, nameIndex := 35, descriptorIndex := 36, attributes := #[] }])
  fields := #[{ name := "LONG_CHAIN", type := .int, accessFlags := 26, slot := 0, constantValue := 0 }, { name := "FOURFOLD", type := .int, accessFlags := 26, slot := 1, constantValue := 0 }, { name := "heads", type := (.array .int), accessFlags := 2, slot := 0, constantValue := 0 }, { name := "links", type := (.array .long), accessFlags := 2, slot := 1, constantValue := 0 }, { name := "slots", type := (.array .int), accessFlags := 2, slot := 2, constantValue := 0 }, { name := "rungs", type := (.array (.object "com/example/crossquote/crossquote/Rung")), accessFlags := 2, slot := 3, constantValue := 0 }, { name := "free", type := (.array .int), accessFlags := 2, slot := 4, constantValue := 0 }, { name := "freeCount", type := .int, accessFlags := 2, slot := 5, constantValue := 0 }, { name := "end", type := .int, accessFlags := 2, slot := 6, constantValue := 0 }, { name := "size", type := .int, accessFlags := 2, slot := 7, constantValue := 0 }, { name := "map", type := (.object "java/util/Map"), accessFlags := 2, slot := 8, constantValue := 0 }]
  methods := #[k2m0, k2m1, k2m2]
  instanceTypes := #[(.array .int), (.array .long), (.array .int), (.array (.object "com/example/crossquote/crossquote/Rung")), (.array .int), .int, .int, .int, (.object "java/util/Map")]
  staticTypes := #[.int, .int]
  resolved := Array.replicate 169 none
  statics := none }

def pool3 : Array CpInfo := pool [(2, .class_ 4), (1, u "java/lang/Object"), (3, .class_ 10), (1, u "com/example/crossquote/crossquote/Rung"), (0, u "bid"), (0, u "Lcom/example/crossquote/crossquote/Bid;"), (2, u "lots"), (0, u "J"), (14, u "key"), (0, u "D"), (14, u "exactKey"), (0, u "Z"), (12, u "sells"), (15, u "arrival"), (2, u "number"), (0, u "I"), (12, u "EXACT_WHOLE")] 18

/-- com/example/crossquote/crossquote/Rung -/
def k3 : Class := { plain "com/example/crossquote/crossquote/Rung" (some 0) with
  accessFlags := 32
  interfaces := #[]
  cf := some (fileOf pool3 8 #[] #[] 32 2 #[] #[{ accessFlags := 26, nameIndex := 94, descriptorIndex := 32, attributes := #[] }, { accessFlags := 2, nameIndex := 11, descriptorIndex := 12, attributes := #[] }, { accessFlags := 2, nameIndex := 15, descriptorIndex := 16, attributes := #[] }, { accessFlags := 2, nameIndex := 31, descriptorIndex := 32, attributes := #[] }, { accessFlags := 2, nameIndex := 47, descriptorIndex := 48, attributes := #[] }, { accessFlags := 2, nameIndex := 61, descriptorIndex := 48, attributes := #[] }, { accessFlags := 2, nameIndex := 77, descriptorIndex := 16, attributes := #[] }, { accessFlags := 2, nameIndex := 80, descriptorIndex := 81, attributes := #[] }])
  fields := #[{ name := "EXACT_WHOLE", type := .double, accessFlags := 26, slot := 0, constantValue := 0 }, { name := "bid", type := (.object "com/example/crossquote/crossquote/Bid"), accessFlags := 2, slot := 0, constantValue := 0 }, { name := "lots", type := .long, accessFlags := 2, slot := 1, constantValue := 0 }, { name := "key", type := .double, accessFlags := 2, slot := 2, constantValue := 0 }, { name := "exactKey", type := .boolean, accessFlags := 2, slot := 3, constantValue := 0 }, { name := "sells", type := .boolean, accessFlags := 2, slot := 4, constantValue := 0 }, { name := "arrival", type := .long, accessFlags := 2, slot := 5, constantValue := 0 }, { name := "number", type := .int, accessFlags := 2, slot := 6, constantValue := 0 }]
  methods := #[]
  instanceTypes := #[(.object "com/example/crossquote/crossquote/Bid"), .long, .double, .boolean, .boolean, .long, .int]
  staticTypes := #[.double]
  resolved := Array.replicate 113 none
  statics := none }

def pool4 : Array CpInfo := pool [(1, .class_ 2), (0, u "java/lang/Math"), (1, .class_ 6), (1, u "java/lang/Object"), (0, u "<init>"), (0, u "()V"), (89, .class_ 100), (1, u "java/lang/Math$RandomNumberGeneratorHolder"), (71, u "negativeZeroFloatBits"), (0, u "J"), (2, u "negativeZeroDoubleBits"), (21, u "max"), (2, u "min"), (43, u "$assertionsDisabled"), (0, u "Z"), (88, u "(II)I"), (2, u "twoToTheDoubleScaleDown"), (0, u "D"), (4, u "twoToTheDoubleScaleUp"), (9, u "E"), (3, u "PI"), (2, u "TAU"), (2, u "DEGREES_TO_RADIANS"), (0, u "RADIANS_TO_DEGREES")] 94

def k4m0 : Method := { name := "<init>", desc := "()V", sig := { parameters := [], returnType := none }, accessFlags := 2, code := none }
def k4c1 : Code := { maxStack := 2, maxLocals := 2, code := jdk_29_method_65_code, exceptionTable := #[], attributes := #[] }
def k4m1 : Method := { name := "max", desc := "(II)I", sig := { parameters := [.int, .int], returnType := some .int }, accessFlags := 9, code := some k4c1 }
def k4c2 : Code := { maxStack := 2, maxLocals := 2, code := jdk_29_method_69_code, exceptionTable := #[], attributes := #[] }
def k4m2 : Method := { name := "min", desc := "(II)I", sig := { parameters := [.int, .int], returnType := some .int }, accessFlags := 9, code := some k4c2 }
/-- java/lang/Math -/
def k4 : Class := { plain "java/lang/Math" (some 0) with
  accessFlags := 49
  interfaces := #[]
  cf := some (fileOf pool4 1 #[.nestMembers #[98]] #[{ accessFlags := 2, nameIndex := 7, descriptorIndex := 8, attributes := #[] }, { accessFlags := 9, nameIndex := 198, descriptorIndex := 335, attributes := #[] }, { accessFlags := 9, nameIndex := 201, descriptorIndex := 335, attributes := #[] }] 49 4 #[] #[{ accessFlags := 25, nameIndex := 354, descriptorIndex := 339, attributes := #[] }, { accessFlags := 25, nameIndex := 358, descriptorIndex := 339, attributes := #[] }, { accessFlags := 25, nameIndex := 361, descriptorIndex := 339, attributes := #[] }, { accessFlags := 26, nameIndex := 364, descriptorIndex := 339, attributes := #[] }, { accessFlags := 26, nameIndex := 365, descriptorIndex := 339, attributes := #[] }, { accessFlags := 26, nameIndex := 172, descriptorIndex := 173, attributes := #[] }, { accessFlags := 26, nameIndex := 176, descriptorIndex := 173, attributes := #[] }, { accessFlags := 8, nameIndex := 344, descriptorIndex := 339, attributes := #[] }, { accessFlags := 8, nameIndex := 338, descriptorIndex := 339, attributes := #[] }, { accessFlags := 4120, nameIndex := 245, descriptorIndex := 246, attributes := #[] }])
  fields := #[{ name := "E", type := .double, accessFlags := 25, slot := 0, constantValue := 0 }, { name := "PI", type := .double, accessFlags := 25, slot := 1, constantValue := 0 }, { name := "TAU", type := .double, accessFlags := 25, slot := 2, constantValue := 0 }, { name := "DEGREES_TO_RADIANS", type := .double, accessFlags := 26, slot := 3, constantValue := 0 }, { name := "RADIANS_TO_DEGREES", type := .double, accessFlags := 26, slot := 4, constantValue := 0 }, { name := "negativeZeroFloatBits", type := .long, accessFlags := 26, slot := 5, constantValue := 0 }, { name := "negativeZeroDoubleBits", type := .long, accessFlags := 26, slot := 6, constantValue := 0 }, { name := "twoToTheDoubleScaleUp", type := .double, accessFlags := 8, slot := 7, constantValue := 0 }, { name := "twoToTheDoubleScaleDown", type := .double, accessFlags := 8, slot := 8, constantValue := 0 }, { name := "$assertionsDisabled", type := .boolean, accessFlags := 4120, slot := 9, constantValue := 0 }]
  methods := #[k4m0, k4m1, k4m2]
  instanceTypes := #[]
  staticTypes := #[.double, .double, .double, .double, .double, .long, .long, .double, .double, .boolean]
  resolved := Array.replicate 460 none
  statics := none }

def pool5 : Array CpInfo := pool [(2, .class_ 4), (1, u "java/lang/Object"), (0, u "<init>"), (0, u "()V"), (7, .class_ 16), (1, u "java/util/Arrays"), (57, .class_ 76), (1, u "java/util/Arrays$NaturalOrder"), (36, .class_ 115), (1, u "java/util/Arrays$LegacyMergeSort"), (1, u "Z"), (32, .methodref 151 152), (0, .class_ 153), (0, .nameAndType 154 155), (0, u "java/lang/System"), (0, u "arraycopy"), (0, u "(Ljava/lang/Object;ILjava/lang/Object;II)V"), (146, u "copyOf"), (1, .methodref 305 306), (0, .class_ 307), (0, .nameAndType 308 309), (0, u "java/lang/Math"), (0, u "min"), (0, u "(II)I"), (65, .class_ 376), (0, u "java/util/Arrays$ArrayList"), (68, u "$assertionsDisabled"), (269, u "MIN_ARRAY_SORT_GRAN"), (0, u "I"), (2, u "INSERTIONSORT_THRESHOLD"), (151, u "([II)[I"), (103, .class_ 976), (0, u "java/util/Arrays$ArrayItr")] 52

def k5m0 : Method := { name := "<init>", desc := "()V", sig := { parameters := [], returnType := none }, accessFlags := 2, code := none }
def k5c1 : Code := { maxStack := 6, maxLocals := 3, code := jdk_65_method_123_code, exceptionTable := #[], attributes := #[] }
def k5m1 : Method := { name := "copyOf", desc := "([II)[I", sig := { parameters := [(.array .int), .int], returnType := some (.array .int) }, accessFlags := 9, code := some k5c1 }
/-- java/util/Arrays -/
def k5 : Class := { plain "java/util/Arrays" (some 0) with
  accessFlags := 49
  interfaces := #[]
  cf := some (fileOf pool5 14 #[.nestMembers #[975, 375, 113, 74]] #[{ accessFlags := 2, nameIndex := 5, descriptorIndex := 6, attributes := #[] }, { accessFlags := 9, nameIndex := 302, descriptorIndex := 871, attributes := #[] }] 49 2 #[] #[{ accessFlags := 26, nameIndex := 715, descriptorIndex := 716, attributes := #[] }, { accessFlags := 26, nameIndex := 719, descriptorIndex := 716, attributes := #[] }, { accessFlags := 4120, nameIndex := 445, descriptorIndex := 117, attributes := #[] }])
  fields := #[{ name := "MIN_ARRAY_SORT_GRAN", type := .int, accessFlags := 26, slot := 0, constantValue := 0 }, { name := "INSERTIONSORT_THRESHOLD", type := .int, accessFlags := 26, slot := 1, constantValue := 0 }, { name := "$assertionsDisabled", type := .boolean, accessFlags := 4120, slot := 2, constantValue := 0 }]
  methods := #[k5m0, k5m1]
  instanceTypes := #[]
  staticTypes := #[.int, .int, .boolean]
  resolved := Array.replicate 1029 none
  statics := none }

def pool6 : Array CpInfo := pool [(2, .class_ 4), (1, u "java/lang/Object"), (0, u "<init>"), (0, u "()V"), (1, .class_ 10), (1, u "java/lang/System"), (0, u "allowSecurityManager"), (0, u "I"), (16, u "cons"), (0, u "Ljava/io/Console;"), (77, .class_ 110), (1, u "java/lang/System$CallersHolder"), (43, u "initialErrStream"), (0, u "Ljava/io/PrintStream;"), (19, u "security"), (0, u "Ljava/lang/SecurityManager;"), (31, .class_ 209), (0, u "java/lang/System$1"), (7, u "props"), (0, u "Ljava/util/Properties;"), (2, u "lineSeparator"), (0, u "Ljava/lang/String;"), (96, .class_ 321), (1, u "java/lang/System$LoggerFinder"), (5, .class_ 328), (0, u "java/lang/System$Logger"), (67, u "err"), (2, u "out"), (91, u "notSupportedJnuEncoding"), (15, u "in"), (17, u "initialIn"), (0, u "Ljava/io/InputStream;"), (35, u "bootLayer"), (0, u "Ljava/lang/ModuleLayer;"), (99, .class_ 664), (0, u "java/lang/System$2"), (9, u "NEVER"), (2, u "MAYBE"), (49, u "arraycopy"), (0, u "(Ljava/lang/Object;ILjava/lang/Object;II)V"), (72, .class_ 802), (0, u "java/lang/System$Logger$Level")] 31

def k6m0 : Method := { name := "<init>", desc := "()V", sig := { parameters := [], returnType := none }, accessFlags := 2, code := none }
def k6m1 : Method := { name := "arraycopy", desc := "(Ljava/lang/Object;ILjava/lang/Object;II)V", sig := { parameters := [(.object "java/lang/Object"), .int, (.object "java/lang/Object"), .int, .int], returnType := none }, accessFlags := 265, code := none }
/-- java/lang/System -/
def k6 : Class := { plain "java/lang/System" (some 0) with
  accessFlags := 49
  interfaces := #[]
  cf := some (fileOf pool6 8 #[.nestMembers #[319, 327, 801, 108, 663, 208]] #[{ accessFlags := 2, nameIndex := 5, descriptorIndex := 6, attributes := #[] }, { accessFlags := 265, nameIndex := 727, descriptorIndex := 728, attributes := #[] }] 49 2 #[] #[{ accessFlags := 25, nameIndex := 507, descriptorIndex := 526, attributes := #[] }, { accessFlags := 25, nameIndex := 399, descriptorIndex := 155, attributes := #[] }, { accessFlags := 25, nameIndex := 396, descriptorIndex := 155, attributes := #[] }, { accessFlags := 10, nameIndex := 525, descriptorIndex := 526, attributes := #[] }, { accessFlags := 26, nameIndex := 674, descriptorIndex := 12, attributes := #[] }, { accessFlags := 26, nameIndex := 677, descriptorIndex := 12, attributes := #[] }, { accessFlags := 10, nameIndex := 11, descriptorIndex := 12, attributes := #[] }, { accessFlags := 74, nameIndex := 175, descriptorIndex := 176, attributes := #[] }, { accessFlags := 10, nameIndex := 491, descriptorIndex := 222, attributes := #[] }, { accessFlags := 74, nameIndex := 29, descriptorIndex := 30, attributes := #[] }, { accessFlags := 74, nameIndex := 154, descriptorIndex := 155, attributes := #[] }, { accessFlags := 10, nameIndex := 217, descriptorIndex := 218, attributes := #[] }, { accessFlags := 10, nameIndex := 221, descriptorIndex := 222, attributes := #[] }, { accessFlags := 8, nameIndex := 562, descriptorIndex := 563, attributes := #[] }])
  fields := #[{ name := "in", type := (.object "java/io/InputStream"), accessFlags := 25, slot := 0, constantValue := 0 }, { name := "out", type := (.object "java/io/PrintStream"), accessFlags := 25, slot := 1, constantValue := 0 }, { name := "err", type := (.object "java/io/PrintStream"), accessFlags := 25, slot := 2, constantValue := 0 }, { name := "initialIn", type := (.object "java/io/InputStream"), accessFlags := 10, slot := 3, constantValue := 0 }, { name := "NEVER", type := .int, accessFlags := 26, slot := 4, constantValue := 0 }, { name := "MAYBE", type := .int, accessFlags := 26, slot := 5, constantValue := 0 }, { name := "allowSecurityManager", type := .int, accessFlags := 10, slot := 6, constantValue := 0 }, { name := "security", type := (.object "java/lang/SecurityManager"), accessFlags := 74, slot := 7, constantValue := 0 }, { name := "notSupportedJnuEncoding", type := (.object "java/lang/String"), accessFlags := 10, slot := 8, constantValue := 0 }, { name := "cons", type := (.object "java/io/Console"), accessFlags := 74, slot := 9, constantValue := 0 }, { name := "initialErrStream", type := (.object "java/io/PrintStream"), accessFlags := 74, slot := 10, constantValue := 0 }, { name := "props", type := (.object "java/util/Properties"), accessFlags := 10, slot := 11, constantValue := 0 }, { name := "lineSeparator", type := (.object "java/lang/String"), accessFlags := 10, slot := 12, constantValue := 0 }, { name := "bootLayer", type := (.object "java/lang/ModuleLayer"), accessFlags := 8, slot := 13, constantValue := 0 }]
  methods := #[k6m0, k6m1]
  instanceTypes := #[]
  staticTypes := #[(.object "java/io/InputStream"), (.object "java/io/PrintStream"), (.object "java/io/PrintStream"), (.object "java/io/InputStream"), .int, .int, .int, (.object "java/lang/SecurityManager"), (.object "java/lang/String"), (.object "java/io/Console"), (.object "java/io/PrintStream"), (.object "java/util/Properties"), (.object "java/lang/String"), (.object "java/lang/ModuleLayer")]
  resolved := Array.replicate 834 none
  statics := none }

def pool7 : Array CpInfo := pool [(1, u "java/lang/Cloneable"), (0, .class_ 1), (0, u "java/lang/Object"), (0, .class_ 3)] 3

/-- java/lang/Cloneable -/
def k7 : Class := { plain "java/lang/Cloneable" (some 0) with
  accessFlags := 1537
  interfaces := #[]
  cf := some (fileOf pool7 2 #[] #[] 1537 4 #[] #[])
  fields := #[]
  methods := #[]
  instanceTypes := #[]
  staticTypes := #[]
  resolved := Array.replicate 8 none
  statics := none }

def pool8 : Array CpInfo := pool [(1, u "java/io/Serializable"), (0, .class_ 1), (0, u "java/lang/Object"), (0, .class_ 3)] 3

/-- java/io/Serializable -/
def k8 : Class := { plain "java/io/Serializable" (some 0) with
  accessFlags := 1537
  interfaces := #[]
  cf := some (fileOf pool8 2 #[] #[] 1537 4 #[] #[])
  fields := #[]
  methods := #[]
  instanceTypes := #[]
  staticTypes := #[]
  resolved := Array.replicate 8 none
  statics := none }

/-- the primitive byte -/
def k9 : Class := { plain "byte" none with kind := .primitive 'B', accessFlags := 0x411 }
/-- [B -/
def k10 : Class := { plain "[B" (some 0) with kind := .array 9 .byte, interfaces := #[7, 8], accessFlags := 1041 }

/-- the primitive int -/
def k11 : Class := { plain "int" none with kind := .primitive 'I', accessFlags := 0x411 }
/-- [I -/
def k12 : Class := { plain "[I" (some 0) with kind := .array 11 .int, interfaces := #[7, 8], accessFlags := 1041 }

/-- the primitive long -/
def k13 : Class := { plain "long" none with kind := .primitive 'J', accessFlags := 0x411 }
/-- [J -/
def k14 : Class := { plain "[J" (some 0) with kind := .array 13 .long, interfaces := #[7, 8], accessFlags := 1041 }

/-- [Lcom/example/crossquote/crossquote/Rung; -/
def k15 : Class := { plain "[Lcom/example/crossquote/crossquote/Rung;" (some 0) with kind := .array 3 (.object "com/example/crossquote/crossquote/Rung"), interfaces := #[7, 8], accessFlags := 1041 }

def heap : Heap := #[]
def classes : Array Class := #[k0, k1, k2, k3, k4, k5, k6, k7, k8, k9, k10, k11, k12, k13, k14, k15]
def interned : List (Array UInt16 × Addr) := []
def slotsUsed : Nat := 0
def theMethod : MethodId := ⟨1, 1⟩
def args0 : Array Value := #[.int 5, .int 30, .int 77, .int 7, .int 8]
def aboutOver (below : List Frame) : State where
  vm := { classes := classes, interned := interned.toArray }
  heap := heap
  slotsUsed := slotsUsed
  threads := #[{ frames := .invoking theMethod args0 :: below }]
def below0 : List Frame := [.native { method := ⟨0, 0⟩, args := #[] }]
def about1 : State := aboutOver below0
def p0 : Program := .bare "" "" ""
def e0 : Env := launch0.env 0 0 0
theorem w_frames : about1.frames = Frame.invoking theMethod args0 :: below0 := rfl
set_option maxRecDepth 65536 in
theorem w_args : argsFit about1.vm theMethod args0 = true := by decide +kernel
set_option maxRecDepth 65536 in
theorem w_heap : heapFits about1 = true := by decide +kernel
set_option maxRecDepth 65536 in
theorem w_runnable : about1.curStatus? = some .runnable := by decide +kernel
set_option maxRecDepth 65536 in
theorem w_alone : about1.alone = true := by decide +kernel
set_option maxRecDepth 65536 in
theorem w_named : about1.methodNamed? x = some theMethod := by decide +kernel
set_option maxRecDepth 65536 in
theorem w_hears : about1.hears theMethod below0 = true := by decide +kernel
set_option maxRecDepth 65536 in
theorem w_ripe : about1.ripe theMethod args0 below0 = true := by decide +kernel
theorem w_running : about1.status = .running := rfl
set_option maxRecDepth 65536 in
theorem w_room : about1.hasRoom e0.platform room_1 = true :=
  launch0.hasRoom_least _ room_1 (by decide +kernel) (by decide +kernel) (by decide +kernel) (by decide +kernel) (by decide +kernel) (by decide +kernel)
theorem allAtoms_all (ts : List Jvm.Cond) (a : Array Jvm.Value) (st : Jvm.State) : (allAtoms ts).before a st = ts.all (fun c => c.before a st) := by
  induction ts with
  | nil => rfl
  | cons c t ih =>
    show (Jvm.Cond.and c (allAtoms t)).before a st = _
    rw [Jvm.Cond.before_and, ih, List.all_cons]
def words1 : List Jvm.Cond := Jvm.Cond.code x code maxLocals ret :: tables_1
/-- a 'code' word, met by the world's own term for the bytes: nothing is compared byte by byte -/
theorem code_word {y : MethodName} {bytes : ByteArray} {mx : Nat} {rt : Option FieldType} {a : Array Value} {s : State} {m : MethodId} {meth : Method} {c : Code} (h1 : s.methodNamed? y = some m) (h2 : s.vm.method? m = some meth) (h3 : meth.code = some c) (h4 : c.code = bytes)
    (h5 : (c.maxLocals == mx && c.exceptionTable.isEmpty && decide (c.maxStack ≤ mostOperands) && decide (meth.sig.returnType = rt) && !meth.locks && decide (parseMethodDescriptor y.desc = some meth.sig)) = true) : (Jvm.Cond.code y bytes mx rt).before a s = true := by
  simp only [Bool.and_eq_true, beq_iff_eq, Bool.not_eq_true', decide_eq_true_eq] at h5
  obtain ⟨⟨⟨⟨⟨g1, g2⟩, g3⟩, g4⟩, g5⟩, g6⟩ := h5
  simp [Cond.before, Cond.holds, Cond.value, h1, h2, h3, h4, g1, g2, g3, g4, g5, g6]
def isCode : Jvm.Cond → Bool
  | .code _ _ _ _ => true
  | _ => false
theorem all_split {L : List Jvm.Cond} {P : Jvm.Cond → Bool} (h1 : L.all (fun c => isCode c || P c) = true) (h2 : ∀ c ∈ L.filter isCode, P c = true) : L.all P = true := by
  refine List.all_eq_true.mpr fun c hc => ?_
  have h := List.all_eq_true.mp h1 c hc
  rcases Bool.eq_false_or_eq_true (isCode c) with hi | hi
  · exact h2 c (List.mem_filter.mpr ⟨hc, hi⟩)
  · simpa [hi] using h
set_option maxRecDepth 65536 in
theorem w_c0 : (Jvm.Cond.code x code maxLocals ret).before args0 about1 = true := code_word (m := ⟨1, 1⟩) (meth := k1m1) (c := k1c1) (by decide +kernel) rfl rfl rfl (by decide +kernel)
set_option maxRecDepth 65536 in
theorem w_c1 : (Jvm.Cond.code ({ cls := "com/example/crossquote/crossquote/BidIndex", name := "<init>", desc := "()V" } : Jvm.MethodName) prog_12_method_1_code (1 : Nat) (Option.none : Option Jvm.ClassFile.FieldType)).before args0 about1 = true := code_word (m := ⟨2, 0⟩) (meth := k2m0) (c := k2c0) (by decide +kernel) rfl rfl rfl (by decide +kernel)
set_option maxRecDepth 65536 in
theorem w_c2 : (Jvm.Cond.code ({ cls := "java/lang/Object", name := "<init>", desc := "()V" } : Jvm.MethodName) object_method_1_code (1 : Nat) (Option.none : Option Jvm.ClassFile.FieldType)).before args0 about1 = true := code_word (m := ⟨0, 0⟩) (meth := k0m0) (c := k0c0) (by decide +kernel) rfl rfl rfl (by decide +kernel)
set_option maxRecDepth 65536 in
theorem w_c3 : (Jvm.Cond.code ({ cls := "com/example/crossquote/crossquote/BidIndex", name := "slot", desc := "(I)I" } : Jvm.MethodName) prog_12_method_7_code (2 : Nat) (Option.some Jvm.ClassFile.FieldType.int)).before args0 about1 = true := code_word (m := ⟨2, 1⟩) (meth := k2m1) (c := k2c1) (by decide +kernel) rfl rfl rfl (by decide +kernel)
set_option maxRecDepth 65536 in
theorem w_c4 : (Jvm.Cond.code ({ cls := "com/example/crossquote/crossquote/BidIndex", name := "setSlot", desc := "(II)V" } : Jvm.MethodName) prog_12_method_8_code (3 : Nat) (Option.none : Option Jvm.ClassFile.FieldType)).before args0 about1 = true := code_word (m := ⟨2, 2⟩) (meth := k2m2) (c := k2c2) (by decide +kernel) rfl rfl rfl (by decide +kernel)
set_option maxRecDepth 65536 in
theorem w_c5 : (Jvm.Cond.code ({ cls := "java/lang/Math", name := "max", desc := "(II)I" } : Jvm.MethodName) jdk_29_method_65_code (2 : Nat) (Option.some Jvm.ClassFile.FieldType.int)).before args0 about1 = true := code_word (m := ⟨4, 1⟩) (meth := k4m1) (c := k4c1) (by decide +kernel) rfl rfl rfl (by decide +kernel)
set_option maxRecDepth 65536 in
theorem w_c6 : (Jvm.Cond.code ({ cls := "java/util/Arrays", name := "copyOf", desc := "([II)[I" } : Jvm.MethodName) jdk_65_method_123_code (3 : Nat) (Option.some (Jvm.ClassFile.FieldType.array Jvm.ClassFile.FieldType.int))).before args0 about1 = true := code_word (m := ⟨5, 1⟩) (meth := k5m1) (c := k5c1) (by decide +kernel) rfl rfl rfl (by decide +kernel)
set_option maxRecDepth 65536 in
theorem w_c7 : (Jvm.Cond.code ({ cls := "java/lang/Math", name := "min", desc := "(II)I" } : Jvm.MethodName) jdk_29_method_69_code (2 : Nat) (Option.some Jvm.ClassFile.FieldType.int)).before args0 about1 = true := code_word (m := ⟨4, 2⟩) (meth := k4m2) (c := k4c2) (by decide +kernel) rfl rfl rfl (by decide +kernel)
def codes1 : List Jvm.Cond := [Jvm.Cond.code x code maxLocals ret, Jvm.Cond.code ({ cls := "com/example/crossquote/crossquote/BidIndex", name := "<init>", desc := "()V" } : Jvm.MethodName) prog_12_method_1_code (1 : Nat) (Option.none : Option Jvm.ClassFile.FieldType), Jvm.Cond.code ({ cls := "java/lang/Object", name := "<init>", desc := "()V" } : Jvm.MethodName) object_method_1_code (1 : Nat) (Option.none : Option Jvm.ClassFile.FieldType), Jvm.Cond.code ({ cls := "com/example/crossquote/crossquote/BidIndex", name := "slot", desc := "(I)I" } : Jvm.MethodName) prog_12_method_7_code (2 : Nat) (Option.some Jvm.ClassFile.FieldType.int), Jvm.Cond.code ({ cls := "com/example/crossquote/crossquote/BidIndex", name := "setSlot", desc := "(II)V" } : Jvm.MethodName) prog_12_method_8_code (3 : Nat) (Option.none : Option Jvm.ClassFile.FieldType), Jvm.Cond.code ({ cls := "java/lang/Math", name := "max", desc := "(II)I" } : Jvm.MethodName) jdk_29_method_65_code (2 : Nat) (Option.some Jvm.ClassFile.FieldType.int), Jvm.Cond.code ({ cls := "java/util/Arrays", name := "copyOf", desc := "([II)[I" } : Jvm.MethodName) jdk_65_method_123_code (3 : Nat) (Option.some (Jvm.ClassFile.FieldType.array Jvm.ClassFile.FieldType.int)), Jvm.Cond.code ({ cls := "java/lang/Math", name := "min", desc := "(II)I" } : Jvm.MethodName) jdk_29_method_69_code (2 : Nat) (Option.some Jvm.ClassFile.FieldType.int)]
set_option maxRecDepth 65536 in
theorem codes_eq : words1.filter isCode = codes1 := rfl
theorem w_codes : ∀ c ∈ words1.filter isCode, c.before args0 about1 = true := by
  rw [codes_eq]
  intro c hc
  simp only [codes1, List.mem_cons, List.not_mem_nil, or_false] at hc
  rcases hc with rfl | rfl | rfl | rfl | rfl | rfl | rfl | rfl
  · exact w_c0
  · exact w_c1
  · exact w_c2
  · exact w_c3
  · exact w_c4
  · exact w_c5
  · exact w_c6
  · exact w_c7
set_option maxRecDepth 65536 in
theorem w_t1 : (words1.take 24).all (fun c => isCode c || c.before args0 about1) = true := by decide +kernel
set_option maxRecDepth 65536 in
theorem w_t2 : ((words1.drop 24).take 24).all (fun c => isCode c || c.before args0 about1) = true := by decide +kernel
set_option maxRecDepth 65536 in
theorem w_t3 : ((words1.drop 24).drop 24).all (fun c => isCode c || c.before args0 about1) = true := by decide +kernel
theorem w_tables : (allAtoms (Jvm.Cond.code x code maxLocals ret :: tables_1)).before args0 about1 = true := by
  rw [allAtoms_all]
  show words1.all (fun c => c.before args0 about1) = true
  refine all_split ?_ w_codes
  rw [← List.take_append_drop 24 words1, List.all_append, w_t1, ← List.take_append_drop 24 (words1.drop 24), List.all_append, w_t2, w_t3]
  rfl
set_option maxRecDepth 65536 in
theorem w_case : (Jvm.Cond.and given_1 narrow_1).before args0 about1 = true := by decide +kernel
theorem w_applies : (headSpec (Jvm.Cond.code x code maxLocals ret :: tables_1) room_1).applies x e0.platform about1 = true :=
  (Spec.applies_iff w_frames).mpr ⟨w_running, w_runnable, w_alone, w_named, w_hears, w_ripe, w_room, w_tables⟩
theorem atStart : AtStart classFile x code maxLocals ret World_1 tables_1 room_1 Calls_1 rest_1 Pre_1 launch0 p0 e0 about1 theMethod args0 below0 :=
  ⟨lists_1, trivial, launch0.admits_env _ _ _, launch0.least_env, fairChoices_fair.cas, fairChoices_fair.clock, w_frames, w_args, w_heap, w_applies, trivial, trivial, w_case⟩
end start1
theorem witness_1 : WitnessClaimed_1 := ⟨start1.p0, start1.e0, start1.about1, start1.theMethod, start1.args0, start1.below0, start1.atStart⟩
end Jvm.Pilot.@@N@@
