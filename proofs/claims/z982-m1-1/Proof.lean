import JvmDerived
import JvmDerived.Pilot.@@N@@Statement
import JvmDerived.Pilot.@@N@@Code
set_option linter.unusedVariables false
set_option linter.unusedSimpArgs false
namespace Jvm.Pilot.@@N@@
open Jvm Jvm.ClassFile Sem Op Lib Jvm.Free Jvm.Stand Jvm.LawKit Jvm.RoadKit Bundle Jvm.Pilot.@@N@@.Jvm.D
section OwnGo
variable {p : Program} {l : Launch} {e : Env} {R : Room} {s : State} {m : MethodId} {args : Array Value} {below : List Frame} {meth : Method} {c : Code} {T T' : State} {locs : List Loc} {cells slots : Nat} {f f' : JFrame} {P : Outcome → State → Prop}
/-- what is left of a body's run: from the state T with the frame f on top it ends, and P holds of the end -/
def own_Go (p : Program) (e : Env) (below : List Frame) (T : State) (f : JFrame) (P : Outcome → State → Prop) : Prop :=
  ∃ s₂ o, Steps p.tables e below (T.setTop f) s₂ ∧ s₂.status = .running ∧ Ended s₂ below o ∧ P o s₂
theorem own_step (h : ∀ t, Steps p.tables e below (T'.setTop f') t → Steps p.tables e below (T.setTop f) t) (k : own_Go p e below T' f' P) : own_Go p e below T f P := by
  obtain ⟨s₂, o, a, b, c, d⟩ := k
  exact ⟨s₂, o, h _ a, b, c, d⟩
theorem own_Go.cast (q : f = f') (k : own_Go p e below T f' P) : own_Go p e below T f P := q ▸ k
theorem own_done (X : Stand p l e R s m args below meth c T locs cells slots) {v : Option Value} {Q : Option Value → Heap → List Loc → Prop} {C S : Nat} (hlk : meth.locks = false) (hv : meth.sig.returnType = none → v = none)
    (hs : ∀ fs, (∀ (f : JFrame) (acts : List Action), f.method = m → f.locked = none → f.entered = [] → (doReturn e (T.setTop f) acts v).1 = T.setFrames fs) → Steps p.tables e below (T.setTop f) (T.setFrames fs))
    (hC : cells ≤ C) (hS : slots ≤ S) (hQ : Q v T.heap locs) : own_Go p e below T f (fun o U' => ∃ v L, o = .returned v ∧ Q v U'.heap L ∧ FrameEnd s o U' L C S) := by
  obtain ⟨fs, hr, hrun, hended, hW, hsame⟩ := X.leave (v := v) hv hlk
  exact ⟨_, _, hs fs hr, hrun, hended, _, _, rfl, hQ, ⟨_, rfl⟩, hW, hsame.mono hC hS⟩
theorem own_retZ (X : Stand p l e R s m args below meth c T locs cells slots) (hx : p.tables.exec = Jvm.exec) {pc : Nat} {Ls : Array Slot} {z : Int32} {rest : List Value} {Q : Option Value → Heap → List Loc → Prop} {C S : Nat}
    (hret : meth.sig.returnType = some .boolean) (hlk : meth.locks = false) (hd : decode c.code pc = .ok (.ireturn, 1)) (hC : cells ≤ C) (hS : slots ≤ S) (hQ : Q (some (.int (nar .boolean z))) T.heap locs) :
    own_Go p e below T (mkF m pc Ls (.int z :: rest)) (fun o U' => ∃ v L, o = .returned v ∧ Q v U'.heap L ∧ FrameEnd s o U' L C S) :=
  own_done X hlk (fun h => by rw [hret] at h; cases h) (fun fs hr => retN X hx (t := .boolean) hret (by simp) hd hr) hC hS hQ
theorem own_retI (X : Stand p l e R s m args below meth c T locs cells slots) (hx : p.tables.exec = Jvm.exec) {pc : Nat} {Ls : Array Slot} {z : Int32} {rest : List Value} {Q : Option Value → Heap → List Loc → Prop} {C S : Nat}
    (hret : meth.sig.returnType = some .int) (hlk : meth.locks = false) (hd : decode c.code pc = .ok (.ireturn, 1)) (hC : cells ≤ C) (hS : slots ≤ S) (hQ : Q (some (.int z)) T.heap locs) :
    own_Go p e below T (mkF m pc Ls (.int z :: rest)) (fun o U' => ∃ v L, o = .returned v ∧ Q v U'.heap L ∧ FrameEnd s o U' L C S) :=
  own_done X hlk (fun h => by rw [hret] at h; cases h) (fun fs hr => retOut X hx hret rfl (Or.inl ⟨rfl, Or.inl rfl, _, rfl⟩) hd hr) hC hS hQ
theorem own_retJ (X : Stand p l e R s m args below meth c T locs cells slots) (hx : p.tables.exec = Jvm.exec) {pc : Nat} {Ls : Array Slot} {z : Int64} {rest : List Value} {Q : Option Value → Heap → List Loc → Prop} {C S : Nat}
    (hret : meth.sig.returnType = some .long) (hlk : meth.locks = false) (hd : decode c.code pc = .ok (.lreturn, 1)) (hC : cells ≤ C) (hS : slots ≤ S) (hQ : Q (some (.long z)) T.heap locs) :
    own_Go p e below T (mkF m pc Ls (.long z :: rest)) (fun o U' => ∃ v L, o = .returned v ∧ Q v U'.heap L ∧ FrameEnd s o U' L C S) :=
  own_done X hlk (fun h => by rw [hret] at h; cases h) (fun fs hr => retOut X hx hret rfl (Or.inr (Or.inl ⟨rfl, rfl, _, rfl⟩)) hd hr) hC hS hQ
theorem own_retA (X : Stand p l e R s m args below meth c T locs cells slots) (hx : p.tables.exec = Jvm.exec) {pc : Nat} {Ls : Array Slot} {a : Addr} {ty : FieldType} {rest : List Value} {Q : Option Value → Heap → List Loc → Prop} {C S : Nat}
    (hret : meth.sig.returnType = some (.array ty)) (hlk : meth.locks = false) (hd : decode c.code pc = .ok (.areturn, 1)) (hC : cells ≤ C) (hS : slots ≤ S) (hQ : Q (some (.ref a)) T.heap locs) :
    own_Go p e below T (mkF m pc Ls (.ref a :: rest)) (fun o U' => ∃ v L, o = .returned v ∧ Q v U'.heap L ∧ FrameEnd s o U' L C S) :=
  own_done X hlk (fun h => by rw [hret] at h; cases h) (fun fs hr => retOut X hx hret rfl (Or.inr (Or.inr (Or.inr (Or.inr ⟨rfl, rfl, rfl⟩)))) hd hr) hC hS hQ
theorem own_retV (X : Stand p l e R s m args below meth c T locs cells slots) (hx : p.tables.exec = Jvm.exec) {pc : Nat} {Ls : Array Slot} {Q : Option Value → Heap → List Loc → Prop} {C S : Nat}
    (hret : meth.sig.returnType = none) (hlk : meth.locks = false) (hd : decode c.code pc = .ok (.return_, 1)) (hC : cells ≤ C) (hS : slots ≤ S) (hQ : Q none T.heap locs) :
    own_Go p e below T (mkF m pc Ls []) (fun o U' => ∃ v L, o = .returned v ∧ Q v U'.heap L ∧ FrameEnd s o U' L C S) :=
  own_done X hlk (fun _ => rfl) (fun fs hr => X.returnOut hx hret hd hr) hC hS hQ
end OwnGo
/-- what the law leaves -/
def own_QL (n0 : Nat) (v : Option Value) (h : Heap) (L : List Loc) : Prop := v = some (.int 1) ∧ Fr n0 L
section OwnArr
variable {p : Program} {l : Launch} {e : Env} {R : Room} {s : State} {m : MethodId} {args : Array Value} {below : List Frame} {meth : Method} {c : Code} {T : State} {locs : List Loc} {cells slots : Nat} {Z : State} {h h' : Heap} {a b : Addr} {ty : FieldType} {n i sl : Nat} {f : Nat → Value} {v w : Value} {ws : List Addr} {j x z : Int32}
def own_upd (f : Nat → Value) (i : Nat) (v : Value) : Nat → Value := fun k => if k = i then v else f k
theorem own_upd_hit (f : Nat → Value) (i : Nat) (v : Value) : own_upd f i v i = v := if_pos rfl
theorem own_upd_miss (f : Nat → Value) {i k : Nat} (v : Value) (q : k ≠ i) : own_upd f i v k = f k := if_neg q
/-- an array of n places, place i holding f i -/
def own_A (Z : State) (h : Heap) (a : Addr) (ty : FieldType) (n : Nat) (f : Nat → Value) : Prop := ∃ c : Cell, Arr Z h a c ty ∧ c.slots.size = n ∧ ∀ i, i < n → c.slots[i]? = some (f i)
theorem own_A.lt (F : own_A Z h a ty n f) : a < h.size := by obtain ⟨c, A, -⟩ := F; exact A.lt
theorem own_A.ext (F : own_A Z h a ty n f) (E : Ext h h') : own_A Z h' a ty n f := by obtain ⟨c, A, r⟩ := F; exact ⟨c, A.ext E, r⟩
theorem own_A.other (F : own_A Z h b ty n f) (W : Wr h h' a sl v) (q : b ≠ a) : own_A Z h' b ty n f := by obtain ⟨c, A, r⟩ := F; exact ⟨c, A.other W q, r⟩
theorem own_A.keep (F : own_A Z h a ty n f) (K : Keep h h' ws) (q : a ∉ ws) : own_A Z h' a ty n f := by obtain ⟨c, A, r⟩ := F; exact ⟨c, ⟨K.2.1 a c A.1 q, A.2⟩, r⟩
theorem own_A.new {k : ClassId} {z : Int32} (A : Arr Z h a (newA k ty z) ty) (q : z.toNatClampNeg = n) : own_A Z h a ty n (fun _ => defaultValue ty) := ⟨_, A, by rw [sz_new]; exact q, fun i hi => by
  have hi' : i < z.toNatClampNeg := by rw [q]; exact hi
  simp [newA, hi']⟩
theorem own_A.put (F : own_A Z h a ty n f) (W : Wr h h' a i v) (hi : i < n) : own_A Z h' a ty n (own_upd f i v) := by
  obtain ⟨c, A, S, H⟩ := F
  refine ⟨_, A.same W, by rw [sz_set]; exact S, fun k hk => ?_⟩
  by_cases u : k = i
  · subst u; rw [own_upd_hit]; simp [Cell.setSlot, S, hi]
  · rw [own_upd_miss _ _ u, ← H k hk]; simp only [Cell.setSlot]; exact Array.getElem?_setIfInBounds_ne (Ne.symm u)
theorem own_A.cong {g : Nat → Value} (F : own_A Z h a ty n f) (q : ∀ i, i < n → f i = g i) : own_A Z h a ty n g := by
  obtain ⟨c, A, S, H⟩ := F; exact ⟨c, A, S, fun i hi => by rw [H i hi, q i hi]⟩
def own_at (j : Int32) (i : Nat) : Prop := ¬ j < 0 ∧ j.toNatClampNeg = i
theorem own_at_lit (q : j.toNatClampNeg = i) (r : ¬ j < 0) : own_at j i := ⟨r, q⟩
theorem own_at_int (q : j.toInt = (i : Int)) : own_at j i := by
  refine ⟨?_, ?_⟩
  · rw [Int32.lt_iff_toInt_lt, q, show (0 : Int32).toInt = 0 from rfl]; omega
  · simp only [Int32.toNatClampNeg, q]; rfl
theorem own_in {c : Cell} (hj : own_at j i) (S : c.slots.size = n) (hi : i < n) : ¬ (j < 0 ∨ c.slots.size ≤ j.toNatClampNeg) := by
  rintro (q | q)
  · exact hj.1 q
  · rw [hj.2, S] at q; omega
theorem own_ldI (X : Stand p l e R s m args below meth c T locs cells slots) (hx : p.tables.exec = Jvm.exec) (hZ : Z.Warmed39 s.vm) (eT : T.heap = h) (A : own_A Z h a .int n f) (hj : own_at j i) (hi : i < n) {v : Int32} (hv : f i = .int v) {g : JFrame} (hg : g.method = m) {rest : List Value} (hs : g.stack = .int j :: .ref a :: rest) (hd : decode c.code g.pc = .ok (.iaload, 1)) :
    ∀ target, Steps p.tables e below (T.setTop { g with pc := g.pc + 1, stack := .int v :: rest }) target → Steps p.tables e below (T.setTop g) target := by
  obtain ⟨cl, Ar, S, H⟩ := A
  exact X.iaload hx (j := j) (v := .int v) (by rw [eT]; exact Ar.1) (State.isArrayOf_alike hZ.alike Ar.2.1) Ar.2.2 (own_in hj S hi) (by rw [hj.2, H i hi, hv]) (g := g) hg hs hd
theorem own_ldJ (X : Stand p l e R s m args below meth c T locs cells slots) (hx : p.tables.exec = Jvm.exec) (hZ : Z.Warmed39 s.vm) (eT : T.heap = h) (A : own_A Z h a .long n f) (hj : own_at j i) (hi : i < n) {v : Int64} (hv : f i = .long v) {g : JFrame} (hg : g.method = m) {rest : List Value} (hs : g.stack = .int j :: .ref a :: rest) (hd : decode c.code g.pc = .ok (.laload, 1)) :
    ∀ target, Steps p.tables e below (T.setTop { g with pc := g.pc + 1, stack := .long v :: rest }) target → Steps p.tables e below (T.setTop g) target := by
  obtain ⟨cl, Ar, S, H⟩ := A
  exact X.laload hx (j := j) (v := .long v) (by rw [eT]; exact Ar.1) (State.isArrayOf_alike hZ.alike Ar.2.1) Ar.2.2 (own_in hj S hi) (by rw [hj.2, H i hi, hv]) (g := g) hg hs hd
theorem own_ldB (X : Stand p l e R s m args below meth c T locs cells slots) (hx : p.tables.exec = Jvm.exec) (hZ : Z.Warmed39 s.vm) (eT : T.heap = h) (A : own_A Z h a .byte n f) (hj : own_at j i) (hi : i < n) {v : Int32} (hv : f i = .int v) {g : JFrame} (hg : g.method = m) {rest : List Value} (hs : g.stack = .int j :: .ref a :: rest) (hd : decode c.code g.pc = .ok (.baload, 1)) :
    ∀ target, Steps p.tables e below (T.setTop { g with pc := g.pc + 1, stack := .int v :: rest }) target → Steps p.tables e below (T.setTop g) target := by
  obtain ⟨cl, Ar, S, H⟩ := A
  exact X.baloadBytes hx (j := j) (v := .int v) (by rw [eT]; exact Ar.1) (State.isArrayOf_alike hZ.alike Ar.2.1) Ar.2.2 (own_in hj S hi) (by rw [hj.2, H i hi, hv]) (g := g) hg hs hd
theorem own_alen (X : Stand p l e R s m args below meth c T locs cells slots) (hx : p.tables.exec = Jvm.exec) (hZ : Z.Warmed39 s.vm) (eT : T.heap = h) (A : own_A Z h a ty n f) (hz : n.toInt32 = z) {g : JFrame} (hg : g.method = m) {rest : List Value} (hs : g.stack = .ref a :: rest) (hd : decode c.code g.pc = .ok (.arraylength, 1)) :
    ∀ target, Steps p.tables e below (T.setTop { g with pc := g.pc + 1, stack := .int z :: rest }) target → Steps p.tables e below (T.setTop g) target := by
  obtain ⟨cl, Ar, S, H⟩ := A
  subst hz
  rw [← S]
  exact X.arraylength hx (by rw [eT]; exact Ar.1) (State.isArrayOf_alike hZ.alike Ar.2.1) (g := g) hg hs hd
theorem own_stI (X : Stand p l e R s m args below meth c T locs cells slots) (hx : p.tables.exec = Jvm.exec) (hZ : Z.Warmed39 s.vm) (eT : T.heap = h) (A : own_A Z h a .int n f) (hj : own_at j i) (hi : i < n) {g : JFrame} (hg : g.method = m) {rest : List Value} (hs : g.stack = .int x :: .int j :: .ref a :: rest) (hd : decode c.code g.pc = .ok (.iastore, 1)) :
    ∃ T' h', Stand p l e R s m args below meth c T' (locs ++ [⟨a, i⟩]) cells slots ∧ T'.heap = h' ∧ Wr h h' a i (.int x) ∧ own_A Z h' a .int n (own_upd f i (.int x)) ∧ ∀ target, Steps p.tables e below (T'.setTop { g with pc := g.pc + 1, stack := rest }) target → Steps p.tables e below (T.setTop g) target := by
  obtain ⟨cl, Ar, S, H⟩ := A
  obtain ⟨T', h', X', e', W, st⟩ := stI X hx hZ eT Ar (j := j) (own_in hj S hi) hg hs hd
  rw [hj.2] at X' W
  exact ⟨T', h', X', e', W, own_A.put ⟨cl, Ar, S, H⟩ W hi, st⟩
theorem own_stJ {x : Int64} (X : Stand p l e R s m args below meth c T locs cells slots) (hx : p.tables.exec = Jvm.exec) (hZ : Z.Warmed39 s.vm) (eT : T.heap = h) (A : own_A Z h a .long n f) (hj : own_at j i) (hi : i < n) {g : JFrame} (hg : g.method = m) {rest : List Value} (hs : g.stack = .long x :: .int j :: .ref a :: rest) (hd : decode c.code g.pc = .ok (.lastore, 1)) :
    ∃ T' h', Stand p l e R s m args below meth c T' (locs ++ [⟨a, i⟩]) cells slots ∧ T'.heap = h' ∧ Wr h h' a i (.long x) ∧ own_A Z h' a .long n (own_upd f i (.long x)) ∧ ∀ target, Steps p.tables e below (T'.setTop { g with pc := g.pc + 1, stack := rest }) target → Steps p.tables e below (T.setTop g) target := by
  obtain ⟨cl, Ar, S, H⟩ := A
  obtain ⟨T', h', X', e', W, st⟩ := stJ X hx hZ eT Ar (j := j) (own_in hj S hi) hg hs hd
  rw [hj.2] at X' W
  exact ⟨T', h', X', e', W, own_A.put ⟨cl, Ar, S, H⟩ W hi, st⟩
theorem own_stB (X : Stand p l e R s m args below meth c T locs cells slots) (hx : p.tables.exec = Jvm.exec) (hZ : Z.Warmed39 s.vm) (eT : T.heap = h) (A : own_A Z h a .byte n f) (hj : own_at j i) (hi : i < n) {g : JFrame} (hg : g.method = m) {rest : List Value} (hs : g.stack = .int x :: .int j :: .ref a :: rest) (hd : decode c.code g.pc = .ok (.bastore, 1)) :
    ∃ T' h', Stand p l e R s m args below meth c T' (locs ++ [⟨a, i⟩]) cells slots ∧ T'.heap = h' ∧ Wr h h' a i (.int (nar .byte x)) ∧ own_A Z h' a .byte n (own_upd f i (.int (nar .byte x))) ∧ ∀ target, Steps p.tables e below (T'.setTop { g with pc := g.pc + 1, stack := rest }) target → Steps p.tables e below (T.setTop g) target := by
  obtain ⟨cl, Ar, S, H⟩ := A
  obtain ⟨T', h', X', e', W, st⟩ := stB X hx hZ eT Ar (j := j) (own_in hj S hi) hg hs hd
  rw [hj.2] at X' W
  exact ⟨T', h', X', e', W, own_A.put ⟨cl, Ar, S, H⟩ W hi, st⟩
/-- a private method is selected by itself -/
theorem own_selp {a0 args' : Array Value} {y : MethodName} {kk : Nat} (hZ : Z.Warmed39 s.vm) (wp : (Cond.privateMethod y).before a0 Z = true) (wi : (Cond.instanceMethod y).before a0 Z = true) (wk : (Cond.instantiable y.cls kk).before a0 Z = true) (hy : y.cls ≠ "java/lang/invoke/MethodHandle" ∧ y.cls ≠ "java/lang/invoke/VarHandle") : (Cond.selects y.cls y y).before args' s = true := by
  obtain ⟨c2, k2, i1, i2, i3, i4, -⟩ := Cond.instantiable_spec (mvT hZ wk (args := args'))
  have hni : k2.isInterface = false := by simp only [Bool.or_eq_false_iff] at i4; exact i4.1
  exact Stand.selects_self_of_private i1 i2 hni (Cond.privateMethod_at (mvP hZ wp (args := args'))) (mvT hZ wi) hy
end OwnArr
def own_f1 (p1 : Int32) : Int32 := (if p1 < (97 : Int32) then (if p1 < (65 : Int32) then (if p1 < (48 : Int32) then (0 : Int32) else (if (57 : Int32) < p1 then (0 : Int32) else (1 : Int32))) else (if (90 : Int32) < p1 then (if p1 < (48 : Int32) then (0 : Int32) else (if (57 : Int32) < p1 then (0 : Int32) else (1 : Int32))) else (1 : Int32))) else (if (122 : Int32) < p1 then (if p1 < (65 : Int32) then (if p1 < (48 : Int32) then (0 : Int32) else (if (57 : Int32) < p1 then (0 : Int32) else (1 : Int32))) else (if (90 : Int32) < p1 then (if p1 < (48 : Int32) then (0 : Int32) else (if (57 : Int32) < p1 then (0 : Int32) else (1 : Int32))) else (1 : Int32))) else (1 : Int32)))
theorem d1_0 : decode prog_38_method_6_code 0 = .ok (.iload_n 0, 1) := by decide +kernel
theorem d1_1 : decode prog_38_method_6_code 1 = .ok (.bipush 97, 2) := by decide +kernel
theorem d1_3 : decode prog_38_method_6_code 3 = .ok (.if_icmp .lt 9, 3) := by decide +kernel
theorem d1_6 : decode prog_38_method_6_code 6 = .ok (.iload_n 0, 1) := by decide +kernel
theorem d1_7 : decode prog_38_method_6_code 7 = .ok (.bipush 122, 2) := by decide +kernel
theorem d1_9 : decode prog_38_method_6_code 9 = .ok (.if_icmp .le 27, 3) := by decide +kernel
theorem d1_12 : decode prog_38_method_6_code 12 = .ok (.iload_n 0, 1) := by decide +kernel
theorem d1_13 : decode prog_38_method_6_code 13 = .ok (.bipush 65, 2) := by decide +kernel
theorem d1_15 : decode prog_38_method_6_code 15 = .ok (.if_icmp .lt 9, 3) := by decide +kernel
theorem d1_18 : decode prog_38_method_6_code 18 = .ok (.iload_n 0, 1) := by decide +kernel
theorem d1_19 : decode prog_38_method_6_code 19 = .ok (.bipush 90, 2) := by decide +kernel
theorem d1_21 : decode prog_38_method_6_code 21 = .ok (.if_icmp .le 15, 3) := by decide +kernel
theorem d1_24 : decode prog_38_method_6_code 24 = .ok (.iload_n 0, 1) := by decide +kernel
theorem d1_25 : decode prog_38_method_6_code 25 = .ok (.bipush 48, 2) := by decide +kernel
theorem d1_27 : decode prog_38_method_6_code 27 = .ok (.if_icmp .lt 13, 3) := by decide +kernel
theorem d1_30 : decode prog_38_method_6_code 30 = .ok (.iload_n 0, 1) := by decide +kernel
theorem d1_31 : decode prog_38_method_6_code 31 = .ok (.bipush 57, 2) := by decide +kernel
theorem d1_33 : decode prog_38_method_6_code 33 = .ok (.if_icmp .gt 7, 3) := by decide +kernel
theorem d1_36 : decode prog_38_method_6_code 36 = .ok (.iconst 1, 1) := by decide +kernel
theorem d1_37 : decode prog_38_method_6_code 37 = .ok (.goto 4, 3) := by decide +kernel
theorem d1_40 : decode prog_38_method_6_code 40 = .ok (.iconst 0, 1) := by decide +kernel
theorem d1_41 : decode prog_38_method_6_code 41 = .ok (.ireturn, 1) := by decide +kernel
theorem own_pn0 : plainName "com/example/sluicegate/sluicegate/http/FieldsDecoder" = true := by first | (simp [plainName, overriddenIn]; done) | decide +kernel
theorem own_ef_own_rm1 (m : MethodId) (x0 : Int32) : entryFrame m #[(.int x0)] 1 = mkF m 0 #[.val (.int x0)] [] := by first | (simp [entryFrame, mkF, argsToLocals, Value.category]; done) | rfl
def own_Q_rm1 (Z : State) (p1 : Int32) (h0 : Heap) (n0 : Nat) (v : Option Value) (h : Heap) (L : List Loc) : Prop := v = some (.int (own_f1 p1)) ∧ Fr n0 L ∧ h = h0
set_option maxRecDepth 65536 in
set_option maxHeartbeats 40000000 in
theorem own_rm1 (l : Launch) (Z : State) (a0 : Array Value) (hw : ∀ d ∈ tables_1, d.before a0 Z = true) (p1 : Int32) (h0 : Heap) (n0 : Nat) :
    MetFree l (⟨"com/example/sluicegate/sluicegate/http/FieldsDecoder", "isLetterOrDigit", "(C)Z"⟩ : MethodName) (head1 [Jvm.Cond.code (⟨"com/example/sluicegate/sluicegate/http/FieldsDecoder", "isLetterOrDigit", "(C)Z"⟩ : MethodName) prog_38_method_6_code 1 (some .boolean)] ({ frames := 0, cells := 0, slots := 0, locals := 0 } : Room)) (fun a U => a = #[(.int p1)] ∧ Z.Warmed39 U.vm ∧ U.heap = h0) (fun _ _ _ _ _ => True) (fun _ U o U' => ∃ v L, o = .returned v ∧ own_Q_rm1 Z p1 h0 n0 v U'.heap L ∧ FrameEnd U o U' L ({ frames := 0, cells := 0, slots := 0, locals := 0 } : Room).cells ({ frames := 0, cells := 0, slots := 0, locals := 0 } : Room).slots) := by
  refine MetFree.of_bodySF (plainFor_of_name own_pn0) hisR ?_
  intro p e s m args below meth c s₁ Bd hml0 hP hK
  obtain ⟨rfl, hZ, hh⟩ := hP
  have hx := Bd.exec
  have hby := Bd.bytes
  have hret := Bd.returns
  have hlk := Bd.notSynchronized
  have hml : c.maxLocals = 1 := hml0
  have hown : s.vm.findClass "com/example/sluicegate/sluicegate/http/FieldsDecoder" = some m.cls := findClass_of_methodNamed Bd.named
  have hnm := (name_of_methodNamed Bd.named Bd.method).1
  have X0 : Stand p l e ({ frames := 0, cells := 0, slots := 0, locals := 0 } : Room) s m #[(.int p1)] below meth c s₁ [] 0 0 := Stand.of_body Bd
  have e0 : s₁.heap = h0 := by rw [← hh, Bd.state]; rfl
  have N0 := Fr.nil n0
  refine own_Go.cast (own_ef_own_rm1 m p1) ?_
  refine own_step (T' := s₁) (f' := (mkF m 3 #[.val (.int p1)] [(.int (97 : Int32)), (.int p1)])) (fun t k => ?_) ?_
  · show Steps p.tables e below (s₁.setTop (mkF m 0 #[.val (.int p1)] [])) _
    refine XS.iloadN X0.here hx rfl (hb hby d1_0) rfl ?_
    show Steps p.tables e below (s₁.setTop (mkF m 1 #[.val (.int p1)] [(.int p1)])) _
    refine XS.bipush X0.here hx rfl (hb hby d1_1) ?_
    exact k
  by_cases hc3_0 : p1 < (97 : Int32)
  · refine own_step (T' := s₁) (f' := (mkF m 15 #[.val (.int p1)] [(.int (65 : Int32)), (.int p1)])) (fun t k => ?_) ?_
    · show Steps p.tables e below (s₁.setTop (mkF m 3 #[.val (.int p1)] [(.int (97 : Int32)), (.int p1)])) _
      refine XS.icmpYes X0.here hx rfl (pc0 := 3) (pc' := 12) rfl (hb hby d1_3) rfl (tlt hc3_0).1 (by decide) (by decide) ?_
      show Steps p.tables e below (s₁.setTop (mkF m 12 #[.val (.int p1)] [])) _
      refine XS.iloadN X0.here hx rfl (hb hby d1_12) rfl ?_
      show Steps p.tables e below (s₁.setTop (mkF m 13 #[.val (.int p1)] [(.int p1)])) _
      refine XS.bipush X0.here hx rfl (hb hby d1_13) ?_
      exact k
    by_cases hc15_1 : p1 < (65 : Int32)
    · refine own_step (T' := s₁) (f' := (mkF m 27 #[.val (.int p1)] [(.int (48 : Int32)), (.int p1)])) (fun t k => ?_) ?_
      · show Steps p.tables e below (s₁.setTop (mkF m 15 #[.val (.int p1)] [(.int (65 : Int32)), (.int p1)])) _
        refine XS.icmpYes X0.here hx rfl (pc0 := 15) (pc' := 24) rfl (hb hby d1_15) rfl (tlt hc15_1).1 (by decide) (by decide) ?_
        show Steps p.tables e below (s₁.setTop (mkF m 24 #[.val (.int p1)] [])) _
        refine XS.iloadN X0.here hx rfl (hb hby d1_24) rfl ?_
        show Steps p.tables e below (s₁.setTop (mkF m 25 #[.val (.int p1)] [(.int p1)])) _
        refine XS.bipush X0.here hx rfl (hb hby d1_25) ?_
        exact k
      by_cases hc27_2 : p1 < (48 : Int32)
      · refine own_step (T' := s₁) (f' := (mkF m 41 #[.val (.int p1)] [(.int (0 : Int32))])) (fun t k => ?_) ?_
        · show Steps p.tables e below (s₁.setTop (mkF m 27 #[.val (.int p1)] [(.int (48 : Int32)), (.int p1)])) _
          refine XS.icmpYes X0.here hx rfl (pc0 := 27) (pc' := 40) rfl (hb hby d1_27) rfl (tlt hc27_2).1 (by decide) (by decide) ?_
          show Steps p.tables e below (s₁.setTop (mkF m 40 #[.val (.int p1)] [])) _
          refine XS.iconst X0.here hx rfl (hb hby d1_40) ?_
          exact k
        exact own_retZ X0 hx hret hlk (hb hby d1_41) (by decide) (by decide) ⟨(congrArg (fun z => some (Value.int z)) ((show nar .boolean (0 : Int32) = (0 : Int32) from rfl).trans (show (0 : Int32) = own_f1 p1 from (by rw [own_f1, if_pos hc3_0, if_pos hc15_1, if_pos hc27_2])))), N0, e0⟩
      · refine own_step (T' := s₁) (f' := (mkF m 33 #[.val (.int p1)] [(.int (57 : Int32)), (.int p1)])) (fun t k => ?_) ?_
        · show Steps p.tables e below (s₁.setTop (mkF m 27 #[.val (.int p1)] [(.int (48 : Int32)), (.int p1)])) _
          refine XS.icmpNo X0.here hx rfl (hb hby d1_27) rfl (flt hc27_2).1 ?_
          show Steps p.tables e below (s₁.setTop (mkF m 30 #[.val (.int p1)] [])) _
          refine XS.iloadN X0.here hx rfl (hb hby d1_30) rfl ?_
          show Steps p.tables e below (s₁.setTop (mkF m 31 #[.val (.int p1)] [(.int p1)])) _
          refine XS.bipush X0.here hx rfl (hb hby d1_31) ?_
          exact k
        by_cases hc33_3 : (57 : Int32) < p1
        · refine own_step (T' := s₁) (f' := (mkF m 41 #[.val (.int p1)] [(.int (0 : Int32))])) (fun t k => ?_) ?_
          · show Steps p.tables e below (s₁.setTop (mkF m 33 #[.val (.int p1)] [(.int (57 : Int32)), (.int p1)])) _
            refine XS.icmpYes X0.here hx rfl (pc0 := 33) (pc' := 40) rfl (hb hby d1_33) rfl (tlt hc33_3).2.2.1 (by decide) (by decide) ?_
            show Steps p.tables e below (s₁.setTop (mkF m 40 #[.val (.int p1)] [])) _
            refine XS.iconst X0.here hx rfl (hb hby d1_40) ?_
            exact k
          exact own_retZ X0 hx hret hlk (hb hby d1_41) (by decide) (by decide) ⟨(congrArg (fun z => some (Value.int z)) ((show nar .boolean (0 : Int32) = (0 : Int32) from rfl).trans (show (0 : Int32) = own_f1 p1 from (by rw [own_f1, if_pos hc3_0, if_pos hc15_1, if_neg hc27_2, if_pos hc33_3])))), N0, e0⟩
        · refine own_step (T' := s₁) (f' := (mkF m 41 #[.val (.int p1)] [(.int (1 : Int32))])) (fun t k => ?_) ?_
          · show Steps p.tables e below (s₁.setTop (mkF m 33 #[.val (.int p1)] [(.int (57 : Int32)), (.int p1)])) _
            refine XS.icmpNo X0.here hx rfl (hb hby d1_33) rfl (flt hc33_3).2.2.1 ?_
            show Steps p.tables e below (s₁.setTop (mkF m 36 #[.val (.int p1)] [])) _
            refine XS.iconst X0.here hx rfl (hb hby d1_36) ?_
            show Steps p.tables e below (s₁.setTop (mkF m 37 #[.val (.int p1)] [(.int (1 : Int32))])) _
            refine XS.goto X0.here hx rfl (pc0 := 37) (pc' := 41) rfl (hb hby d1_37) (by decide) (by decide) ?_
            exact k
          exact own_retZ X0 hx hret hlk (hb hby d1_41) (by decide) (by decide) ⟨(congrArg (fun z => some (Value.int z)) ((show nar .boolean (1 : Int32) = (1 : Int32) from rfl).trans (show (1 : Int32) = own_f1 p1 from (by rw [own_f1, if_pos hc3_0, if_pos hc15_1, if_neg hc27_2, if_neg hc33_3])))), N0, e0⟩
    · refine own_step (T' := s₁) (f' := (mkF m 21 #[.val (.int p1)] [(.int (90 : Int32)), (.int p1)])) (fun t k => ?_) ?_
      · show Steps p.tables e below (s₁.setTop (mkF m 15 #[.val (.int p1)] [(.int (65 : Int32)), (.int p1)])) _
        refine XS.icmpNo X0.here hx rfl (hb hby d1_15) rfl (flt hc15_1).1 ?_
        show Steps p.tables e below (s₁.setTop (mkF m 18 #[.val (.int p1)] [])) _
        refine XS.iloadN X0.here hx rfl (hb hby d1_18) rfl ?_
        show Steps p.tables e below (s₁.setTop (mkF m 19 #[.val (.int p1)] [(.int p1)])) _
        refine XS.bipush X0.here hx rfl (hb hby d1_19) ?_
        exact k
      by_cases hc21_2 : (90 : Int32) < p1
      · refine own_step (T' := s₁) (f' := (mkF m 27 #[.val (.int p1)] [(.int (48 : Int32)), (.int p1)])) (fun t k => ?_) ?_
        · show Steps p.tables e below (s₁.setTop (mkF m 21 #[.val (.int p1)] [(.int (90 : Int32)), (.int p1)])) _
          refine XS.icmpNo X0.here hx rfl (hb hby d1_21) rfl (tlt hc21_2).2.2.2 ?_
          show Steps p.tables e below (s₁.setTop (mkF m 24 #[.val (.int p1)] [])) _
          refine XS.iloadN X0.here hx rfl (hb hby d1_24) rfl ?_
          show Steps p.tables e below (s₁.setTop (mkF m 25 #[.val (.int p1)] [(.int p1)])) _
          refine XS.bipush X0.here hx rfl (hb hby d1_25) ?_
          exact k
        by_cases hc27_3 : p1 < (48 : Int32)
        · refine own_step (T' := s₁) (f' := (mkF m 41 #[.val (.int p1)] [(.int (0 : Int32))])) (fun t k => ?_) ?_
          · show Steps p.tables e below (s₁.setTop (mkF m 27 #[.val (.int p1)] [(.int (48 : Int32)), (.int p1)])) _
            refine XS.icmpYes X0.here hx rfl (pc0 := 27) (pc' := 40) rfl (hb hby d1_27) rfl (tlt hc27_3).1 (by decide) (by decide) ?_
            show Steps p.tables e below (s₁.setTop (mkF m 40 #[.val (.int p1)] [])) _
            refine XS.iconst X0.here hx rfl (hb hby d1_40) ?_
            exact k
          exact own_retZ X0 hx hret hlk (hb hby d1_41) (by decide) (by decide) ⟨(congrArg (fun z => some (Value.int z)) ((show nar .boolean (0 : Int32) = (0 : Int32) from rfl).trans (show (0 : Int32) = own_f1 p1 from (by rw [own_f1, if_pos hc3_0, if_neg hc15_1, if_pos hc21_2, if_pos hc27_3])))), N0, e0⟩
        · refine own_step (T' := s₁) (f' := (mkF m 33 #[.val (.int p1)] [(.int (57 : Int32)), (.int p1)])) (fun t k => ?_) ?_
          · show Steps p.tables e below (s₁.setTop (mkF m 27 #[.val (.int p1)] [(.int (48 : Int32)), (.int p1)])) _
            refine XS.icmpNo X0.here hx rfl (hb hby d1_27) rfl (flt hc27_3).1 ?_
            show Steps p.tables e below (s₁.setTop (mkF m 30 #[.val (.int p1)] [])) _
            refine XS.iloadN X0.here hx rfl (hb hby d1_30) rfl ?_
            show Steps p.tables e below (s₁.setTop (mkF m 31 #[.val (.int p1)] [(.int p1)])) _
            refine XS.bipush X0.here hx rfl (hb hby d1_31) ?_
            exact k
          by_cases hc33_4 : (57 : Int32) < p1
          · refine own_step (T' := s₁) (f' := (mkF m 41 #[.val (.int p1)] [(.int (0 : Int32))])) (fun t k => ?_) ?_
            · show Steps p.tables e below (s₁.setTop (mkF m 33 #[.val (.int p1)] [(.int (57 : Int32)), (.int p1)])) _
              refine XS.icmpYes X0.here hx rfl (pc0 := 33) (pc' := 40) rfl (hb hby d1_33) rfl (tlt hc33_4).2.2.1 (by decide) (by decide) ?_
              show Steps p.tables e below (s₁.setTop (mkF m 40 #[.val (.int p1)] [])) _
              refine XS.iconst X0.here hx rfl (hb hby d1_40) ?_
              exact k
            exact own_retZ X0 hx hret hlk (hb hby d1_41) (by decide) (by decide) ⟨(congrArg (fun z => some (Value.int z)) ((show nar .boolean (0 : Int32) = (0 : Int32) from rfl).trans (show (0 : Int32) = own_f1 p1 from (by rw [own_f1, if_pos hc3_0, if_neg hc15_1, if_pos hc21_2, if_neg hc27_3, if_pos hc33_4])))), N0, e0⟩
          · refine own_step (T' := s₁) (f' := (mkF m 41 #[.val (.int p1)] [(.int (1 : Int32))])) (fun t k => ?_) ?_
            · show Steps p.tables e below (s₁.setTop (mkF m 33 #[.val (.int p1)] [(.int (57 : Int32)), (.int p1)])) _
              refine XS.icmpNo X0.here hx rfl (hb hby d1_33) rfl (flt hc33_4).2.2.1 ?_
              show Steps p.tables e below (s₁.setTop (mkF m 36 #[.val (.int p1)] [])) _
              refine XS.iconst X0.here hx rfl (hb hby d1_36) ?_
              show Steps p.tables e below (s₁.setTop (mkF m 37 #[.val (.int p1)] [(.int (1 : Int32))])) _
              refine XS.goto X0.here hx rfl (pc0 := 37) (pc' := 41) rfl (hb hby d1_37) (by decide) (by decide) ?_
              exact k
            exact own_retZ X0 hx hret hlk (hb hby d1_41) (by decide) (by decide) ⟨(congrArg (fun z => some (Value.int z)) ((show nar .boolean (1 : Int32) = (1 : Int32) from rfl).trans (show (1 : Int32) = own_f1 p1 from (by rw [own_f1, if_pos hc3_0, if_neg hc15_1, if_pos hc21_2, if_neg hc27_3, if_neg hc33_4])))), N0, e0⟩
      · refine own_step (T' := s₁) (f' := (mkF m 41 #[.val (.int p1)] [(.int (1 : Int32))])) (fun t k => ?_) ?_
        · show Steps p.tables e below (s₁.setTop (mkF m 21 #[.val (.int p1)] [(.int (90 : Int32)), (.int p1)])) _
          refine XS.icmpYes X0.here hx rfl (pc0 := 21) (pc' := 36) rfl (hb hby d1_21) rfl (flt hc21_2).2.2.2 (by decide) (by decide) ?_
          show Steps p.tables e below (s₁.setTop (mkF m 36 #[.val (.int p1)] [])) _
          refine XS.iconst X0.here hx rfl (hb hby d1_36) ?_
          show Steps p.tables e below (s₁.setTop (mkF m 37 #[.val (.int p1)] [(.int (1 : Int32))])) _
          refine XS.goto X0.here hx rfl (pc0 := 37) (pc' := 41) rfl (hb hby d1_37) (by decide) (by decide) ?_
          exact k
        exact own_retZ X0 hx hret hlk (hb hby d1_41) (by decide) (by decide) ⟨(congrArg (fun z => some (Value.int z)) ((show nar .boolean (1 : Int32) = (1 : Int32) from rfl).trans (show (1 : Int32) = own_f1 p1 from (by rw [own_f1, if_pos hc3_0, if_neg hc15_1, if_neg hc21_2])))), N0, e0⟩
  · refine own_step (T' := s₁) (f' := (mkF m 9 #[.val (.int p1)] [(.int (122 : Int32)), (.int p1)])) (fun t k => ?_) ?_
    · show Steps p.tables e below (s₁.setTop (mkF m 3 #[.val (.int p1)] [(.int (97 : Int32)), (.int p1)])) _
      refine XS.icmpNo X0.here hx rfl (hb hby d1_3) rfl (flt hc3_0).1 ?_
      show Steps p.tables e below (s₁.setTop (mkF m 6 #[.val (.int p1)] [])) _
      refine XS.iloadN X0.here hx rfl (hb hby d1_6) rfl ?_
      show Steps p.tables e below (s₁.setTop (mkF m 7 #[.val (.int p1)] [(.int p1)])) _
      refine XS.bipush X0.here hx rfl (hb hby d1_7) ?_
      exact k
    by_cases hc9_1 : (122 : Int32) < p1
    · refine own_step (T' := s₁) (f' := (mkF m 15 #[.val (.int p1)] [(.int (65 : Int32)), (.int p1)])) (fun t k => ?_) ?_
      · show Steps p.tables e below (s₁.setTop (mkF m 9 #[.val (.int p1)] [(.int (122 : Int32)), (.int p1)])) _
        refine XS.icmpNo X0.here hx rfl (hb hby d1_9) rfl (tlt hc9_1).2.2.2 ?_
        show Steps p.tables e below (s₁.setTop (mkF m 12 #[.val (.int p1)] [])) _
        refine XS.iloadN X0.here hx rfl (hb hby d1_12) rfl ?_
        show Steps p.tables e below (s₁.setTop (mkF m 13 #[.val (.int p1)] [(.int p1)])) _
        refine XS.bipush X0.here hx rfl (hb hby d1_13) ?_
        exact k
      by_cases hc15_2 : p1 < (65 : Int32)
      · refine own_step (T' := s₁) (f' := (mkF m 27 #[.val (.int p1)] [(.int (48 : Int32)), (.int p1)])) (fun t k => ?_) ?_
        · show Steps p.tables e below (s₁.setTop (mkF m 15 #[.val (.int p1)] [(.int (65 : Int32)), (.int p1)])) _
          refine XS.icmpYes X0.here hx rfl (pc0 := 15) (pc' := 24) rfl (hb hby d1_15) rfl (tlt hc15_2).1 (by decide) (by decide) ?_
          show Steps p.tables e below (s₁.setTop (mkF m 24 #[.val (.int p1)] [])) _
          refine XS.iloadN X0.here hx rfl (hb hby d1_24) rfl ?_
          show Steps p.tables e below (s₁.setTop (mkF m 25 #[.val (.int p1)] [(.int p1)])) _
          refine XS.bipush X0.here hx rfl (hb hby d1_25) ?_
          exact k
        by_cases hc27_3 : p1 < (48 : Int32)
        · refine own_step (T' := s₁) (f' := (mkF m 41 #[.val (.int p1)] [(.int (0 : Int32))])) (fun t k => ?_) ?_
          · show Steps p.tables e below (s₁.setTop (mkF m 27 #[.val (.int p1)] [(.int (48 : Int32)), (.int p1)])) _
            refine XS.icmpYes X0.here hx rfl (pc0 := 27) (pc' := 40) rfl (hb hby d1_27) rfl (tlt hc27_3).1 (by decide) (by decide) ?_
            show Steps p.tables e below (s₁.setTop (mkF m 40 #[.val (.int p1)] [])) _
            refine XS.iconst X0.here hx rfl (hb hby d1_40) ?_
            exact k
          exact own_retZ X0 hx hret hlk (hb hby d1_41) (by decide) (by decide) ⟨(congrArg (fun z => some (Value.int z)) ((show nar .boolean (0 : Int32) = (0 : Int32) from rfl).trans (show (0 : Int32) = own_f1 p1 from (by rw [own_f1, if_neg hc3_0, if_pos hc9_1, if_pos hc15_2, if_pos hc27_3])))), N0, e0⟩
        · refine own_step (T' := s₁) (f' := (mkF m 33 #[.val (.int p1)] [(.int (57 : Int32)), (.int p1)])) (fun t k => ?_) ?_
          · show Steps p.tables e below (s₁.setTop (mkF m 27 #[.val (.int p1)] [(.int (48 : Int32)), (.int p1)])) _
            refine XS.icmpNo X0.here hx rfl (hb hby d1_27) rfl (flt hc27_3).1 ?_
            show Steps p.tables e below (s₁.setTop (mkF m 30 #[.val (.int p1)] [])) _
            refine XS.iloadN X0.here hx rfl (hb hby d1_30) rfl ?_
            show Steps p.tables e below (s₁.setTop (mkF m 31 #[.val (.int p1)] [(.int p1)])) _
            refine XS.bipush X0.here hx rfl (hb hby d1_31) ?_
            exact k
          by_cases hc33_4 : (57 : Int32) < p1
          · refine own_step (T' := s₁) (f' := (mkF m 41 #[.val (.int p1)] [(.int (0 : Int32))])) (fun t k => ?_) ?_
            · show Steps p.tables e below (s₁.setTop (mkF m 33 #[.val (.int p1)] [(.int (57 : Int32)), (.int p1)])) _
              refine XS.icmpYes X0.here hx rfl (pc0 := 33) (pc' := 40) rfl (hb hby d1_33) rfl (tlt hc33_4).2.2.1 (by decide) (by decide) ?_
              show Steps p.tables e below (s₁.setTop (mkF m 40 #[.val (.int p1)] [])) _
              refine XS.iconst X0.here hx rfl (hb hby d1_40) ?_
              exact k
            exact own_retZ X0 hx hret hlk (hb hby d1_41) (by decide) (by decide) ⟨(congrArg (fun z => some (Value.int z)) ((show nar .boolean (0 : Int32) = (0 : Int32) from rfl).trans (show (0 : Int32) = own_f1 p1 from (by rw [own_f1, if_neg hc3_0, if_pos hc9_1, if_pos hc15_2, if_neg hc27_3, if_pos hc33_4])))), N0, e0⟩
          · refine own_step (T' := s₁) (f' := (mkF m 41 #[.val (.int p1)] [(.int (1 : Int32))])) (fun t k => ?_) ?_
            · show Steps p.tables e below (s₁.setTop (mkF m 33 #[.val (.int p1)] [(.int (57 : Int32)), (.int p1)])) _
              refine XS.icmpNo X0.here hx rfl (hb hby d1_33) rfl (flt hc33_4).2.2.1 ?_
              show Steps p.tables e below (s₁.setTop (mkF m 36 #[.val (.int p1)] [])) _
              refine XS.iconst X0.here hx rfl (hb hby d1_36) ?_
              show Steps p.tables e below (s₁.setTop (mkF m 37 #[.val (.int p1)] [(.int (1 : Int32))])) _
              refine XS.goto X0.here hx rfl (pc0 := 37) (pc' := 41) rfl (hb hby d1_37) (by decide) (by decide) ?_
              exact k
            exact own_retZ X0 hx hret hlk (hb hby d1_41) (by decide) (by decide) ⟨(congrArg (fun z => some (Value.int z)) ((show nar .boolean (1 : Int32) = (1 : Int32) from rfl).trans (show (1 : Int32) = own_f1 p1 from (by rw [own_f1, if_neg hc3_0, if_pos hc9_1, if_pos hc15_2, if_neg hc27_3, if_neg hc33_4])))), N0, e0⟩
      · refine own_step (T' := s₁) (f' := (mkF m 21 #[.val (.int p1)] [(.int (90 : Int32)), (.int p1)])) (fun t k => ?_) ?_
        · show Steps p.tables e below (s₁.setTop (mkF m 15 #[.val (.int p1)] [(.int (65 : Int32)), (.int p1)])) _
          refine XS.icmpNo X0.here hx rfl (hb hby d1_15) rfl (flt hc15_2).1 ?_
          show Steps p.tables e below (s₁.setTop (mkF m 18 #[.val (.int p1)] [])) _
          refine XS.iloadN X0.here hx rfl (hb hby d1_18) rfl ?_
          show Steps p.tables e below (s₁.setTop (mkF m 19 #[.val (.int p1)] [(.int p1)])) _
          refine XS.bipush X0.here hx rfl (hb hby d1_19) ?_
          exact k
        by_cases hc21_3 : (90 : Int32) < p1
        · refine own_step (T' := s₁) (f' := (mkF m 27 #[.val (.int p1)] [(.int (48 : Int32)), (.int p1)])) (fun t k => ?_) ?_
          · show Steps p.tables e below (s₁.setTop (mkF m 21 #[.val (.int p1)] [(.int (90 : Int32)), (.int p1)])) _
            refine XS.icmpNo X0.here hx rfl (hb hby d1_21) rfl (tlt hc21_3).2.2.2 ?_
            show Steps p.tables e below (s₁.setTop (mkF m 24 #[.val (.int p1)] [])) _
            refine XS.iloadN X0.here hx rfl (hb hby d1_24) rfl ?_
            show Steps p.tables e below (s₁.setTop (mkF m 25 #[.val (.int p1)] [(.int p1)])) _
            refine XS.bipush X0.here hx rfl (hb hby d1_25) ?_
            exact k
          by_cases hc27_4 : p1 < (48 : Int32)
          · refine own_step (T' := s₁) (f' := (mkF m 41 #[.val (.int p1)] [(.int (0 : Int32))])) (fun t k => ?_) ?_
            · show Steps p.tables e below (s₁.setTop (mkF m 27 #[.val (.int p1)] [(.int (48 : Int32)), (.int p1)])) _
              refine XS.icmpYes X0.here hx rfl (pc0 := 27) (pc' := 40) rfl (hb hby d1_27) rfl (tlt hc27_4).1 (by decide) (by decide) ?_
              show Steps p.tables e below (s₁.setTop (mkF m 40 #[.val (.int p1)] [])) _
              refine XS.iconst X0.here hx rfl (hb hby d1_40) ?_
              exact k
            exact own_retZ X0 hx hret hlk (hb hby d1_41) (by decide) (by decide) ⟨(congrArg (fun z => some (Value.int z)) ((show nar .boolean (0 : Int32) = (0 : Int32) from rfl).trans (show (0 : Int32) = own_f1 p1 from (by rw [own_f1, if_neg hc3_0, if_pos hc9_1, if_neg hc15_2, if_pos hc21_3, if_pos hc27_4])))), N0, e0⟩
          · refine own_step (T' := s₁) (f' := (mkF m 33 #[.val (.int p1)] [(.int (57 : Int32)), (.int p1)])) (fun t k => ?_) ?_
            · show Steps p.tables e below (s₁.setTop (mkF m 27 #[.val (.int p1)] [(.int (48 : Int32)), (.int p1)])) _
              refine XS.icmpNo X0.here hx rfl (hb hby d1_27) rfl (flt hc27_4).1 ?_
              show Steps p.tables e below (s₁.setTop (mkF m 30 #[.val (.int p1)] [])) _
              refine XS.iloadN X0.here hx rfl (hb hby d1_30) rfl ?_
              show Steps p.tables e below (s₁.setTop (mkF m 31 #[.val (.int p1)] [(.int p1)])) _
              refine XS.bipush X0.here hx rfl (hb hby d1_31) ?_
              exact k
            by_cases hc33_5 : (57 : Int32) < p1
            · refine own_step (T' := s₁) (f' := (mkF m 41 #[.val (.int p1)] [(.int (0 : Int32))])) (fun t k => ?_) ?_
              · show Steps p.tables e below (s₁.setTop (mkF m 33 #[.val (.int p1)] [(.int (57 : Int32)), (.int p1)])) _
                refine XS.icmpYes X0.here hx rfl (pc0 := 33) (pc' := 40) rfl (hb hby d1_33) rfl (tlt hc33_5).2.2.1 (by decide) (by decide) ?_
                show Steps p.tables e below (s₁.setTop (mkF m 40 #[.val (.int p1)] [])) _
                refine XS.iconst X0.here hx rfl (hb hby d1_40) ?_
                exact k
              exact own_retZ X0 hx hret hlk (hb hby d1_41) (by decide) (by decide) ⟨(congrArg (fun z => some (Value.int z)) ((show nar .boolean (0 : Int32) = (0 : Int32) from rfl).trans (show (0 : Int32) = own_f1 p1 from (by rw [own_f1, if_neg hc3_0, if_pos hc9_1, if_neg hc15_2, if_pos hc21_3, if_neg hc27_4, if_pos hc33_5])))), N0, e0⟩
            · refine own_step (T' := s₁) (f' := (mkF m 41 #[.val (.int p1)] [(.int (1 : Int32))])) (fun t k => ?_) ?_
              · show Steps p.tables e below (s₁.setTop (mkF m 33 #[.val (.int p1)] [(.int (57 : Int32)), (.int p1)])) _
                refine XS.icmpNo X0.here hx rfl (hb hby d1_33) rfl (flt hc33_5).2.2.1 ?_
                show Steps p.tables e below (s₁.setTop (mkF m 36 #[.val (.int p1)] [])) _
                refine XS.iconst X0.here hx rfl (hb hby d1_36) ?_
                show Steps p.tables e below (s₁.setTop (mkF m 37 #[.val (.int p1)] [(.int (1 : Int32))])) _
                refine XS.goto X0.here hx rfl (pc0 := 37) (pc' := 41) rfl (hb hby d1_37) (by decide) (by decide) ?_
                exact k
              exact own_retZ X0 hx hret hlk (hb hby d1_41) (by decide) (by decide) ⟨(congrArg (fun z => some (Value.int z)) ((show nar .boolean (1 : Int32) = (1 : Int32) from rfl).trans (show (1 : Int32) = own_f1 p1 from (by rw [own_f1, if_neg hc3_0, if_pos hc9_1, if_neg hc15_2, if_pos hc21_3, if_neg hc27_4, if_neg hc33_5])))), N0, e0⟩
        · refine own_step (T' := s₁) (f' := (mkF m 41 #[.val (.int p1)] [(.int (1 : Int32))])) (fun t k => ?_) ?_
          · show Steps p.tables e below (s₁.setTop (mkF m 21 #[.val (.int p1)] [(.int (90 : Int32)), (.int p1)])) _
            refine XS.icmpYes X0.here hx rfl (pc0 := 21) (pc' := 36) rfl (hb hby d1_21) rfl (flt hc21_3).2.2.2 (by decide) (by decide) ?_
            show Steps p.tables e below (s₁.setTop (mkF m 36 #[.val (.int p1)] [])) _
            refine XS.iconst X0.here hx rfl (hb hby d1_36) ?_
            show Steps p.tables e below (s₁.setTop (mkF m 37 #[.val (.int p1)] [(.int (1 : Int32))])) _
            refine XS.goto X0.here hx rfl (pc0 := 37) (pc' := 41) rfl (hb hby d1_37) (by decide) (by decide) ?_
            exact k
          exact own_retZ X0 hx hret hlk (hb hby d1_41) (by decide) (by decide) ⟨(congrArg (fun z => some (Value.int z)) ((show nar .boolean (1 : Int32) = (1 : Int32) from rfl).trans (show (1 : Int32) = own_f1 p1 from (by rw [own_f1, if_neg hc3_0, if_pos hc9_1, if_neg hc15_2, if_neg hc21_3])))), N0, e0⟩
    · refine own_step (T' := s₁) (f' := (mkF m 41 #[.val (.int p1)] [(.int (1 : Int32))])) (fun t k => ?_) ?_
      · show Steps p.tables e below (s₁.setTop (mkF m 9 #[.val (.int p1)] [(.int (122 : Int32)), (.int p1)])) _
        refine XS.icmpYes X0.here hx rfl (pc0 := 9) (pc' := 36) rfl (hb hby d1_9) rfl (flt hc9_1).2.2.2 (by decide) (by decide) ?_
        show Steps p.tables e below (s₁.setTop (mkF m 36 #[.val (.int p1)] [])) _
        refine XS.iconst X0.here hx rfl (hb hby d1_36) ?_
        show Steps p.tables e below (s₁.setTop (mkF m 37 #[.val (.int p1)] [(.int (1 : Int32))])) _
        refine XS.goto X0.here hx rfl (pc0 := 37) (pc' := 41) rfl (hb hby d1_37) (by decide) (by decide) ?_
        exact k
      exact own_retZ X0 hx hret hlk (hb hby d1_41) (by decide) (by decide) ⟨(congrArg (fun z => some (Value.int z)) ((show nar .boolean (1 : Int32) = (1 : Int32) from rfl).trans (show (1 : Int32) = own_f1 p1 from (by rw [own_f1, if_neg hc3_0, if_neg hc9_1])))), N0, e0⟩
def own_f2 (p1 : Int32) : Int32 := (if (if ((p1 ||| (32 : Int32)) - (97 : Int32)) < (0 : Int32) then (0 : Int32) else (if ((p1 ||| (32 : Int32)) - (97 : Int32)) < (26 : Int32) then (1 : Int32) else (0 : Int32))) = (0 : Int32) then (if (if (p1 - (48 : Int32)) < (0 : Int32) then (0 : Int32) else (if (p1 - (48 : Int32)) < (10 : Int32) then (1 : Int32) else (0 : Int32))) = (0 : Int32) then (0 : Int32) else (1 : Int32)) else (1 : Int32))
theorem d2_0 : decode method_2_code 0 = .ok (.iload_n 0, 1) := by decide +kernel
theorem d2_1 : decode method_2_code 1 = .ok (.bipush 32, 2) := by decide +kernel
theorem d2_3 : decode method_2_code 3 = .ok (.ior, 1) := by decide +kernel
theorem d2_4 : decode method_2_code 4 = .ok (.istore_n 1, 1) := by decide +kernel
theorem d2_5 : decode method_2_code 5 = .ok (.iload_n 1, 1) := by decide +kernel
theorem d2_6 : decode method_2_code 6 = .ok (.bipush 97, 2) := by decide +kernel
theorem d2_8 : decode method_2_code 8 = .ok (.isub, 1) := by decide +kernel
theorem d2_9 : decode method_2_code 9 = .ok (.istore_n 2, 1) := by decide +kernel
theorem d2_10 : decode method_2_code 10 = .ok (.iload_n 2, 1) := by decide +kernel
theorem d2_11 : decode method_2_code 11 = .ok (.ifCond .lt 13, 3) := by decide +kernel
theorem d2_14 : decode method_2_code 14 = .ok (.iload_n 2, 1) := by decide +kernel
theorem d2_15 : decode method_2_code 15 = .ok (.bipush 26, 2) := by decide +kernel
theorem d2_17 : decode method_2_code 17 = .ok (.if_icmp .ge 7, 3) := by decide +kernel
theorem d2_20 : decode method_2_code 20 = .ok (.iconst 1, 1) := by decide +kernel
theorem d2_21 : decode method_2_code 21 = .ok (.goto 4, 3) := by decide +kernel
theorem d2_24 : decode method_2_code 24 = .ok (.iconst 0, 1) := by decide +kernel
theorem d2_25 : decode method_2_code 25 = .ok (.istore_n 3, 1) := by decide +kernel
theorem d2_26 : decode method_2_code 26 = .ok (.iload_n 0, 1) := by decide +kernel
theorem d2_27 : decode method_2_code 27 = .ok (.bipush 48, 2) := by decide +kernel
theorem d2_29 : decode method_2_code 29 = .ok (.isub, 1) := by decide +kernel
theorem d2_30 : decode method_2_code 30 = .ok (.istore 4, 2) := by decide +kernel
theorem d2_32 : decode method_2_code 32 = .ok (.iload 4, 2) := by decide +kernel
theorem d2_34 : decode method_2_code 34 = .ok (.ifCond .lt 14, 3) := by decide +kernel
theorem d2_37 : decode method_2_code 37 = .ok (.iload 4, 2) := by decide +kernel
theorem d2_39 : decode method_2_code 39 = .ok (.bipush 10, 2) := by decide +kernel
theorem d2_41 : decode method_2_code 41 = .ok (.if_icmp .ge 7, 3) := by decide +kernel
theorem d2_44 : decode method_2_code 44 = .ok (.iconst 1, 1) := by decide +kernel
theorem d2_45 : decode method_2_code 45 = .ok (.goto 4, 3) := by decide +kernel
theorem d2_48 : decode method_2_code 48 = .ok (.iconst 0, 1) := by decide +kernel
theorem d2_49 : decode method_2_code 49 = .ok (.istore 5, 2) := by decide +kernel
theorem d2_51 : decode method_2_code 51 = .ok (.iload_n 3, 1) := by decide +kernel
theorem d2_52 : decode method_2_code 52 = .ok (.ifCond .ne 8, 3) := by decide +kernel
theorem d2_55 : decode method_2_code 55 = .ok (.iload 5, 2) := by decide +kernel
theorem d2_57 : decode method_2_code 57 = .ok (.ifCond .eq 7, 3) := by decide +kernel
theorem d2_60 : decode method_2_code 60 = .ok (.iconst 1, 1) := by decide +kernel
theorem d2_61 : decode method_2_code 61 = .ok (.goto 4, 3) := by decide +kernel
theorem d2_64 : decode method_2_code 64 = .ok (.iconst 0, 1) := by decide +kernel
theorem d2_65 : decode method_2_code 65 = .ok (.ireturn, 1) := by decide +kernel
theorem own_pn1 : plainName "com/example/sluicegate/sluicegate/http/FieldsDecoderIsLetterOrDigitPinLaw" = true := by first | (simp [plainName, overriddenIn]; done) | decide +kernel
theorem own_ef_own_rm2 (m : MethodId) (x0 : Int32) : entryFrame m #[(.int x0)] 6 = mkF m 0 #[.val (.int x0), .unset, .unset, .unset, .unset, .unset] [] := by first | (simp [entryFrame, mkF, argsToLocals, Value.category]; done) | rfl
def own_Q_rm2 (Z : State) (p1 : Int32) (h0 : Heap) (n0 : Nat) (v : Option Value) (h : Heap) (L : List Loc) : Prop := v = some (.int (own_f2 p1)) ∧ Fr n0 L ∧ h = h0
set_option maxRecDepth 65536 in
set_option maxHeartbeats 40000000 in
theorem own_rm2 (l : Launch) (Z : State) (a0 : Array Value) (hw : ∀ d ∈ tables_1, d.before a0 Z = true) (p1 : Int32) (h0 : Heap) (n0 : Nat) :
    MetFree l (⟨"com/example/sluicegate/sluicegate/http/FieldsDecoderIsLetterOrDigitPinLaw", "ref", "(I)Z"⟩ : MethodName) (head1 [Jvm.Cond.code (⟨"com/example/sluicegate/sluicegate/http/FieldsDecoderIsLetterOrDigitPinLaw", "ref", "(I)Z"⟩ : MethodName) method_2_code 6 (some .boolean)] ({ frames := 0, cells := 0, slots := 0, locals := 0 } : Room)) (fun a U => a = #[(.int p1)] ∧ Z.Warmed39 U.vm ∧ U.heap = h0) (fun _ _ _ _ _ => True) (fun _ U o U' => ∃ v L, o = .returned v ∧ own_Q_rm2 Z p1 h0 n0 v U'.heap L ∧ FrameEnd U o U' L ({ frames := 0, cells := 0, slots := 0, locals := 0 } : Room).cells ({ frames := 0, cells := 0, slots := 0, locals := 0 } : Room).slots) := by
  refine MetFree.of_bodySF (plainFor_of_name own_pn1) hisR ?_
  intro p e s m args below meth c s₁ Bd hml0 hP hK
  obtain ⟨rfl, hZ, hh⟩ := hP
  have hx := Bd.exec
  have hby := Bd.bytes
  have hret := Bd.returns
  have hlk := Bd.notSynchronized
  have hml : c.maxLocals = 6 := hml0
  have hown : s.vm.findClass "com/example/sluicegate/sluicegate/http/FieldsDecoderIsLetterOrDigitPinLaw" = some m.cls := findClass_of_methodNamed Bd.named
  have hnm := (name_of_methodNamed Bd.named Bd.method).1
  have X0 : Stand p l e ({ frames := 0, cells := 0, slots := 0, locals := 0 } : Room) s m #[(.int p1)] below meth c s₁ [] 0 0 := Stand.of_body Bd
  have e0 : s₁.heap = h0 := by rw [← hh, Bd.state]; rfl
  have N0 := Fr.nil n0
  refine own_Go.cast (own_ef_own_rm2 m p1) ?_
  refine own_step (T' := s₁) (f' := (mkF m 11 #[.val (.int p1), .val (.int (p1 ||| (32 : Int32))), .val (.int ((p1 ||| (32 : Int32)) - (97 : Int32))), .unset, .unset, .unset] [(.int ((p1 ||| (32 : Int32)) - (97 : Int32)))])) (fun t k => ?_) ?_
  · show Steps p.tables e below (s₁.setTop (mkF m 0 #[.val (.int p1), .unset, .unset, .unset, .unset, .unset] [])) _
    refine XS.iloadN X0.here hx rfl (hb hby d2_0) rfl ?_
    show Steps p.tables e below (s₁.setTop (mkF m 1 #[.val (.int p1), .unset, .unset, .unset, .unset, .unset] [(.int p1)])) _
    refine XS.bipush X0.here hx rfl (hb hby d2_1) ?_
    show Steps p.tables e below (s₁.setTop (mkF m 3 #[.val (.int p1), .unset, .unset, .unset, .unset, .unset] [(.int (32 : Int32)), (.int p1)])) _
    refine XS.ior X0.here hx rfl (hb hby d2_3) rfl ?_
    show Steps p.tables e below (s₁.setTop (mkF m 4 #[.val (.int p1), .unset, .unset, .unset, .unset, .unset] [(.int (p1 ||| (32 : Int32)))])) _
    refine XS.istoreN X0.here hx rfl (hb hby d2_4) rfl (l' := #[.val (.int p1), .val (.int (p1 ||| (32 : Int32))), .unset, .unset, .unset, .unset]) rfl ?_
    show Steps p.tables e below (s₁.setTop (mkF m 5 #[.val (.int p1), .val (.int (p1 ||| (32 : Int32))), .unset, .unset, .unset, .unset] [])) _
    refine XS.iloadN X0.here hx rfl (hb hby d2_5) rfl ?_
    show Steps p.tables e below (s₁.setTop (mkF m 6 #[.val (.int p1), .val (.int (p1 ||| (32 : Int32))), .unset, .unset, .unset, .unset] [(.int (p1 ||| (32 : Int32)))])) _
    refine XS.bipush X0.here hx rfl (hb hby d2_6) ?_
    show Steps p.tables e below (s₁.setTop (mkF m 8 #[.val (.int p1), .val (.int (p1 ||| (32 : Int32))), .unset, .unset, .unset, .unset] [(.int (97 : Int32)), (.int (p1 ||| (32 : Int32)))])) _
    refine XS.isub X0.here hx rfl (hb hby d2_8) rfl ?_
    show Steps p.tables e below (s₁.setTop (mkF m 9 #[.val (.int p1), .val (.int (p1 ||| (32 : Int32))), .unset, .unset, .unset, .unset] [(.int ((p1 ||| (32 : Int32)) - (97 : Int32)))])) _
    refine XS.istoreN X0.here hx rfl (hb hby d2_9) rfl (l' := #[.val (.int p1), .val (.int (p1 ||| (32 : Int32))), .val (.int ((p1 ||| (32 : Int32)) - (97 : Int32))), .unset, .unset, .unset]) rfl ?_
    show Steps p.tables e below (s₁.setTop (mkF m 10 #[.val (.int p1), .val (.int (p1 ||| (32 : Int32))), .val (.int ((p1 ||| (32 : Int32)) - (97 : Int32))), .unset, .unset, .unset] [])) _
    refine XS.iloadN X0.here hx rfl (hb hby d2_10) rfl ?_
    exact k
  obtain ⟨v101, hv101, st102⟩ : ∃ (v101 : Int32), v101 = (if ((p1 ||| (32 : Int32)) - (97 : Int32)) < (0 : Int32) then (0 : Int32) else (if ((p1 ||| (32 : Int32)) - (97 : Int32)) < (26 : Int32) then (1 : Int32) else (0 : Int32))) ∧ ∀ t, Steps p.tables e below (s₁.setTop (mkF m 25 #[.val (.int p1), .val (.int (p1 ||| (32 : Int32))), .val (.int ((p1 ||| (32 : Int32)) - (97 : Int32))), .unset, .unset, .unset] [(.int v101)])) t → Steps p.tables e below (s₁.setTop (mkF m 11 #[.val (.int p1), .val (.int (p1 ||| (32 : Int32))), .val (.int ((p1 ||| (32 : Int32)) - (97 : Int32))), .unset, .unset, .unset] [(.int ((p1 ||| (32 : Int32)) - (97 : Int32)))])) t := by
    by_cases hc11_0 : ((p1 ||| (32 : Int32)) - (97 : Int32)) < (0 : Int32)
    · refine ⟨(0 : Int32), (by simp only [if_pos hc11_0]), fun t k => ?_⟩
      show Steps p.tables e below (s₁.setTop (mkF m 11 #[.val (.int p1), .val (.int (p1 ||| (32 : Int32))), .val (.int ((p1 ||| (32 : Int32)) - (97 : Int32))), .unset, .unset, .unset] [(.int ((p1 ||| (32 : Int32)) - (97 : Int32)))])) _
      refine XS.ifYes X0.here hx rfl (pc0 := 11) (pc' := 24) rfl (hb hby d2_11) rfl ((if0 _ _).trans (tlt hc11_0).1) (by decide) (by decide) ?_
      show Steps p.tables e below (s₁.setTop (mkF m 24 #[.val (.int p1), .val (.int (p1 ||| (32 : Int32))), .val (.int ((p1 ||| (32 : Int32)) - (97 : Int32))), .unset, .unset, .unset] [])) _
      refine XS.iconst X0.here hx rfl (hb hby d2_24) ?_
      exact k
    · by_cases hc17_1 : ((p1 ||| (32 : Int32)) - (97 : Int32)) < (26 : Int32)
      · refine ⟨(1 : Int32), (by simp only [if_neg hc11_0, if_pos hc17_1]), fun t k => ?_⟩
        show Steps p.tables e below (s₁.setTop (mkF m 11 #[.val (.int p1), .val (.int (p1 ||| (32 : Int32))), .val (.int ((p1 ||| (32 : Int32)) - (97 : Int32))), .unset, .unset, .unset] [(.int ((p1 ||| (32 : Int32)) - (97 : Int32)))])) _
        refine XS.ifNo X0.here hx rfl (hb hby d2_11) rfl ((if0 _ _).trans (flt hc11_0).1) ?_
        show Steps p.tables e below (s₁.setTop (mkF m 14 #[.val (.int p1), .val (.int (p1 ||| (32 : Int32))), .val (.int ((p1 ||| (32 : Int32)) - (97 : Int32))), .unset, .unset, .unset] [])) _
        refine XS.iloadN X0.here hx rfl (hb hby d2_14) rfl ?_
        show Steps p.tables e below (s₁.setTop (mkF m 15 #[.val (.int p1), .val (.int (p1 ||| (32 : Int32))), .val (.int ((p1 ||| (32 : Int32)) - (97 : Int32))), .unset, .unset, .unset] [(.int ((p1 ||| (32 : Int32)) - (97 : Int32)))])) _
        refine XS.bipush X0.here hx rfl (hb hby d2_15) ?_
        show Steps p.tables e below (s₁.setTop (mkF m 17 #[.val (.int p1), .val (.int (p1 ||| (32 : Int32))), .val (.int ((p1 ||| (32 : Int32)) - (97 : Int32))), .unset, .unset, .unset] [(.int (26 : Int32)), (.int ((p1 ||| (32 : Int32)) - (97 : Int32)))])) _
        refine XS.icmpNo X0.here hx rfl (hb hby d2_17) rfl (tlt hc17_1).2.1 ?_
        show Steps p.tables e below (s₁.setTop (mkF m 20 #[.val (.int p1), .val (.int (p1 ||| (32 : Int32))), .val (.int ((p1 ||| (32 : Int32)) - (97 : Int32))), .unset, .unset, .unset] [])) _
        refine XS.iconst X0.here hx rfl (hb hby d2_20) ?_
        show Steps p.tables e below (s₁.setTop (mkF m 21 #[.val (.int p1), .val (.int (p1 ||| (32 : Int32))), .val (.int ((p1 ||| (32 : Int32)) - (97 : Int32))), .unset, .unset, .unset] [(.int (1 : Int32))])) _
        refine XS.goto X0.here hx rfl (pc0 := 21) (pc' := 25) rfl (hb hby d2_21) (by decide) (by decide) ?_
        exact k
      · refine ⟨(0 : Int32), (by simp only [if_neg hc11_0, if_neg hc17_1]), fun t k => ?_⟩
        show Steps p.tables e below (s₁.setTop (mkF m 11 #[.val (.int p1), .val (.int (p1 ||| (32 : Int32))), .val (.int ((p1 ||| (32 : Int32)) - (97 : Int32))), .unset, .unset, .unset] [(.int ((p1 ||| (32 : Int32)) - (97 : Int32)))])) _
        refine XS.ifNo X0.here hx rfl (hb hby d2_11) rfl ((if0 _ _).trans (flt hc11_0).1) ?_
        show Steps p.tables e below (s₁.setTop (mkF m 14 #[.val (.int p1), .val (.int (p1 ||| (32 : Int32))), .val (.int ((p1 ||| (32 : Int32)) - (97 : Int32))), .unset, .unset, .unset] [])) _
        refine XS.iloadN X0.here hx rfl (hb hby d2_14) rfl ?_
        show Steps p.tables e below (s₁.setTop (mkF m 15 #[.val (.int p1), .val (.int (p1 ||| (32 : Int32))), .val (.int ((p1 ||| (32 : Int32)) - (97 : Int32))), .unset, .unset, .unset] [(.int ((p1 ||| (32 : Int32)) - (97 : Int32)))])) _
        refine XS.bipush X0.here hx rfl (hb hby d2_15) ?_
        show Steps p.tables e below (s₁.setTop (mkF m 17 #[.val (.int p1), .val (.int (p1 ||| (32 : Int32))), .val (.int ((p1 ||| (32 : Int32)) - (97 : Int32))), .unset, .unset, .unset] [(.int (26 : Int32)), (.int ((p1 ||| (32 : Int32)) - (97 : Int32)))])) _
        refine XS.icmpYes X0.here hx rfl (pc0 := 17) (pc' := 24) rfl (hb hby d2_17) rfl (flt hc17_1).2.1 (by decide) (by decide) ?_
        show Steps p.tables e below (s₁.setTop (mkF m 24 #[.val (.int p1), .val (.int (p1 ||| (32 : Int32))), .val (.int ((p1 ||| (32 : Int32)) - (97 : Int32))), .unset, .unset, .unset] [])) _
        refine XS.iconst X0.here hx rfl (hb hby d2_24) ?_
        exact k
  refine own_step st102 ?_
  refine own_step (T' := s₁) (f' := (mkF m 34 #[.val (.int p1), .val (.int (p1 ||| (32 : Int32))), .val (.int ((p1 ||| (32 : Int32)) - (97 : Int32))), .val (.int v101), .val (.int (p1 - (48 : Int32))), .unset] [(.int (p1 - (48 : Int32)))])) (fun t k => ?_) ?_
  · show Steps p.tables e below (s₁.setTop (mkF m 25 #[.val (.int p1), .val (.int (p1 ||| (32 : Int32))), .val (.int ((p1 ||| (32 : Int32)) - (97 : Int32))), .unset, .unset, .unset] [(.int v101)])) _
    refine XS.istoreN X0.here hx rfl (hb hby d2_25) rfl (l' := #[.val (.int p1), .val (.int (p1 ||| (32 : Int32))), .val (.int ((p1 ||| (32 : Int32)) - (97 : Int32))), .val (.int v101), .unset, .unset]) rfl ?_
    show Steps p.tables e below (s₁.setTop (mkF m 26 #[.val (.int p1), .val (.int (p1 ||| (32 : Int32))), .val (.int ((p1 ||| (32 : Int32)) - (97 : Int32))), .val (.int v101), .unset, .unset] [])) _
    refine XS.iloadN X0.here hx rfl (hb hby d2_26) rfl ?_
    show Steps p.tables e below (s₁.setTop (mkF m 27 #[.val (.int p1), .val (.int (p1 ||| (32 : Int32))), .val (.int ((p1 ||| (32 : Int32)) - (97 : Int32))), .val (.int v101), .unset, .unset] [(.int p1)])) _
    refine XS.bipush X0.here hx rfl (hb hby d2_27) ?_
    show Steps p.tables e below (s₁.setTop (mkF m 29 #[.val (.int p1), .val (.int (p1 ||| (32 : Int32))), .val (.int ((p1 ||| (32 : Int32)) - (97 : Int32))), .val (.int v101), .unset, .unset] [(.int (48 : Int32)), (.int p1)])) _
    refine XS.isub X0.here hx rfl (hb hby d2_29) rfl ?_
    show Steps p.tables e below (s₁.setTop (mkF m 30 #[.val (.int p1), .val (.int (p1 ||| (32 : Int32))), .val (.int ((p1 ||| (32 : Int32)) - (97 : Int32))), .val (.int v101), .unset, .unset] [(.int (p1 - (48 : Int32)))])) _
    refine XS.istore X0.here hx rfl (hb hby d2_30) rfl (l' := #[.val (.int p1), .val (.int (p1 ||| (32 : Int32))), .val (.int ((p1 ||| (32 : Int32)) - (97 : Int32))), .val (.int v101), .val (.int (p1 - (48 : Int32))), .unset]) rfl ?_
    show Steps p.tables e below (s₁.setTop (mkF m 32 #[.val (.int p1), .val (.int (p1 ||| (32 : Int32))), .val (.int ((p1 ||| (32 : Int32)) - (97 : Int32))), .val (.int v101), .val (.int (p1 - (48 : Int32))), .unset] [])) _
    refine XS.iload X0.here hx rfl (hb hby d2_32) rfl ?_
    exact k
  obtain ⟨v103, hv103, st104⟩ : ∃ (v103 : Int32), v103 = (if (p1 - (48 : Int32)) < (0 : Int32) then (0 : Int32) else (if (p1 - (48 : Int32)) < (10 : Int32) then (1 : Int32) else (0 : Int32))) ∧ ∀ t, Steps p.tables e below (s₁.setTop (mkF m 49 #[.val (.int p1), .val (.int (p1 ||| (32 : Int32))), .val (.int ((p1 ||| (32 : Int32)) - (97 : Int32))), .val (.int v101), .val (.int (p1 - (48 : Int32))), .unset] [(.int v103)])) t → Steps p.tables e below (s₁.setTop (mkF m 34 #[.val (.int p1), .val (.int (p1 ||| (32 : Int32))), .val (.int ((p1 ||| (32 : Int32)) - (97 : Int32))), .val (.int v101), .val (.int (p1 - (48 : Int32))), .unset] [(.int (p1 - (48 : Int32)))])) t := by
    by_cases hc34_1 : (p1 - (48 : Int32)) < (0 : Int32)
    · refine ⟨(0 : Int32), (by simp only [if_pos hc34_1]), fun t k => ?_⟩
      show Steps p.tables e below (s₁.setTop (mkF m 34 #[.val (.int p1), .val (.int (p1 ||| (32 : Int32))), .val (.int ((p1 ||| (32 : Int32)) - (97 : Int32))), .val (.int v101), .val (.int (p1 - (48 : Int32))), .unset] [(.int (p1 - (48 : Int32)))])) _
      refine XS.ifYes X0.here hx rfl (pc0 := 34) (pc' := 48) rfl (hb hby d2_34) rfl ((if0 _ _).trans (tlt hc34_1).1) (by decide) (by decide) ?_
      show Steps p.tables e below (s₁.setTop (mkF m 48 #[.val (.int p1), .val (.int (p1 ||| (32 : Int32))), .val (.int ((p1 ||| (32 : Int32)) - (97 : Int32))), .val (.int v101), .val (.int (p1 - (48 : Int32))), .unset] [])) _
      refine XS.iconst X0.here hx rfl (hb hby d2_48) ?_
      exact k
    · by_cases hc41_2 : (p1 - (48 : Int32)) < (10 : Int32)
      · refine ⟨(1 : Int32), (by simp only [if_neg hc34_1, if_pos hc41_2]), fun t k => ?_⟩
        show Steps p.tables e below (s₁.setTop (mkF m 34 #[.val (.int p1), .val (.int (p1 ||| (32 : Int32))), .val (.int ((p1 ||| (32 : Int32)) - (97 : Int32))), .val (.int v101), .val (.int (p1 - (48 : Int32))), .unset] [(.int (p1 - (48 : Int32)))])) _
        refine XS.ifNo X0.here hx rfl (hb hby d2_34) rfl ((if0 _ _).trans (flt hc34_1).1) ?_
        show Steps p.tables e below (s₁.setTop (mkF m 37 #[.val (.int p1), .val (.int (p1 ||| (32 : Int32))), .val (.int ((p1 ||| (32 : Int32)) - (97 : Int32))), .val (.int v101), .val (.int (p1 - (48 : Int32))), .unset] [])) _
        refine XS.iload X0.here hx rfl (hb hby d2_37) rfl ?_
        show Steps p.tables e below (s₁.setTop (mkF m 39 #[.val (.int p1), .val (.int (p1 ||| (32 : Int32))), .val (.int ((p1 ||| (32 : Int32)) - (97 : Int32))), .val (.int v101), .val (.int (p1 - (48 : Int32))), .unset] [(.int (p1 - (48 : Int32)))])) _
        refine XS.bipush X0.here hx rfl (hb hby d2_39) ?_
        show Steps p.tables e below (s₁.setTop (mkF m 41 #[.val (.int p1), .val (.int (p1 ||| (32 : Int32))), .val (.int ((p1 ||| (32 : Int32)) - (97 : Int32))), .val (.int v101), .val (.int (p1 - (48 : Int32))), .unset] [(.int (10 : Int32)), (.int (p1 - (48 : Int32)))])) _
        refine XS.icmpNo X0.here hx rfl (hb hby d2_41) rfl (tlt hc41_2).2.1 ?_
        show Steps p.tables e below (s₁.setTop (mkF m 44 #[.val (.int p1), .val (.int (p1 ||| (32 : Int32))), .val (.int ((p1 ||| (32 : Int32)) - (97 : Int32))), .val (.int v101), .val (.int (p1 - (48 : Int32))), .unset] [])) _
        refine XS.iconst X0.here hx rfl (hb hby d2_44) ?_
        show Steps p.tables e below (s₁.setTop (mkF m 45 #[.val (.int p1), .val (.int (p1 ||| (32 : Int32))), .val (.int ((p1 ||| (32 : Int32)) - (97 : Int32))), .val (.int v101), .val (.int (p1 - (48 : Int32))), .unset] [(.int (1 : Int32))])) _
        refine XS.goto X0.here hx rfl (pc0 := 45) (pc' := 49) rfl (hb hby d2_45) (by decide) (by decide) ?_
        exact k
      · refine ⟨(0 : Int32), (by simp only [if_neg hc34_1, if_neg hc41_2]), fun t k => ?_⟩
        show Steps p.tables e below (s₁.setTop (mkF m 34 #[.val (.int p1), .val (.int (p1 ||| (32 : Int32))), .val (.int ((p1 ||| (32 : Int32)) - (97 : Int32))), .val (.int v101), .val (.int (p1 - (48 : Int32))), .unset] [(.int (p1 - (48 : Int32)))])) _
        refine XS.ifNo X0.here hx rfl (hb hby d2_34) rfl ((if0 _ _).trans (flt hc34_1).1) ?_
        show Steps p.tables e below (s₁.setTop (mkF m 37 #[.val (.int p1), .val (.int (p1 ||| (32 : Int32))), .val (.int ((p1 ||| (32 : Int32)) - (97 : Int32))), .val (.int v101), .val (.int (p1 - (48 : Int32))), .unset] [])) _
        refine XS.iload X0.here hx rfl (hb hby d2_37) rfl ?_
        show Steps p.tables e below (s₁.setTop (mkF m 39 #[.val (.int p1), .val (.int (p1 ||| (32 : Int32))), .val (.int ((p1 ||| (32 : Int32)) - (97 : Int32))), .val (.int v101), .val (.int (p1 - (48 : Int32))), .unset] [(.int (p1 - (48 : Int32)))])) _
        refine XS.bipush X0.here hx rfl (hb hby d2_39) ?_
        show Steps p.tables e below (s₁.setTop (mkF m 41 #[.val (.int p1), .val (.int (p1 ||| (32 : Int32))), .val (.int ((p1 ||| (32 : Int32)) - (97 : Int32))), .val (.int v101), .val (.int (p1 - (48 : Int32))), .unset] [(.int (10 : Int32)), (.int (p1 - (48 : Int32)))])) _
        refine XS.icmpYes X0.here hx rfl (pc0 := 41) (pc' := 48) rfl (hb hby d2_41) rfl (flt hc41_2).2.1 (by decide) (by decide) ?_
        show Steps p.tables e below (s₁.setTop (mkF m 48 #[.val (.int p1), .val (.int (p1 ||| (32 : Int32))), .val (.int ((p1 ||| (32 : Int32)) - (97 : Int32))), .val (.int v101), .val (.int (p1 - (48 : Int32))), .unset] [])) _
        refine XS.iconst X0.here hx rfl (hb hby d2_48) ?_
        exact k
  refine own_step st104 ?_
  refine own_step (T' := s₁) (f' := (mkF m 52 #[.val (.int p1), .val (.int (p1 ||| (32 : Int32))), .val (.int ((p1 ||| (32 : Int32)) - (97 : Int32))), .val (.int v101), .val (.int (p1 - (48 : Int32))), .val (.int v103)] [(.int v101)])) (fun t k => ?_) ?_
  · show Steps p.tables e below (s₁.setTop (mkF m 49 #[.val (.int p1), .val (.int (p1 ||| (32 : Int32))), .val (.int ((p1 ||| (32 : Int32)) - (97 : Int32))), .val (.int v101), .val (.int (p1 - (48 : Int32))), .unset] [(.int v103)])) _
    refine XS.istore X0.here hx rfl (hb hby d2_49) rfl (l' := #[.val (.int p1), .val (.int (p1 ||| (32 : Int32))), .val (.int ((p1 ||| (32 : Int32)) - (97 : Int32))), .val (.int v101), .val (.int (p1 - (48 : Int32))), .val (.int v103)]) rfl ?_
    show Steps p.tables e below (s₁.setTop (mkF m 51 #[.val (.int p1), .val (.int (p1 ||| (32 : Int32))), .val (.int ((p1 ||| (32 : Int32)) - (97 : Int32))), .val (.int v101), .val (.int (p1 - (48 : Int32))), .val (.int v103)] [])) _
    refine XS.iloadN X0.here hx rfl (hb hby d2_51) rfl ?_
    exact k
  by_cases hc52_2 : v101 = (0 : Int32)
  · refine own_step (T' := s₁) (f' := (mkF m 57 #[.val (.int p1), .val (.int (p1 ||| (32 : Int32))), .val (.int ((p1 ||| (32 : Int32)) - (97 : Int32))), .val (.int v101), .val (.int (p1 - (48 : Int32))), .val (.int v103)] [(.int v103)])) (fun t k => ?_) ?_
    · show Steps p.tables e below (s₁.setTop (mkF m 52 #[.val (.int p1), .val (.int (p1 ||| (32 : Int32))), .val (.int ((p1 ||| (32 : Int32)) - (97 : Int32))), .val (.int v101), .val (.int (p1 - (48 : Int32))), .val (.int v103)] [(.int v101)])) _
      refine XS.ifNo X0.here hx rfl (hb hby d2_52) rfl ((if0 _ _).trans (teq hc52_2).2) ?_
      show Steps p.tables e below (s₁.setTop (mkF m 55 #[.val (.int p1), .val (.int (p1 ||| (32 : Int32))), .val (.int ((p1 ||| (32 : Int32)) - (97 : Int32))), .val (.int v101), .val (.int (p1 - (48 : Int32))), .val (.int v103)] [])) _
      refine XS.iload X0.here hx rfl (hb hby d2_55) rfl ?_
      exact k
    by_cases hc57_3 : v103 = (0 : Int32)
    · refine own_step (T' := s₁) (f' := (mkF m 65 #[.val (.int p1), .val (.int (p1 ||| (32 : Int32))), .val (.int ((p1 ||| (32 : Int32)) - (97 : Int32))), .val (.int v101), .val (.int (p1 - (48 : Int32))), .val (.int v103)] [(.int (0 : Int32))])) (fun t k => ?_) ?_
      · show Steps p.tables e below (s₁.setTop (mkF m 57 #[.val (.int p1), .val (.int (p1 ||| (32 : Int32))), .val (.int ((p1 ||| (32 : Int32)) - (97 : Int32))), .val (.int v101), .val (.int (p1 - (48 : Int32))), .val (.int v103)] [(.int v103)])) _
        refine XS.ifYes X0.here hx rfl (pc0 := 57) (pc' := 64) rfl (hb hby d2_57) rfl ((if0 _ _).trans (teq hc57_3).1) (by decide) (by decide) ?_
        show Steps p.tables e below (s₁.setTop (mkF m 64 #[.val (.int p1), .val (.int (p1 ||| (32 : Int32))), .val (.int ((p1 ||| (32 : Int32)) - (97 : Int32))), .val (.int v101), .val (.int (p1 - (48 : Int32))), .val (.int v103)] [])) _
        refine XS.iconst X0.here hx rfl (hb hby d2_64) ?_
        exact k
      exact own_retZ X0 hx hret hlk (hb hby d2_65) (by decide) (by decide) ⟨(congrArg (fun z => some (Value.int z)) ((show nar .boolean (0 : Int32) = (0 : Int32) from rfl).trans (show (0 : Int32) = own_f2 p1 from (by rw [own_f2, ← hv101, ← hv103, if_pos hc52_2, if_pos hc57_3])))), N0, e0⟩
    · refine own_step (T' := s₁) (f' := (mkF m 65 #[.val (.int p1), .val (.int (p1 ||| (32 : Int32))), .val (.int ((p1 ||| (32 : Int32)) - (97 : Int32))), .val (.int v101), .val (.int (p1 - (48 : Int32))), .val (.int v103)] [(.int (1 : Int32))])) (fun t k => ?_) ?_
      · show Steps p.tables e below (s₁.setTop (mkF m 57 #[.val (.int p1), .val (.int (p1 ||| (32 : Int32))), .val (.int ((p1 ||| (32 : Int32)) - (97 : Int32))), .val (.int v101), .val (.int (p1 - (48 : Int32))), .val (.int v103)] [(.int v103)])) _
        refine XS.ifNo X0.here hx rfl (hb hby d2_57) rfl ((if0 _ _).trans (feq hc57_3).1) ?_
        show Steps p.tables e below (s₁.setTop (mkF m 60 #[.val (.int p1), .val (.int (p1 ||| (32 : Int32))), .val (.int ((p1 ||| (32 : Int32)) - (97 : Int32))), .val (.int v101), .val (.int (p1 - (48 : Int32))), .val (.int v103)] [])) _
        refine XS.iconst X0.here hx rfl (hb hby d2_60) ?_
        show Steps p.tables e below (s₁.setTop (mkF m 61 #[.val (.int p1), .val (.int (p1 ||| (32 : Int32))), .val (.int ((p1 ||| (32 : Int32)) - (97 : Int32))), .val (.int v101), .val (.int (p1 - (48 : Int32))), .val (.int v103)] [(.int (1 : Int32))])) _
        refine XS.goto X0.here hx rfl (pc0 := 61) (pc' := 65) rfl (hb hby d2_61) (by decide) (by decide) ?_
        exact k
      exact own_retZ X0 hx hret hlk (hb hby d2_65) (by decide) (by decide) ⟨(congrArg (fun z => some (Value.int z)) ((show nar .boolean (1 : Int32) = (1 : Int32) from rfl).trans (show (1 : Int32) = own_f2 p1 from (by rw [own_f2, ← hv101, ← hv103, if_pos hc52_2, if_neg hc57_3])))), N0, e0⟩
  · refine own_step (T' := s₁) (f' := (mkF m 65 #[.val (.int p1), .val (.int (p1 ||| (32 : Int32))), .val (.int ((p1 ||| (32 : Int32)) - (97 : Int32))), .val (.int v101), .val (.int (p1 - (48 : Int32))), .val (.int v103)] [(.int (1 : Int32))])) (fun t k => ?_) ?_
    · show Steps p.tables e below (s₁.setTop (mkF m 52 #[.val (.int p1), .val (.int (p1 ||| (32 : Int32))), .val (.int ((p1 ||| (32 : Int32)) - (97 : Int32))), .val (.int v101), .val (.int (p1 - (48 : Int32))), .val (.int v103)] [(.int v101)])) _
      refine XS.ifYes X0.here hx rfl (pc0 := 52) (pc' := 60) rfl (hb hby d2_52) rfl ((if0 _ _).trans (feq hc52_2).2) (by decide) (by decide) ?_
      show Steps p.tables e below (s₁.setTop (mkF m 60 #[.val (.int p1), .val (.int (p1 ||| (32 : Int32))), .val (.int ((p1 ||| (32 : Int32)) - (97 : Int32))), .val (.int v101), .val (.int (p1 - (48 : Int32))), .val (.int v103)] [])) _
      refine XS.iconst X0.here hx rfl (hb hby d2_60) ?_
      show Steps p.tables e below (s₁.setTop (mkF m 61 #[.val (.int p1), .val (.int (p1 ||| (32 : Int32))), .val (.int ((p1 ||| (32 : Int32)) - (97 : Int32))), .val (.int v101), .val (.int (p1 - (48 : Int32))), .val (.int v103)] [(.int (1 : Int32))])) _
      refine XS.goto X0.here hx rfl (pc0 := 61) (pc' := 65) rfl (hb hby d2_61) (by decide) (by decide) ?_
      exact k
    exact own_retZ X0 hx hret hlk (hb hby d2_65) (by decide) (by decide) ⟨(congrArg (fun z => some (Value.int z)) ((show nar .boolean (1 : Int32) = (1 : Int32) from rfl).trans (show (1 : Int32) = own_f2 p1 from (by rw [own_f2, ← hv101, ← hv103, if_neg hc52_2])))), N0, e0⟩
theorem own_or32 (n : Nat) : n ||| 32 = n + (if n / 32 % 2 = 1 then 0 else 32) := by
  have h1 : (n ||| 32) / 64 = n / 64 := by
    have := @Nat.or_div_two_pow n 32 6
    simpa using this
  have h2 : (n ||| 32) % 64 = n % 64 ||| 32 := by
    have := @Nat.or_mod_two_pow n 32 6
    simpa using this
  have h3 : ∀ r : Fin 64, r.val ||| 32 = r.val + (if r.val / 32 % 2 = 1 then 0 else 32) := by decide +kernel
  have h4 := h3 ⟨n % 64, Nat.mod_lt _ (by decide)⟩
  dsimp only at h4
  rw [← h2] at h4
  split at h4 <;> split <;> omega
theorem own_i32_or (x : Int32) (h : 0 ≤ x.toInt) : (x ||| 32).toInt = x.toInt + (if x.toInt / 32 % 2 = 1 then 0 else 32) ∨ 2147483600 ≤ x.toInt := by
  by_cases hb : 2147483600 ≤ x.toInt
  · exact Or.inr hb
  · left
    have e1 : (x ||| 32).toBitVec.toNat = x.toBitVec.toNat ||| 32 := by rw [Int32.toBitVec_or, BitVec.toNat_or]; rfl
    have e2 : x.toInt = x.toBitVec.toNat := by
      have q : x.toInt = if 2 * x.toBitVec.toNat < 2 ^ 32 then (x.toBitVec.toNat : Int) else (x.toBitVec.toNat : Int) - (2 ^ 32 : Nat) := BitVec.toInt_eq_toNat_cond _
      have := x.toBitVec.isLt
      split at q <;> omega
    have e3 : (x ||| 32).toInt = if 2 * (x ||| 32).toBitVec.toNat < 2 ^ 32 then ((x ||| 32).toBitVec.toNat : Int) else ((x ||| 32).toBitVec.toNat : Int) - (2 ^ 32 : Nat) := BitVec.toInt_eq_toNat_cond _
    rw [e1, own_or32] at e3
    rw [e3, e2]
    rw [e2] at hb
    split <;> split <;> split <;> omega
theorem own_f12 (v : Int32) (h0 : 0 ≤ v.toInt) (h1 : v.toInt ≤ 65535) : own_f1 v = own_f2 v := by
  have e := own_i32_or v h0
  have e1 := c_isub (v ||| 32) 97
  have e2 := c_isub v 48
  have r1 := rng32 ((v ||| 32) - 97)
  have r2 := rng32 (v - 48)
  have k97 : (97 : Int32).toInt = 97 := rfl
  have k48 : (48 : Int32).toInt = 48 := rfl
  have k122 : (122 : Int32).toInt = 122 := rfl
  have k65 : (65 : Int32).toInt = 65 := rfl
  have k90 : (90 : Int32).toInt = 90 := rfl
  have k57 : (57 : Int32).toInt = 57 := rfl
  have k26 : (26 : Int32).toInt = 26 := rfl
  have k10 : (10 : Int32).toInt = 10 := rfl
  have k0 : (0 : Int32).toInt = 0 := rfl
  have z1 : (1 : Int32) = 0 ↔ False := by decide
  rw [k97] at e1
  rw [k48] at e2
  generalize ga' : (v ||| 32) - 97 = a at *
  generalize gb' : v - 48 = b at *
  have ua : own_f2 v = (if (if a.toInt < 0 then (0 : Int32) else (if a.toInt < 26 then (1 : Int32) else (0 : Int32))) = (0 : Int32) then (if (if b.toInt < 0 then (0 : Int32) else (if b.toInt < 10 then (1 : Int32) else (0 : Int32))) = (0 : Int32) then (0 : Int32) else (1 : Int32)) else (1 : Int32)) := by
    rw [own_f2, ga', gb']; simp only [Int32.lt_iff_toInt_lt, k26, k10, k0]
  rw [ua]
  simp only [own_f1, Int32.lt_iff_toInt_lt, k97, k48, k122, k65, k90, k57]
  by_cases q1 : 97 ≤ v.toInt ∧ v.toInt ≤ 122
  · have : 0 ≤ a.toInt ∧ a.toInt < 26 := by
      rcases e with e | e
      · split at e <;> omega
      · omega
    simp [show ¬ v.toInt < 97 by omega, show ¬ 122 < v.toInt by omega, show ¬ a.toInt < 0 by omega, show a.toInt < 26 by omega]
  · by_cases q2 : 65 ≤ v.toInt ∧ v.toInt ≤ 90
    · have : 0 ≤ a.toInt ∧ a.toInt < 26 := by
        rcases e with e | e
        · split at e <;> omega
        · omega
      simp [show v.toInt < 97 by omega, show ¬ v.toInt < 65 by omega, show ¬ 90 < v.toInt by omega, show ¬ a.toInt < 0 by omega, show a.toInt < 26 by omega]
    · have ha : a.toInt < 0 ∨ 26 ≤ a.toInt := by
        rcases e with e | e
        · split at e <;> omega
        · omega
      have hb : b.toInt = v.toInt - 48 := by omega
      have ga : (if a.toInt < 0 then (0 : Int32) else if a.toInt < 26 then 1 else 0) = 0 := by
        split
        · rfl
        · rw [if_neg (by omega)]
      rw [ga, hb]
      by_cases q3 : 48 ≤ v.toInt ∧ v.toInt ≤ 57
      · simp [show v.toInt < 97 by omega, show v.toInt < 65 by omega, show ¬ v.toInt < 48 by omega, show ¬ 57 < v.toInt by omega, show ¬ v.toInt - 48 < 0 by omega, show v.toInt - 48 < 10 by omega]
      · have gb : (if v.toInt - 48 < 0 then (0 : Int32) else if v.toInt - 48 < 10 then 1 else 0) = 0 := by
          split
          · rfl
          · rw [if_neg (by omega)]
        rw [gb]
        simp only [if_true]
        repeat' split
        all_goals first | rfl | omega
theorem own_keyx (v : Int32) (h0 : 0 ≤ v.toInt) (h1 : v.toInt ≤ 65535) : own_f1 (v.toUInt32.toUInt16.toUInt32.toInt32) = own_f2 v := by
  have e : v.toUInt32.toUInt16.toUInt32.toInt32 = v := by
    have := c_i2c v
    apply Int32.toInt_inj.mp
    omega
  rw [e]; exact own_f12 v h0 h1
theorem own_key1 {x y : Int32} (h : y = (x &&& (65535 : Int32))) : own_f1 (y.toUInt32.toUInt16.toUInt32.toInt32) = own_f2 y := by
  have := c_mask x 65535 16 (by decide) (by decide)
  subst h
  exact own_keyx _ (by omega) (by omega)
theorem own_key2 {x y : Int32} (h : y = (x &&& (127 : Int32))) : own_f1 (y.toUInt32.toUInt16.toUInt32.toInt32) = own_f2 y := by
  have := c_mask x 127 7 (by decide) (by decide)
  subst h
  exact own_keyx _ (by omega) (by omega)

theorem own_ef_own_rm0 (m : MethodId) (x0 : Int32) (x1 : Int32) : entryFrame m #[(.int x0), (.int x1)] maxLocals = mkF m 0 #[.val (.int x0), .val (.int x1), .unset, .unset, .unset, .unset, .unset, .unset] [] := by first | (simp [entryFrame, mkF, argsToLocals, Value.category, maxLocals]; done) | rfl
theorem own_pd0 : parseMethodDescriptor "(C)Z" = some ⟨[.char], some .boolean⟩ := by decide +kernel
theorem own_pd1 : parseMethodDescriptor "(I)Z" = some ⟨[.int], some .boolean⟩ := by decide +kernel
def own_Q_rm0 (Z : State) (p1 : Int32) (p2 : Int32) (h0 : Heap) (n0 : Nat) (v : Option Value) (h : Heap) (L : List Loc) : Prop := v = some (.int 1) ∧ Fr n0 L
set_option maxRecDepth 65536 in
set_option maxHeartbeats 40000000 in
theorem own_rm0 (l : Launch) (Z : State) (a0 : Array Value) (hw : ∀ d ∈ tables_1, d.before a0 Z = true) (ws : List Jvm.Cond) (p1 : Int32) (p2 : Int32) (h0 : Heap) (n0 : Nat) :
    MetFree l x (head1 (Jvm.Cond.code x code maxLocals ret :: ws) room_1) (fun a U => a = #[(.int p1), (.int p2)] ∧ Z.Warmed39 U.vm ∧ U.heap = h0) (fun _ _ _ _ _ => True) (fun _ U o U' => ∃ v L, o = .returned v ∧ own_Q_rm0 Z p1 p2 h0 n0 v U'.heap L ∧ FrameEnd U o U' L 0 0) := by
  refine MetFree.of_bodySF (plainFor_of_name own_pn1) hisR ?_
  intro p e s m args below meth c s₁ Bd hml0 hP hK
  obtain ⟨rfl, hZ, hh⟩ := hP
  have hx := Bd.exec
  have hby := Bd.bytes
  have hret := Bd.returns
  have hlk := Bd.notSynchronized
  have hml : c.maxLocals = 8 := hml0
  have hown : s.vm.findClass "com/example/sluicegate/sluicegate/http/FieldsDecoderIsLetterOrDigitPinLaw" = some m.cls := findClass_of_methodNamed Bd.named
  have hnm := (name_of_methodNamed Bd.named Bd.method).1
  have X0 : Stand p l e room_1 s m #[(.int p1), (.int p2)] below meth c s₁ [] 0 0 := Stand.of_body Bd
  have e0 : s₁.heap = h0 := by rw [← hh, Bd.state]; rfl
  have N0 := Fr.nil n0
  refine own_Go.cast (own_ef_own_rm0 m p1 p2) ?_
  refine own_step (T' := s₁) (f' := (mkF m 4 #[.val (.int p1), .val (.int p2), .unset, .unset, .unset, .unset, .unset, .unset] [(.int (p1 &&& (65535 : Int32)))])) (fun t k => ?_) ?_
  · show Steps p.tables e below (s₁.setTop (mkF m 0 #[.val (.int p1), .val (.int p2), .unset, .unset, .unset, .unset, .unset, .unset] [])) _
    refine XS.iloadN X0.here hx rfl (hb hby at_0) rfl ?_
    show Steps p.tables e below (s₁.setTop (mkF m 1 #[.val (.int p1), .val (.int p2), .unset, .unset, .unset, .unset, .unset, .unset] [(.int p1)])) _
    refine X0.ldcInt hx hown (mvT hZ (hw _ (List.mem_of_getElem? (i := 0) rfl))) (g := (mkF m 1 #[.val (.int p1), .val (.int p2), .unset, .unset, .unset, .unset, .unset, .unset] [(.int p1)])) rfl (hb hby at_1) _ ?_
    show Steps p.tables e below (s₁.setTop (mkF m 3 #[.val (.int p1), .val (.int p2), .unset, .unset, .unset, .unset, .unset, .unset] [(.int (65535 : Int32)), (.int p1)])) _
    refine XS.iand X0.here hx rfl (hb hby at_3) rfl ?_
    exact k
  show own_Go p e below s₁ (mkF m 4 #[.val (.int p1), .val (.int p2), .unset, .unset, .unset, .unset, .unset, .unset] [(.int (p1 &&& (65535 : Int32)))]) _
  obtain ⟨yA, hyA⟩ : ∃ z : Int32, z = (p1 &&& (65535 : Int32)) := ⟨_, rfl⟩
  rw [← hyA]
  refine own_step (T' := s₁) (f' := (mkF m 9 #[.val (.int p1), .val (.int p2), .val (.int yA), .unset, .unset, .unset, .unset, .unset] [(.int (p2 &&& (127 : Int32)))])) (fun t k => ?_) ?_
  · show Steps p.tables e below (s₁.setTop (mkF m 4 #[.val (.int p1), .val (.int p2), .unset, .unset, .unset, .unset, .unset, .unset] [(.int yA)])) _
    refine XS.istoreN X0.here hx rfl (hb hby at_4) rfl (l' := #[.val (.int p1), .val (.int p2), .val (.int yA), .unset, .unset, .unset, .unset, .unset]) rfl ?_
    show Steps p.tables e below (s₁.setTop (mkF m 5 #[.val (.int p1), .val (.int p2), .val (.int yA), .unset, .unset, .unset, .unset, .unset] [])) _
    refine XS.iloadN X0.here hx rfl (hb hby at_5) rfl ?_
    show Steps p.tables e below (s₁.setTop (mkF m 6 #[.val (.int p1), .val (.int p2), .val (.int yA), .unset, .unset, .unset, .unset, .unset] [(.int p2)])) _
    refine XS.bipush X0.here hx rfl (hb hby at_6) ?_
    show Steps p.tables e below (s₁.setTop (mkF m 8 #[.val (.int p1), .val (.int p2), .val (.int yA), .unset, .unset, .unset, .unset, .unset] [(.int (127 : Int32)), (.int p2)])) _
    refine XS.iand X0.here hx rfl (hb hby at_8) rfl ?_
    exact k
  show own_Go p e below s₁ (mkF m 9 #[.val (.int p1), .val (.int p2), .val (.int yA), .unset, .unset, .unset, .unset, .unset] [(.int (p2 &&& (127 : Int32)))]) _
  obtain ⟨yB, hyB⟩ : ∃ z : Int32, z = (p2 &&& (127 : Int32)) := ⟨_, rfl⟩
  rw [← hyB]
  refine own_step (T' := s₁) (f' := (mkF m 20 #[.val (.int p1), .val (.int p2), .val (.int yA), .val (.int yB), .val (.int (yA.toUInt32.toUInt16.toUInt32.toInt32)), .val (.int (yB.toUInt32.toUInt16.toUInt32.toInt32)), .unset, .unset] [(.int (yA.toUInt32.toUInt16.toUInt32.toInt32))])) (fun t k => ?_) ?_
  · show Steps p.tables e below (s₁.setTop (mkF m 9 #[.val (.int p1), .val (.int p2), .val (.int yA), .unset, .unset, .unset, .unset, .unset] [(.int yB)])) _
    refine XS.istoreN X0.here hx rfl (hb hby at_9) rfl (l' := #[.val (.int p1), .val (.int p2), .val (.int yA), .val (.int yB), .unset, .unset, .unset, .unset]) rfl ?_
    show Steps p.tables e below (s₁.setTop (mkF m 10 #[.val (.int p1), .val (.int p2), .val (.int yA), .val (.int yB), .unset, .unset, .unset, .unset] [])) _
    refine XS.iloadN X0.here hx rfl (hb hby at_10) rfl ?_
    show Steps p.tables e below (s₁.setTop (mkF m 11 #[.val (.int p1), .val (.int p2), .val (.int yA), .val (.int yB), .unset, .unset, .unset, .unset] [(.int yA)])) _
    refine XS.i2c X0.here hx rfl (hb hby at_11) rfl ?_
    show Steps p.tables e below (s₁.setTop (mkF m 12 #[.val (.int p1), .val (.int p2), .val (.int yA), .val (.int yB), .unset, .unset, .unset, .unset] [(.int (yA.toUInt32.toUInt16.toUInt32.toInt32))])) _
    refine XS.istore X0.here hx rfl (hb hby at_12) rfl (l' := #[.val (.int p1), .val (.int p2), .val (.int yA), .val (.int yB), .val (.int (yA.toUInt32.toUInt16.toUInt32.toInt32)), .unset, .unset, .unset]) rfl ?_
    show Steps p.tables e below (s₁.setTop (mkF m 14 #[.val (.int p1), .val (.int p2), .val (.int yA), .val (.int yB), .val (.int (yA.toUInt32.toUInt16.toUInt32.toInt32)), .unset, .unset, .unset] [])) _
    refine XS.iloadN X0.here hx rfl (hb hby at_14) rfl ?_
    show Steps p.tables e below (s₁.setTop (mkF m 15 #[.val (.int p1), .val (.int p2), .val (.int yA), .val (.int yB), .val (.int (yA.toUInt32.toUInt16.toUInt32.toInt32)), .unset, .unset, .unset] [(.int yB)])) _
    refine XS.i2c X0.here hx rfl (hb hby at_15) rfl ?_
    show Steps p.tables e below (s₁.setTop (mkF m 16 #[.val (.int p1), .val (.int p2), .val (.int yA), .val (.int yB), .val (.int (yA.toUInt32.toUInt16.toUInt32.toInt32)), .unset, .unset, .unset] [(.int (yB.toUInt32.toUInt16.toUInt32.toInt32))])) _
    refine XS.istore X0.here hx rfl (hb hby at_16) rfl (l' := #[.val (.int p1), .val (.int p2), .val (.int yA), .val (.int yB), .val (.int (yA.toUInt32.toUInt16.toUInt32.toInt32)), .val (.int (yB.toUInt32.toUInt16.toUInt32.toInt32)), .unset, .unset]) rfl ?_
    show Steps p.tables e below (s₁.setTop (mkF m 18 #[.val (.int p1), .val (.int p2), .val (.int yA), .val (.int yB), .val (.int (yA.toUInt32.toUInt16.toUInt32.toInt32)), .val (.int (yB.toUInt32.toUInt16.toUInt32.toInt32)), .unset, .unset] [])) _
    refine XS.iload X0.here hx rfl (hb hby at_18) rfl ?_
    exact k
  obtain ⟨_, _, ⟨T101, L101, k101, n101⟩, -, X101, ⟨Lc101, hQ101, l101, y101, z101⟩, st101⟩ := Jvm.LawKit.callS X0 hx (y := (⟨"com/example/sluicegate/sluicegate/http/FieldsDecoder", "isLetterOrDigit", "(C)Z"⟩ : MethodName)) hown (mvT hZ (hw _ (List.mem_of_getElem? (i := 1) rfl))) (mvT hZ (hw _ (List.mem_of_getElem? (i := 2) rfl))) (mvT hZ (hw _ (List.mem_of_getElem? (i := 3) rfl))) (mvT hZ (hw _ (List.mem_of_getElem? (i := 4) rfl))) (by decide) (backOf (W := 0) (own_rm1 l Z a0 hw (yA.toUInt32.toUInt16.toUInt32.toInt32) h0 n0) hZ (hw _ (List.mem_of_getElem? (i := 4) rfl)) (hw _ (List.mem_of_getElem? (i := 3) rfl)) (by decide) (by decide)) (g := (mkF m 20 #[.val (.int p1), .val (.int p2), .val (.int yA), .val (.int yB), .val (.int (yA.toUInt32.toUInt16.toUInt32.toInt32)), .val (.int (yB.toUInt32.toUInt16.toUInt32.toInt32)), .unset, .unset] [(.int (yA.toUInt32.toUInt16.toUInt32.toInt32))])) rfl (by rw [hml]; rfl) (argsL := [(.int (yA.toUInt32.toUInt16.toUInt32.toInt32))]) (rest := []) (lenOf own_pd0 rfl) rfl (by show 2 * 0 + _ ≤ _; exact Nat.le_of_eq rfl) (hb hby at_20) (fun _ _ => ⟨rfl, e0, (by decide : 0 + 0 ≤ _), (by decide : 0 + 0 ≤ _)⟩)
  dsimp only [Pt.U, Pt.locs, Pt.cells, Pt.slots] at X101 l101 y101 z101 st101 hQ101
  subst l101 y101 z101
  obtain ⟨rfl, N101q, e101⟩ := hQ101
  have N101 := Fr.app N0 N101q
  refine own_step (fun t k => st101 _ k) ?_
  refine own_step (T' := T101) (f' := (mkF m 24 #[.val (.int p1), .val (.int p2), .val (.int yA), .val (.int yB), .val (.int (yA.toUInt32.toUInt16.toUInt32.toInt32)), .val (.int (yB.toUInt32.toUInt16.toUInt32.toInt32)), .unset, .unset] [(.int yA), (.int (own_f1 (yA.toUInt32.toUInt16.toUInt32.toInt32)))])) (fun t k => ?_) ?_
  · show Steps p.tables e below (T101.setTop (mkF m 23 #[.val (.int p1), .val (.int p2), .val (.int yA), .val (.int yB), .val (.int (yA.toUInt32.toUInt16.toUInt32.toInt32)), .val (.int (yB.toUInt32.toUInt16.toUInt32.toInt32)), .unset, .unset] [(.int (own_f1 (yA.toUInt32.toUInt16.toUInt32.toInt32)))])) _
    refine XS.iloadN X101.here hx rfl (hb hby at_23) rfl ?_
    exact k
  obtain ⟨_, _, ⟨T102, L102, k102, n102⟩, -, X102, ⟨Lc102, hQ102, l102, y102, z102⟩, st102⟩ := Jvm.LawKit.callS X101 hx (y := (⟨"com/example/sluicegate/sluicegate/http/FieldsDecoderIsLetterOrDigitPinLaw", "ref", "(I)Z"⟩ : MethodName)) hown (mvT hZ (hw _ (List.mem_of_getElem? (i := 5) rfl))) (mvT hZ (hw _ (List.mem_of_getElem? (i := 6) rfl))) (mvT hZ (hw _ (List.mem_of_getElem? (i := 7) rfl))) (mvT hZ (hw _ (List.mem_of_getElem? (i := 8) rfl))) (by decide) (backOf (W := 1) (own_rm2 l Z a0 hw yA h0 n0) hZ (hw _ (List.mem_of_getElem? (i := 8) rfl)) (hw _ (List.mem_of_getElem? (i := 7) rfl)) (by decide) (by decide)) (g := (mkF m 24 #[.val (.int p1), .val (.int p2), .val (.int yA), .val (.int yB), .val (.int (yA.toUInt32.toUInt16.toUInt32.toInt32)), .val (.int (yB.toUInt32.toUInt16.toUInt32.toInt32)), .unset, .unset] [(.int yA), (.int (own_f1 (yA.toUInt32.toUInt16.toUInt32.toInt32)))])) rfl (by rw [hml]; rfl) (argsL := [(.int yA)]) (rest := [(.int (own_f1 (yA.toUInt32.toUInt16.toUInt32.toInt32)))]) (lenOf own_pd1 rfl) rfl (by show 2 * 0 + _ ≤ _; exact Nat.le_of_eq rfl) (hb hby at_24) (fun _ _ => ⟨rfl, e101, (by decide : 0 + 0 ≤ _), (by decide : 0 + 0 ≤ _)⟩)
  dsimp only [Pt.U, Pt.locs, Pt.cells, Pt.slots] at X102 l102 y102 z102 st102 hQ102
  subst l102 y102 z102
  obtain ⟨rfl, N102q, e102⟩ := hQ102
  have N102 := Fr.app N101 N102q
  refine own_step (fun t k => st102 _ k) ?_
  have hkA : (own_f1 (yA.toUInt32.toUInt16.toUInt32.toInt32)) = (own_f2 yA) := own_key1 hyA
  refine own_step (T' := T102) (f' := (mkF m 39 #[.val (.int p1), .val (.int p2), .val (.int yA), .val (.int yB), .val (.int (yA.toUInt32.toUInt16.toUInt32.toInt32)), .val (.int (yB.toUInt32.toUInt16.toUInt32.toInt32)), .val (.int (1 : Int32)), .unset] [(.int (yB.toUInt32.toUInt16.toUInt32.toInt32))])) (fun t k => ?_) ?_
  · show Steps p.tables e below (T102.setTop (mkF m 27 #[.val (.int p1), .val (.int p2), .val (.int yA), .val (.int yB), .val (.int (yA.toUInt32.toUInt16.toUInt32.toInt32)), .val (.int (yB.toUInt32.toUInt16.toUInt32.toInt32)), .unset, .unset] [(.int (own_f2 yA)), (.int (own_f1 (yA.toUInt32.toUInt16.toUInt32.toInt32)))])) _
    refine XS.icmpNo X102.here hx rfl (hb hby at_27) rfl (teq hkA).2 ?_
    show Steps p.tables e below (T102.setTop (mkF m 30 #[.val (.int p1), .val (.int p2), .val (.int yA), .val (.int yB), .val (.int (yA.toUInt32.toUInt16.toUInt32.toInt32)), .val (.int (yB.toUInt32.toUInt16.toUInt32.toInt32)), .unset, .unset] [])) _
    refine XS.iconst X102.here hx rfl (hb hby at_30) ?_
    show Steps p.tables e below (T102.setTop (mkF m 31 #[.val (.int p1), .val (.int p2), .val (.int yA), .val (.int yB), .val (.int (yA.toUInt32.toUInt16.toUInt32.toInt32)), .val (.int (yB.toUInt32.toUInt16.toUInt32.toInt32)), .unset, .unset] [(.int (1 : Int32))])) _
    refine XS.goto X102.here hx rfl (pc0 := 31) (pc' := 35) rfl (hb hby at_31) (by decide) (by decide) ?_
    show Steps p.tables e below (T102.setTop (mkF m 35 #[.val (.int p1), .val (.int p2), .val (.int yA), .val (.int yB), .val (.int (yA.toUInt32.toUInt16.toUInt32.toInt32)), .val (.int (yB.toUInt32.toUInt16.toUInt32.toInt32)), .unset, .unset] [(.int (1 : Int32))])) _
    refine XS.istore X102.here hx rfl (hb hby at_35) rfl (l' := #[.val (.int p1), .val (.int p2), .val (.int yA), .val (.int yB), .val (.int (yA.toUInt32.toUInt16.toUInt32.toInt32)), .val (.int (yB.toUInt32.toUInt16.toUInt32.toInt32)), .val (.int (1 : Int32)), .unset]) rfl ?_
    show Steps p.tables e below (T102.setTop (mkF m 37 #[.val (.int p1), .val (.int p2), .val (.int yA), .val (.int yB), .val (.int (yA.toUInt32.toUInt16.toUInt32.toInt32)), .val (.int (yB.toUInt32.toUInt16.toUInt32.toInt32)), .val (.int (1 : Int32)), .unset] [])) _
    refine XS.iload X102.here hx rfl (hb hby at_37) rfl ?_
    exact k
  obtain ⟨_, _, ⟨T103, L103, k103, n103⟩, -, X103, ⟨Lc103, hQ103, l103, y103, z103⟩, st103⟩ := Jvm.LawKit.callS X102 hx (y := (⟨"com/example/sluicegate/sluicegate/http/FieldsDecoder", "isLetterOrDigit", "(C)Z"⟩ : MethodName)) hown (mvT hZ (hw _ (List.mem_of_getElem? (i := 1) rfl))) (mvT hZ (hw _ (List.mem_of_getElem? (i := 2) rfl))) (mvT hZ (hw _ (List.mem_of_getElem? (i := 3) rfl))) (mvT hZ (hw _ (List.mem_of_getElem? (i := 4) rfl))) (by decide) (backOf (W := 0) (own_rm1 l Z a0 hw (yB.toUInt32.toUInt16.toUInt32.toInt32) h0 n0) hZ (hw _ (List.mem_of_getElem? (i := 4) rfl)) (hw _ (List.mem_of_getElem? (i := 3) rfl)) (by decide) (by decide)) (g := (mkF m 39 #[.val (.int p1), .val (.int p2), .val (.int yA), .val (.int yB), .val (.int (yA.toUInt32.toUInt16.toUInt32.toInt32)), .val (.int (yB.toUInt32.toUInt16.toUInt32.toInt32)), .val (.int (1 : Int32)), .unset] [(.int (yB.toUInt32.toUInt16.toUInt32.toInt32))])) rfl (by rw [hml]; rfl) (argsL := [(.int (yB.toUInt32.toUInt16.toUInt32.toInt32))]) (rest := []) (lenOf own_pd0 rfl) rfl (by show 2 * 0 + _ ≤ _; exact Nat.le_of_eq rfl) (hb hby at_39) (fun _ _ => ⟨rfl, e102, (by decide : 0 + 0 ≤ _), (by decide : 0 + 0 ≤ _)⟩)
  dsimp only [Pt.U, Pt.locs, Pt.cells, Pt.slots] at X103 l103 y103 z103 st103 hQ103
  subst l103 y103 z103
  obtain ⟨rfl, N103q, e103⟩ := hQ103
  have N103 := Fr.app N102 N103q
  refine own_step (fun t k => st103 _ k) ?_
  refine own_step (T' := T103) (f' := (mkF m 43 #[.val (.int p1), .val (.int p2), .val (.int yA), .val (.int yB), .val (.int (yA.toUInt32.toUInt16.toUInt32.toInt32)), .val (.int (yB.toUInt32.toUInt16.toUInt32.toInt32)), .val (.int (1 : Int32)), .unset] [(.int yB), (.int (own_f1 (yB.toUInt32.toUInt16.toUInt32.toInt32)))])) (fun t k => ?_) ?_
  · show Steps p.tables e below (T103.setTop (mkF m 42 #[.val (.int p1), .val (.int p2), .val (.int yA), .val (.int yB), .val (.int (yA.toUInt32.toUInt16.toUInt32.toInt32)), .val (.int (yB.toUInt32.toUInt16.toUInt32.toInt32)), .val (.int (1 : Int32)), .unset] [(.int (own_f1 (yB.toUInt32.toUInt16.toUInt32.toInt32)))])) _
    refine XS.iloadN X103.here hx rfl (hb hby at_42) rfl ?_
    exact k
  obtain ⟨_, _, ⟨T104, L104, k104, n104⟩, -, X104, ⟨Lc104, hQ104, l104, y104, z104⟩, st104⟩ := Jvm.LawKit.callS X103 hx (y := (⟨"com/example/sluicegate/sluicegate/http/FieldsDecoderIsLetterOrDigitPinLaw", "ref", "(I)Z"⟩ : MethodName)) hown (mvT hZ (hw _ (List.mem_of_getElem? (i := 5) rfl))) (mvT hZ (hw _ (List.mem_of_getElem? (i := 6) rfl))) (mvT hZ (hw _ (List.mem_of_getElem? (i := 7) rfl))) (mvT hZ (hw _ (List.mem_of_getElem? (i := 8) rfl))) (by decide) (backOf (W := 1) (own_rm2 l Z a0 hw yB h0 n0) hZ (hw _ (List.mem_of_getElem? (i := 8) rfl)) (hw _ (List.mem_of_getElem? (i := 7) rfl)) (by decide) (by decide)) (g := (mkF m 43 #[.val (.int p1), .val (.int p2), .val (.int yA), .val (.int yB), .val (.int (yA.toUInt32.toUInt16.toUInt32.toInt32)), .val (.int (yB.toUInt32.toUInt16.toUInt32.toInt32)), .val (.int (1 : Int32)), .unset] [(.int yB), (.int (own_f1 (yB.toUInt32.toUInt16.toUInt32.toInt32)))])) rfl (by rw [hml]; rfl) (argsL := [(.int yB)]) (rest := [(.int (own_f1 (yB.toUInt32.toUInt16.toUInt32.toInt32)))]) (lenOf own_pd1 rfl) rfl (by show 2 * 0 + _ ≤ _; exact Nat.le_of_eq rfl) (hb hby at_43) (fun _ _ => ⟨rfl, e103, (by decide : 0 + 0 ≤ _), (by decide : 0 + 0 ≤ _)⟩)
  dsimp only [Pt.U, Pt.locs, Pt.cells, Pt.slots] at X104 l104 y104 z104 st104 hQ104
  subst l104 y104 z104
  obtain ⟨rfl, N104q, e104⟩ := hQ104
  have N104 := Fr.app N103 N104q
  refine own_step (fun t k => st104 _ k) ?_
  have hkB : (own_f1 (yB.toUInt32.toUInt16.toUInt32.toInt32)) = (own_f2 yB) := own_key2 hyB
  refine own_step (T' := T104) (f' := (mkF m 71 #[.val (.int p1), .val (.int p2), .val (.int yA), .val (.int yB), .val (.int (yA.toUInt32.toUInt16.toUInt32.toInt32)), .val (.int (yB.toUInt32.toUInt16.toUInt32.toInt32)), .val (.int (1 : Int32)), .val (.int (1 : Int32))] [(.int (1 : Int32))])) (fun t k => ?_) ?_
  · show Steps p.tables e below (T104.setTop (mkF m 46 #[.val (.int p1), .val (.int p2), .val (.int yA), .val (.int yB), .val (.int (yA.toUInt32.toUInt16.toUInt32.toInt32)), .val (.int (yB.toUInt32.toUInt16.toUInt32.toInt32)), .val (.int (1 : Int32)), .unset] [(.int (own_f2 yB)), (.int (own_f1 (yB.toUInt32.toUInt16.toUInt32.toInt32)))])) _
    refine XS.icmpNo X104.here hx rfl (hb hby at_46) rfl (teq hkB).2 ?_
    show Steps p.tables e below (T104.setTop (mkF m 49 #[.val (.int p1), .val (.int p2), .val (.int yA), .val (.int yB), .val (.int (yA.toUInt32.toUInt16.toUInt32.toInt32)), .val (.int (yB.toUInt32.toUInt16.toUInt32.toInt32)), .val (.int (1 : Int32)), .unset] [])) _
    refine XS.iconst X104.here hx rfl (hb hby at_49) ?_
    show Steps p.tables e below (T104.setTop (mkF m 50 #[.val (.int p1), .val (.int p2), .val (.int yA), .val (.int yB), .val (.int (yA.toUInt32.toUInt16.toUInt32.toInt32)), .val (.int (yB.toUInt32.toUInt16.toUInt32.toInt32)), .val (.int (1 : Int32)), .unset] [(.int (1 : Int32))])) _
    refine XS.goto X104.here hx rfl (pc0 := 50) (pc' := 54) rfl (hb hby at_50) (by decide) (by decide) ?_
    show Steps p.tables e below (T104.setTop (mkF m 54 #[.val (.int p1), .val (.int p2), .val (.int yA), .val (.int yB), .val (.int (yA.toUInt32.toUInt16.toUInt32.toInt32)), .val (.int (yB.toUInt32.toUInt16.toUInt32.toInt32)), .val (.int (1 : Int32)), .unset] [(.int (1 : Int32))])) _
    refine XS.istore X104.here hx rfl (hb hby at_54) rfl (l' := #[.val (.int p1), .val (.int p2), .val (.int yA), .val (.int yB), .val (.int (yA.toUInt32.toUInt16.toUInt32.toInt32)), .val (.int (yB.toUInt32.toUInt16.toUInt32.toInt32)), .val (.int (1 : Int32)), .val (.int (1 : Int32))]) rfl ?_
    show Steps p.tables e below (T104.setTop (mkF m 56 #[.val (.int p1), .val (.int p2), .val (.int yA), .val (.int yB), .val (.int (yA.toUInt32.toUInt16.toUInt32.toInt32)), .val (.int (yB.toUInt32.toUInt16.toUInt32.toInt32)), .val (.int (1 : Int32)), .val (.int (1 : Int32))] [])) _
    refine XS.iload X104.here hx rfl (hb hby at_56) rfl ?_
    show Steps p.tables e below (T104.setTop (mkF m 58 #[.val (.int p1), .val (.int p2), .val (.int yA), .val (.int yB), .val (.int (yA.toUInt32.toUInt16.toUInt32.toInt32)), .val (.int (yB.toUInt32.toUInt16.toUInt32.toInt32)), .val (.int (1 : Int32)), .val (.int (1 : Int32))] [(.int (1 : Int32))])) _
    refine XS.ifNo X104.here hx rfl (hb hby at_58) rfl ((if0 _ _).trans (feq (by decide : ¬ ((1 : Int32) = (0 : Int32)))).1) ?_
    show Steps p.tables e below (T104.setTop (mkF m 61 #[.val (.int p1), .val (.int p2), .val (.int yA), .val (.int yB), .val (.int (yA.toUInt32.toUInt16.toUInt32.toInt32)), .val (.int (yB.toUInt32.toUInt16.toUInt32.toInt32)), .val (.int (1 : Int32)), .val (.int (1 : Int32))] [])) _
    refine XS.iload X104.here hx rfl (hb hby at_61) rfl ?_
    show Steps p.tables e below (T104.setTop (mkF m 63 #[.val (.int p1), .val (.int p2), .val (.int yA), .val (.int yB), .val (.int (yA.toUInt32.toUInt16.toUInt32.toInt32)), .val (.int (yB.toUInt32.toUInt16.toUInt32.toInt32)), .val (.int (1 : Int32)), .val (.int (1 : Int32))] [(.int (1 : Int32))])) _
    refine XS.ifNo X104.here hx rfl (hb hby at_63) rfl ((if0 _ _).trans (feq (by decide : ¬ ((1 : Int32) = (0 : Int32)))).1) ?_
    show Steps p.tables e below (T104.setTop (mkF m 66 #[.val (.int p1), .val (.int p2), .val (.int yA), .val (.int yB), .val (.int (yA.toUInt32.toUInt16.toUInt32.toInt32)), .val (.int (yB.toUInt32.toUInt16.toUInt32.toInt32)), .val (.int (1 : Int32)), .val (.int (1 : Int32))] [])) _
    refine XS.iconst X104.here hx rfl (hb hby at_66) ?_
    show Steps p.tables e below (T104.setTop (mkF m 67 #[.val (.int p1), .val (.int p2), .val (.int yA), .val (.int yB), .val (.int (yA.toUInt32.toUInt16.toUInt32.toInt32)), .val (.int (yB.toUInt32.toUInt16.toUInt32.toInt32)), .val (.int (1 : Int32)), .val (.int (1 : Int32))] [(.int (1 : Int32))])) _
    refine XS.goto X104.here hx rfl (pc0 := 67) (pc' := 71) rfl (hb hby at_67) (by decide) (by decide) ?_
    exact k
  exact own_retZ X104 hx hret hlk (hb hby at_71) (by decide) (by decide) ⟨rfl, N104⟩
set_option maxRecDepth 65536 in
set_option maxHeartbeats 40000000 in
theorem comes_1 {Post : Tables → Env → Array Value → State → Outcome → State → Prop} (hpost : ∀ tb e args s v u, (limb_1_1.after args s (.returned v) u = true ∧ limb_1_2.after args s (.returned v) u = true ∧ True) → FrameEnd s (.returned v) u (Jvm.fieldLocs frame_1_writes args s ++ Jvm.arrayLocs frame_1_arrays args s ++ Jvm.staticLocs frame_1_statics s) 0 0 → Post tb e args s (.returned v) u) :
    ArmFor flags0 classFile x code maxLocals ret World_1 tables_1 room_1 Calls_1 rest_1 Pre_1 Post := by
  intro l hfl _ _ p e ha hc hk s m args below hf hA hF happ hP
  obtain ⟨hcalls, hrest, hpre⟩ := hP
  obtain ⟨-, -, -, hnamed, -, -, -, hat⟩ := (Spec.applies_iff hf).mp happ
  obtain ⟨hg, hn⟩ := and_e (Cond.before_iff.mp (show (Jvm.Cond.and given_1 narrow_1).before args s = true from hpre))
  obtain ⟨g1, g2⟩ := and_e hg
  obtain ⟨ga0, gb0⟩ := and_e g2
  obtain ⟨w0, w1, rfl⟩ : ∃ w0 w1 : Value, args = #[w0, w1] := by
    have hs : args.size = 2 := by simpa [Cond.value, given_1] using g1
    obtain ⟨L⟩ := args
    match L, hs with
    | [w0, w1], _ => exact ⟨w0, w1, rfl⟩
  have hw := fun d (hd : d ∈ tables_1) => atoms_spec (ws := Jvm.Cond.code x code maxLocals ret :: tables_1) hat d (List.mem_cons_of_mem _ hd)
  obtain ⟨i0, ei0⟩ := is_v ga0
  obtain rfl : w0 = (.int i0) := Option.some.inj ei0
  obtain ⟨i1, ei1⟩ := is_v gb0
  obtain rfl : w1 = (.int i1) := Option.some.inj ei1
  obtain ⟨n, o, h1, h2, h3, _, L, rfl, ⟨rfl, N⟩, hq⟩ := own_rm0 l s _ hw tables_1 i0 i1 s.heap s.heap.size p e ha hc hk s m _ below hf ((Spec.applies_iff_loose hf).mp happ).1 ⟨rfl, State.Warmed39.refl s, rfl⟩ trivial
  refine ⟨n, _, h1, h2, h3, hpost _ _ _ _ _ _ ⟨Cond.after_iff.mpr rfl, Cond.after_iff.mpr (eq_i res_at (Term.int_eval (1)) rfl), trivial⟩ ⟨hq.1, hq.2.1, (hq.2.2.sift fun y hy => Or.inr (N y hy)).mono (by decide) (by decide)⟩⟩
theorem main_1_1 : Claimed_1_1 := comes_1 fun _ _ _ _ _ _ h hF => ⟨h.1, hF⟩
theorem main_1_2 : Claimed_1_2 := comes_1 fun _ _ _ _ _ _ h hF => ⟨h.2.1, hF⟩
end Jvm.Pilot.@@N@@
namespace Jvm.Pilot.@@N@@
open Jvm Jvm.ClassFile Sem Op Lib Jvm.Free Jvm.Stand Jvm.Pilot.@@N@@.Jvm.D
/-! MADE BY PROGRAM (witnessworld.py) out of the Statement's table words and the real class files: 9 classes; the members and pool entries that the words name. The judged class is class 1, her method 2. -/
namespace start1
open Jvm.ClassFile
def u (s : String) : CpInfo := .utf8 (stringToUtf16 s)
/-- a pool by its gaps: so many unusable entries, then the entry; so many at the end -/
def gap : Nat → List CpInfo → List CpInfo
  | 0, r => r
  | n + 1, r => .unusable :: gap n r
def poolList (es : List (Nat × CpInfo)) (last : Nat) : List CpInfo := es.foldr (fun e r => gap e.1 (e.2 :: r)) (gap last [])
def pool (es : List (Nat × CpInfo)) (last : Nat) : Array CpInfo := ⟨poolList es last⟩
def fileOf (pool : Array CpInfo) (this : Nat) (attrs : Array Attribute := #[]) (ms : Array MethodInfo := #[]) (fl : Nat := 33) (sup : Nat := 0) (ifs : Array Nat := #[]) (fds : Array FieldInfo := #[]) : ClassFile where
  minorVersion := 0
  majorVersion := 65
  constantPool := pool
  accessFlags := fl
  thisClass := this
  superClass := sup
  interfaces := ifs
  fields := fds
  methods := ms
  attributes := attrs
def plain (name : String) (sup : Option ClassId) : Class where
  name := name
  kind := .ordinary
  loader := none
  accessFlags := 33
  super := sup
  interfaces := #[]
  cf := none
  fields := #[]
  methods := #[]
  instanceTypes := #[]
  staticTypes := #[]
  resolved := #[]
  callSites := []
  init := .initialized
  statics := none
  mirror := none

def pool0 : Array CpInfo := pool [(5, u "<init>"), (0, u "()V"), (1, .class_ 10), (1, u "java/lang/Object")] 113

def k0m0 : Method := { name := "<init>", desc := "()V", sig := { parameters := [], returnType := none }, accessFlags := 1, code := none }
/-- java/lang/Object -/
def k0 : Class := { plain "java/lang/Object" none with
  accessFlags := 33
  interfaces := #[]
  cf := some (fileOf pool0 8 #[] #[{ accessFlags := 1, nameIndex := 5, descriptorIndex := 6, attributes := #[] }] 33 0 #[] #[])
  fields := #[]
  methods := #[k0m0]
  instanceTypes := #[]
  staticTypes := #[]
  resolved := Array.replicate 124 none
  statics := none }

def pool1 : Array CpInfo := pool [(2, .class_ 4), (1, u "java/lang/Object"), (0, u "<init>"), (0, u "()V"), (0, .integer 65535), (0, .methodref 9 10), (0, .class_ 11), (0, .nameAndType 12 13), (0, u "com/example/sluicegate/sluicegate/http/FieldsDecoder"), (0, u "isLetterOrDigit"), (0, u "(C)Z"), (0, .methodref 15 16), (0, .class_ 17), (0, .nameAndType 18 19), (0, u "com/example/sluicegate/sluicegate/http/FieldsDecoderIsLetterOrDigitPinLaw"), (0, u "ref"), (0, u "(I)Z"), (3, u "law"), (0, u "(II)Z")] 2

def k1m0 : Method := { name := "<init>", desc := "()V", sig := { parameters := [], returnType := none }, accessFlags := 2, code := none }
def k1c1 : Code := { maxStack := 2, maxLocals := 6, code := method_2_code, exceptionTable := #[], attributes := #[] }
def k1m1 : Method := { name := "ref", desc := "(I)Z", sig := { parameters := [.int], returnType := some .boolean }, accessFlags := 10, code := some k1c1 }
def k1c2 : Code := { maxStack := 2, maxLocals := 8, code := code, exceptionTable := #[], attributes := #[] }
def k1m2 : Method := { name := "law", desc := "(II)Z", sig := { parameters := [.int, .int], returnType := some .boolean }, accessFlags := 9, code := some k1c2 }
/-- com/example/sluicegate/sluicegate/http/FieldsDecoderIsLetterOrDigitPinLaw -/
def k1 : Class := { plain "com/example/sluicegate/sluicegate/http/FieldsDecoderIsLetterOrDigitPinLaw" (some 0) with
  accessFlags := 49
  interfaces := #[]
  cf := some (fileOf pool1 15 #[] #[{ accessFlags := 2, nameIndex := 5, descriptorIndex := 6, attributes := #[] }, { accessFlags := 10, nameIndex := 18, descriptorIndex := 19, attributes := #[] }, { accessFlags := 9, nameIndex := 23, descriptorIndex := 24, attributes := #[] }] 49 2 #[] #[])
  fields := #[]
  methods := #[k1m0, k1m1, k1m2]
  instanceTypes := #[]
  staticTypes := #[]
  resolved := Array.replicate 27 none
  statics := none }

def pool2 : Array CpInfo := pool [(2, .class_ 4), (1, u "java/lang/Object"), (6, .class_ 13), (1, u "com/example/sluicegate/sluicegate/http/FieldsDecoder"), (0, u "lines"), (0, u "Lcom/example/sluicegate/sluicegate/http/LineDecoder;"), (5, u "values"), (0, u "Ljava/util/Map;"), (2, u "left"), (0, u "I"), (2, u "tooLong"), (0, u "Ljava/lang/String;"), (2, u "kept"), (0, u "Ljava/util/Set;"), (106, u "ONE_LINE_ONLY"), (38, u "isLetterOrDigit"), (0, u "(C)Z"), (22, u "DIGITS"), (0, u "Ljava/util/regex/Pattern;"), (38, u "CONNECTION"), (3, u "CONTENT_LENGTH"), (2, u "TRANSFER_ENCODING"), (2, u "EXPECT"), (2, u "HOST"), (0, u "AUTHORIZATION"), (4, u "TOKEN_PUNCTUATION")] 40

def k2c0 : Code := { maxStack := 2, maxLocals := 1, code := prog_38_method_6_code, exceptionTable := #[], attributes := #[] }
def k2m0 : Method := { name := "isLetterOrDigit", desc := "(C)Z", sig := { parameters := [.char], returnType := some .boolean }, accessFlags := 8, code := some k2c0 }
/-- com/example/sluicegate/sluicegate/http/FieldsDecoder -/
def k2 : Class := { plain "com/example/sluicegate/sluicegate/http/FieldsDecoder" (some 0) with
  accessFlags := 49
  interfaces := #[]
  cf := some (fileOf pool2 11 #[] #[{ accessFlags := 8, nameIndex := 180, descriptorIndex := 181, attributes := #[] }] 49 2 #[] #[{ accessFlags := 25, nameIndex := 244, descriptorIndex := 30, attributes := #[] }, { accessFlags := 25, nameIndex := 248, descriptorIndex := 30, attributes := #[] }, { accessFlags := 25, nameIndex := 251, descriptorIndex := 30, attributes := #[] }, { accessFlags := 25, nameIndex := 254, descriptorIndex := 30, attributes := #[] }, { accessFlags := 25, nameIndex := 257, descriptorIndex := 30, attributes := #[] }, { accessFlags := 25, nameIndex := 258, descriptorIndex := 30, attributes := #[] }, { accessFlags := 26, nameIndex := 141, descriptorIndex := 34, attributes := #[] }, { accessFlags := 26, nameIndex := 204, descriptorIndex := 205, attributes := #[] }, { accessFlags := 26, nameIndex := 263, descriptorIndex := 30, attributes := #[] }, { accessFlags := 18, nameIndex := 14, descriptorIndex := 15, attributes := #[] }, { accessFlags := 18, nameIndex := 33, descriptorIndex := 34, attributes := #[] }, { accessFlags := 18, nameIndex := 21, descriptorIndex := 22, attributes := #[] }, { accessFlags := 18, nameIndex := 29, descriptorIndex := 30, attributes := #[] }, { accessFlags := 2, nameIndex := 25, descriptorIndex := 26, attributes := #[] }])
  fields := #[{ name := "CONNECTION", type := (.object "java/lang/String"), accessFlags := 25, slot := 0, constantValue := 0 }, { name := "CONTENT_LENGTH", type := (.object "java/lang/String"), accessFlags := 25, slot := 1, constantValue := 0 }, { name := "TRANSFER_ENCODING", type := (.object "java/lang/String"), accessFlags := 25, slot := 2, constantValue := 0 }, { name := "EXPECT", type := (.object "java/lang/String"), accessFlags := 25, slot := 3, constantValue := 0 }, { name := "HOST", type := (.object "java/lang/String"), accessFlags := 25, slot := 4, constantValue := 0 }, { name := "AUTHORIZATION", type := (.object "java/lang/String"), accessFlags := 25, slot := 5, constantValue := 0 }, { name := "ONE_LINE_ONLY", type := (.object "java/util/Set"), accessFlags := 26, slot := 6, constantValue := 0 }, { name := "DIGITS", type := (.object "java/util/regex/Pattern"), accessFlags := 26, slot := 7, constantValue := 0 }, { name := "TOKEN_PUNCTUATION", type := (.object "java/lang/String"), accessFlags := 26, slot := 8, constantValue := 0 }, { name := "lines", type := (.object "com/example/sluicegate/sluicegate/http/LineDecoder"), accessFlags := 18, slot := 0, constantValue := 0 }, { name := "kept", type := (.object "java/util/Set"), accessFlags := 18, slot := 1, constantValue := 0 }, { name := "values", type := (.object "java/util/Map"), accessFlags := 18, slot := 2, constantValue := 0 }, { name := "tooLong", type := (.object "java/lang/String"), accessFlags := 18, slot := 3, constantValue := 0 }, { name := "left", type := .int, accessFlags := 2, slot := 4, constantValue := 0 }]
  methods := #[k2m0]
  instanceTypes := #[(.object "com/example/sluicegate/sluicegate/http/LineDecoder"), (.object "java/util/Set"), (.object "java/util/Map"), (.object "java/lang/String"), .int]
  staticTypes := #[(.object "java/lang/String"), (.object "java/lang/String"), (.object "java/lang/String"), (.object "java/lang/String"), (.object "java/lang/String"), (.object "java/lang/String"), (.object "java/util/Set"), (.object "java/util/regex/Pattern"), (.object "java/lang/String")]
  resolved := Array.replicate 304 none
  statics := none }

def pool3 : Array CpInfo := pool [(1, u "java/lang/Cloneable"), (0, .class_ 1), (0, u "java/lang/Object"), (0, .class_ 3)] 3

/-- java/lang/Cloneable -/
def k3 : Class := { plain "java/lang/Cloneable" (some 0) with
  accessFlags := 1537
  interfaces := #[]
  cf := some (fileOf pool3 2 #[] #[] 1537 4 #[] #[])
  fields := #[]
  methods := #[]
  instanceTypes := #[]
  staticTypes := #[]
  resolved := Array.replicate 8 none
  statics := none }

def pool4 : Array CpInfo := pool [(1, u "java/io/Serializable"), (0, .class_ 1), (0, u "java/lang/Object"), (0, .class_ 3)] 3

/-- java/io/Serializable -/
def k4 : Class := { plain "java/io/Serializable" (some 0) with
  accessFlags := 1537
  interfaces := #[]
  cf := some (fileOf pool4 2 #[] #[] 1537 4 #[] #[])
  fields := #[]
  methods := #[]
  instanceTypes := #[]
  staticTypes := #[]
  resolved := Array.replicate 8 none
  statics := none }

/-- the primitive byte -/
def k5 : Class := { plain "byte" none with kind := .primitive 'B', accessFlags := 0x411 }
/-- [B -/
def k6 : Class := { plain "[B" (some 0) with kind := .array 5 .byte, interfaces := #[3, 4], accessFlags := 1041 }

/-- the primitive int -/
def k7 : Class := { plain "int" none with kind := .primitive 'I', accessFlags := 0x411 }
/-- [I -/
def k8 : Class := { plain "[I" (some 0) with kind := .array 7 .int, interfaces := #[3, 4], accessFlags := 1041 }

def heap : Heap := #[]
def classes : Array Class := #[k0, k1, k2, k3, k4, k5, k6, k7, k8]
def interned : List (Array UInt16 × Addr) := []
def slotsUsed : Nat := 0
def theMethod : MethodId := ⟨1, 2⟩
def args0 : Array Value := #[.int 5, .int 300]
def aboutOver (below : List Frame) : State where
  vm := { classes := classes, interned := interned.toArray }
  heap := heap
  slotsUsed := slotsUsed
  threads := #[{ frames := .invoking theMethod args0 :: below }]
def below0 : List Frame := [.native { method := ⟨0, 0⟩, args := #[] }]
def about1 : State := aboutOver below0
def p0 : Program := .bare "" "" ""
def e0 : Env := launch0.env 0 0 0
theorem w_frames : about1.frames = Frame.invoking theMethod args0 :: below0 := rfl
set_option maxRecDepth 65536 in
theorem w_args : argsFit about1.vm theMethod args0 = true := by decide +kernel
set_option maxRecDepth 65536 in
theorem w_heap : heapFits about1 = true := by decide +kernel
set_option maxRecDepth 65536 in
theorem w_runnable : about1.curStatus? = some .runnable := by decide +kernel
set_option maxRecDepth 65536 in
theorem w_alone : about1.alone = true := by decide +kernel
set_option maxRecDepth 65536 in
theorem w_named : about1.methodNamed? x = some theMethod := by decide +kernel
set_option maxRecDepth 65536 in
theorem w_hears : about1.hears theMethod below0 = true := by decide +kernel
set_option maxRecDepth 65536 in
theorem w_ripe : about1.ripe theMethod args0 below0 = true := by decide +kernel
theorem w_running : about1.status = .running := rfl
set_option maxRecDepth 65536 in
theorem w_room : about1.hasRoom e0.platform room_1 = true :=
  launch0.hasRoom_least _ room_1 (by decide +kernel) (by decide +kernel) (by decide +kernel) (by decide +kernel) (by decide +kernel) (by decide +kernel)
theorem allAtoms_all (ts : List Jvm.Cond) (a : Array Jvm.Value) (st : Jvm.State) : (allAtoms ts).before a st = ts.all (fun c => c.before a st) := by
  induction ts with
  | nil => rfl
  | cons c t ih =>
    show (Jvm.Cond.and c (allAtoms t)).before a st = _
    rw [Jvm.Cond.before_and, ih, List.all_cons]
def words1 : List Jvm.Cond := Jvm.Cond.code x code maxLocals ret :: tables_1
/-- a 'code' word, met by the world's own term for the bytes: nothing is compared byte by byte -/
theorem code_word {y : MethodName} {bytes : ByteArray} {mx : Nat} {rt : Option FieldType} {a : Array Value} {s : State} {m : MethodId} {meth : Method} {c : Code} (h1 : s.methodNamed? y = some m) (h2 : s.vm.method? m = some meth) (h3 : meth.code = some c) (h4 : c.code = bytes)
    (h5 : (c.maxLocals == mx && c.exceptionTable.isEmpty && decide (c.maxStack ≤ mostOperands) && decide (meth.sig.returnType = rt) && !meth.locks && decide (parseMethodDescriptor y.desc = some meth.sig)) = true) : (Jvm.Cond.code y bytes mx rt).before a s = true := by
  simp only [Bool.and_eq_true, beq_iff_eq, Bool.not_eq_true', decide_eq_true_eq] at h5
  obtain ⟨⟨⟨⟨⟨g1, g2⟩, g3⟩, g4⟩, g5⟩, g6⟩ := h5
  simp [Cond.before, Cond.holds, Cond.value, h1, h2, h3, h4, g1, g2, g3, g4, g5, g6]
def isCode : Jvm.Cond → Bool
  | .code _ _ _ _ => true
  | _ => false
theorem all_split {L : List Jvm.Cond} {P : Jvm.Cond → Bool} (h1 : L.all (fun c => isCode c || P c) = true) (h2 : ∀ c ∈ L.filter isCode, P c = true) : L.all P = true := by
  refine List.all_eq_true.mpr fun c hc => ?_
  have h := List.all_eq_true.mp h1 c hc
  rcases Bool.eq_false_or_eq_true (isCode c) with hi | hi
  · exact h2 c (List.mem_filter.mpr ⟨hc, hi⟩)
  · simpa [hi] using h
set_option maxRecDepth 65536 in
theorem w_c0 : (Jvm.Cond.code x code maxLocals ret).before args0 about1 = true := code_word (m := ⟨1, 2⟩) (meth := k1m2) (c := k1c2) (by decide +kernel) rfl rfl rfl (by decide +kernel)
set_option maxRecDepth 65536 in
theorem w_c1 : (Jvm.Cond.code ({ cls := "com/example/sluicegate/sluicegate/http/FieldsDecoder", name := "isLetterOrDigit", desc := "(C)Z" } : Jvm.MethodName) prog_38_method_6_code (1 : Nat) (Option.some Jvm.ClassFile.FieldType.boolean)).before args0 about1 = true := code_word (m := ⟨2, 0⟩) (meth := k2m0) (c := k2c0) (by decide +kernel) rfl rfl rfl (by decide +kernel)
set_option maxRecDepth 65536 in
theorem w_c2 : (Jvm.Cond.code ({ cls := "com/example/sluicegate/sluicegate/http/FieldsDecoderIsLetterOrDigitPinLaw", name := "ref", desc := "(I)Z" } : Jvm.MethodName) method_2_code (6 : Nat) (Option.some Jvm.ClassFile.FieldType.boolean)).before args0 about1 = true := code_word (m := ⟨1, 1⟩) (meth := k1m1) (c := k1c1) (by decide +kernel) rfl rfl rfl (by decide +kernel)
def codes1 : List Jvm.Cond := [Jvm.Cond.code x code maxLocals ret, Jvm.Cond.code ({ cls := "com/example/sluicegate/sluicegate/http/FieldsDecoder", name := "isLetterOrDigit", desc := "(C)Z" } : Jvm.MethodName) prog_38_method_6_code (1 : Nat) (Option.some Jvm.ClassFile.FieldType.boolean), Jvm.Cond.code ({ cls := "com/example/sluicegate/sluicegate/http/FieldsDecoderIsLetterOrDigitPinLaw", name := "ref", desc := "(I)Z" } : Jvm.MethodName) method_2_code (6 : Nat) (Option.some Jvm.ClassFile.FieldType.boolean)]
set_option maxRecDepth 65536 in
theorem codes_eq : words1.filter isCode = codes1 := rfl
theorem w_codes : ∀ c ∈ words1.filter isCode, c.before args0 about1 = true := by
  rw [codes_eq]
  intro c hc
  simp only [codes1, List.mem_cons, List.not_mem_nil, or_false] at hc
  rcases hc with rfl | rfl | rfl
  · exact w_c0
  · exact w_c1
  · exact w_c2
set_option maxRecDepth 65536 in
theorem w_t1 : words1.all (fun c => isCode c || c.before args0 about1) = true := by decide +kernel
theorem w_tables : (allAtoms (Jvm.Cond.code x code maxLocals ret :: tables_1)).before args0 about1 = true := by
  rw [allAtoms_all]
  show words1.all (fun c => c.before args0 about1) = true
  refine all_split ?_ w_codes
  rw [w_t1]
set_option maxRecDepth 65536 in
theorem w_case : (Jvm.Cond.and given_1 narrow_1).before args0 about1 = true := by decide +kernel
theorem w_applies : (headSpec (Jvm.Cond.code x code maxLocals ret :: tables_1) room_1).applies x e0.platform about1 = true :=
  (Spec.applies_iff w_frames).mpr ⟨w_running, w_runnable, w_alone, w_named, w_hears, w_ripe, w_room, w_tables⟩
theorem atStart : AtStart classFile x code maxLocals ret World_1 tables_1 room_1 Calls_1 rest_1 Pre_1 launch0 p0 e0 about1 theMethod args0 below0 :=
  ⟨lists_1, trivial, launch0.admits_env _ _ _, launch0.least_env, fairChoices_fair.cas, fairChoices_fair.clock, w_frames, w_args, w_heap, w_applies, trivial, trivial, w_case⟩
end start1
theorem witness_1 : WitnessClaimed_1 := ⟨start1.p0, start1.e0, start1.about1, start1.theMethod, start1.args0, start1.below0, start1.atStart⟩
end Jvm.Pilot.@@N@@
