import JvmDerived
import JvmDerived.Pilot.@@N@@Statement
import JvmDerived.Pilot.@@N@@Code
set_option linter.unusedVariables false
set_option linter.unusedSimpArgs false
namespace Jvm.RoadKit
open Sem ClassFile Op Lib Jvm.Stand Jvm.Free Jvm.LawKit
section New
variable {p : Program} {l : Launch} {e : Env} {R : Room} {s : State} {m : MethodId} {args : Array Value} {below : List Frame} {meth : Method} {c : Code} {T : State} {locs : List Loc} {cells slots : Nat}
theorem retI (X : Stand p l e R s m args below meth c T locs cells slots) (hx : p.tables.exec = Jvm.exec) {pc : Nat} {Ls : Array Slot} {z : Int32} {rest : List Value} (hret : meth.sig.returnType = some .int) (hd : decode c.code pc = .ok (.ireturn, 1)) {fs : List Frame}
    (hl : ∀ (f : JFrame) (acts : List Action), f.method = m → f.locked = none → f.entered = [] → (doReturn e (T.setTop f) acts (some (.int z))).1 = T.setFrames fs) : Steps p.tables e below (T.setTop (mkF m pc Ls (.int z :: rest))) (T.setFrames fs) := by
  have hm' : T.vm.method? m = some meth := X.method'
  have hn : narrow .int (.int z) = .int z := rfl
  show Steps p.tables e below (T.setTop { method := m, pc := pc, locals := Ls, stack := _ :: rest, locked := none }) _
  jvm_step X.here [X.here.top, hx, hd, hm', hret, hn]
  first | (intro acts; rw [hl _ acts rfl rfl rfl]) | rw [hl _ _ rfl rfl rfl]
  exact Steps.refl _
end New
end Jvm.RoadKit
namespace Jvm.Pilot.@@N@@
open Jvm Jvm.ClassFile Sem Op Lib Jvm.Free Jvm.Stand Jvm.LawKit Jvm.RoadKit Bundle Jvm.Pilot.@@N@@.Jvm.D
abbrev own_S (p : Program) (e : Env) (below : List Frame) (T : State) (f : JFrame) (t : State) : Prop := Steps p.tables e below (T.setTop f) t
abbrev own_ushr (x y : Int32) : Int32 := (x.toUInt32 >>> (y &&& 31).toUInt32).toInt32
abbrev own_ushrL (x : Int64) (y : Int32) : Int64 := (x.toUInt64 >>> (y &&& 63).toInt64.toUInt64).toInt64
def own_Qi (z : Int32) (h0 : Heap) (n0 : Nat) (v : Option Value) (h : Heap) (L : List Loc) : Prop := v = some (.int z) ∧ Fr n0 L ∧ h = h0
theorem own_wk {Z : State} {ag : Array Value} {d : Jvm.Cond} (hw : ∀ d ∈ tables_1, d.before ag Z = true) (i : Nat) (h : tables_1[i]? = some d) : d.before ag Z = true := hw d (List.mem_of_getElem? h)
theorem own_cast {α : Sort _} {P : α → Prop} {a b : α} (h : a = b) (k : P a) : P b := h ▸ k
/-- the object a of class KC: its fields, in the order of N, hold vs -/
def own_fs (KC : String) (N : List (String × String)) (Z : State) (h : Heap) (a : Addr) (vs : List Value) : Prop := ∀ (i : Nat) (p : String × String) (v : Value), N[i]? = some p → vs[i]? = some v → Fld Z h a KC p.1 p.2 v
/-- every field of N is laid, and the names are unlike -/
def own_lay (KC : String) (N : List (String × String)) (Z : State) : Prop := (∀ p ∈ N, Laid Z #[] KC KC p.1 p.2 ∧ ∃ t, parseFieldDescriptor p.2 = some t) ∧ (N.map (·.1)).Nodup
theorem own_laid {KC n d : String} {Z : State} {ag : Array Value} (w : (Jvm.Cond.lays KC KC n d).before ag Z = true) : Laid Z #[] KC KC n d := Or.inl (mvT (State.Warmed39.refl Z) w)
theorem own_lay0 {KC : String} {Z : State} : ∀ p ∈ ([] : List (String × String)), Laid Z #[] KC KC p.1 p.2 ∧ ∃ t, parseFieldDescriptor p.2 = some t := fun _ q => nomatch q
theorem own_layS {KC n d : String} {Z : State} {ag : Array Value} {N : List (String × String)} (w : (Jvm.Cond.lays KC KC n d).before ag Z = true) {t : FieldType} (ht : parseFieldDescriptor d = some t) (r : ∀ p ∈ N, Laid Z #[] KC KC p.1 p.2 ∧ ∃ t, parseFieldDescriptor p.2 = some t) : ∀ p ∈ (n, d) :: N, Laid Z #[] KC KC p.1 p.2 ∧ ∃ t, parseFieldDescriptor p.2 = some t := fun p q => by
  rcases List.mem_cons.mp q with rfl | q
  · exact ⟨own_laid w, t, ht⟩
  · exact r p q
theorem own_fs.ext {KC : String} {N : List (String × String)} {Z : State} {h h' : Heap} {a : Addr} {vs : List Value} (S : own_fs KC N Z h a vs) (E : Ext h h') : own_fs KC N Z h' a vs := fun i p v x y => (S i p v x y).ext E
theorem own_fs.keep {KC : String} {N : List (String × String)} {Z : State} {h h' : Heap} {a : Addr} {vs : List Value} {ws : List Addr} (S : own_fs KC N Z h a vs) (K : Keep h h' ws) (q : a ∉ ws) : own_fs KC N Z h' a vs := fun i p v x y => (S i p v x y).keep K q
theorem own_fs.other {KC : String} {N : List (String × String)} {Z : State} {h h' : Heap} {a b : Addr} {vs : List Value} {sl : Nat} {w : Value} (S : own_fs KC N Z h a vs) (W : Wr h h' b sl w) (q : a ≠ b) : own_fs KC N Z h' a vs := fun i p v x y => (S i p v x y).other W (Or.inl q)
theorem own_fs.get {KC : String} {N : List (String × String)} {Z : State} {h : Heap} {a : Addr} {vs : List Value} (S : own_fs KC N Z h a vs) (i : Nat) {f d : String} {v : Value} (x : N[i]? = some (f, d)) (y : vs[i]? = some v) : Fld Z h a KC f d v := S i (f, d) v x y
theorem own_fs.put {KC : String} {N : List (String × String)} {Z : State} {h h' : Heap} {a : Addr} {vs : List Value} (S : own_fs KC N Z h a vs) (L : own_lay KC N Z) (i : Nat) {f d : String} {v : Value} (x : N[i]? = some (f, d)) (W : Wr h h' a (Jvm.RoadKit.slotOf Z KC f d) v) : own_fs KC N Z h' a (vs.set i v) := fun j p w xj yj => by
  by_cases e : j = i
  · subst e
    cases x.symm.trans xj
    have hl : j < (vs.set j v).length := (List.getElem?_eq_some_iff.mp yj).1
    rw [List.length_set] at hl
    rw [List.getElem?_set_self hl] at yj
    cases yj
    exact Fld.same W (S j _ _ x (List.getElem?_eq_getElem hl))
  · rw [List.getElem?_set_ne (fun q => e q.symm)] at yj
    obtain ⟨lj, tj, pj⟩ := L.1 p (List.mem_of_getElem? xj)
    obtain ⟨li, ti, pi⟩ := L.1 (f, d) (List.mem_of_getElem? x)
    have hn : p.1 ≠ f := by
      intro q
      have aj : (N.map (·.1))[j]? = some p.1 := by rw [List.getElem?_map, xj]; rfl
      have ai : (N.map (·.1))[i]? = some f := by rw [List.getElem?_map, x]; rfl
      rw [q] at aj
      obtain ⟨hj, ej⟩ := List.getElem?_eq_some_iff.mp aj
      obtain ⟨hi, ei⟩ := List.getElem?_eq_some_iff.mp ai
      rcases Nat.lt_or_gt_of_ne e with z | z
      · exact (List.pairwise_iff_getElem.mp L.2 j i hj hi z) (ej.trans ei.symm)
      · exact (List.pairwise_iff_getElem.mp L.2 i j hi hj z) (ei.trans ej.symm)
    exact (S j p w xj yj).other W (Or.inr (slot_ne lj li hn pj pi))
theorem own_fs.lt {KC : String} {N : List (String × String)} {Z : State} {h : Heap} {a : Addr} {vs : List Value} (S : own_fs KC N Z h a vs) {p : String × String} {v : Value} (x : N[0]? = some p) (y : vs[0]? = some v) : a < h.size := (S 0 p v x y).lt
/-- a private method's own 'selects', out of another method's of her class -/
theorem own_selp {s : State} {args : Array Value} {y ym : MethodName} (hsel : (Jvm.Cond.selects ym.cls ym ym).before args s = true) (hym : ym.cls = y.cls) (hpriv : s.PrivateAt y) (hinst : (Jvm.Cond.instanceMethod y).before args s = true) (hy : y.cls ≠ "java/lang/invoke/MethodHandle" ∧ y.cls ≠ "java/lang/invoke/VarHandle") : (Jvm.Cond.selects y.cls y y).before args s = true := by
  obtain ⟨c2, r2, m2, -, -, q3, -, kP, hkP, hkPi⟩ := Cond.selects_spec hsel
  exact Jvm.Stand.selects_self_of_private (by rw [← hym]; exact findClass_of_methodNamed q3) hkP hkPi hpriv hinst hy
theorem own_fs.nil {KC : String} {Z : State} {h : Heap} {a : Addr} : own_fs KC [] Z h a [] := fun i p v x _ => by simp at x
theorem own_fs.cons {KC n d : String} {N : List (String × String)} {Z : State} {h : Heap} {a : Addr} {v : Value} {vs : List Value} (F : Fld Z h a KC n d v) (r : own_fs KC N Z h a vs) : own_fs KC ((n, d) :: N) Z h a (v :: vs) := fun i p w x y => by
  cases i with
  | zero => cases (show some (n, d) = some p from x); cases (show some v = some w from y); exact F
  | succ i => exact r i p w x y
section Own
variable {p : Program} {l : Launch} {e : Env} {R : Room} {s : State} {m : MethodId} {args : Array Value} {below : List Frame} {meth : Method} {c : Code} {T : State} {locs : List Loc} {cells slots : Nat} {Z : State} {h : Heap} {a : Addr} {k : ClassId} {z : Int32} {vs : List Value} {dv : Value} {j : Int32} {v : Value}
theorem own_ldI {g : JFrame} {rest : List Value} {target : State} (X : Stand p l e R s m args below meth c T locs cells slots) (hx : p.tables.exec = Jvm.exec) (hZ : Z.Warmed39 s.vm) (eT : T.heap = h) (V : Arv Z h a k .int z vs dv) (hj : ¬ j < 0 ∧ j < z) (hv : vs.getD j.toNatClampNeg dv = v)
    (hg : g.method = m) (hs : g.stack = .int j :: .ref a :: rest) (hd : decode c.code g.pc = .ok (.iaload, 1))
    (hr : Steps p.tables e below (T.setTop { g with pc := g.pc + 1, stack := v :: rest }) target) : Steps p.tables e below (T.setTop g) target := by
  obtain ⟨cl, Ar, -, S, M, H, -⟩ := V
  have hin : ¬ (j < 0 ∨ cl.slots.size ≤ j.toNatClampNeg) := inb_of S hj
  exact X.iaload hx (by rw [eT]; exact Ar.1) (State.isArrayOf_alike hZ.alike Ar.2.1) Ar.2.2 hin (Has.at H hin hv) hg hs hd target hr
theorem own_ldD {g : JFrame} {rest : List Value} {target : State} (X : Stand p l e R s m args below meth c T locs cells slots) (hx : p.tables.exec = Jvm.exec) (hZ : Z.Warmed39 s.vm) (eT : T.heap = h) (V : Arv Z h a k .double z vs dv) (hj : ¬ j < 0 ∧ j < z) (hv : vs.getD j.toNatClampNeg dv = v)
    (hg : g.method = m) (hs : g.stack = .int j :: .ref a :: rest) (hd : decode c.code g.pc = .ok (.daload, 1))
    (hr : Steps p.tables e below (T.setTop { g with pc := g.pc + 1, stack := v :: rest }) target) : Steps p.tables e below (T.setTop g) target := by
  obtain ⟨cl, Ar, -, S, M, H, -⟩ := V
  have hin : ¬ (j < 0 ∨ cl.slots.size ≤ j.toNatClampNeg) := inb_of S hj
  exact X.daload hx (by rw [eT]; exact Ar.1) (State.isArrayOf_alike hZ.alike Ar.2.1) Ar.2.2 hin (Has.at H hin hv) hg hs hd target hr
theorem own_ldA {g : JFrame} {rest : List Value} {target : State} (X : Stand p l e R s m args below meth c T locs cells slots) (hx : p.tables.exec = Jvm.exec) (hZ : Z.Warmed39 s.vm) (eT : T.heap = h) (V : Arv Z h a k (.array .double) z vs dv) (hj : ¬ j < 0 ∧ j < z) (hv : vs.getD j.toNatClampNeg dv = v)
    (hg : g.method = m) (hs : g.stack = .int j :: .ref a :: rest) (hd : decode c.code g.pc = .ok (.aaload, 1))
    (hr : Steps p.tables e below (T.setTop { g with pc := g.pc + 1, stack := v :: rest }) target) : Steps p.tables e below (T.setTop g) target := by
  obtain ⟨cl, Ar, -, S, M, H, -⟩ := V
  have hin : ¬ (j < 0 ∨ cl.slots.size ≤ j.toNatClampNeg) := inb_of S hj
  exact X.aaload hx (by rw [eT]; exact Ar.1) (State.isArrayOf_alike hZ.alike Ar.2.1) rfl Ar.2.2 hin (Has.at H hin hv) hg hs hd target hr
theorem own_stD (X : Stand p l e R s m args below meth c T locs cells slots) (hx : p.tables.exec = Jvm.exec) (hZ : Z.Warmed39 s.vm) (eT : T.heap = h) (V : Arv Z h a k .double z vs dv) (hj : ¬ j < 0 ∧ j < z) (i : Nat) (hi : j.toNatClampNeg = i) (hl : i < vs.length) {x : UInt64} {vs' : List Value} (hvs : vs.set i (.double x) = vs')
    {g : JFrame} (hg : g.method = m) {rest : List Value} (hs : g.stack = .double x :: .int j :: .ref a :: rest) (hd : decode c.code g.pc = .ok (.dastore, 1)) :
    ∃ T' h', Stand p l e R s m args below meth c T' (locs ++ [⟨a, j.toNatClampNeg⟩]) cells slots ∧ T'.heap = h' ∧ Wr h h' a j.toNatClampNeg (.double x) ∧ Arv Z h' a k .double z vs' dv ∧ ∀ target, Steps p.tables e below (T'.setTop { g with pc := g.pc + 1, stack := rest }) target → Steps p.tables e below (T.setTop g) target := by
  obtain ⟨cl, Ar, q, S, M, H, G⟩ := V
  have hin : ¬ (j < 0 ∨ cl.slots.size ≤ j.toNatClampNeg) := inb_of S hj
  obtain ⟨T', h', X', e', W, st⟩ := stD X hx hZ eT Ar hin hg hs hd
  subst hvs
  exact ⟨T', h', X', e', W, Arv.set Ar q S M H G rfl W i hi hl, st⟩
theorem own_stI (X : Stand p l e R s m args below meth c T locs cells slots) (hx : p.tables.exec = Jvm.exec) (hZ : Z.Warmed39 s.vm) (eT : T.heap = h) (V : Arv Z h a k .int z vs dv) (hj : ¬ j < 0 ∧ j < z) (i : Nat) (hi : j.toNatClampNeg = i) (hl : i < vs.length) {x : Int32} {vs' : List Value} (hvs : vs.set i (.int x) = vs')
    {g : JFrame} (hg : g.method = m) {rest : List Value} (hs : g.stack = .int x :: .int j :: .ref a :: rest) (hd : decode c.code g.pc = .ok (.iastore, 1)) :
    ∃ T' h', Stand p l e R s m args below meth c T' (locs ++ [⟨a, j.toNatClampNeg⟩]) cells slots ∧ T'.heap = h' ∧ Wr h h' a j.toNatClampNeg (.int x) ∧ Arv Z h' a k .int z vs' dv ∧ ∀ target, Steps p.tables e below (T'.setTop { g with pc := g.pc + 1, stack := rest }) target → Steps p.tables e below (T.setTop g) target := by
  obtain ⟨cl, Ar, q, S, M, H, G⟩ := V
  have hin : ¬ (j < 0 ∨ cl.slots.size ≤ j.toNatClampNeg) := inb_of S hj
  obtain ⟨T', h', X', e', W, st⟩ := stI X hx hZ eT Ar hin hg hs hd
  subst hvs
  exact ⟨T', h', X', e', W, Arv.set Ar q S M H G rfl W i hi hl, st⟩
theorem own_stA (X : Stand p l e R s m args below meth c T locs cells slots) (hx : p.tables.exec = Jvm.exec) (hZ : Z.Warmed39 s.vm) (eT : T.heap = h) (V : Arv Z h a k (.array .double) z vs dv) (O : OvrA Z k .double "[D") {y : Addr} (E : Exa Z h y "[D") (hj : ¬ j < 0 ∧ j < z) (i : Nat) (hi : j.toNatClampNeg = i) (hl : i < vs.length) {vs' : List Value} (hvs : vs.set i (.ref y) = vs')
    {g : JFrame} (hg : g.method = m) {rest : List Value} (hs : g.stack = .ref y :: .int j :: .ref a :: rest) (hd : decode c.code g.pc = .ok (.aastore, 1)) :
    ∃ T' h', Stand p l e R s m args below meth c T' (locs ++ [⟨a, j.toNatClampNeg⟩]) cells slots ∧ T'.heap = h' ∧ Wr h h' a j.toNatClampNeg (.ref y) ∧ Arv Z h' a k (.array .double) z vs' dv ∧ ∀ target, Steps p.tables e below (T'.setTop { g with pc := g.pc + 1, stack := rest }) target → Steps p.tables e below (T.setTop g) target := by
  obtain ⟨cl, Ar, q, S, M, H, G⟩ := V
  have hin : ¬ (j < 0 ∨ cl.slots.size ≤ j.toNatClampNeg) := inb_of S hj
  obtain ⟨T', h', X', e', W, st⟩ := stR X hx hZ eT Ar hin rfl (Sto.ofVA Ar q O (Ins.self E)) hg hs hd
  subst hvs
  exact ⟨T', h', X', e', W, Arv.set Ar q S M H G rfl W i hi hl, st⟩
theorem own_gf (X : Stand p l e R s m args below meth c T locs cells slots) (hx : p.tables.exec = Jvm.exec) (hZ : Z.Warmed39 s.vm) {own KC f d : String} {index : Nat} {ag : Array Value} (hown : s.vm.findClass own = some m.cls) (w : (Jvm.Cond.fieldLink own index KC f d).before ag Z = true) (eT : T.heap = h)
    {N : List (String × String)} (S : own_fs KC N Z h a vs) (i : Nat) (x : N[i]? = some (f, d)) (y : vs[i]? = some v) {g : JFrame} (hg : g.method = m) {rest : List Value} (hs : g.stack = .ref a :: rest) (hd : decode c.code g.pc = .ok (.getfield index, 3)) :
    ∃ T', Stand p l e R s m args below meth c T' locs cells slots ∧ T'.heap = h ∧ ∀ target, Steps p.tables e below (T'.setTop { g with pc := g.pc + 3, stack := v :: rest }) target → Steps p.tables e below (T.setTop g) target :=
  getF X hx hZ (host := "") hown (Or.inl w) Via.refl eT (S.get i x y) hg hs hd
end Own
/-- a local variable that holds nothing, or a value of one word -/
def own_c1 (x : Slot) : Prop := x = .unset ∨ ∃ v : Value, x = .val v ∧ v.category = 1
theorem own_store1 {l l' : Array Slot} {i : Nat} {v : Value} {x : Slot} (hv : v.category = 1) (h : l[i]? = some x) (c : own_c1 x) (q : l.setIfInBounds i (.val v) = l') : storeLocals l i v = some l' := by
  subst q
  have hi : i < l.size := (Array.getElem?_eq_some_iff.mp h).1
  have h2 : ¬ v.category = 2 := by rw [hv]; decide
  have e : storeSelf l i v = some (l.setIfInBounds i (.val v)) := by
    delta storeSelf
    rw [show setAt l i (.val v) = some (l.setIfInBounds i (.val v)) from if_pos hi]
    exact if_neg h2
  delta storeLocals
  rw [h]
  rcases c with rfl | ⟨w, rfl, hw⟩
  · exact e
  · have h3 : ¬ w.category = 2 := by rw [hw]; decide
    exact (if_neg h3).trans e
theorem own_nb {L : List Addr} {m b : Addr} (h : ∀ x ∈ L, x ≤ m) (q : m < b) (i : Nat) {x : Addr} (e : L[i]? = some x) : x ≠ b := Nat.ne_of_lt (Nat.lt_of_le_of_lt (h x (List.mem_of_getElem? e)) q)
theorem own_ch0 {m : Addr} : ∀ x ∈ ([] : List Addr), x ≤ m := fun _ q => nomatch q
theorem own_chS {m y : Addr} {L : List Addr} (a : y ≤ m) (r : ∀ x ∈ L, x ≤ m) : ∀ x ∈ y :: L, x ≤ m := fun x q => by rcases List.mem_cons.mp q with rfl | q; exact a; exact r x q
/-- a double that is a whole number below 2^34 -/
def own_w (x : UInt64) : Prop := ∃ a : Int64, (-17179869184 < a.toInt ∧ a.toInt < 17179869184) ∧ x = FP.l2d a
theorem own_w53 {a : Int64} (h : -17179869184 < a.toInt ∧ a.toInt < 17179869184) : FP.Core.Small53 a := ⟨by omega, by omega⟩
theorem own_w53_0 : FP.Core.Small53 0 := own_w53 (a := 0) ⟨by decide, by decide⟩
theorem own_w.fin {x : UInt64} (h : own_w x) : FP.Core.DFin x := by obtain ⟨a, -, rfl⟩ := h; exact FP.Core.l2d_fin a
theorem own_nno {x : UInt64} (h : FP.Core.dIsNaN x = false) : Jvm.Free.Fl.NoNaN64 x := Jvm.Free.Fl.noNaN64_no.mpr h
theorem own_w.nn {x : UInt64} (h : own_w x) : Jvm.Free.Fl.NoNaN64 x := own_nno h.fin.notNaN
theorem own_w0 : own_w 0 := ⟨0, ⟨by decide, by decide⟩, FP.Core.l2d_zero.symm⟩
theorem own_w1 : own_w 4607182418800017408 := ⟨1, ⟨by decide, by decide⟩, by decide +kernel⟩
theorem own_i64 (i : Int32) : -2147483649 < i.toInt64.toInt ∧ i.toInt64.toInt < 2147483648 := by
  have h1 := Int32.toInt_lt i
  have h2 := Int32.le_toInt i
  rw [Int32.toInt_toInt64]; omega
theorem own_wi (i : Int32) : own_w (FP.i2d i) := ⟨i.toInt64, by have := own_i64 i; omega, FP.Core.i2d_l2d i⟩
theorem own_wsub (i j : Int32) : own_w (FP.dsub (FP.i2d i) (FP.i2d j)) := by
  have hi := own_i64 i
  have hj := own_i64 j
  refine ⟨i.toInt64 - j.toInt64, ?_, ?_⟩
  · rw [FP.Core.int64_sub (by omega) (by omega)]; omega
  · show FP.Core.dsub (FP.Core.i2d i) (FP.Core.i2d j) = FP.Core.l2d (i.toInt64 - j.toInt64)
    rw [FP.Core.i2d_l2d, FP.Core.i2d_l2d]
    exact FP.Core.dsub_l2d (own_w53 (by omega)) (own_w53 (by omega))
theorem own_div1 {x : UInt64} (h : own_w x) : FP.ddiv x 4607182418800017408 = x := FP.Core.ddiv_one h.fin.ne_nan
theorem own_mul1 {x : UInt64} (h : own_w x) : FP.dmul x 4607182418800017408 = x := FP.Core.dmul_one h.fin.ne_nan
theorem own_1mul {x : UInt64} (h : own_w x) : FP.dmul 4607182418800017408 x = x := FP.Core.one_dmul h.fin.notNaN
theorem own_ndiv {x : UInt64} (h : own_w x) : Jvm.Free.Fl.NoNaN64 (FP.ddiv x 4607182418800017408) := by rw [own_div1 h]; exact h.nn
theorem own_fmul {x y : UInt64} (hx : own_w x) (hy : own_w y) : Jvm.Free.Fl.Fin64 (FP.dmul x y) := by
  obtain ⟨a, -, rfl⟩ := hx
  obtain ⟨b, -, rfl⟩ := hy
  exact (Jvm.Free.Fl.dmul_mag (Jvm.Free.Fl.l2d_mag a) (Jvm.Free.Fl.l2d_mag b) (by decide) (by decide)).fin (by decide)
theorem own_nmul {x y : UInt64} (hx : own_w x) (hy : own_w y) : Jvm.Free.Fl.NoNaN64 (FP.dmul x y) := own_nno (FP.Core.dmul_out hx.fin hy.fin)
theorem own_nadd {x y : UInt64} (hx : own_w x) (hy : Jvm.Free.Fl.NoNaN64 y) : Jvm.Free.Fl.NoNaN64 (FP.dadd x y) := own_nno (FP.Core.dadd_out' hx.fin (Jvm.Free.Fl.noNaN64_no.mp hy))
theorem own_nsub {x y : UInt64} (hx : own_w x) (hy : Jvm.Free.Fl.NoNaN64 y) : Jvm.Free.Fl.NoNaN64 (FP.dsub x y) := own_nno (FP.Core.dsub_out' hx.fin (Jvm.Free.Fl.noNaN64_no.mp hy))
theorem own_nacc {d x n : UInt64} (hd : Jvm.Free.Fl.NoNaN64 d) (hx : own_w x) (hn : own_w n) : Jvm.Free.Fl.NoNaN64 (FP.dadd d (FP.dmul x n)) := Jvm.Free.Fl.dadd_out hd (own_fmul hx hn)
theorem own_dz0 : FP.Core.DZero 0 := (FP.Core.zero_bits2 0).mpr (by decide)
theorem own_dz {z : UInt64} (h : FP.Core.DZero z) : z = 0 ∨ z = 9223372036854775808 := by
  have q := (FP.Core.zero_bits2 z).mp h
  have l := z.toNat_lt
  have t : z.toNat = 0 ∨ z.toNat = 9223372036854775808 := by omega
  rcases t with k | k
  · exact Or.inl (UInt64.toNat.inj (by rw [k]; rfl))
  · exact Or.inr (UInt64.toNat.inj (by rw [k]; rfl))
theorem own_addz {x z : UInt64} (hx : own_w x) (hz : FP.Core.DZero z) : FP.dadd x z = x := by
  rcases own_dz hz with rfl | rfl
  · obtain ⟨a, ha, rfl⟩ := hx
    have q := FP.Core.dadd_l2d (own_w53 ha) own_w53_0
    rw [FP.Core.l2d_zero, Int64.add_zero] at q
    exact q
  · exact FP.Core.dadd_zeroNeg hx.fin.ne_nan
theorem own_subz {x z : UInt64} (hx : own_w x) (hz : FP.Core.DZero z) : FP.dsub x z = x := by
  have h : FP.Core.DZero (FP.Core.dneg z) := by
    obtain ⟨s, q, e⟩ := hz
    exact ⟨!s, q, by rw [FP.Core.val64_dneg, e]; rfl⟩
  show FP.Core.dsub x z = x
  rw [FP.Core.dsub_eq]; exact own_addz hx h
theorem own_mz {x : UInt64} (hx : own_w x) : FP.Core.DZero (FP.dmul x 0) := FP.Core.dmul_zero hx.fin own_dz0
theorem own_0add {x : UInt64} (hx : own_w x) : FP.dadd 0 x = x := (FP.Core.dadd_comm 0 x).trans (own_addz hx own_dz0)
theorem own_az {x : UInt64} (hx : own_w x) : FP.dadd 0 (FP.dmul x 0) = 0 := own_addz own_w0 (own_mz hx)
theorem own_az1 {x : UInt64} (hx : own_w x) : FP.dadd 0 (FP.dmul 4607182418800017408 x) = x := by rw [own_1mul hx]; exact own_0add hx
theorem own_naz1 {x : UInt64} (hx : own_w x) : Jvm.Free.Fl.NoNaN64 (FP.dadd 0 (FP.dmul 4607182418800017408 x)) := by rw [own_az1 hx]; exact hx.nn
theorem own_sub0 {x r : UInt64} (hr : own_w r) (hx : own_w x) : FP.dsub r (FP.dmul x 0) = r := own_subz hr (own_mz hx)
theorem own_subs {x : UInt64} (h : own_w x) : FP.dsub x (FP.dmul x 4607182418800017408) = 0 := by
  rw [own_mul1 h]
  obtain ⟨s, c, q, e⟩ := h.fin
  exact FP.Core.dsub_self e
/-- less u -/
def own_W (u : Int32) : UInt64 := FP.l2d (-u.toInt64)
theorem own_wW (u : Int32) : own_w (own_W u) := ⟨-u.toInt64, by have := own_i64 u; rw [FP.Core.int64_neg (by omega)]; omega, rfl⟩
theorem own_sub1 (u : Int32) : FP.dsub 0 (FP.dmul (FP.i2d u) 4607182418800017408) = own_W u := by
  rw [own_mul1 (own_wi u)]
  have hu := own_i64 u
  have q := FP.Core.dsub_l2d own_w53_0 (own_w53 (a := u.toInt64) (by omega))
  rw [FP.Core.l2d_zero, Int64.zero_sub, ← FP.Core.i2d_l2d] at q
  exact q
theorem own_W0 : own_W 0 = 0 := by decide +kernel
theorem own_wz {x : UInt64} (h : own_w x) (q : FP.Core.DZero x) : x = 0 := by
  obtain ⟨a, -, rfl⟩ := h
  by_cases k : a = 0
  · rw [k]; exact FP.Core.l2d_zero
  · exact absurd ((FP.Core.zero_bits2 _).mp q) (FP.Core.l2d_ne_zero k)
theorem own_cv {r : Option Ordering} (q : cmpValue r .l = (0 : Int32)) : r = some .eq := by
  cases r with
  | none => exact absurd q (by decide)
  | some o => cases o <;> first | rfl | exact absurd q (by decide)
theorem own_cz {x : UInt64} (h : own_w x) : cmpValue (FP.dcmp x 0) .l = (0 : Int32) ↔ x = 0 := ⟨fun q => own_wz h (FP.Core.zero_iff.mp (own_cv q)), fun q => by rw [q]; decide +kernel⟩
theorem own_cu {u : Int32} (h : ¬ u = 0) : ¬ cmpValue (FP.dcmp (FP.i2d u) 0) .l = (0 : Int32) := fun q => FP.Core.i2d_ne_zero h ((FP.Core.zero_bits2 _).mp (FP.Core.zero_iff.mp (own_cv q)))
theorem own_cu0 {u : Int32} (h : u = 0) : cmpValue (FP.dcmp (FP.i2d u) 0) .l = (0 : Int32) := by rw [h]; decide +kernel
theorem own_Wn {u : Int32} (h : ¬ u = 0) : own_W u = FP.dneg (FP.i2d u) := by
  have hu := own_i64 u
  have k : u.toInt64 ≠ 0 := fun q => h (by
    have e : u.toInt64.toInt = 0 := by rw [q]; rfl
    rw [Int32.toInt_toInt64] at e
    exact Int32.toInt_inj.mp (by rw [e]; rfl))
  rw [FP.dneg_core (own_wi u).fin.notNaN]
  show FP.Core.l2d (-u.toInt64) = FP.Core.dneg (FP.Core.i2d u)
  rw [FP.Core.l2d_neg k (by omega), FP.Core.i2d_l2d]
theorem own_nf {x : UInt64} (h : own_w x) : FP.Core.DFin (FP.dneg x) := by
  obtain ⟨s, c, q, e⟩ := h.fin
  exact ⟨!s, c, q, by rw [FP.val64_dneg, e]; rfl⟩
/-- one turn of duals -/
def own_st (d x n : UInt64) : UInt64 := if cmpValue (FP.dcmp x 0) .l = (0 : Int32) then d else FP.dadd d (FP.dmul x n)
theorem own_st0 {d n : UInt64} : own_st d 0 n = d := if_pos (by decide +kernel)
theorem own_st1 {d x n : UInt64} (h : own_w x) (q : ¬ x = 0) : own_st d x n = FP.dadd d (FP.dmul x n) := if_neg fun k => q ((own_cz h).mp k)
theorem own_stp {d x n : UInt64} (h : cmpValue (FP.dcmp x 0) .l = (0 : Int32)) : own_st d x n = d := if_pos h
theorem own_stn {d x n : UInt64} (h : ¬ cmpValue (FP.dcmp x 0) .l = (0 : Int32)) : own_st d x n = FP.dadd d (FP.dmul x n) := if_neg h
theorem own_nst {d x n : UInt64} (hd : Jvm.Free.Fl.NoNaN64 d) (hx : own_w x) (hn : own_w n) : Jvm.Free.Fl.NoNaN64 (own_st d x n) := by
  by_cases q : cmpValue (FP.dcmp x 0) .l = (0 : Int32)
  · rw [own_stp q]; exact hd
  · rw [own_stn q]; exact own_nacc hd hx hn
theorem own_stO {x : UInt64} (h : own_w x) : own_st 0 x 4607182418800017408 = x := by
  by_cases q : x = 0
  · rw [q]; exact own_st0
  · rw [own_st1 h q, own_mul1 h]; exact own_0add h
theorem own_stZ {x : UInt64} (h : own_w x) : own_st 0 x 0 = 0 := by
  by_cases q : x = 0
  · rw [q]; exact own_st0
  · rw [own_st1 h q]; exact own_az h
theorem own_zneg {x : UInt64} (h : own_w x) : FP.Core.DZero (FP.dmul x (FP.dneg (FP.i2d 0))) := FP.Core.dmul_zero h.fin ((FP.Core.zero_bits2 _).mpr (by decide +kernel))
theorem own_yA {x y : UInt64} (hx : own_w x) (hy : own_w y) (u : Int32) : own_st (own_st 0 x 4607182418800017408) y (own_W u) = FP.dadd x (FP.dmul y (FP.dneg (FP.i2d u))) := by
  rw [own_stO hx]
  by_cases q : y = 0
  · rw [q, own_st0]; exact (own_addz hx (FP.Core.dzero_mul (own_nf (own_wi u)) own_dz0)).symm
  · rw [own_st1 hy q]
    by_cases k : u = 0
    · rw [k, own_W0, own_addz hx (own_mz hy), own_addz hx (own_zneg hy)]
    · rw [own_Wn k]
theorem own_yB {x y : UInt64} (hx : own_w x) (hy : own_w y) (u : Int32) : own_st (own_st 0 y (own_W u)) x 4607182418800017408 = FP.dadd x (FP.dmul y (FP.dneg (FP.i2d u))) := by
  have key : ∀ mm : UInt64, mm = FP.dadd 0 (FP.dmul y (FP.dneg (FP.i2d u))) → own_st mm x 4607182418800017408 = FP.dadd x (FP.dmul y (FP.dneg (FP.i2d u))) := by
    intro mm hm
    by_cases q : x = 0
    · rw [q, own_st0]; exact hm
    · rw [own_st1 hx q, own_mul1 hx, hm]
      have np : FP.Core.val64 (FP.dmul y (FP.dneg (FP.i2d u))) ≠ .nan := (FP.Core.notNaN_iff _).mp (FP.Core.dmul_out hy.fin (own_nf (own_wi u)))
      generalize FP.dmul y (FP.dneg (FP.i2d u)) = P at np
      by_cases z : P = 9223372036854775808
      · subst z
        have e1 : FP.dadd 0 (9223372036854775808 : UInt64) = 0 := by decide +kernel
        rw [e1, own_0add hx]; exact (FP.Core.dadd_zeroNeg hx.fin.ne_nan).symm
      · have e1 : FP.dadd 0 P = P := (FP.Core.dadd_comm 0 P).trans (FP.Core.dadd_zero np z)
        rw [e1]; exact FP.Core.dadd_comm P x
  apply key
  by_cases q : y = 0
  · rw [q, own_st0]; exact (own_addz own_w0 (FP.Core.dzero_mul (own_nf (own_wi u)) own_dz0)).symm
  · rw [own_st1 hy q]
    by_cases k : u = 0
    · rw [k, own_W0, own_addz own_w0 (own_mz hy), own_addz own_w0 (own_zneg hy)]
    · rw [own_Wn k]
theorem own_yC {x y : UInt64} (hx : own_w x) (hy : own_w y) : own_st (own_st 0 x 0) y 4607182418800017408 = y := by rw [own_stZ hx]; exact own_stO hy
theorem own_yD {x y : UInt64} (hx : own_w x) (hy : own_w y) : own_st (own_st 0 y 4607182418800017408) x 0 = y := by
  rw [own_stO hy]
  by_cases q : x = 0
  · rw [q]; exact own_st0
  · rw [own_st1 hx q]; exact own_addz hy (own_mz hx)
abbrev own_K : String := "com/example/waveloom/waveloom/plan/Simplex"
abbrev own_N : List (String × String) := [("costs", "[D"), ("groupOf", "[I"), ("positionOf", "[I"), ("firstEntry", "[I"), ("entryCounts", "[I"), ("entryRooms", "[I"), ("entryRows", "[I"), ("entryValues", "[D"), ("bounds", "[D"), ("slacks", "[I"), ("keys", "[I"), ("keyValues", "[D"), ("head", "[I"), ("inverse", "[[D"), ("values", "[D"), ("groupDualPass", "[I"), ("groupDualValues", "[D"), ("rates", "[D"), ("rated", "[Z"), ("ratedGroups", "[I"), ("started", "Z"), ("groupCount", "I"), ("variableCount", "I"), ("entriesUsed", "I"), ("rowCount", "I"), ("objective", "D"), ("pivotsSinceInversion", "I")]
theorem own_layw {Z : State} {ag : Array Value} (hw : ∀ d ∈ tables_1, d.before ag Z = true) : own_lay own_K own_N Z := ⟨(own_layS (own_wk hw 11 rfl) (t := (.array .double)) (by decide) (own_layS (own_wk hw 14 rfl) (t := (.array .int)) (by decide) (own_layS (own_wk hw 16 rfl) (t := (.array .int)) (by decide) (own_layS (own_wk hw 18 rfl) (t := (.array .int)) (by decide) (own_layS (own_wk hw 20 rfl) (t := (.array .int)) (by decide) (own_layS (own_wk hw 22 rfl) (t := (.array .int)) (by decide) (own_layS (own_wk hw 24 rfl) (t := (.array .int)) (by decide) (own_layS (own_wk hw 26 rfl) (t := (.array .double)) (by decide) (own_layS (own_wk hw 28 rfl) (t := (.array .double)) (by decide) (own_layS (own_wk hw 30 rfl) (t := (.array .int)) (by decide) (own_layS (own_wk hw 32 rfl) (t := (.array .int)) (by decide) (own_layS (own_wk hw 34 rfl) (t := (.array .double)) (by decide) (own_layS (own_wk hw 36 rfl) (t := (.array .int)) (by decide) (own_layS (own_wk hw 40 rfl) (t := (.array (.array .double))) (by decide) (own_layS (own_wk hw 42 rfl) (t := (.array .double)) (by decide) (own_layS (own_wk hw 44 rfl) (t := (.array .int)) (by decide) (own_layS (own_wk hw 46 rfl) (t := (.array .double)) (by decide) (own_layS (own_wk hw 48 rfl) (t := (.array .double)) (by decide) (own_layS (own_wk hw 51 rfl) (t := (.array .boolean)) (by decide) (own_layS (own_wk hw 53 rfl) (t := (.array .int)) (by decide) (own_layS (own_wk hw 60 rfl) (t := .boolean) (by decide) (own_layS (own_wk hw 62 rfl) (t := .int) (by decide) (own_layS (own_wk hw 69 rfl) (t := .int) (by decide) (own_layS (own_wk hw 71 rfl) (t := .int) (by decide) (own_layS (own_wk hw 82 rfl) (t := .int) (by decide) (own_layS (own_wk hw 139 rfl) (t := .double) (by decide) (own_layS (own_wk hw 141 rfl) (t := .int) (by decide) own_lay0))))))))))))))))))))))))))), by decide +kernel⟩
theorem pn_0 : plainName own_K = true := by first | (simp [plainName, overriddenIn]; done) | decide +kernel
theorem ef_1 (m : MethodId) (a0 : Addr) : entryFrame m #[(.ref a0)] 1 = mkF m 0 #[.val (.ref a0)] [] := by first | (simp [entryFrame, mkF, argsToLocals, Value.category]; done) | rfl
abbrev own_d1 (p : Nat) (i : Instr) (n : Nat) : Prop := decode prog_56_method_1_code p = .ok (i, n)
theorem d1_0 : own_d1 0 (.aload_n 0) 1 := by decide +kernel
theorem d1_1 : own_d1 1 (.invokespecial 1) 3 := by decide +kernel
theorem d1_4 : own_d1 4 (.aload_n 0) 1 := by decide +kernel
theorem d1_5 : own_d1 5 (.bipush 16) 2 := by decide +kernel
theorem d1_7 : own_d1 7 (.newarray .double) 2 := by decide +kernel
theorem d1_9 : own_d1 9 (.putfield 7) 3 := by decide +kernel
theorem d1_12 : own_d1 12 (.aload_n 0) 1 := by decide +kernel
theorem d1_13 : own_d1 13 (.bipush 16) 2 := by decide +kernel
theorem d1_15 : own_d1 15 (.newarray .int) 2 := by decide +kernel
theorem d1_17 : own_d1 17 (.putfield 13) 3 := by decide +kernel
theorem d1_20 : own_d1 20 (.aload_n 0) 1 := by decide +kernel
theorem d1_21 : own_d1 21 (.bipush 16) 2 := by decide +kernel
theorem d1_23 : own_d1 23 (.newarray .int) 2 := by decide +kernel
theorem d1_25 : own_d1 25 (.putfield 17) 3 := by decide +kernel
theorem d1_28 : own_d1 28 (.aload_n 0) 1 := by decide +kernel
theorem d1_29 : own_d1 29 (.bipush 16) 2 := by decide +kernel
theorem d1_31 : own_d1 31 (.newarray .int) 2 := by decide +kernel
theorem d1_33 : own_d1 33 (.putfield 20) 3 := by decide +kernel
theorem d1_36 : own_d1 36 (.aload_n 0) 1 := by decide +kernel
theorem d1_37 : own_d1 37 (.bipush 16) 2 := by decide +kernel
theorem d1_39 : own_d1 39 (.newarray .int) 2 := by decide +kernel
theorem d1_41 : own_d1 41 (.putfield 23) 3 := by decide +kernel
theorem d1_44 : own_d1 44 (.aload_n 0) 1 := by decide +kernel
theorem d1_45 : own_d1 45 (.bipush 16) 2 := by decide +kernel
theorem d1_47 : own_d1 47 (.newarray .int) 2 := by decide +kernel
theorem d1_49 : own_d1 49 (.putfield 26) 3 := by decide +kernel
theorem d1_52 : own_d1 52 (.aload_n 0) 1 := by decide +kernel
theorem d1_53 : own_d1 53 (.bipush 64) 2 := by decide +kernel
theorem d1_55 : own_d1 55 (.newarray .int) 2 := by decide +kernel
theorem d1_57 : own_d1 57 (.putfield 29) 3 := by decide +kernel
theorem d1_60 : own_d1 60 (.aload_n 0) 1 := by decide +kernel
theorem d1_61 : own_d1 61 (.bipush 64) 2 := by decide +kernel
theorem d1_63 : own_d1 63 (.newarray .double) 2 := by decide +kernel
theorem d1_65 : own_d1 65 (.putfield 32) 3 := by decide +kernel
theorem d1_68 : own_d1 68 (.aload_n 0) 1 := by decide +kernel
theorem d1_69 : own_d1 69 (.bipush 16) 2 := by decide +kernel
theorem d1_71 : own_d1 71 (.newarray .double) 2 := by decide +kernel
theorem d1_73 : own_d1 73 (.putfield 35) 3 := by decide +kernel
theorem d1_76 : own_d1 76 (.aload_n 0) 1 := by decide +kernel
theorem d1_77 : own_d1 77 (.bipush 16) 2 := by decide +kernel
theorem d1_79 : own_d1 79 (.newarray .int) 2 := by decide +kernel
theorem d1_81 : own_d1 81 (.putfield 38) 3 := by decide +kernel
theorem d1_84 : own_d1 84 (.aload_n 0) 1 := by decide +kernel
theorem d1_85 : own_d1 85 (.iconst 0) 1 := by decide +kernel
theorem d1_86 : own_d1 86 (.newarray .int) 2 := by decide +kernel
theorem d1_88 : own_d1 88 (.putfield 41) 3 := by decide +kernel
theorem d1_91 : own_d1 91 (.aload_n 0) 1 := by decide +kernel
theorem d1_92 : own_d1 92 (.iconst 0) 1 := by decide +kernel
theorem d1_93 : own_d1 93 (.newarray .double) 2 := by decide +kernel
theorem d1_95 : own_d1 95 (.putfield 44) 3 := by decide +kernel
theorem d1_98 : own_d1 98 (.aload_n 0) 1 := by decide +kernel
theorem d1_99 : own_d1 99 (.iconst 0) 1 := by decide +kernel
theorem d1_100 : own_d1 100 (.newarray .int) 2 := by decide +kernel
theorem d1_102 : own_d1 102 (.putfield 47) 3 := by decide +kernel
theorem d1_105 : own_d1 105 (.aload_n 0) 1 := by decide +kernel
theorem d1_106 : own_d1 106 (.iconst 0) 1 := by decide +kernel
theorem d1_107 : own_d1 107 (.iconst 0) 1 := by decide +kernel
theorem d1_108 : own_d1 108 (.multianewarray 50 2) 4 := by decide +kernel
theorem d1_112 : own_d1 112 (.putfield 52) 3 := by decide +kernel
theorem d1_115 : own_d1 115 (.aload_n 0) 1 := by decide +kernel
theorem d1_116 : own_d1 116 (.iconst 0) 1 := by decide +kernel
theorem d1_117 : own_d1 117 (.newarray .double) 2 := by decide +kernel
theorem d1_119 : own_d1 119 (.putfield 55) 3 := by decide +kernel
theorem d1_122 : own_d1 122 (.aload_n 0) 1 := by decide +kernel
theorem d1_123 : own_d1 123 (.iconst 0) 1 := by decide +kernel
theorem d1_124 : own_d1 124 (.newarray .int) 2 := by decide +kernel
theorem d1_126 : own_d1 126 (.putfield 58) 3 := by decide +kernel
theorem d1_129 : own_d1 129 (.aload_n 0) 1 := by decide +kernel
theorem d1_130 : own_d1 130 (.iconst 0) 1 := by decide +kernel
theorem d1_131 : own_d1 131 (.newarray .double) 2 := by decide +kernel
theorem d1_133 : own_d1 133 (.putfield 61) 3 := by decide +kernel
theorem d1_136 : own_d1 136 (.aload_n 0) 1 := by decide +kernel
theorem d1_137 : own_d1 137 (.iconst 0) 1 := by decide +kernel
theorem d1_138 : own_d1 138 (.newarray .double) 2 := by decide +kernel
theorem d1_140 : own_d1 140 (.putfield 64) 3 := by decide +kernel
theorem d1_143 : own_d1 143 (.aload_n 0) 1 := by decide +kernel
theorem d1_144 : own_d1 144 (.iconst 0) 1 := by decide +kernel
theorem d1_145 : own_d1 145 (.newarray .boolean) 2 := by decide +kernel
theorem d1_147 : own_d1 147 (.putfield 67) 3 := by decide +kernel
theorem d1_150 : own_d1 150 (.aload_n 0) 1 := by decide +kernel
theorem d1_151 : own_d1 151 (.iconst 0) 1 := by decide +kernel
theorem d1_152 : own_d1 152 (.newarray .int) 2 := by decide +kernel
theorem d1_154 : own_d1 154 (.putfield 71) 3 := by decide +kernel
theorem d1_157 : own_d1 157 .return_ 1 := by decide +kernel
def Q1 (Z : State) (a0 : Addr) (h0 : Heap) (n0 : Nat) (v : Option Value) (h : Heap) (L : List Loc) : Prop := ∃ (u0 u1 u2 u3 u4 u5 u6 u7 u8 u9 u10 z0 z1 z2 z3 z4 z5 z6 z7 z8 : Addr) (k0 k1 k2 k3 k4 k5 k6 k7 k8 k9 k10 : ClassId), v = none ∧ Fr n0 L ∧ Keep h0 h [a0] ∧ h0.size ≤ u0 ∧ u0 < u1 ∧ u1 < u2 ∧ u2 < u3 ∧ u3 < u4 ∧ u4 < u5 ∧ u5 < u6 ∧ u6 < u7 ∧ u7 < u8 ∧ u8 < u9 ∧ u9 < u10 ∧ own_fs own_K own_N Z h a0 [(.ref u0), (.ref u1), (.ref u2), (.ref u3), (.ref u4), (.ref u5), (.ref u6), (.ref u7), (.ref u8), (.ref u9), (.ref z0), (.ref z1), (.ref z2), (.ref u10), (.ref z3), (.ref z4), (.ref z5), (.ref z6), (.ref z7), (.ref z8), (.int (0 : Int32)), (.int (0 : Int32)), (.int (0 : Int32)), (.int (0 : Int32)), (.int (0 : Int32)), (.double (0 : UInt64)), (.int (0 : Int32))] ∧ Arv Z h u0 k0 .double (16 : Int32) (List.replicate 16 (.double (0 : UInt64))) (.double (0 : UInt64)) ∧ Arv Z h u1 k1 .int (16 : Int32) (List.replicate 16 (.int (0 : Int32))) (.int (0 : Int32)) ∧ Arv Z h u2 k2 .int (16 : Int32) (List.replicate 16 (.int (0 : Int32))) (.int (0 : Int32)) ∧ Arv Z h u3 k3 .int (16 : Int32) (List.replicate 16 (.int (0 : Int32))) (.int (0 : Int32)) ∧ Arv Z h u4 k4 .int (16 : Int32) (List.replicate 16 (.int (0 : Int32))) (.int (0 : Int32)) ∧ Arv Z h u5 k5 .int (16 : Int32) (List.replicate 16 (.int (0 : Int32))) (.int (0 : Int32)) ∧ Arv Z h u6 k6 .int (64 : Int32) (List.replicate 64 (.int (0 : Int32))) (.int (0 : Int32)) ∧ Arv Z h u7 k7 .double (64 : Int32) (List.replicate 64 (.double (0 : UInt64))) (.double (0 : UInt64)) ∧ Arv Z h u8 k8 .double (16 : Int32) (List.replicate 16 (.double (0 : UInt64))) (.double (0 : UInt64)) ∧ Arv Z h u9 k9 .int (16 : Int32) (List.replicate 16 (.int (0 : Int32))) (.int (0 : Int32)) ∧ Arv Z h u10 k10 (.array .double) (0 : Int32) [] .null
set_option maxRecDepth 65536 in
set_option maxHeartbeats 40000000 in
theorem rm1 (l : Launch) (Z : State) (ag : Array Value) (hw : ∀ d ∈ tables_1, d.before ag Z = true) (ws : List Jvm.Cond) (a0 : Addr) (h0 : Heap) (n0 : Nat) (Z0 : n0 ≤ h0.size) (E_a0 : Exa Z h0 a0 own_K) (ge_a0 : n0 ≤ a0) (Ob_a0 : own_fs own_K own_N Z h0 a0 [.null, .null, .null, .null, .null, .null, .null, .null, .null, .null, .null, .null, .null, .null, .null, .null, .null, .null, .null, .null, (.int (0 : Int32)), (.int (0 : Int32)), (.int (0 : Int32)), (.int (0 : Int32)), (.int (0 : Int32)), (.double (0 : UInt64)), (.int (0 : Int32))]) :
    MetFree l (⟨own_K, "<init>", "()V"⟩ : MethodName) (head1 (Jvm.Cond.code (⟨own_K, "<init>", "()V"⟩ : MethodName) prog_56_method_1_code 1 none :: ws) ({ frames := 1, cells := 20, slots := 256, locals := 12 } : Room)) (fun a U => a = #[(.ref a0)] ∧ Z.Warmed39 U.vm ∧ U.heap = h0) (fun _ _ _ _ _ => True) (fun _ U o U' => ∃ v L, o = .returned v ∧ Q1 Z a0 h0 n0 v U'.heap L ∧ FrameEnd U o U' L ({ frames := 1, cells := 20, slots := 256, locals := 12 } : Room).cells ({ frames := 1, cells := 20, slots := 256, locals := 12 } : Room).slots) := by
  refine MetFree.of_bodySF (plainFor_of_name pn_0) hisR ?_
  intro p e s m args below meth c s₁ Bd hml0 hP hK
  obtain ⟨rfl, hZ, hh⟩ := hP
  have hx := Bd.exec
  have hby := Bd.bytes
  have hml : c.maxLocals = 1 := hml0
  have hown : s.vm.findClass own_K = some m.cls := findClass_of_methodNamed Bd.named
  have hnm := (name_of_methodNamed Bd.named Bd.method).1
  have X0 : Stand p l e ({ frames := 1, cells := 20, slots := 256, locals := 12 } : Room) s m #[(.ref a0)] below meth c s₁ [] 0 0 := Stand.of_body Bd
  have e0 : s₁.heap = h0 := by rw [← hh, Bd.state]; rfl
  have N0 := Fr.nil n0
  have D : ∀ {pc : Nat} {r : Except DecodeError (Instr × Nat)}, decode prog_56_method_1_code pc = r → decode c.code pc = r := fun q => hb hby q
  have pre0 : ∀ t, Steps p.tables e below (s₁.setTop (mkF m 0 #[.val (.ref a0)] [])) t → Steps p.tables e below (s₁.setTop (entryFrame m #[(.ref a0)] 1)) t := fun t k => castTop (ef_1 m a0) k
  obtain ⟨T1, X1, e1, st1⟩ := initO X0 hx hZ hown (own_wk hw 6 rfl) (own_wk hw 7 rfl) (own_wk hw 8 rfl) e0 (g := (mkF m 1 #[.val (.ref a0)] [(.ref a0)])) rfl (by rw [hml]; rfl) rfl (D d1_1) (by decide) (W := 0) (by show 2 * 0 + _ ≤ _; exact Nat.le_of_eq rfl) (by decide)
  obtain ⟨T2, h2, k2, X2, e2, E2, A2, st2⟩ := newP X1 hx hZ (own_wk hw 9 rfl) e1 (g := (mkF m 7 #[.val (.ref a0)] [.int 16, (.ref a0)])) rfl (D d1_7) rfl (by decide) (cap := 16) (by decide) (by decide) (by decide) (by decide)
  obtain ⟨b2, g2⟩ : ∃ z, z = h0.size := ⟨_, rfl⟩
  have ne3 : a0 ≠ b2 := Nat.ne_of_lt (Nat.lt_of_lt_of_le (Ob_a0.get 0 rfl rfl).lt (Nat.le_of_eq g2.symm))
  have lt_b2 : a0 < b2 := Nat.lt_of_lt_of_le (Ob_a0.get 0 rfl rfl).lt (Nat.le_of_eq g2.symm)
  have ge_b2 : n0 ≤ b2 := Nat.le_trans Z0 (Nat.le_of_eq g2.symm)
  have gs_b2 : h0.size ≤ b2 := Nat.le_trans (Keep.refl h0 [a0]).1 (Nat.le_of_eq g2.symm)
  rw [← g2] at A2 st2
  have x4 := E_a0.ext E2
  have x5 := Ob_a0.ext E2
  have kp6 : Keep h0 h2 [a0] := (Keep.refl h0 [a0]).ext E2
  have V2 : Arv Z h2 b2 k2 .double (16 : Int32) (List.replicate 16 (.double (0 : UInt64))) (.double (0 : UInt64)) := (Arv.new A2 (by decide)).pad (pad_rep [] (.double (0 : UInt64)) 16)
  obtain ⟨T7, h7, X7, e7, W7, st7⟩ := putF X2 hx hZ hown (host := "") (Or.inl (own_wk hw 10 rfl)) Via.refl e2 (x5.get 0 rfl rfl : Fld Z h2 a0 own_K "costs" "[D" .null) x4 (Or.inl (own_wk hw 11 rfl)) (own_wk hw 1 rfl) (ty := (.array .double)) (by decide) rfl rfl (g := (mkF m 9 #[.val (.ref a0)] [(.ref b2), (.ref a0)])) rfl rfl (D d1_9)
  have Ob7 := x5.put (own_layw hw) 0 rfl W7
  have x8 := x4.wr W7
  have x9 := V2.other W7 (Ne.symm ne3)
  have kp10 : Keep h0 h7 [a0] := kp6.wr W7 (Or.inl (List.mem_of_getElem? (i := 0) rfl))
  have N7 := Fr.snoc X7 N0 ge_a0
  obtain ⟨T11, h11, k11, X11, e11, E11, A11, st11⟩ := newP X7 hx hZ (own_wk hw 12 rfl) e7 (g := (mkF m 15 #[.val (.ref a0)] [.int 16, (.ref a0)])) rfl (D d1_15) rfl (by decide) (cap := 16) (by decide) (by decide) (by decide) (by decide)
  obtain ⟨b11, g11⟩ : ∃ z, z = h7.size := ⟨_, rfl⟩
  have ne12 : a0 ≠ b11 := Nat.ne_of_lt (Nat.lt_of_lt_of_le (Ob7.get 0 rfl rfl).lt (Nat.le_of_eq g11.symm))
  have ne13 : b2 ≠ b11 := Nat.ne_of_lt (Nat.lt_of_lt_of_le x9.lt (Nat.le_of_eq g11.symm))
  have lt_b11 : b2 < b11 := Nat.lt_of_lt_of_le x9.lt (Nat.le_of_eq g11.symm)
  have ge_b11 : n0 ≤ b11 := Nat.le_trans (Nat.le_trans Z0 kp10.1) (Nat.le_of_eq g11.symm)
  have gs_b11 : h0.size ≤ b11 := Nat.le_trans kp10.1 (Nat.le_of_eq g11.symm)
  rw [← g11] at A11 st11
  have x14 := x8.ext E11
  have x15 := x9.ext E11
  have x16 := Ob7.ext E11
  have kp17 : Keep h0 h11 [a0] := kp10.ext E11
  have V11 : Arv Z h11 b11 k11 .int (16 : Int32) (List.replicate 16 (.int (0 : Int32))) (.int (0 : Int32)) := (Arv.new A11 (by decide)).pad (pad_rep [] (.int (0 : Int32)) 16)
  obtain ⟨T18, h18, X18, e18, W18, st18⟩ := putF X11 hx hZ hown (host := "") (Or.inl (own_wk hw 13 rfl)) Via.refl e11 (x16.get 1 rfl rfl : Fld Z h11 a0 own_K "groupOf" "[I" .null) x14 (Or.inl (own_wk hw 14 rfl)) (own_wk hw 1 rfl) (ty := (.array .int)) (by decide) rfl rfl (g := (mkF m 17 #[.val (.ref a0)] [(.ref b11), (.ref a0)])) rfl rfl (D d1_17)
  have Ob18 := x16.put (own_layw hw) 1 rfl W18
  have x19 := x14.wr W18
  have x20 := x15.other W18 (Ne.symm ne3)
  have x21 := V11.other W18 (Ne.symm ne12)
  have kp22 : Keep h0 h18 [a0] := kp17.wr W18 (Or.inl (List.mem_of_getElem? (i := 0) rfl))
  have N18 := Fr.snoc X18 N7 ge_a0
  obtain ⟨T23, h23, k23, X23, e23, E23, A23, st23⟩ := newP X18 hx hZ (own_wk hw 12 rfl) e18 (g := (mkF m 23 #[.val (.ref a0)] [.int 16, (.ref a0)])) rfl (D d1_23) rfl (by decide) (cap := 16) (by decide) (by decide) (by decide) (by decide)
  obtain ⟨b23, g23⟩ : ∃ z, z = h18.size := ⟨_, rfl⟩
  have ne24 : a0 ≠ b23 := Nat.ne_of_lt (Nat.lt_of_lt_of_le (Ob18.get 0 rfl rfl).lt (Nat.le_of_eq g23.symm))
  have ne25 : b2 ≠ b23 := Nat.ne_of_lt (Nat.lt_of_lt_of_le x20.lt (Nat.le_of_eq g23.symm))
  have ne26 : b11 ≠ b23 := Nat.ne_of_lt (Nat.lt_of_lt_of_le x21.lt (Nat.le_of_eq g23.symm))
  have lt_b23 : b11 < b23 := Nat.lt_of_lt_of_le x21.lt (Nat.le_of_eq g23.symm)
  have ge_b23 : n0 ≤ b23 := Nat.le_trans (Nat.le_trans Z0 kp22.1) (Nat.le_of_eq g23.symm)
  have gs_b23 : h0.size ≤ b23 := Nat.le_trans kp22.1 (Nat.le_of_eq g23.symm)
  rw [← g23] at A23 st23
  have x27 := x19.ext E23
  have x28 := x20.ext E23
  have x29 := x21.ext E23
  have x30 := Ob18.ext E23
  have kp31 : Keep h0 h23 [a0] := kp22.ext E23
  have V23 : Arv Z h23 b23 k23 .int (16 : Int32) (List.replicate 16 (.int (0 : Int32))) (.int (0 : Int32)) := (Arv.new A23 (by decide)).pad (pad_rep [] (.int (0 : Int32)) 16)
  obtain ⟨T32, h32, X32, e32, W32, st32⟩ := putF X23 hx hZ hown (host := "") (Or.inl (own_wk hw 15 rfl)) Via.refl e23 (x30.get 2 rfl rfl : Fld Z h23 a0 own_K "positionOf" "[I" .null) x27 (Or.inl (own_wk hw 16 rfl)) (own_wk hw 1 rfl) (ty := (.array .int)) (by decide) rfl rfl (g := (mkF m 25 #[.val (.ref a0)] [(.ref b23), (.ref a0)])) rfl rfl (D d1_25)
  have Ob32 := x30.put (own_layw hw) 2 rfl W32
  have x33 := x27.wr W32
  have x34 := x28.other W32 (Ne.symm ne3)
  have x35 := x29.other W32 (Ne.symm ne12)
  have x36 := V23.other W32 (Ne.symm ne24)
  have kp37 : Keep h0 h32 [a0] := kp31.wr W32 (Or.inl (List.mem_of_getElem? (i := 0) rfl))
  have N32 := Fr.snoc X32 N18 ge_a0
  obtain ⟨T38, h38, k38, X38, e38, E38, A38, st38⟩ := newP X32 hx hZ (own_wk hw 12 rfl) e32 (g := (mkF m 31 #[.val (.ref a0)] [.int 16, (.ref a0)])) rfl (D d1_31) rfl (by decide) (cap := 16) (by decide) (by decide) (by decide) (by decide)
  obtain ⟨b38, g38⟩ : ∃ z, z = h32.size := ⟨_, rfl⟩
  have ne39 : a0 ≠ b38 := Nat.ne_of_lt (Nat.lt_of_lt_of_le (Ob32.get 0 rfl rfl).lt (Nat.le_of_eq g38.symm))
  have ne40 : b2 ≠ b38 := Nat.ne_of_lt (Nat.lt_of_lt_of_le x34.lt (Nat.le_of_eq g38.symm))
  have ne41 : b11 ≠ b38 := Nat.ne_of_lt (Nat.lt_of_lt_of_le x35.lt (Nat.le_of_eq g38.symm))
  have ne42 : b23 ≠ b38 := Nat.ne_of_lt (Nat.lt_of_lt_of_le x36.lt (Nat.le_of_eq g38.symm))
  have lt_b38 : b23 < b38 := Nat.lt_of_lt_of_le x36.lt (Nat.le_of_eq g38.symm)
  have ge_b38 : n0 ≤ b38 := Nat.le_trans (Nat.le_trans Z0 kp37.1) (Nat.le_of_eq g38.symm)
  have gs_b38 : h0.size ≤ b38 := Nat.le_trans kp37.1 (Nat.le_of_eq g38.symm)
  rw [← g38] at A38 st38
  have x43 := x33.ext E38
  have x44 := x34.ext E38
  have x45 := x35.ext E38
  have x46 := x36.ext E38
  have x47 := Ob32.ext E38
  have kp48 : Keep h0 h38 [a0] := kp37.ext E38
  have V38 : Arv Z h38 b38 k38 .int (16 : Int32) (List.replicate 16 (.int (0 : Int32))) (.int (0 : Int32)) := (Arv.new A38 (by decide)).pad (pad_rep [] (.int (0 : Int32)) 16)
  obtain ⟨T49, h49, X49, e49, W49, st49⟩ := putF X38 hx hZ hown (host := "") (Or.inl (own_wk hw 17 rfl)) Via.refl e38 (x47.get 3 rfl rfl : Fld Z h38 a0 own_K "firstEntry" "[I" .null) x43 (Or.inl (own_wk hw 18 rfl)) (own_wk hw 1 rfl) (ty := (.array .int)) (by decide) rfl rfl (g := (mkF m 33 #[.val (.ref a0)] [(.ref b38), (.ref a0)])) rfl rfl (D d1_33)
  have Ob49 := x47.put (own_layw hw) 3 rfl W49
  have x50 := x43.wr W49
  have x51 := x44.other W49 (Ne.symm ne3)
  have x52 := x45.other W49 (Ne.symm ne12)
  have x53 := x46.other W49 (Ne.symm ne24)
  have x54 := V38.other W49 (Ne.symm ne39)
  have kp55 : Keep h0 h49 [a0] := kp48.wr W49 (Or.inl (List.mem_of_getElem? (i := 0) rfl))
  have N49 := Fr.snoc X49 N32 ge_a0
  obtain ⟨T56, h56, k56, X56, e56, E56, A56, st56⟩ := newP X49 hx hZ (own_wk hw 12 rfl) e49 (g := (mkF m 39 #[.val (.ref a0)] [.int 16, (.ref a0)])) rfl (D d1_39) rfl (by decide) (cap := 16) (by decide) (by decide) (by decide) (by decide)
  obtain ⟨b56, g56⟩ : ∃ z, z = h49.size := ⟨_, rfl⟩
  have ne57 : a0 ≠ b56 := Nat.ne_of_lt (Nat.lt_of_lt_of_le (Ob49.get 0 rfl rfl).lt (Nat.le_of_eq g56.symm))
  have ne58 : b2 ≠ b56 := Nat.ne_of_lt (Nat.lt_of_lt_of_le x51.lt (Nat.le_of_eq g56.symm))
  have ne59 : b11 ≠ b56 := Nat.ne_of_lt (Nat.lt_of_lt_of_le x52.lt (Nat.le_of_eq g56.symm))
  have ne60 : b23 ≠ b56 := Nat.ne_of_lt (Nat.lt_of_lt_of_le x53.lt (Nat.le_of_eq g56.symm))
  have ne61 : b38 ≠ b56 := Nat.ne_of_lt (Nat.lt_of_lt_of_le x54.lt (Nat.le_of_eq g56.symm))
  have lt_b56 : b38 < b56 := Nat.lt_of_lt_of_le x54.lt (Nat.le_of_eq g56.symm)
  have ge_b56 : n0 ≤ b56 := Nat.le_trans (Nat.le_trans Z0 kp55.1) (Nat.le_of_eq g56.symm)
  have gs_b56 : h0.size ≤ b56 := Nat.le_trans kp55.1 (Nat.le_of_eq g56.symm)
  rw [← g56] at A56 st56
  have x62 := x50.ext E56
  have x63 := x51.ext E56
  have x64 := x52.ext E56
  have x65 := x53.ext E56
  have x66 := x54.ext E56
  have x67 := Ob49.ext E56
  have kp68 : Keep h0 h56 [a0] := kp55.ext E56
  have V56 : Arv Z h56 b56 k56 .int (16 : Int32) (List.replicate 16 (.int (0 : Int32))) (.int (0 : Int32)) := (Arv.new A56 (by decide)).pad (pad_rep [] (.int (0 : Int32)) 16)
  obtain ⟨T69, h69, X69, e69, W69, st69⟩ := putF X56 hx hZ hown (host := "") (Or.inl (own_wk hw 19 rfl)) Via.refl e56 (x67.get 4 rfl rfl : Fld Z h56 a0 own_K "entryCounts" "[I" .null) x62 (Or.inl (own_wk hw 20 rfl)) (own_wk hw 1 rfl) (ty := (.array .int)) (by decide) rfl rfl (g := (mkF m 41 #[.val (.ref a0)] [(.ref b56), (.ref a0)])) rfl rfl (D d1_41)
  have Ob69 : own_fs own_K own_N Z h69 a0 [(.ref b2), (.ref b11), (.ref b23), (.ref b38), (.ref b56), .null, .null, .null, .null, .null, .null, .null, .null, .null, .null, .null, .null, .null, .null, .null, (.int (0 : Int32)), (.int (0 : Int32)), (.int (0 : Int32)), (.int (0 : Int32)), (.int (0 : Int32)), (.double (0 : UInt64)), (.int (0 : Int32))] := x67.put (own_layw hw) 4 rfl W69
  have x70 := x62.wr W69
  have x71 := x63.other W69 (Ne.symm ne3)
  have x72 := x64.other W69 (Ne.symm ne12)
  have x73 := x65.other W69 (Ne.symm ne24)
  have x74 := x66.other W69 (Ne.symm ne39)
  have x75 := V56.other W69 (Ne.symm ne57)
  have kp76 : Keep h0 h69 [a0] := kp68.wr W69 (Or.inl (List.mem_of_getElem? (i := 0) rfl))
  have N69 := Fr.snoc X69 N49 ge_a0
  obtain ⟨T77, h77, k77, X77, e77, E77, A77, st77⟩ := newP X69 hx hZ (own_wk hw 12 rfl) e69 (g := (mkF m 47 #[.val (.ref a0)] [.int 16, (.ref a0)])) rfl (D d1_47) rfl (by decide) (cap := 16) (by decide) (by decide) (by decide) (by decide)
  obtain ⟨b77, g77⟩ : ∃ z, z = h69.size := ⟨_, rfl⟩
  have ne78 : a0 ≠ b77 := Nat.ne_of_lt (Nat.lt_of_lt_of_le (Ob69.get 0 rfl rfl).lt (Nat.le_of_eq g77.symm))
  have ne79 : b2 ≠ b77 := Nat.ne_of_lt (Nat.lt_of_lt_of_le x71.lt (Nat.le_of_eq g77.symm))
  have ne80 : b11 ≠ b77 := Nat.ne_of_lt (Nat.lt_of_lt_of_le x72.lt (Nat.le_of_eq g77.symm))
  have ne81 : b23 ≠ b77 := Nat.ne_of_lt (Nat.lt_of_lt_of_le x73.lt (Nat.le_of_eq g77.symm))
  have ne82 : b38 ≠ b77 := Nat.ne_of_lt (Nat.lt_of_lt_of_le x74.lt (Nat.le_of_eq g77.symm))
  have ne83 : b56 ≠ b77 := Nat.ne_of_lt (Nat.lt_of_lt_of_le x75.lt (Nat.le_of_eq g77.symm))
  have lt_b77 : b56 < b77 := Nat.lt_of_lt_of_le x75.lt (Nat.le_of_eq g77.symm)
  have ge_b77 : n0 ≤ b77 := Nat.le_trans (Nat.le_trans Z0 kp76.1) (Nat.le_of_eq g77.symm)
  have gs_b77 : h0.size ≤ b77 := Nat.le_trans kp76.1 (Nat.le_of_eq g77.symm)
  rw [← g77] at A77 st77
  have x84 := x70.ext E77
  have x85 := x71.ext E77
  have x86 := x72.ext E77
  have x87 := x73.ext E77
  have x88 := x74.ext E77
  have x89 := x75.ext E77
  have x90 := Ob69.ext E77
  have kp91 : Keep h0 h77 [a0] := kp76.ext E77
  have V77 : Arv Z h77 b77 k77 .int (16 : Int32) (List.replicate 16 (.int (0 : Int32))) (.int (0 : Int32)) := (Arv.new A77 (by decide)).pad (pad_rep [] (.int (0 : Int32)) 16)
  obtain ⟨T92, h92, X92, e92, W92, st92⟩ := putF X77 hx hZ hown (host := "") (Or.inl (own_wk hw 21 rfl)) Via.refl e77 (x90.get 5 rfl rfl : Fld Z h77 a0 own_K "entryRooms" "[I" .null) x84 (Or.inl (own_wk hw 22 rfl)) (own_wk hw 1 rfl) (ty := (.array .int)) (by decide) rfl rfl (g := (mkF m 49 #[.val (.ref a0)] [(.ref b77), (.ref a0)])) rfl rfl (D d1_49)
  have Ob92 := x90.put (own_layw hw) 5 rfl W92
  have x93 := x84.wr W92
  have x94 := x85.other W92 (Ne.symm ne3)
  have x95 := x86.other W92 (Ne.symm ne12)
  have x96 := x87.other W92 (Ne.symm ne24)
  have x97 := x88.other W92 (Ne.symm ne39)
  have x98 := x89.other W92 (Ne.symm ne57)
  have x99 := V77.other W92 (Ne.symm ne78)
  have kp100 : Keep h0 h92 [a0] := kp91.wr W92 (Or.inl (List.mem_of_getElem? (i := 0) rfl))
  have N92 := Fr.snoc X92 N69 ge_a0
  obtain ⟨T101, h101, k101, X101, e101, E101, A101, st101⟩ := newP X92 hx hZ (own_wk hw 12 rfl) e92 (g := (mkF m 55 #[.val (.ref a0)] [.int 64, (.ref a0)])) rfl (D d1_55) rfl (by decide) (cap := 64) (by decide) (by decide) (by decide) (by decide)
  obtain ⟨b101, g101⟩ : ∃ z, z = h92.size := ⟨_, rfl⟩
  have ne102 : a0 ≠ b101 := Nat.ne_of_lt (Nat.lt_of_lt_of_le (Ob92.get 0 rfl rfl).lt (Nat.le_of_eq g101.symm))
  have ne103 : b2 ≠ b101 := Nat.ne_of_lt (Nat.lt_of_lt_of_le x94.lt (Nat.le_of_eq g101.symm))
  have ne104 : b11 ≠ b101 := Nat.ne_of_lt (Nat.lt_of_lt_of_le x95.lt (Nat.le_of_eq g101.symm))
  have ne105 : b23 ≠ b101 := Nat.ne_of_lt (Nat.lt_of_lt_of_le x96.lt (Nat.le_of_eq g101.symm))
  have ne106 : b38 ≠ b101 := Nat.ne_of_lt (Nat.lt_of_lt_of_le x97.lt (Nat.le_of_eq g101.symm))
  have ne107 : b56 ≠ b101 := Nat.ne_of_lt (Nat.lt_of_lt_of_le x98.lt (Nat.le_of_eq g101.symm))
  have ne108 : b77 ≠ b101 := Nat.ne_of_lt (Nat.lt_of_lt_of_le x99.lt (Nat.le_of_eq g101.symm))
  have lt_b101 : b77 < b101 := Nat.lt_of_lt_of_le x99.lt (Nat.le_of_eq g101.symm)
  have ge_b101 : n0 ≤ b101 := Nat.le_trans (Nat.le_trans Z0 kp100.1) (Nat.le_of_eq g101.symm)
  have gs_b101 : h0.size ≤ b101 := Nat.le_trans kp100.1 (Nat.le_of_eq g101.symm)
  rw [← g101] at A101 st101
  have x109 := x93.ext E101
  have x110 := x94.ext E101
  have x111 := x95.ext E101
  have x112 := x96.ext E101
  have x113 := x97.ext E101
  have x114 := x98.ext E101
  have x115 := x99.ext E101
  have x116 := Ob92.ext E101
  have kp117 : Keep h0 h101 [a0] := kp100.ext E101
  have V101 : Arv Z h101 b101 k101 .int (64 : Int32) (List.replicate 64 (.int (0 : Int32))) (.int (0 : Int32)) := (Arv.new A101 (by decide)).pad (pad_rep [] (.int (0 : Int32)) 64)
  obtain ⟨T118, h118, X118, e118, W118, st118⟩ := putF X101 hx hZ hown (host := "") (Or.inl (own_wk hw 23 rfl)) Via.refl e101 (x116.get 6 rfl rfl : Fld Z h101 a0 own_K "entryRows" "[I" .null) x109 (Or.inl (own_wk hw 24 rfl)) (own_wk hw 1 rfl) (ty := (.array .int)) (by decide) rfl rfl (g := (mkF m 57 #[.val (.ref a0)] [(.ref b101), (.ref a0)])) rfl rfl (D d1_57)
  have Ob118 := x116.put (own_layw hw) 6 rfl W118
  have x119 := x109.wr W118
  have x120 := x110.other W118 (Ne.symm ne3)
  have x121 := x111.other W118 (Ne.symm ne12)
  have x122 := x112.other W118 (Ne.symm ne24)
  have x123 := x113.other W118 (Ne.symm ne39)
  have x124 := x114.other W118 (Ne.symm ne57)
  have x125 := x115.other W118 (Ne.symm ne78)
  have x126 := V101.other W118 (Ne.symm ne102)
  have kp127 : Keep h0 h118 [a0] := kp117.wr W118 (Or.inl (List.mem_of_getElem? (i := 0) rfl))
  have N118 := Fr.snoc X118 N92 ge_a0
  obtain ⟨T128, h128, k128, X128, e128, E128, A128, st128⟩ := newP X118 hx hZ (own_wk hw 9 rfl) e118 (g := (mkF m 63 #[.val (.ref a0)] [.int 64, (.ref a0)])) rfl (D d1_63) rfl (by decide) (cap := 64) (by decide) (by decide) (by decide) (by decide)
  obtain ⟨b128, g128⟩ : ∃ z, z = h118.size := ⟨_, rfl⟩
  have ne129 : a0 ≠ b128 := Nat.ne_of_lt (Nat.lt_of_lt_of_le (Ob118.get 0 rfl rfl).lt (Nat.le_of_eq g128.symm))
  have ne130 : b2 ≠ b128 := Nat.ne_of_lt (Nat.lt_of_lt_of_le x120.lt (Nat.le_of_eq g128.symm))
  have ne131 : b11 ≠ b128 := Nat.ne_of_lt (Nat.lt_of_lt_of_le x121.lt (Nat.le_of_eq g128.symm))
  have ne132 : b23 ≠ b128 := Nat.ne_of_lt (Nat.lt_of_lt_of_le x122.lt (Nat.le_of_eq g128.symm))
  have ne133 : b38 ≠ b128 := Nat.ne_of_lt (Nat.lt_of_lt_of_le x123.lt (Nat.le_of_eq g128.symm))
  have ne134 : b56 ≠ b128 := Nat.ne_of_lt (Nat.lt_of_lt_of_le x124.lt (Nat.le_of_eq g128.symm))
  have ne135 : b77 ≠ b128 := Nat.ne_of_lt (Nat.lt_of_lt_of_le x125.lt (Nat.le_of_eq g128.symm))
  have ne136 : b101 ≠ b128 := Nat.ne_of_lt (Nat.lt_of_lt_of_le x126.lt (Nat.le_of_eq g128.symm))
  have lt_b128 : b101 < b128 := Nat.lt_of_lt_of_le x126.lt (Nat.le_of_eq g128.symm)
  have ge_b128 : n0 ≤ b128 := Nat.le_trans (Nat.le_trans Z0 kp127.1) (Nat.le_of_eq g128.symm)
  have gs_b128 : h0.size ≤ b128 := Nat.le_trans kp127.1 (Nat.le_of_eq g128.symm)
  rw [← g128] at A128 st128
  have x137 := x119.ext E128
  have x138 := x120.ext E128
  have x139 := x121.ext E128
  have x140 := x122.ext E128
  have x141 := x123.ext E128
  have x142 := x124.ext E128
  have x143 := x125.ext E128
  have x144 := x126.ext E128
  have x145 := Ob118.ext E128
  have kp146 : Keep h0 h128 [a0] := kp127.ext E128
  have V128 : Arv Z h128 b128 k128 .double (64 : Int32) (List.replicate 64 (.double (0 : UInt64))) (.double (0 : UInt64)) := (Arv.new A128 (by decide)).pad (pad_rep [] (.double (0 : UInt64)) 64)
  obtain ⟨T147, h147, X147, e147, W147, st147⟩ := putF X128 hx hZ hown (host := "") (Or.inl (own_wk hw 25 rfl)) Via.refl e128 (x145.get 7 rfl rfl : Fld Z h128 a0 own_K "entryValues" "[D" .null) x137 (Or.inl (own_wk hw 26 rfl)) (own_wk hw 1 rfl) (ty := (.array .double)) (by decide) rfl rfl (g := (mkF m 65 #[.val (.ref a0)] [(.ref b128), (.ref a0)])) rfl rfl (D d1_65)
  have Ob147 := x145.put (own_layw hw) 7 rfl W147
  have x148 := x137.wr W147
  have x149 := x138.other W147 (Ne.symm ne3)
  have x150 := x139.other W147 (Ne.symm ne12)
  have x151 := x140.other W147 (Ne.symm ne24)
  have x152 := x141.other W147 (Ne.symm ne39)
  have x153 := x142.other W147 (Ne.symm ne57)
  have x154 := x143.other W147 (Ne.symm ne78)
  have x155 := x144.other W147 (Ne.symm ne102)
  have x156 := V128.other W147 (Ne.symm ne129)
  have kp157 : Keep h0 h147 [a0] := kp146.wr W147 (Or.inl (List.mem_of_getElem? (i := 0) rfl))
  have N147 := Fr.snoc X147 N118 ge_a0
  obtain ⟨T158, h158, k158, X158, e158, E158, A158, st158⟩ := newP X147 hx hZ (own_wk hw 9 rfl) e147 (g := (mkF m 71 #[.val (.ref a0)] [.int 16, (.ref a0)])) rfl (D d1_71) rfl (by decide) (cap := 16) (by decide) (by decide) (by decide) (by decide)
  obtain ⟨b158, g158⟩ : ∃ z, z = h147.size := ⟨_, rfl⟩
  have ne159 : a0 ≠ b158 := Nat.ne_of_lt (Nat.lt_of_lt_of_le (Ob147.get 0 rfl rfl).lt (Nat.le_of_eq g158.symm))
  have ne160 : b2 ≠ b158 := Nat.ne_of_lt (Nat.lt_of_lt_of_le x149.lt (Nat.le_of_eq g158.symm))
  have ne161 : b11 ≠ b158 := Nat.ne_of_lt (Nat.lt_of_lt_of_le x150.lt (Nat.le_of_eq g158.symm))
  have ne162 : b23 ≠ b158 := Nat.ne_of_lt (Nat.lt_of_lt_of_le x151.lt (Nat.le_of_eq g158.symm))
  have ne163 : b38 ≠ b158 := Nat.ne_of_lt (Nat.lt_of_lt_of_le x152.lt (Nat.le_of_eq g158.symm))
  have ne164 : b56 ≠ b158 := Nat.ne_of_lt (Nat.lt_of_lt_of_le x153.lt (Nat.le_of_eq g158.symm))
  have ne165 : b77 ≠ b158 := Nat.ne_of_lt (Nat.lt_of_lt_of_le x154.lt (Nat.le_of_eq g158.symm))
  have ne166 : b101 ≠ b158 := Nat.ne_of_lt (Nat.lt_of_lt_of_le x155.lt (Nat.le_of_eq g158.symm))
  have ne167 : b128 ≠ b158 := Nat.ne_of_lt (Nat.lt_of_lt_of_le x156.lt (Nat.le_of_eq g158.symm))
  have lt_b158 : b128 < b158 := Nat.lt_of_lt_of_le x156.lt (Nat.le_of_eq g158.symm)
  have ge_b158 : n0 ≤ b158 := Nat.le_trans (Nat.le_trans Z0 kp157.1) (Nat.le_of_eq g158.symm)
  have gs_b158 : h0.size ≤ b158 := Nat.le_trans kp157.1 (Nat.le_of_eq g158.symm)
  rw [← g158] at A158 st158
  have x168 := x148.ext E158
  have x169 := x149.ext E158
  have x170 := x150.ext E158
  have x171 := x151.ext E158
  have x172 := x152.ext E158
  have x173 := x153.ext E158
  have x174 := x154.ext E158
  have x175 := x155.ext E158
  have x176 := x156.ext E158
  have x177 := Ob147.ext E158
  have kp178 : Keep h0 h158 [a0] := kp157.ext E158
  have V158 : Arv Z h158 b158 k158 .double (16 : Int32) (List.replicate 16 (.double (0 : UInt64))) (.double (0 : UInt64)) := (Arv.new A158 (by decide)).pad (pad_rep [] (.double (0 : UInt64)) 16)
  obtain ⟨T179, h179, X179, e179, W179, st179⟩ := putF X158 hx hZ hown (host := "") (Or.inl (own_wk hw 27 rfl)) Via.refl e158 (x177.get 8 rfl rfl : Fld Z h158 a0 own_K "bounds" "[D" .null) x168 (Or.inl (own_wk hw 28 rfl)) (own_wk hw 1 rfl) (ty := (.array .double)) (by decide) rfl rfl (g := (mkF m 73 #[.val (.ref a0)] [(.ref b158), (.ref a0)])) rfl rfl (D d1_73)
  have Ob179 := x177.put (own_layw hw) 8 rfl W179
  have x180 := x168.wr W179
  have x181 := x169.other W179 (Ne.symm ne3)
  have x182 := x170.other W179 (Ne.symm ne12)
  have x183 := x171.other W179 (Ne.symm ne24)
  have x184 := x172.other W179 (Ne.symm ne39)
  have x185 := x173.other W179 (Ne.symm ne57)
  have x186 := x174.other W179 (Ne.symm ne78)
  have x187 := x175.other W179 (Ne.symm ne102)
  have x188 := x176.other W179 (Ne.symm ne129)
  have x189 := V158.other W179 (Ne.symm ne159)
  have kp190 : Keep h0 h179 [a0] := kp178.wr W179 (Or.inl (List.mem_of_getElem? (i := 0) rfl))
  have N179 := Fr.snoc X179 N147 ge_a0
  obtain ⟨T191, h191, k191, X191, e191, E191, A191, st191⟩ := newP X179 hx hZ (own_wk hw 12 rfl) e179 (g := (mkF m 79 #[.val (.ref a0)] [.int 16, (.ref a0)])) rfl (D d1_79) rfl (by decide) (cap := 16) (by decide) (by decide) (by decide) (by decide)
  obtain ⟨b191, g191⟩ : ∃ z, z = h179.size := ⟨_, rfl⟩
  have ne192 : a0 ≠ b191 := Nat.ne_of_lt (Nat.lt_of_lt_of_le (Ob179.get 0 rfl rfl).lt (Nat.le_of_eq g191.symm))
  have ne193 : b2 ≠ b191 := Nat.ne_of_lt (Nat.lt_of_lt_of_le x181.lt (Nat.le_of_eq g191.symm))
  have ne194 : b11 ≠ b191 := Nat.ne_of_lt (Nat.lt_of_lt_of_le x182.lt (Nat.le_of_eq g191.symm))
  have ne195 : b23 ≠ b191 := Nat.ne_of_lt (Nat.lt_of_lt_of_le x183.lt (Nat.le_of_eq g191.symm))
  have ne196 : b38 ≠ b191 := Nat.ne_of_lt (Nat.lt_of_lt_of_le x184.lt (Nat.le_of_eq g191.symm))
  have ne197 : b56 ≠ b191 := Nat.ne_of_lt (Nat.lt_of_lt_of_le x185.lt (Nat.le_of_eq g191.symm))
  have ne198 : b77 ≠ b191 := Nat.ne_of_lt (Nat.lt_of_lt_of_le x186.lt (Nat.le_of_eq g191.symm))
  have ne199 : b101 ≠ b191 := Nat.ne_of_lt (Nat.lt_of_lt_of_le x187.lt (Nat.le_of_eq g191.symm))
  have ne200 : b128 ≠ b191 := Nat.ne_of_lt (Nat.lt_of_lt_of_le x188.lt (Nat.le_of_eq g191.symm))
  have ne201 : b158 ≠ b191 := Nat.ne_of_lt (Nat.lt_of_lt_of_le x189.lt (Nat.le_of_eq g191.symm))
  have lt_b191 : b158 < b191 := Nat.lt_of_lt_of_le x189.lt (Nat.le_of_eq g191.symm)
  have ge_b191 : n0 ≤ b191 := Nat.le_trans (Nat.le_trans Z0 kp190.1) (Nat.le_of_eq g191.symm)
  have gs_b191 : h0.size ≤ b191 := Nat.le_trans kp190.1 (Nat.le_of_eq g191.symm)
  rw [← g191] at A191 st191
  have x202 := x180.ext E191
  have x203 := x181.ext E191
  have x204 := x182.ext E191
  have x205 := x183.ext E191
  have x206 := x184.ext E191
  have x207 := x185.ext E191
  have x208 := x186.ext E191
  have x209 := x187.ext E191
  have x210 := x188.ext E191
  have x211 := x189.ext E191
  have x212 := Ob179.ext E191
  have kp213 : Keep h0 h191 [a0] := kp190.ext E191
  have V191 : Arv Z h191 b191 k191 .int (16 : Int32) (List.replicate 16 (.int (0 : Int32))) (.int (0 : Int32)) := (Arv.new A191 (by decide)).pad (pad_rep [] (.int (0 : Int32)) 16)
  obtain ⟨T214, h214, X214, e214, W214, st214⟩ := putF X191 hx hZ hown (host := "") (Or.inl (own_wk hw 29 rfl)) Via.refl e191 (x212.get 9 rfl rfl : Fld Z h191 a0 own_K "slacks" "[I" .null) x202 (Or.inl (own_wk hw 30 rfl)) (own_wk hw 1 rfl) (ty := (.array .int)) (by decide) rfl rfl (g := (mkF m 81 #[.val (.ref a0)] [(.ref b191), (.ref a0)])) rfl rfl (D d1_81)
  have Ob214 : own_fs own_K own_N Z h214 a0 [(.ref b2), (.ref b11), (.ref b23), (.ref b38), (.ref b56), (.ref b77), (.ref b101), (.ref b128), (.ref b158), (.ref b191), .null, .null, .null, .null, .null, .null, .null, .null, .null, .null, (.int (0 : Int32)), (.int (0 : Int32)), (.int (0 : Int32)), (.int (0 : Int32)), (.int (0 : Int32)), (.double (0 : UInt64)), (.int (0 : Int32))] := x212.put (own_layw hw) 9 rfl W214
  have x215 := x202.wr W214
  have x216 := x203.other W214 (Ne.symm ne3)
  have x217 := x204.other W214 (Ne.symm ne12)
  have x218 := x205.other W214 (Ne.symm ne24)
  have x219 := x206.other W214 (Ne.symm ne39)
  have x220 := x207.other W214 (Ne.symm ne57)
  have x221 := x208.other W214 (Ne.symm ne78)
  have x222 := x209.other W214 (Ne.symm ne102)
  have x223 := x210.other W214 (Ne.symm ne129)
  have x224 := x211.other W214 (Ne.symm ne159)
  have x225 := V191.other W214 (Ne.symm ne192)
  have kp226 : Keep h0 h214 [a0] := kp213.wr W214 (Or.inl (List.mem_of_getElem? (i := 0) rfl))
  have N214 := Fr.snoc X214 N179 ge_a0
  obtain ⟨T227, h227, k227, X227, e227, E227, A227, st227⟩ := newP X214 hx hZ (own_wk hw 12 rfl) e214 (g := (mkF m 86 #[.val (.ref a0)] [.int 0, (.ref a0)])) rfl (D d1_86) rfl (by decide) (cap := 0) (by decide) (by decide) (by decide) (by decide)
  obtain ⟨b227, g227⟩ : ∃ z, z = h214.size := ⟨_, rfl⟩
  have ne228 : a0 ≠ b227 := Nat.ne_of_lt (Nat.lt_of_lt_of_le (Ob214.get 0 rfl rfl).lt (Nat.le_of_eq g227.symm))
  have ne229 : b2 ≠ b227 := Nat.ne_of_lt (Nat.lt_of_lt_of_le x216.lt (Nat.le_of_eq g227.symm))
  have ne230 : b11 ≠ b227 := Nat.ne_of_lt (Nat.lt_of_lt_of_le x217.lt (Nat.le_of_eq g227.symm))
  have ne231 : b23 ≠ b227 := Nat.ne_of_lt (Nat.lt_of_lt_of_le x218.lt (Nat.le_of_eq g227.symm))
  have ne232 : b38 ≠ b227 := Nat.ne_of_lt (Nat.lt_of_lt_of_le x219.lt (Nat.le_of_eq g227.symm))
  have ne233 : b56 ≠ b227 := Nat.ne_of_lt (Nat.lt_of_lt_of_le x220.lt (Nat.le_of_eq g227.symm))
  have ne234 : b77 ≠ b227 := Nat.ne_of_lt (Nat.lt_of_lt_of_le x221.lt (Nat.le_of_eq g227.symm))
  have ne235 : b101 ≠ b227 := Nat.ne_of_lt (Nat.lt_of_lt_of_le x222.lt (Nat.le_of_eq g227.symm))
  have ne236 : b128 ≠ b227 := Nat.ne_of_lt (Nat.lt_of_lt_of_le x223.lt (Nat.le_of_eq g227.symm))
  have ne237 : b158 ≠ b227 := Nat.ne_of_lt (Nat.lt_of_lt_of_le x224.lt (Nat.le_of_eq g227.symm))
  have ne238 : b191 ≠ b227 := Nat.ne_of_lt (Nat.lt_of_lt_of_le x225.lt (Nat.le_of_eq g227.symm))
  have lt_b227 : b191 < b227 := Nat.lt_of_lt_of_le x225.lt (Nat.le_of_eq g227.symm)
  have ge_b227 : n0 ≤ b227 := Nat.le_trans (Nat.le_trans Z0 kp226.1) (Nat.le_of_eq g227.symm)
  have gs_b227 : h0.size ≤ b227 := Nat.le_trans kp226.1 (Nat.le_of_eq g227.symm)
  rw [← g227] at A227 st227
  have x239 := x215.ext E227
  have x240 := x216.ext E227
  have x241 := x217.ext E227
  have x242 := x218.ext E227
  have x243 := x219.ext E227
  have x244 := x220.ext E227
  have x245 := x221.ext E227
  have x246 := x222.ext E227
  have x247 := x223.ext E227
  have x248 := x224.ext E227
  have x249 := x225.ext E227
  have x250 := Ob214.ext E227
  have kp251 : Keep h0 h227 [a0] := kp226.ext E227
  have V227 : Arv Z h227 b227 k227 .int (0 : Int32) [] (.int (0 : Int32)) := Arv.new A227 (by decide)
  obtain ⟨T252, h252, X252, e252, W252, st252⟩ := putF X227 hx hZ hown (host := "") (Or.inl (own_wk hw 31 rfl)) Via.refl e227 (x250.get 10 rfl rfl : Fld Z h227 a0 own_K "keys" "[I" .null) x239 (Or.inl (own_wk hw 32 rfl)) (own_wk hw 1 rfl) (ty := (.array .int)) (by decide) rfl rfl (g := (mkF m 88 #[.val (.ref a0)] [(.ref b227), (.ref a0)])) rfl rfl (D d1_88)
  have Ob252 := x250.put (own_layw hw) 10 rfl W252
  have x253 := x239.wr W252
  have x254 := x240.other W252 (Ne.symm ne3)
  have x255 := x241.other W252 (Ne.symm ne12)
  have x256 := x242.other W252 (Ne.symm ne24)
  have x257 := x243.other W252 (Ne.symm ne39)
  have x258 := x244.other W252 (Ne.symm ne57)
  have x259 := x245.other W252 (Ne.symm ne78)
  have x260 := x246.other W252 (Ne.symm ne102)
  have x261 := x247.other W252 (Ne.symm ne129)
  have x262 := x248.other W252 (Ne.symm ne159)
  have x263 := x249.other W252 (Ne.symm ne192)
  have x264 := V227.other W252 (Ne.symm ne228)
  have kp265 : Keep h0 h252 [a0] := kp251.wr W252 (Or.inl (List.mem_of_getElem? (i := 0) rfl))
  have N252 := Fr.snoc X252 N214 ge_a0
  obtain ⟨T266, h266, k266, X266, e266, E266, A266, st266⟩ := newP X252 hx hZ (own_wk hw 9 rfl) e252 (g := (mkF m 93 #[.val (.ref a0)] [.int 0, (.ref a0)])) rfl (D d1_93) rfl (by decide) (cap := 0) (by decide) (by decide) (by decide) (by decide)
  obtain ⟨b266, g266⟩ : ∃ z, z = h252.size := ⟨_, rfl⟩
  have ne267 : a0 ≠ b266 := Nat.ne_of_lt (Nat.lt_of_lt_of_le (Ob252.get 0 rfl rfl).lt (Nat.le_of_eq g266.symm))
  have ne268 : b2 ≠ b266 := Nat.ne_of_lt (Nat.lt_of_lt_of_le x254.lt (Nat.le_of_eq g266.symm))
  have ne269 : b11 ≠ b266 := Nat.ne_of_lt (Nat.lt_of_lt_of_le x255.lt (Nat.le_of_eq g266.symm))
  have ne270 : b23 ≠ b266 := Nat.ne_of_lt (Nat.lt_of_lt_of_le x256.lt (Nat.le_of_eq g266.symm))
  have ne271 : b38 ≠ b266 := Nat.ne_of_lt (Nat.lt_of_lt_of_le x257.lt (Nat.le_of_eq g266.symm))
  have ne272 : b56 ≠ b266 := Nat.ne_of_lt (Nat.lt_of_lt_of_le x258.lt (Nat.le_of_eq g266.symm))
  have ne273 : b77 ≠ b266 := Nat.ne_of_lt (Nat.lt_of_lt_of_le x259.lt (Nat.le_of_eq g266.symm))
  have ne274 : b101 ≠ b266 := Nat.ne_of_lt (Nat.lt_of_lt_of_le x260.lt (Nat.le_of_eq g266.symm))
  have ne275 : b128 ≠ b266 := Nat.ne_of_lt (Nat.lt_of_lt_of_le x261.lt (Nat.le_of_eq g266.symm))
  have ne276 : b158 ≠ b266 := Nat.ne_of_lt (Nat.lt_of_lt_of_le x262.lt (Nat.le_of_eq g266.symm))
  have ne277 : b191 ≠ b266 := Nat.ne_of_lt (Nat.lt_of_lt_of_le x263.lt (Nat.le_of_eq g266.symm))
  have lt_b266 : b191 < b266 := Nat.lt_of_lt_of_le x263.lt (Nat.le_of_eq g266.symm)
  have ge_b266 : n0 ≤ b266 := Nat.le_trans (Nat.le_trans Z0 kp265.1) (Nat.le_of_eq g266.symm)
  have gs_b266 : h0.size ≤ b266 := Nat.le_trans kp265.1 (Nat.le_of_eq g266.symm)
  rw [← g266] at A266 st266
  have x278 := x253.ext E266
  have x279 := x254.ext E266
  have x280 := x255.ext E266
  have x281 := x256.ext E266
  have x282 := x257.ext E266
  have x283 := x258.ext E266
  have x284 := x259.ext E266
  have x285 := x260.ext E266
  have x286 := x261.ext E266
  have x287 := x262.ext E266
  have x288 := x263.ext E266
  have x289 := Ob252.ext E266
  have kp290 : Keep h0 h266 [a0] := kp265.ext E266
  have V266 : Arv Z h266 b266 k266 .double (0 : Int32) [] (.double (0 : UInt64)) := Arv.new A266 (by decide)
  obtain ⟨T291, h291, X291, e291, W291, st291⟩ := putF X266 hx hZ hown (host := "") (Or.inl (own_wk hw 33 rfl)) Via.refl e266 (x289.get 11 rfl rfl : Fld Z h266 a0 own_K "keyValues" "[D" .null) x278 (Or.inl (own_wk hw 34 rfl)) (own_wk hw 1 rfl) (ty := (.array .double)) (by decide) rfl rfl (g := (mkF m 95 #[.val (.ref a0)] [(.ref b266), (.ref a0)])) rfl rfl (D d1_95)
  have Ob291 := x289.put (own_layw hw) 11 rfl W291
  have x292 := x278.wr W291
  have x293 := x279.other W291 (Ne.symm ne3)
  have x294 := x280.other W291 (Ne.symm ne12)
  have x295 := x281.other W291 (Ne.symm ne24)
  have x296 := x282.other W291 (Ne.symm ne39)
  have x297 := x283.other W291 (Ne.symm ne57)
  have x298 := x284.other W291 (Ne.symm ne78)
  have x299 := x285.other W291 (Ne.symm ne102)
  have x300 := x286.other W291 (Ne.symm ne129)
  have x301 := x287.other W291 (Ne.symm ne159)
  have x302 := x288.other W291 (Ne.symm ne192)
  have x303 := V266.other W291 (Ne.symm ne267)
  have kp304 : Keep h0 h291 [a0] := kp290.wr W291 (Or.inl (List.mem_of_getElem? (i := 0) rfl))
  have N291 := Fr.snoc X291 N252 ge_a0
  obtain ⟨T305, h305, k305, X305, e305, E305, A305, st305⟩ := newP X291 hx hZ (own_wk hw 12 rfl) e291 (g := (mkF m 100 #[.val (.ref a0)] [.int 0, (.ref a0)])) rfl (D d1_100) rfl (by decide) (cap := 0) (by decide) (by decide) (by decide) (by decide)
  obtain ⟨b305, g305⟩ : ∃ z, z = h291.size := ⟨_, rfl⟩
  have ne306 : a0 ≠ b305 := Nat.ne_of_lt (Nat.lt_of_lt_of_le (Ob291.get 0 rfl rfl).lt (Nat.le_of_eq g305.symm))
  have ne307 : b2 ≠ b305 := Nat.ne_of_lt (Nat.lt_of_lt_of_le x293.lt (Nat.le_of_eq g305.symm))
  have ne308 : b11 ≠ b305 := Nat.ne_of_lt (Nat.lt_of_lt_of_le x294.lt (Nat.le_of_eq g305.symm))
  have ne309 : b23 ≠ b305 := Nat.ne_of_lt (Nat.lt_of_lt_of_le x295.lt (Nat.le_of_eq g305.symm))
  have ne310 : b38 ≠ b305 := Nat.ne_of_lt (Nat.lt_of_lt_of_le x296.lt (Nat.le_of_eq g305.symm))
  have ne311 : b56 ≠ b305 := Nat.ne_of_lt (Nat.lt_of_lt_of_le x297.lt (Nat.le_of_eq g305.symm))
  have ne312 : b77 ≠ b305 := Nat.ne_of_lt (Nat.lt_of_lt_of_le x298.lt (Nat.le_of_eq g305.symm))
  have ne313 : b101 ≠ b305 := Nat.ne_of_lt (Nat.lt_of_lt_of_le x299.lt (Nat.le_of_eq g305.symm))
  have ne314 : b128 ≠ b305 := Nat.ne_of_lt (Nat.lt_of_lt_of_le x300.lt (Nat.le_of_eq g305.symm))
  have ne315 : b158 ≠ b305 := Nat.ne_of_lt (Nat.lt_of_lt_of_le x301.lt (Nat.le_of_eq g305.symm))
  have ne316 : b191 ≠ b305 := Nat.ne_of_lt (Nat.lt_of_lt_of_le x302.lt (Nat.le_of_eq g305.symm))
  have lt_b305 : b191 < b305 := Nat.lt_of_lt_of_le x302.lt (Nat.le_of_eq g305.symm)
  have ge_b305 : n0 ≤ b305 := Nat.le_trans (Nat.le_trans Z0 kp304.1) (Nat.le_of_eq g305.symm)
  have gs_b305 : h0.size ≤ b305 := Nat.le_trans kp304.1 (Nat.le_of_eq g305.symm)
  rw [← g305] at A305 st305
  have x317 := x292.ext E305
  have x318 := x293.ext E305
  have x319 := x294.ext E305
  have x320 := x295.ext E305
  have x321 := x296.ext E305
  have x322 := x297.ext E305
  have x323 := x298.ext E305
  have x324 := x299.ext E305
  have x325 := x300.ext E305
  have x326 := x301.ext E305
  have x327 := x302.ext E305
  have x328 := Ob291.ext E305
  have kp329 : Keep h0 h305 [a0] := kp304.ext E305
  have V305 : Arv Z h305 b305 k305 .int (0 : Int32) [] (.int (0 : Int32)) := Arv.new A305 (by decide)
  obtain ⟨T330, h330, X330, e330, W330, st330⟩ := putF X305 hx hZ hown (host := "") (Or.inl (own_wk hw 35 rfl)) Via.refl e305 (x328.get 12 rfl rfl : Fld Z h305 a0 own_K "head" "[I" .null) x317 (Or.inl (own_wk hw 36 rfl)) (own_wk hw 1 rfl) (ty := (.array .int)) (by decide) rfl rfl (g := (mkF m 102 #[.val (.ref a0)] [(.ref b305), (.ref a0)])) rfl rfl (D d1_102)
  have Ob330 := x328.put (own_layw hw) 12 rfl W330
  have x331 := x317.wr W330
  have x332 := x318.other W330 (Ne.symm ne3)
  have x333 := x319.other W330 (Ne.symm ne12)
  have x334 := x320.other W330 (Ne.symm ne24)
  have x335 := x321.other W330 (Ne.symm ne39)
  have x336 := x322.other W330 (Ne.symm ne57)
  have x337 := x323.other W330 (Ne.symm ne78)
  have x338 := x324.other W330 (Ne.symm ne102)
  have x339 := x325.other W330 (Ne.symm ne129)
  have x340 := x326.other W330 (Ne.symm ne159)
  have x341 := x327.other W330 (Ne.symm ne192)
  have x342 := V305.other W330 (Ne.symm ne306)
  have kp343 : Keep h0 h330 [a0] := kp329.wr W330 (Or.inl (List.mem_of_getElem? (i := 0) rfl))
  have N330 := Fr.snoc X330 N291 ge_a0
  obtain ⟨T344, h344, k344, kc344, X344, e344, E344, V344, O344, EA344, hel344, st344⟩ := gridM X330 hx hZ hown (ty := .double) (C := "[D") (ad := "[[D") (by decide) (by decide) (own_wk hw 37 rfl) (own_wk hw 38 rfl) (own_wk hw 9 rfl) e330 (g := (mkF m 108 #[.val (.ref a0)] [.int 0, .int 0, (.ref a0)])) rfl (D d1_108) rfl (by decide) (by decide) (xs := []) (N := 0) rfl rfl (cap := 0) (by decide) (by decide) (by decide) rfl rfl (by decide) (by decide)
  obtain ⟨b344, g344⟩ : ∃ z, z = h330.size := ⟨_, rfl⟩
  have ne345 : a0 ≠ b344 := Nat.ne_of_lt (Nat.lt_of_lt_of_le (Ob330.get 0 rfl rfl).lt (Nat.le_of_eq g344.symm))
  have ne346 : b2 ≠ b344 := Nat.ne_of_lt (Nat.lt_of_lt_of_le x332.lt (Nat.le_of_eq g344.symm))
  have ne347 : b11 ≠ b344 := Nat.ne_of_lt (Nat.lt_of_lt_of_le x333.lt (Nat.le_of_eq g344.symm))
  have ne348 : b23 ≠ b344 := Nat.ne_of_lt (Nat.lt_of_lt_of_le x334.lt (Nat.le_of_eq g344.symm))
  have ne349 : b38 ≠ b344 := Nat.ne_of_lt (Nat.lt_of_lt_of_le x335.lt (Nat.le_of_eq g344.symm))
  have ne350 : b56 ≠ b344 := Nat.ne_of_lt (Nat.lt_of_lt_of_le x336.lt (Nat.le_of_eq g344.symm))
  have ne351 : b77 ≠ b344 := Nat.ne_of_lt (Nat.lt_of_lt_of_le x337.lt (Nat.le_of_eq g344.symm))
  have ne352 : b101 ≠ b344 := Nat.ne_of_lt (Nat.lt_of_lt_of_le x338.lt (Nat.le_of_eq g344.symm))
  have ne353 : b128 ≠ b344 := Nat.ne_of_lt (Nat.lt_of_lt_of_le x339.lt (Nat.le_of_eq g344.symm))
  have ne354 : b158 ≠ b344 := Nat.ne_of_lt (Nat.lt_of_lt_of_le x340.lt (Nat.le_of_eq g344.symm))
  have ne355 : b191 ≠ b344 := Nat.ne_of_lt (Nat.lt_of_lt_of_le x341.lt (Nat.le_of_eq g344.symm))
  have lt_b344 : b191 < b344 := Nat.lt_of_lt_of_le x341.lt (Nat.le_of_eq g344.symm)
  have ge_b344 : n0 ≤ b344 := Nat.le_trans (Nat.le_trans Z0 kp343.1) (Nat.le_of_eq g344.symm)
  have gs_b344 : h0.size ≤ b344 := Nat.le_trans kp343.1 (Nat.le_of_eq g344.symm)
  rw [← g344] at V344
  rw [← g344] at EA344 st344
  have x356 := x331.ext E344
  have x357 := x332.ext E344
  have x358 := x333.ext E344
  have x359 := x334.ext E344
  have x360 := x335.ext E344
  have x361 := x336.ext E344
  have x362 := x337.ext E344
  have x363 := x338.ext E344
  have x364 := x339.ext E344
  have x365 := x340.ext E344
  have x366 := x341.ext E344
  have x367 := Ob330.ext E344
  have kp368 : Keep h0 h344 [a0] := kp343.ext E344
  have V344 : Arv Z h344 b344 k344 (.array .double) (0 : Int32) [] .null := V344
  obtain ⟨T369, h369, X369, e369, W369, st369⟩ := putF X344 hx hZ hown (host := "") (Or.inl (own_wk hw 39 rfl)) Via.refl e344 (x367.get 13 rfl rfl : Fld Z h344 a0 own_K "inverse" "[[D" .null) x356 (Or.inl (own_wk hw 40 rfl)) (own_wk hw 1 rfl) (ty := (.array (.array .double))) (by decide) rfl rfl (g := (mkF m 112 #[.val (.ref a0)] [(.ref b344), (.ref a0)])) rfl rfl (D d1_112)
  have Ob369 := x367.put (own_layw hw) 13 rfl W369
  have x370 := x356.wr W369
  have x371 := x357.other W369 (Ne.symm ne3)
  have x372 := x358.other W369 (Ne.symm ne12)
  have x373 := x359.other W369 (Ne.symm ne24)
  have x374 := x360.other W369 (Ne.symm ne39)
  have x375 := x361.other W369 (Ne.symm ne57)
  have x376 := x362.other W369 (Ne.symm ne78)
  have x377 := x363.other W369 (Ne.symm ne102)
  have x378 := x364.other W369 (Ne.symm ne129)
  have x379 := x365.other W369 (Ne.symm ne159)
  have x380 := x366.other W369 (Ne.symm ne192)
  have x381 := V344.other W369 (Ne.symm ne345)
  have x382 := EA344.wr W369
  have kp383 : Keep h0 h369 [a0] := kp368.wr W369 (Or.inl (List.mem_of_getElem? (i := 0) rfl))
  have N369 := Fr.snoc X369 N330 ge_a0
  obtain ⟨T384, h384, k384, X384, e384, E384, A384, st384⟩ := newP X369 hx hZ (own_wk hw 9 rfl) e369 (g := (mkF m 117 #[.val (.ref a0)] [.int 0, (.ref a0)])) rfl (D d1_117) rfl (by decide) (cap := 0) (by decide) (by decide) (by decide) (by decide)
  obtain ⟨b384, g384⟩ : ∃ z, z = h369.size := ⟨_, rfl⟩
  have ne385 : a0 ≠ b384 := Nat.ne_of_lt (Nat.lt_of_lt_of_le (Ob369.get 0 rfl rfl).lt (Nat.le_of_eq g384.symm))
  have ne386 : b2 ≠ b384 := Nat.ne_of_lt (Nat.lt_of_lt_of_le x371.lt (Nat.le_of_eq g384.symm))
  have ne387 : b11 ≠ b384 := Nat.ne_of_lt (Nat.lt_of_lt_of_le x372.lt (Nat.le_of_eq g384.symm))
  have ne388 : b23 ≠ b384 := Nat.ne_of_lt (Nat.lt_of_lt_of_le x373.lt (Nat.le_of_eq g384.symm))
  have ne389 : b38 ≠ b384 := Nat.ne_of_lt (Nat.lt_of_lt_of_le x374.lt (Nat.le_of_eq g384.symm))
  have ne390 : b56 ≠ b384 := Nat.ne_of_lt (Nat.lt_of_lt_of_le x375.lt (Nat.le_of_eq g384.symm))
  have ne391 : b77 ≠ b384 := Nat.ne_of_lt (Nat.lt_of_lt_of_le x376.lt (Nat.le_of_eq g384.symm))
  have ne392 : b101 ≠ b384 := Nat.ne_of_lt (Nat.lt_of_lt_of_le x377.lt (Nat.le_of_eq g384.symm))
  have ne393 : b128 ≠ b384 := Nat.ne_of_lt (Nat.lt_of_lt_of_le x378.lt (Nat.le_of_eq g384.symm))
  have ne394 : b158 ≠ b384 := Nat.ne_of_lt (Nat.lt_of_lt_of_le x379.lt (Nat.le_of_eq g384.symm))
  have ne395 : b191 ≠ b384 := Nat.ne_of_lt (Nat.lt_of_lt_of_le x380.lt (Nat.le_of_eq g384.symm))
  have ne396 : b344 ≠ b384 := Nat.ne_of_lt (Nat.lt_of_lt_of_le x381.lt (Nat.le_of_eq g384.symm))
  have lt_b384 : b344 < b384 := Nat.lt_of_lt_of_le x381.lt (Nat.le_of_eq g384.symm)
  have ge_b384 : n0 ≤ b384 := Nat.le_trans (Nat.le_trans Z0 kp383.1) (Nat.le_of_eq g384.symm)
  have gs_b384 : h0.size ≤ b384 := Nat.le_trans kp383.1 (Nat.le_of_eq g384.symm)
  rw [← g384] at A384 st384
  have x397 := x370.ext E384
  have x398 := x371.ext E384
  have x399 := x372.ext E384
  have x400 := x373.ext E384
  have x401 := x374.ext E384
  have x402 := x375.ext E384
  have x403 := x376.ext E384
  have x404 := x377.ext E384
  have x405 := x378.ext E384
  have x406 := x379.ext E384
  have x407 := x380.ext E384
  have x408 := x381.ext E384
  have x409 := x382.ext E384
  have x410 := Ob369.ext E384
  have kp411 : Keep h0 h384 [a0] := kp383.ext E384
  have V384 : Arv Z h384 b384 k384 .double (0 : Int32) [] (.double (0 : UInt64)) := Arv.new A384 (by decide)
  obtain ⟨T412, h412, X412, e412, W412, st412⟩ := putF X384 hx hZ hown (host := "") (Or.inl (own_wk hw 41 rfl)) Via.refl e384 (x410.get 14 rfl rfl : Fld Z h384 a0 own_K "values" "[D" .null) x397 (Or.inl (own_wk hw 42 rfl)) (own_wk hw 1 rfl) (ty := (.array .double)) (by decide) rfl rfl (g := (mkF m 119 #[.val (.ref a0)] [(.ref b384), (.ref a0)])) rfl rfl (D d1_119)
  have Ob412 : own_fs own_K own_N Z h412 a0 [(.ref b2), (.ref b11), (.ref b23), (.ref b38), (.ref b56), (.ref b77), (.ref b101), (.ref b128), (.ref b158), (.ref b191), (.ref b227), (.ref b266), (.ref b305), (.ref b344), (.ref b384), .null, .null, .null, .null, .null, (.int (0 : Int32)), (.int (0 : Int32)), (.int (0 : Int32)), (.int (0 : Int32)), (.int (0 : Int32)), (.double (0 : UInt64)), (.int (0 : Int32))] := x410.put (own_layw hw) 14 rfl W412
  have x413 := x397.wr W412
  have x414 := x398.other W412 (Ne.symm ne3)
  have x415 := x399.other W412 (Ne.symm ne12)
  have x416 := x400.other W412 (Ne.symm ne24)
  have x417 := x401.other W412 (Ne.symm ne39)
  have x418 := x402.other W412 (Ne.symm ne57)
  have x419 := x403.other W412 (Ne.symm ne78)
  have x420 := x404.other W412 (Ne.symm ne102)
  have x421 := x405.other W412 (Ne.symm ne129)
  have x422 := x406.other W412 (Ne.symm ne159)
  have x423 := x407.other W412 (Ne.symm ne192)
  have x424 := x408.other W412 (Ne.symm ne345)
  have x425 := x409.wr W412
  have x426 := V384.other W412 (Ne.symm ne385)
  have kp427 : Keep h0 h412 [a0] := kp411.wr W412 (Or.inl (List.mem_of_getElem? (i := 0) rfl))
  have N412 := Fr.snoc X412 N369 ge_a0
  obtain ⟨T428, h428, k428, X428, e428, E428, A428, st428⟩ := newP X412 hx hZ (own_wk hw 12 rfl) e412 (g := (mkF m 124 #[.val (.ref a0)] [.int 0, (.ref a0)])) rfl (D d1_124) rfl (by decide) (cap := 0) (by decide) (by decide) (by decide) (by decide)
  obtain ⟨b428, g428⟩ : ∃ z, z = h412.size := ⟨_, rfl⟩
  have ne429 : a0 ≠ b428 := Nat.ne_of_lt (Nat.lt_of_lt_of_le (Ob412.get 0 rfl rfl).lt (Nat.le_of_eq g428.symm))
  have ne430 : b2 ≠ b428 := Nat.ne_of_lt (Nat.lt_of_lt_of_le x414.lt (Nat.le_of_eq g428.symm))
  have ne431 : b11 ≠ b428 := Nat.ne_of_lt (Nat.lt_of_lt_of_le x415.lt (Nat.le_of_eq g428.symm))
  have ne432 : b23 ≠ b428 := Nat.ne_of_lt (Nat.lt_of_lt_of_le x416.lt (Nat.le_of_eq g428.symm))
  have ne433 : b38 ≠ b428 := Nat.ne_of_lt (Nat.lt_of_lt_of_le x417.lt (Nat.le_of_eq g428.symm))
  have ne434 : b56 ≠ b428 := Nat.ne_of_lt (Nat.lt_of_lt_of_le x418.lt (Nat.le_of_eq g428.symm))
  have ne435 : b77 ≠ b428 := Nat.ne_of_lt (Nat.lt_of_lt_of_le x419.lt (Nat.le_of_eq g428.symm))
  have ne436 : b101 ≠ b428 := Nat.ne_of_lt (Nat.lt_of_lt_of_le x420.lt (Nat.le_of_eq g428.symm))
  have ne437 : b128 ≠ b428 := Nat.ne_of_lt (Nat.lt_of_lt_of_le x421.lt (Nat.le_of_eq g428.symm))
  have ne438 : b158 ≠ b428 := Nat.ne_of_lt (Nat.lt_of_lt_of_le x422.lt (Nat.le_of_eq g428.symm))
  have ne439 : b191 ≠ b428 := Nat.ne_of_lt (Nat.lt_of_lt_of_le x423.lt (Nat.le_of_eq g428.symm))
  have ne440 : b344 ≠ b428 := Nat.ne_of_lt (Nat.lt_of_lt_of_le x424.lt (Nat.le_of_eq g428.symm))
  have lt_b428 : b344 < b428 := Nat.lt_of_lt_of_le x424.lt (Nat.le_of_eq g428.symm)
  have ge_b428 : n0 ≤ b428 := Nat.le_trans (Nat.le_trans Z0 kp427.1) (Nat.le_of_eq g428.symm)
  have gs_b428 : h0.size ≤ b428 := Nat.le_trans kp427.1 (Nat.le_of_eq g428.symm)
  rw [← g428] at A428 st428
  have x441 := x413.ext E428
  have x442 := x414.ext E428
  have x443 := x415.ext E428
  have x444 := x416.ext E428
  have x445 := x417.ext E428
  have x446 := x418.ext E428
  have x447 := x419.ext E428
  have x448 := x420.ext E428
  have x449 := x421.ext E428
  have x450 := x422.ext E428
  have x451 := x423.ext E428
  have x452 := x424.ext E428
  have x453 := x425.ext E428
  have x454 := Ob412.ext E428
  have kp455 : Keep h0 h428 [a0] := kp427.ext E428
  have V428 : Arv Z h428 b428 k428 .int (0 : Int32) [] (.int (0 : Int32)) := Arv.new A428 (by decide)
  obtain ⟨T456, h456, X456, e456, W456, st456⟩ := putF X428 hx hZ hown (host := "") (Or.inl (own_wk hw 43 rfl)) Via.refl e428 (x454.get 15 rfl rfl : Fld Z h428 a0 own_K "groupDualPass" "[I" .null) x441 (Or.inl (own_wk hw 44 rfl)) (own_wk hw 1 rfl) (ty := (.array .int)) (by decide) rfl rfl (g := (mkF m 126 #[.val (.ref a0)] [(.ref b428), (.ref a0)])) rfl rfl (D d1_126)
  have Ob456 := x454.put (own_layw hw) 15 rfl W456
  have x457 := x441.wr W456
  have x458 := x442.other W456 (Ne.symm ne3)
  have x459 := x443.other W456 (Ne.symm ne12)
  have x460 := x444.other W456 (Ne.symm ne24)
  have x461 := x445.other W456 (Ne.symm ne39)
  have x462 := x446.other W456 (Ne.symm ne57)
  have x463 := x447.other W456 (Ne.symm ne78)
  have x464 := x448.other W456 (Ne.symm ne102)
  have x465 := x449.other W456 (Ne.symm ne129)
  have x466 := x450.other W456 (Ne.symm ne159)
  have x467 := x451.other W456 (Ne.symm ne192)
  have x468 := x452.other W456 (Ne.symm ne345)
  have x469 := x453.wr W456
  have x470 := V428.other W456 (Ne.symm ne429)
  have kp471 : Keep h0 h456 [a0] := kp455.wr W456 (Or.inl (List.mem_of_getElem? (i := 0) rfl))
  have N456 := Fr.snoc X456 N412 ge_a0
  obtain ⟨T472, h472, k472, X472, e472, E472, A472, st472⟩ := newP X456 hx hZ (own_wk hw 9 rfl) e456 (g := (mkF m 131 #[.val (.ref a0)] [.int 0, (.ref a0)])) rfl (D d1_131) rfl (by decide) (cap := 0) (by decide) (by decide) (by decide) (by decide)
  obtain ⟨b472, g472⟩ : ∃ z, z = h456.size := ⟨_, rfl⟩
  have ne473 : a0 ≠ b472 := Nat.ne_of_lt (Nat.lt_of_lt_of_le (Ob456.get 0 rfl rfl).lt (Nat.le_of_eq g472.symm))
  have ne474 : b2 ≠ b472 := Nat.ne_of_lt (Nat.lt_of_lt_of_le x458.lt (Nat.le_of_eq g472.symm))
  have ne475 : b11 ≠ b472 := Nat.ne_of_lt (Nat.lt_of_lt_of_le x459.lt (Nat.le_of_eq g472.symm))
  have ne476 : b23 ≠ b472 := Nat.ne_of_lt (Nat.lt_of_lt_of_le x460.lt (Nat.le_of_eq g472.symm))
  have ne477 : b38 ≠ b472 := Nat.ne_of_lt (Nat.lt_of_lt_of_le x461.lt (Nat.le_of_eq g472.symm))
  have ne478 : b56 ≠ b472 := Nat.ne_of_lt (Nat.lt_of_lt_of_le x462.lt (Nat.le_of_eq g472.symm))
  have ne479 : b77 ≠ b472 := Nat.ne_of_lt (Nat.lt_of_lt_of_le x463.lt (Nat.le_of_eq g472.symm))
  have ne480 : b101 ≠ b472 := Nat.ne_of_lt (Nat.lt_of_lt_of_le x464.lt (Nat.le_of_eq g472.symm))
  have ne481 : b128 ≠ b472 := Nat.ne_of_lt (Nat.lt_of_lt_of_le x465.lt (Nat.le_of_eq g472.symm))
  have ne482 : b158 ≠ b472 := Nat.ne_of_lt (Nat.lt_of_lt_of_le x466.lt (Nat.le_of_eq g472.symm))
  have ne483 : b191 ≠ b472 := Nat.ne_of_lt (Nat.lt_of_lt_of_le x467.lt (Nat.le_of_eq g472.symm))
  have ne484 : b344 ≠ b472 := Nat.ne_of_lt (Nat.lt_of_lt_of_le x468.lt (Nat.le_of_eq g472.symm))
  have lt_b472 : b344 < b472 := Nat.lt_of_lt_of_le x468.lt (Nat.le_of_eq g472.symm)
  have ge_b472 : n0 ≤ b472 := Nat.le_trans (Nat.le_trans Z0 kp471.1) (Nat.le_of_eq g472.symm)
  have gs_b472 : h0.size ≤ b472 := Nat.le_trans kp471.1 (Nat.le_of_eq g472.symm)
  rw [← g472] at A472 st472
  have x485 := x457.ext E472
  have x486 := x458.ext E472
  have x487 := x459.ext E472
  have x488 := x460.ext E472
  have x489 := x461.ext E472
  have x490 := x462.ext E472
  have x491 := x463.ext E472
  have x492 := x464.ext E472
  have x493 := x465.ext E472
  have x494 := x466.ext E472
  have x495 := x467.ext E472
  have x496 := x468.ext E472
  have x497 := x469.ext E472
  have x498 := Ob456.ext E472
  have kp499 : Keep h0 h472 [a0] := kp471.ext E472
  have V472 : Arv Z h472 b472 k472 .double (0 : Int32) [] (.double (0 : UInt64)) := Arv.new A472 (by decide)
  obtain ⟨T500, h500, X500, e500, W500, st500⟩ := putF X472 hx hZ hown (host := "") (Or.inl (own_wk hw 45 rfl)) Via.refl e472 (x498.get 16 rfl rfl : Fld Z h472 a0 own_K "groupDualValues" "[D" .null) x485 (Or.inl (own_wk hw 46 rfl)) (own_wk hw 1 rfl) (ty := (.array .double)) (by decide) rfl rfl (g := (mkF m 133 #[.val (.ref a0)] [(.ref b472), (.ref a0)])) rfl rfl (D d1_133)
  have Ob500 := x498.put (own_layw hw) 16 rfl W500
  have x501 := x485.wr W500
  have x502 := x486.other W500 (Ne.symm ne3)
  have x503 := x487.other W500 (Ne.symm ne12)
  have x504 := x488.other W500 (Ne.symm ne24)
  have x505 := x489.other W500 (Ne.symm ne39)
  have x506 := x490.other W500 (Ne.symm ne57)
  have x507 := x491.other W500 (Ne.symm ne78)
  have x508 := x492.other W500 (Ne.symm ne102)
  have x509 := x493.other W500 (Ne.symm ne129)
  have x510 := x494.other W500 (Ne.symm ne159)
  have x511 := x495.other W500 (Ne.symm ne192)
  have x512 := x496.other W500 (Ne.symm ne345)
  have x513 := x497.wr W500
  have x514 := V472.other W500 (Ne.symm ne473)
  have kp515 : Keep h0 h500 [a0] := kp499.wr W500 (Or.inl (List.mem_of_getElem? (i := 0) rfl))
  have N500 := Fr.snoc X500 N456 ge_a0
  obtain ⟨T516, h516, k516, X516, e516, E516, A516, st516⟩ := newP X500 hx hZ (own_wk hw 9 rfl) e500 (g := (mkF m 138 #[.val (.ref a0)] [.int 0, (.ref a0)])) rfl (D d1_138) rfl (by decide) (cap := 0) (by decide) (by decide) (by decide) (by decide)
  obtain ⟨b516, g516⟩ : ∃ z, z = h500.size := ⟨_, rfl⟩
  have ne517 : a0 ≠ b516 := Nat.ne_of_lt (Nat.lt_of_lt_of_le (Ob500.get 0 rfl rfl).lt (Nat.le_of_eq g516.symm))
  have ne518 : b2 ≠ b516 := Nat.ne_of_lt (Nat.lt_of_lt_of_le x502.lt (Nat.le_of_eq g516.symm))
  have ne519 : b11 ≠ b516 := Nat.ne_of_lt (Nat.lt_of_lt_of_le x503.lt (Nat.le_of_eq g516.symm))
  have ne520 : b23 ≠ b516 := Nat.ne_of_lt (Nat.lt_of_lt_of_le x504.lt (Nat.le_of_eq g516.symm))
  have ne521 : b38 ≠ b516 := Nat.ne_of_lt (Nat.lt_of_lt_of_le x505.lt (Nat.le_of_eq g516.symm))
  have ne522 : b56 ≠ b516 := Nat.ne_of_lt (Nat.lt_of_lt_of_le x506.lt (Nat.le_of_eq g516.symm))
  have ne523 : b77 ≠ b516 := Nat.ne_of_lt (Nat.lt_of_lt_of_le x507.lt (Nat.le_of_eq g516.symm))
  have ne524 : b101 ≠ b516 := Nat.ne_of_lt (Nat.lt_of_lt_of_le x508.lt (Nat.le_of_eq g516.symm))
  have ne525 : b128 ≠ b516 := Nat.ne_of_lt (Nat.lt_of_lt_of_le x509.lt (Nat.le_of_eq g516.symm))
  have ne526 : b158 ≠ b516 := Nat.ne_of_lt (Nat.lt_of_lt_of_le x510.lt (Nat.le_of_eq g516.symm))
  have ne527 : b191 ≠ b516 := Nat.ne_of_lt (Nat.lt_of_lt_of_le x511.lt (Nat.le_of_eq g516.symm))
  have ne528 : b344 ≠ b516 := Nat.ne_of_lt (Nat.lt_of_lt_of_le x512.lt (Nat.le_of_eq g516.symm))
  have lt_b516 : b344 < b516 := Nat.lt_of_lt_of_le x512.lt (Nat.le_of_eq g516.symm)
  have ge_b516 : n0 ≤ b516 := Nat.le_trans (Nat.le_trans Z0 kp515.1) (Nat.le_of_eq g516.symm)
  have gs_b516 : h0.size ≤ b516 := Nat.le_trans kp515.1 (Nat.le_of_eq g516.symm)
  rw [← g516] at A516 st516
  have x529 := x501.ext E516
  have x530 := x502.ext E516
  have x531 := x503.ext E516
  have x532 := x504.ext E516
  have x533 := x505.ext E516
  have x534 := x506.ext E516
  have x535 := x507.ext E516
  have x536 := x508.ext E516
  have x537 := x509.ext E516
  have x538 := x510.ext E516
  have x539 := x511.ext E516
  have x540 := x512.ext E516
  have x541 := x513.ext E516
  have x542 := Ob500.ext E516
  have kp543 : Keep h0 h516 [a0] := kp515.ext E516
  have V516 : Arv Z h516 b516 k516 .double (0 : Int32) [] (.double (0 : UInt64)) := Arv.new A516 (by decide)
  obtain ⟨T544, h544, X544, e544, W544, st544⟩ := putF X516 hx hZ hown (host := "") (Or.inl (own_wk hw 47 rfl)) Via.refl e516 (x542.get 17 rfl rfl : Fld Z h516 a0 own_K "rates" "[D" .null) x529 (Or.inl (own_wk hw 48 rfl)) (own_wk hw 1 rfl) (ty := (.array .double)) (by decide) rfl rfl (g := (mkF m 140 #[.val (.ref a0)] [(.ref b516), (.ref a0)])) rfl rfl (D d1_140)
  have Ob544 := x542.put (own_layw hw) 17 rfl W544
  have x545 := x529.wr W544
  have x546 := x530.other W544 (Ne.symm ne3)
  have x547 := x531.other W544 (Ne.symm ne12)
  have x548 := x532.other W544 (Ne.symm ne24)
  have x549 := x533.other W544 (Ne.symm ne39)
  have x550 := x534.other W544 (Ne.symm ne57)
  have x551 := x535.other W544 (Ne.symm ne78)
  have x552 := x536.other W544 (Ne.symm ne102)
  have x553 := x537.other W544 (Ne.symm ne129)
  have x554 := x538.other W544 (Ne.symm ne159)
  have x555 := x539.other W544 (Ne.symm ne192)
  have x556 := x540.other W544 (Ne.symm ne345)
  have x557 := x541.wr W544
  have x558 := V516.other W544 (Ne.symm ne517)
  have kp559 : Keep h0 h544 [a0] := kp543.wr W544 (Or.inl (List.mem_of_getElem? (i := 0) rfl))
  have N544 := Fr.snoc X544 N500 ge_a0
  obtain ⟨T560, h560, k560, X560, e560, E560, A560, st560⟩ := newP X544 hx hZ (own_wk hw 49 rfl) e544 (g := (mkF m 145 #[.val (.ref a0)] [.int 0, (.ref a0)])) rfl (D d1_145) rfl (by decide) (cap := 0) (by decide) (by decide) (by decide) (by decide)
  obtain ⟨b560, g560⟩ : ∃ z, z = h544.size := ⟨_, rfl⟩
  have ne561 : a0 ≠ b560 := Nat.ne_of_lt (Nat.lt_of_lt_of_le (Ob544.get 0 rfl rfl).lt (Nat.le_of_eq g560.symm))
  have ne562 : b2 ≠ b560 := Nat.ne_of_lt (Nat.lt_of_lt_of_le x546.lt (Nat.le_of_eq g560.symm))
  have ne563 : b11 ≠ b560 := Nat.ne_of_lt (Nat.lt_of_lt_of_le x547.lt (Nat.le_of_eq g560.symm))
  have ne564 : b23 ≠ b560 := Nat.ne_of_lt (Nat.lt_of_lt_of_le x548.lt (Nat.le_of_eq g560.symm))
  have ne565 : b38 ≠ b560 := Nat.ne_of_lt (Nat.lt_of_lt_of_le x549.lt (Nat.le_of_eq g560.symm))
  have ne566 : b56 ≠ b560 := Nat.ne_of_lt (Nat.lt_of_lt_of_le x550.lt (Nat.le_of_eq g560.symm))
  have ne567 : b77 ≠ b560 := Nat.ne_of_lt (Nat.lt_of_lt_of_le x551.lt (Nat.le_of_eq g560.symm))
  have ne568 : b101 ≠ b560 := Nat.ne_of_lt (Nat.lt_of_lt_of_le x552.lt (Nat.le_of_eq g560.symm))
  have ne569 : b128 ≠ b560 := Nat.ne_of_lt (Nat.lt_of_lt_of_le x553.lt (Nat.le_of_eq g560.symm))
  have ne570 : b158 ≠ b560 := Nat.ne_of_lt (Nat.lt_of_lt_of_le x554.lt (Nat.le_of_eq g560.symm))
  have ne571 : b191 ≠ b560 := Nat.ne_of_lt (Nat.lt_of_lt_of_le x555.lt (Nat.le_of_eq g560.symm))
  have ne572 : b344 ≠ b560 := Nat.ne_of_lt (Nat.lt_of_lt_of_le x556.lt (Nat.le_of_eq g560.symm))
  have lt_b560 : b344 < b560 := Nat.lt_of_lt_of_le x556.lt (Nat.le_of_eq g560.symm)
  have ge_b560 : n0 ≤ b560 := Nat.le_trans (Nat.le_trans Z0 kp559.1) (Nat.le_of_eq g560.symm)
  have gs_b560 : h0.size ≤ b560 := Nat.le_trans kp559.1 (Nat.le_of_eq g560.symm)
  rw [← g560] at A560 st560
  have x573 := x545.ext E560
  have x574 := x546.ext E560
  have x575 := x547.ext E560
  have x576 := x548.ext E560
  have x577 := x549.ext E560
  have x578 := x550.ext E560
  have x579 := x551.ext E560
  have x580 := x552.ext E560
  have x581 := x553.ext E560
  have x582 := x554.ext E560
  have x583 := x555.ext E560
  have x584 := x556.ext E560
  have x585 := x557.ext E560
  have x586 := Ob544.ext E560
  have kp587 : Keep h0 h560 [a0] := kp559.ext E560
  have V560 : Arv Z h560 b560 k560 .boolean (0 : Int32) [] (.int (0 : Int32)) := Arv.new A560 (by decide)
  obtain ⟨T588, h588, X588, e588, W588, st588⟩ := putF X560 hx hZ hown (host := "") (Or.inl (own_wk hw 50 rfl)) Via.refl e560 (x586.get 18 rfl rfl : Fld Z h560 a0 own_K "rated" "[Z" .null) x573 (Or.inl (own_wk hw 51 rfl)) (own_wk hw 1 rfl) (ty := (.array .boolean)) (by decide) rfl rfl (g := (mkF m 147 #[.val (.ref a0)] [(.ref b560), (.ref a0)])) rfl rfl (D d1_147)
  have Ob588 := x586.put (own_layw hw) 18 rfl W588
  have x589 := x573.wr W588
  have x590 := x574.other W588 (Ne.symm ne3)
  have x591 := x575.other W588 (Ne.symm ne12)
  have x592 := x576.other W588 (Ne.symm ne24)
  have x593 := x577.other W588 (Ne.symm ne39)
  have x594 := x578.other W588 (Ne.symm ne57)
  have x595 := x579.other W588 (Ne.symm ne78)
  have x596 := x580.other W588 (Ne.symm ne102)
  have x597 := x581.other W588 (Ne.symm ne129)
  have x598 := x582.other W588 (Ne.symm ne159)
  have x599 := x583.other W588 (Ne.symm ne192)
  have x600 := x584.other W588 (Ne.symm ne345)
  have x601 := x585.wr W588
  have x602 := V560.other W588 (Ne.symm ne561)
  have kp603 : Keep h0 h588 [a0] := kp587.wr W588 (Or.inl (List.mem_of_getElem? (i := 0) rfl))
  have N588 := Fr.snoc X588 N544 ge_a0
  obtain ⟨T604, h604, k604, X604, e604, E604, A604, st604⟩ := newP X588 hx hZ (own_wk hw 12 rfl) e588 (g := (mkF m 152 #[.val (.ref a0)] [.int 0, (.ref a0)])) rfl (D d1_152) rfl (by decide) (cap := 0) (by decide) (by decide) (by decide) (by decide)
  obtain ⟨b604, g604⟩ : ∃ z, z = h588.size := ⟨_, rfl⟩
  have ne605 : a0 ≠ b604 := Nat.ne_of_lt (Nat.lt_of_lt_of_le (Ob588.get 0 rfl rfl).lt (Nat.le_of_eq g604.symm))
  have ne606 : b2 ≠ b604 := Nat.ne_of_lt (Nat.lt_of_lt_of_le x590.lt (Nat.le_of_eq g604.symm))
  have ne607 : b11 ≠ b604 := Nat.ne_of_lt (Nat.lt_of_lt_of_le x591.lt (Nat.le_of_eq g604.symm))
  have ne608 : b23 ≠ b604 := Nat.ne_of_lt (Nat.lt_of_lt_of_le x592.lt (Nat.le_of_eq g604.symm))
  have ne609 : b38 ≠ b604 := Nat.ne_of_lt (Nat.lt_of_lt_of_le x593.lt (Nat.le_of_eq g604.symm))
  have ne610 : b56 ≠ b604 := Nat.ne_of_lt (Nat.lt_of_lt_of_le x594.lt (Nat.le_of_eq g604.symm))
  have ne611 : b77 ≠ b604 := Nat.ne_of_lt (Nat.lt_of_lt_of_le x595.lt (Nat.le_of_eq g604.symm))
  have ne612 : b101 ≠ b604 := Nat.ne_of_lt (Nat.lt_of_lt_of_le x596.lt (Nat.le_of_eq g604.symm))
  have ne613 : b128 ≠ b604 := Nat.ne_of_lt (Nat.lt_of_lt_of_le x597.lt (Nat.le_of_eq g604.symm))
  have ne614 : b158 ≠ b604 := Nat.ne_of_lt (Nat.lt_of_lt_of_le x598.lt (Nat.le_of_eq g604.symm))
  have ne615 : b191 ≠ b604 := Nat.ne_of_lt (Nat.lt_of_lt_of_le x599.lt (Nat.le_of_eq g604.symm))
  have ne616 : b344 ≠ b604 := Nat.ne_of_lt (Nat.lt_of_lt_of_le x600.lt (Nat.le_of_eq g604.symm))
  have lt_b604 : b344 < b604 := Nat.lt_of_lt_of_le x600.lt (Nat.le_of_eq g604.symm)
  have ge_b604 : n0 ≤ b604 := Nat.le_trans (Nat.le_trans Z0 kp603.1) (Nat.le_of_eq g604.symm)
  have gs_b604 : h0.size ≤ b604 := Nat.le_trans kp603.1 (Nat.le_of_eq g604.symm)
  rw [← g604] at A604 st604
  have x617 := x589.ext E604
  have x618 := x590.ext E604
  have x619 := x591.ext E604
  have x620 := x592.ext E604
  have x621 := x593.ext E604
  have x622 := x594.ext E604
  have x623 := x595.ext E604
  have x624 := x596.ext E604
  have x625 := x597.ext E604
  have x626 := x598.ext E604
  have x627 := x599.ext E604
  have x628 := x600.ext E604
  have x629 := x601.ext E604
  have x630 := Ob588.ext E604
  have kp631 : Keep h0 h604 [a0] := kp603.ext E604
  have V604 : Arv Z h604 b604 k604 .int (0 : Int32) [] (.int (0 : Int32)) := Arv.new A604 (by decide)
  obtain ⟨T632, h632, X632, e632, W632, st632⟩ := putF X604 hx hZ hown (host := "") (Or.inl (own_wk hw 52 rfl)) Via.refl e604 (x630.get 19 rfl rfl : Fld Z h604 a0 own_K "ratedGroups" "[I" .null) x617 (Or.inl (own_wk hw 53 rfl)) (own_wk hw 1 rfl) (ty := (.array .int)) (by decide) rfl rfl (g := (mkF m 154 #[.val (.ref a0)] [(.ref b604), (.ref a0)])) rfl rfl (D d1_154)
  have Ob632 : own_fs own_K own_N Z h632 a0 [(.ref b2), (.ref b11), (.ref b23), (.ref b38), (.ref b56), (.ref b77), (.ref b101), (.ref b128), (.ref b158), (.ref b191), (.ref b227), (.ref b266), (.ref b305), (.ref b344), (.ref b384), (.ref b428), (.ref b472), (.ref b516), (.ref b560), (.ref b604), (.int (0 : Int32)), (.int (0 : Int32)), (.int (0 : Int32)), (.int (0 : Int32)), (.int (0 : Int32)), (.double (0 : UInt64)), (.int (0 : Int32))] := x630.put (own_layw hw) 19 rfl W632
  have x633 := x617.wr W632
  have x634 := x618.other W632 (Ne.symm ne3)
  have x635 := x619.other W632 (Ne.symm ne12)
  have x636 := x620.other W632 (Ne.symm ne24)
  have x637 := x621.other W632 (Ne.symm ne39)
  have x638 := x622.other W632 (Ne.symm ne57)
  have x639 := x623.other W632 (Ne.symm ne78)
  have x640 := x624.other W632 (Ne.symm ne102)
  have x641 := x625.other W632 (Ne.symm ne129)
  have x642 := x626.other W632 (Ne.symm ne159)
  have x643 := x627.other W632 (Ne.symm ne192)
  have x644 := x628.other W632 (Ne.symm ne345)
  have x645 := x629.wr W632
  have x646 := V604.other W632 (Ne.symm ne605)
  have kp647 : Keep h0 h632 [a0] := kp631.wr W632 (Or.inl (List.mem_of_getElem? (i := 0) rfl))
  have N632 := Fr.snoc X632 N588 ge_a0
  obtain ⟨fs, hr, hrun, hended, hW, hsame⟩ := X632.leave (v := none) (fun _ => rfl)
  refine ⟨_, _, pre0 _ ?_, hrun, hended, _, _, rfl, ?_, ⟨_, rfl⟩, hW, hsame.mono (by decide) (by decide)⟩
  · show own_S p e below s₁ (mkF m 0 #[.val (.ref a0)] []) _
    refine XS.aloadN X0.here hx rfl (D d1_0) rfl rfl (st1 _ (XS.aloadN X1.here hx rfl (D d1_4) rfl rfl (XS.bipush X1.here hx rfl (D d1_5) (st2 _ (st7 _ (XS.aloadN X7.here hx rfl (D d1_12) rfl rfl (XS.bipush X7.here hx rfl (D d1_13) (st11 _ (st18 _ ?_)))))))))
    refine XS.aloadN X18.here hx rfl (D d1_20) rfl rfl (XS.bipush X18.here hx rfl (D d1_21) (st23 _ (st32 _ ?_)))
    show own_S p e below T32 (mkF m 28 #[.val (.ref a0)] []) _
    refine XS.aloadN X32.here hx rfl (D d1_28) rfl rfl (XS.bipush X32.here hx rfl (D d1_29) (st38 _ (st49 _ (XS.aloadN X49.here hx rfl (D d1_36) rfl rfl (XS.bipush X49.here hx rfl (D d1_37) (st56 _ (st69 _ (XS.aloadN X69.here hx rfl (D d1_44) rfl rfl (XS.bipush X69.here hx rfl (D d1_45) ?_)))))))))
    refine st77 _ (st92 _ (XS.aloadN X92.here hx rfl (D d1_52) rfl rfl (XS.bipush X92.here hx rfl (D d1_53) ?_)))
    show own_S p e below T92 (mkF m 55 #[.val (.ref a0)] [.int 64, (.ref a0)]) _
    refine st101 _ (st118 _ (XS.aloadN X118.here hx rfl (D d1_60) rfl rfl (XS.bipush X118.here hx rfl (D d1_61) (st128 _ (st147 _ (XS.aloadN X147.here hx rfl (D d1_68) rfl rfl (XS.bipush X147.here hx rfl (D d1_69) (st158 _ (st179 _ ?_)))))))))
    refine XS.aloadN X179.here hx rfl (D d1_76) rfl rfl (XS.bipush X179.here hx rfl (D d1_77) (st191 _ (st214 _ ?_)))
    show own_S p e below T214 (mkF m 84 #[.val (.ref a0)] []) _
    refine XS.aloadN X214.here hx rfl (D d1_84) rfl rfl (XS.iconst X214.here hx rfl (D d1_85) (st227 _ (st252 _ (XS.aloadN X252.here hx rfl (D d1_91) rfl rfl (XS.iconst X252.here hx rfl (D d1_92) (st266 _ (st291 _ (XS.aloadN X291.here hx rfl (D d1_98) rfl rfl (XS.iconst X291.here hx rfl (D d1_99) ?_)))))))))
    refine st305 _ (st330 _ (XS.aloadN X330.here hx rfl (D d1_105) rfl rfl (XS.iconst X330.here hx rfl (D d1_106) (XS.iconst X330.here hx rfl (D d1_107) ?_))))
    show own_S p e below T330 (mkF m 108 #[.val (.ref a0)] [.int 0, .int 0, (.ref a0)]) _
    refine st344 _ (st369 _ (XS.aloadN X369.here hx rfl (D d1_115) rfl rfl (XS.iconst X369.here hx rfl (D d1_116) (st384 _ (st412 _ (XS.aloadN X412.here hx rfl (D d1_122) rfl rfl (XS.iconst X412.here hx rfl (D d1_123) (st428 _ (st456 _ ?_)))))))))
    refine XS.aloadN X456.here hx rfl (D d1_129) rfl rfl (XS.iconst X456.here hx rfl (D d1_130) (st472 _ (st500 _ ?_)))
    show own_S p e below T500 (mkF m 136 #[.val (.ref a0)] []) _
    refine XS.aloadN X500.here hx rfl (D d1_136) rfl rfl (XS.iconst X500.here hx rfl (D d1_137) (st516 _ (st544 _ (XS.aloadN X544.here hx rfl (D d1_143) rfl rfl (XS.iconst X544.here hx rfl (D d1_144) (st560 _ (st588 _ (XS.aloadN X588.here hx rfl (D d1_150) rfl rfl (XS.iconst X588.here hx rfl (D d1_151) ?_)))))))))
    refine st604 _ (st632 _ ?_)
    show own_S p e below T632 (mkF m 157 #[.val (.ref a0)] []) _
    exact X632.returnOut hx Bd.returns (D d1_157) hr
  · show Q1 Z a0 h0 n0 _ T632.heap _
    rw [e632]
    exact ⟨b2, b11, b23, b38, b56, b77, b101, b128, b158, b191, b344, b227, b266, b305, b384, b428, b472, b516, b560, b604, k2, k11, k23, k38, k56, k77, k101, k128, k158, k191, k344, rfl, N632, kp647, gs_b2, lt_b11, lt_b23, lt_b38, lt_b56, lt_b77, lt_b101, lt_b128, lt_b158, lt_b191, lt_b344, Ob632, x634, x635, x636, x637, x638, x639, x640, x641, x642, x643, x644⟩
theorem ef_3 (m : MethodId) (a0 : Addr) : entryFrame m #[(.ref a0)] 1 = mkF m 0 #[.val (.ref a0)] [] := by first | (simp [entryFrame, mkF, argsToLocals, Value.category]; done) | rfl
abbrev own_d3 (p : Nat) (i : Instr) (n : Nat) : Prop := decode prog_56_method_2_code p = .ok (i, n)
theorem d3_0 : own_d3 0 (.aload_n 0) 1 := by decide +kernel
theorem d3_1 : own_d3 1 (.getfield 74) 3 := by decide +kernel
theorem d3_4 : own_d3 4 (.ifCond .eq 13) 3 := by decide +kernel
theorem d3_17 : own_d3 17 (.aload_n 0) 1 := by decide +kernel
theorem d3_18 : own_d3 18 .dup 1 := by decide +kernel
theorem d3_19 : own_d3 19 (.getfield 85) 3 := by decide +kernel
theorem d3_22 : own_d3 22 (.iconst 1) 1 := by decide +kernel
theorem d3_23 : own_d3 23 .iadd 1 := by decide +kernel
theorem d3_24 : own_d3 24 (.putfield 85) 3 := by decide +kernel
theorem d3_27 : own_d3 27 (.aload_n 0) 1 := by decide +kernel
theorem d3_28 : own_d3 28 (.getfield 85) 3 := by decide +kernel
theorem d3_31 : own_d3 31 (.iconst 1) 1 := by decide +kernel
theorem d3_32 : own_d3 32 .isub 1 := by decide +kernel
theorem d3_33 : own_d3 33 .ireturn 1 := by decide +kernel
def Q3 (Z : State) (a0 : Addr) (w_costs w_groupOf w_positionOf w_firstEntry w_entryCounts w_entryRooms w_entryRows w_entryValues w_bounds w_slacks w_keys w_keyValues w_head w_inverse w_values w_groupDualPass w_groupDualValues w_rates w_rated w_ratedGroups w_variableCount w_entriesUsed w_rowCount w_objective w_pivotsSinceInversion : Value) (h0 : Heap) (n0 : Nat) (v : Option Value) (h : Heap) (L : List Loc) : Prop := v = some (.int (0 : Int32)) ∧ Fr n0 L ∧ Keep h0 h [a0] ∧ own_fs own_K own_N Z h a0 [w_costs, w_groupOf, w_positionOf, w_firstEntry, w_entryCounts, w_entryRooms, w_entryRows, w_entryValues, w_bounds, w_slacks, w_keys, w_keyValues, w_head, w_inverse, w_values, w_groupDualPass, w_groupDualValues, w_rates, w_rated, w_ratedGroups, (.int (0 : Int32)), (.int (1 : Int32)), w_variableCount, w_entriesUsed, w_rowCount, w_objective, w_pivotsSinceInversion]
set_option maxRecDepth 65536 in
set_option maxHeartbeats 40000000 in
theorem rm3 (l : Launch) (Z : State) (ag : Array Value) (hw : ∀ d ∈ tables_1, d.before ag Z = true) (ws : List Jvm.Cond) (a0 : Addr) (w_costs w_groupOf w_positionOf w_firstEntry w_entryCounts w_entryRooms w_entryRows w_entryValues w_bounds w_slacks w_keys w_keyValues w_head w_inverse w_values w_groupDualPass w_groupDualValues w_rates w_rated w_ratedGroups w_variableCount w_entriesUsed w_rowCount w_objective w_pivotsSinceInversion : Value) (h0 : Heap) (n0 : Nat) (Z0 : n0 ≤ h0.size) (E_a0 : Exa Z h0 a0 own_K) (Ob_a0 : own_fs own_K own_N Z h0 a0 [w_costs, w_groupOf, w_positionOf, w_firstEntry, w_entryCounts, w_entryRooms, w_entryRows, w_entryValues, w_bounds, w_slacks, w_keys, w_keyValues, w_head, w_inverse, w_values, w_groupDualPass, w_groupDualValues, w_rates, w_rated, w_ratedGroups, (.int (0 : Int32)), (.int (0 : Int32)), w_variableCount, w_entriesUsed, w_rowCount, w_objective, w_pivotsSinceInversion]) (ge_a0 : n0 ≤ a0) :
    MetFree l (⟨own_K, "addGroup", "()I"⟩ : MethodName) (head1 (Jvm.Cond.code (⟨own_K, "addGroup", "()I"⟩ : MethodName) prog_56_method_2_code 1 (some .int) :: ws) ({ frames := 0, cells := 0, slots := 0, locals := 0 } : Room)) (fun a U => a = #[(.ref a0)] ∧ Z.Warmed39 U.vm ∧ U.heap = h0) (fun _ _ _ _ _ => True) (fun _ U o U' => ∃ v L, o = .returned v ∧ Q3 Z a0 w_costs w_groupOf w_positionOf w_firstEntry w_entryCounts w_entryRooms w_entryRows w_entryValues w_bounds w_slacks w_keys w_keyValues w_head w_inverse w_values w_groupDualPass w_groupDualValues w_rates w_rated w_ratedGroups w_variableCount w_entriesUsed w_rowCount w_objective w_pivotsSinceInversion h0 n0 v U'.heap L ∧ FrameEnd U o U' L ({ frames := 0, cells := 0, slots := 0, locals := 0 } : Room).cells ({ frames := 0, cells := 0, slots := 0, locals := 0 } : Room).slots) := by
  refine MetFree.of_bodySF (plainFor_of_name pn_0) hisR ?_
  intro p e s m args below meth c s₁ Bd hml0 hP hK
  obtain ⟨rfl, hZ, hh⟩ := hP
  have hx := Bd.exec
  have hby := Bd.bytes
  have hml : c.maxLocals = 1 := hml0
  have hown : s.vm.findClass own_K = some m.cls := findClass_of_methodNamed Bd.named
  have hnm := (name_of_methodNamed Bd.named Bd.method).1
  have X0 : Stand p l e ({ frames := 0, cells := 0, slots := 0, locals := 0 } : Room) s m #[(.ref a0)] below meth c s₁ [] 0 0 := Stand.of_body Bd
  have e0 : s₁.heap = h0 := by rw [← hh, Bd.state]; rfl
  have N0 := Fr.nil n0
  have D : ∀ {pc : Nat} {r : Except DecodeError (Instr × Nat)}, decode prog_56_method_2_code pc = r → decode c.code pc = r := fun q => hb hby q
  have pre0 : ∀ t, Steps p.tables e below (s₁.setTop (mkF m 0 #[.val (.ref a0)] [])) t → Steps p.tables e below (s₁.setTop (entryFrame m #[(.ref a0)] 1)) t := fun t k => castTop (ef_3 m a0) k
  obtain ⟨T648, X648, e648, st648⟩ := own_gf X0 hx hZ hown (own_wk hw 59 rfl) e0 Ob_a0 20 rfl rfl (g := (mkF m 1 #[.val (.ref a0)] [(.ref a0)])) rfl rfl (D d3_1)
  obtain ⟨T649, X649, e649, st649⟩ := own_gf X648 hx hZ hown (own_wk hw 61 rfl) e648 Ob_a0 21 rfl rfl (g := (mkF m 19 #[.val (.ref a0)] [(.ref a0), (.ref a0)])) rfl rfl (D d3_19)
  obtain ⟨T650, h650, X650, e650, W650, st650⟩ := putF X649 hx hZ hown (host := "") (Or.inl (own_wk hw 61 rfl)) Via.refl e649 (Ob_a0.get 21 rfl rfl : Fld Z h0 a0 own_K "groupCount" "I" (.int (0 : Int32))) E_a0 (Or.inl (own_wk hw 62 rfl)) (own_wk hw 1 rfl) (ty := .int) (by decide) rfl rfl (g := (mkF m 24 #[.val (.ref a0)] [.int 1, (.ref a0)])) rfl rfl (D d3_24)
  have Ob650 := Ob_a0.put (own_layw hw) 21 rfl W650
  have x651 := E_a0.wr W650
  have kp652 : Keep h0 h650 [a0] := (Keep.refl h0 [a0]).wr W650 (Or.inl (List.mem_of_getElem? (i := 0) rfl))
  have N650 := Fr.snoc X650 N0 ge_a0
  obtain ⟨T653, X653, e653, st653⟩ := own_gf X650 hx hZ hown (own_wk hw 61 rfl) e650 Ob650 21 rfl rfl (g := (mkF m 28 #[.val (.ref a0)] [(.ref a0)])) rfl rfl (D d3_28)
  obtain ⟨fs, hr, hrun, hended, hW, hsame⟩ := X653.leave (v := some (.int (0 : Int32))) (fun h => by rw [Bd.returns] at h; cases h)
  refine ⟨_, _, pre0 _ ?_, hrun, hended, _, _, rfl, ?_, ⟨_, rfl⟩, hW, hsame.mono (by decide) (by decide)⟩
  · show own_S p e below s₁ (mkF m 0 #[.val (.ref a0)] []) _
    refine XS.aloadN X0.here hx rfl (D d3_0) rfl rfl (st648 _ (XS.ifYes X648.here hx rfl (pc0 := 4) (pc' := 17) rfl (D d3_4) rfl ((if0 _ _).trans (teq (by decide : (0 : Int32) = (0 : Int32))).1) (by decide) (by decide) (XS.aloadN X648.here hx rfl (D d3_17) rfl rfl (XS.dup X648.here hx rfl (D d3_18) rfl rfl (st649 _ (XS.iconst X649.here hx rfl (D d3_22) (XS.iadd X649.here hx rfl (D d3_23) rfl ?_)))))))
    show own_S p e below T649 (mkF m 24 #[.val (.ref a0)] [(.int ((0 : Int32) + (1 : Int32))), (.ref a0)]) _
    rw [show ((0 : Int32) + (1 : Int32)) = (1 : Int32) from by decide]
    show own_S p e below T649 (mkF m 24 #[.val (.ref a0)] [.int 1, (.ref a0)]) _
    refine st650 _ (XS.aloadN X650.here hx rfl (D d3_27) rfl rfl (st653 _ (XS.iconst X653.here hx rfl (D d3_31) (XS.isub X653.here hx rfl (D d3_32) rfl ?_))))
    show own_S p e below T653 (mkF m 33 #[.val (.ref a0)] [(.int ((1 : Int32) - (1 : Int32)))]) _
    rw [show ((1 : Int32) - (1 : Int32)) = (0 : Int32) from by decide]
    show own_S p e below T653 (mkF m 33 #[.val (.ref a0)] [.int 0]) _
    exact retI X653 hx Bd.returns (D d3_33) hr
  · show Q3 Z a0 w_costs w_groupOf w_positionOf w_firstEntry w_entryCounts w_entryRooms w_entryRows w_entryValues w_bounds w_slacks w_keys w_keyValues w_head w_inverse w_values w_groupDualPass w_groupDualValues w_rates w_rated w_ratedGroups w_variableCount w_entriesUsed w_rowCount w_objective w_pivotsSinceInversion h0 n0 _ T653.heap _
    rw [e653]
    exact ⟨rfl, N650, kp652, Ob650⟩
theorem own_ne_of_lt {a b : Int32} (h : a < b) : ¬ a = b := by rintro rfl; exact Int32.lt_irrefl h
theorem ef_5 (m : MethodId) (a0 : Addr) (p1 : Int32) (r2 : UInt64) : entryFrame m #[(.ref a0), (.int p1), (.double r2)] 4 = mkF m 0 #[.val (.ref a0), .val (.int p1), .val (.double r2), .second] [] := by first | (simp [entryFrame, mkF, argsToLocals, Value.category]; done) | rfl
abbrev own_d5 (p : Nat) (i : Instr) (n : Nat) : Prop := decode prog_56_method_4_code p = .ok (i, n)
theorem d5_0 : own_d5 0 (.aload_n 0) 1 := by decide +kernel
theorem d5_1 : own_d5 1 (.getfield 101) 3 := by decide +kernel
theorem d5_4 : own_d5 4 (.aload_n 0) 1 := by decide +kernel
theorem d5_5 : own_d5 5 (.getfield 29) 3 := by decide +kernel
theorem d5_8 : own_d5 8 .arraylength 1 := by decide +kernel
theorem d5_9 : own_d5 9 (.if_icmp .ne 37) 3 := by decide +kernel
theorem d5_46 : own_d5 46 (.aload_n 0) 1 := by decide +kernel
theorem d5_47 : own_d5 47 (.getfield 29) 3 := by decide +kernel
theorem d5_50 : own_d5 50 (.aload_n 0) 1 := by decide +kernel
theorem d5_51 : own_d5 51 (.getfield 101) 3 := by decide +kernel
theorem d5_54 : own_d5 54 (.iload_n 1) 1 := by decide +kernel
theorem d5_55 : own_d5 55 .iastore 1 := by decide +kernel
theorem d5_56 : own_d5 56 (.aload_n 0) 1 := by decide +kernel
theorem d5_57 : own_d5 57 (.getfield 32) 3 := by decide +kernel
theorem d5_60 : own_d5 60 (.aload_n 0) 1 := by decide +kernel
theorem d5_61 : own_d5 61 (.getfield 101) 3 := by decide +kernel
theorem d5_64 : own_d5 64 (.dload_n 2) 1 := by decide +kernel
theorem d5_65 : own_d5 65 .dastore 1 := by decide +kernel
theorem d5_66 : own_d5 66 (.aload_n 0) 1 := by decide +kernel
theorem d5_67 : own_d5 67 .dup 1 := by decide +kernel
theorem d5_68 : own_d5 68 (.getfield 101) 3 := by decide +kernel
theorem d5_71 : own_d5 71 (.iconst 1) 1 := by decide +kernel
theorem d5_72 : own_d5 72 .iadd 1 := by decide +kernel
theorem d5_73 : own_d5 73 (.putfield 101) 3 := by decide +kernel
theorem d5_76 : own_d5 76 .return_ 1 := by decide +kernel
def Q5 (Z : State) (a0 : Addr) (p1 : Int32) (r2 : UInt64) (w_costs w_groupOf w_positionOf w_firstEntry w_entryCounts w_entryRooms : Value) (ur uv : Addr) (w_bounds w_slacks w_keys w_keyValues w_head w_inverse w_values w_groupDualPass w_groupDualValues w_rates w_rated w_ratedGroups w_started w_groupCount w_variableCount : Value) (en : Int32) (w_rowCount w_objective w_pivotsSinceInversion : Value) (kur : ClassId) (lr : List Value) (kuv : ClassId) (lv : List Value) (h0 : Heap) (n0 : Nat) (v : Option Value) (h : Heap) (L : List Loc) : Prop := v = none ∧ Fr n0 L ∧ Keep h0 h [a0, ur, uv] ∧ own_fs own_K own_N Z h a0 [w_costs, w_groupOf, w_positionOf, w_firstEntry, w_entryCounts, w_entryRooms, (.ref ur), (.ref uv), w_bounds, w_slacks, w_keys, w_keyValues, w_head, w_inverse, w_values, w_groupDualPass, w_groupDualValues, w_rates, w_rated, w_ratedGroups, w_started, w_groupCount, w_variableCount, (.int (en + (1 : Int32))), w_rowCount, w_objective, w_pivotsSinceInversion] ∧ Arv Z h ur kur .int (64 : Int32) (lr.set (en).toNatClampNeg (.int p1)) (.int (0 : Int32)) ∧ Arv Z h uv kuv .double (64 : Int32) (lv.set (en).toNatClampNeg (.double r2)) (.double (0 : UInt64))
set_option maxRecDepth 65536 in
set_option maxHeartbeats 40000000 in
theorem rm5 (l : Launch) (Z : State) (ag : Array Value) (hw : ∀ d ∈ tables_1, d.before ag Z = true) (ws : List Jvm.Cond) (a0 : Addr) (p1 : Int32) (r2 : UInt64) (w_costs w_groupOf w_positionOf w_firstEntry w_entryCounts w_entryRooms : Value) (ur uv : Addr) (w_bounds w_slacks w_keys w_keyValues w_head w_inverse w_values w_groupDualPass w_groupDualValues w_rates w_rated w_ratedGroups w_started w_groupCount w_variableCount : Value) (en : Int32) (w_rowCount w_objective w_pivotsSinceInversion : Value) (kur : ClassId) (lr : List Value) (kuv : ClassId) (lv : List Value) (h0 : Heap) (n0 : Nat) (Z0 : n0 ≤ h0.size) (E_a0 : Exa Z h0 a0 own_K) (Ob_a0 : own_fs own_K own_N Z h0 a0 [w_costs, w_groupOf, w_positionOf, w_firstEntry, w_entryCounts, w_entryRooms, (.ref ur), (.ref uv), w_bounds, w_slacks, w_keys, w_keyValues, w_head, w_inverse, w_values, w_groupDualPass, w_groupDualValues, w_rates, w_rated, w_ratedGroups, w_started, w_groupCount, w_variableCount, (.int en), w_rowCount, w_objective, w_pivotsSinceInversion]) (V_ur : Arv Z h0 ur kur .int (64 : Int32) lr (.int (0 : Int32))) (V_uv : Arv Z h0 uv kuv .double (64 : Int32) lv (.double (0 : UInt64))) (ge_a0 : n0 ≤ a0) (ge_ur : n0 ≤ ur) (ge_uv : n0 ≤ uv) (ne_a0_ur : a0 ≠ ur) (ne_a0_uv : a0 ≠ uv) (ne_ur_uv : ur ≠ uv) (hen : ¬ en < 0 ∧ en < (64 : Int32)) (hlr : (en).toNatClampNeg < lr.length) (hlv : (en).toNatClampNeg < lv.length) :
    MetFree l (⟨own_K, "appendEntry", "(ID)V"⟩ : MethodName) (head1 (Jvm.Cond.code (⟨own_K, "appendEntry", "(ID)V"⟩ : MethodName) prog_56_method_4_code 4 none :: ws) ({ frames := 0, cells := 0, slots := 0, locals := 0 } : Room)) (fun a U => a = #[(.ref a0), (.int p1), (.double r2)] ∧ Z.Warmed39 U.vm ∧ U.heap = h0) (fun _ _ _ _ _ => True) (fun _ U o U' => ∃ v L, o = .returned v ∧ Q5 Z a0 p1 r2 w_costs w_groupOf w_positionOf w_firstEntry w_entryCounts w_entryRooms ur uv w_bounds w_slacks w_keys w_keyValues w_head w_inverse w_values w_groupDualPass w_groupDualValues w_rates w_rated w_ratedGroups w_started w_groupCount w_variableCount en w_rowCount w_objective w_pivotsSinceInversion kur lr kuv lv h0 n0 v U'.heap L ∧ FrameEnd U o U' L ({ frames := 0, cells := 0, slots := 0, locals := 0 } : Room).cells ({ frames := 0, cells := 0, slots := 0, locals := 0 } : Room).slots) := by
  refine MetFree.of_bodySF (plainFor_of_name pn_0) hisR ?_
  intro p e s m args below meth c s₁ Bd hml0 hP hK
  obtain ⟨rfl, hZ, hh⟩ := hP
  have hx := Bd.exec
  have hby := Bd.bytes
  have hml : c.maxLocals = 4 := hml0
  have hown : s.vm.findClass own_K = some m.cls := findClass_of_methodNamed Bd.named
  have hnm := (name_of_methodNamed Bd.named Bd.method).1
  have X0 : Stand p l e ({ frames := 0, cells := 0, slots := 0, locals := 0 } : Room) s m #[(.ref a0), (.int p1), (.double r2)] below meth c s₁ [] 0 0 := Stand.of_body Bd
  have e0 : s₁.heap = h0 := by rw [← hh, Bd.state]; rfl
  have N0 := Fr.nil n0
  have D : ∀ {pc : Nat} {r : Except DecodeError (Instr × Nat)}, decode prog_56_method_4_code pc = r → decode c.code pc = r := fun q => hb hby q
  have pre0 : ∀ t, Steps p.tables e below (s₁.setTop (mkF m 0 #[.val (.ref a0), .val (.int p1), .val (.double r2), .second] [])) t → Steps p.tables e below (s₁.setTop (entryFrame m #[(.ref a0), (.int p1), (.double r2)] 4)) t := fun t k => castTop (ef_5 m a0 p1 r2) k
  obtain ⟨T654, X654, e654, st654⟩ := own_gf X0 hx hZ hown (own_wk hw 70 rfl) e0 Ob_a0 23 rfl rfl (g := (mkF m 1 #[.val (.ref a0), .val (.int p1), .val (.double r2), .second] [(.ref a0)])) rfl rfl (D d5_1)
  obtain ⟨T655, X655, e655, st655⟩ := own_gf X654 hx hZ hown (own_wk hw 23 rfl) e654 Ob_a0 6 rfl rfl (g := (mkF m 5 #[.val (.ref a0), .val (.int p1), .val (.double r2), .second] [(.ref a0), (.int en)])) rfl rfl (D d5_5)
  obtain ⟨cl656, Ar656, -, S656, M656, -, -⟩ := id V_ur
  have ld656 := X655.arraylength hx (by rw [e655]; exact Ar656.1) (State.isArrayOf_alike hZ.alike Ar656.2.1) (g := (mkF m 8 #[.val (.ref a0), .val (.int p1), .val (.double r2), .second] [(.ref ur), (.int en)])) rfl rfl (D d5_8)
  obtain ⟨T657, X657, e657, st657⟩ := own_gf X655 hx hZ hown (own_wk hw 23 rfl) e655 Ob_a0 6 rfl rfl (g := (mkF m 47 #[.val (.ref a0), .val (.int p1), .val (.double r2), .second] [(.ref a0)])) rfl rfl (D d5_47)
  obtain ⟨T658, X658, e658, st658⟩ := own_gf X657 hx hZ hown (own_wk hw 70 rfl) e657 Ob_a0 23 rfl rfl (g := (mkF m 51 #[.val (.ref a0), .val (.int p1), .val (.double r2), .second] [(.ref a0), (.ref ur)])) rfl rfl (D d5_51)
  obtain ⟨T659, h659, X659, e659, W659, V659, st659⟩ := own_stI X658 hx hZ e658 V_ur (j := en) hen (en).toNatClampNeg rfl hlr (vs' := (lr.set (en).toNatClampNeg (.int p1))) rfl (g := (mkF m 55 #[.val (.ref a0), .val (.int p1), .val (.double r2), .second] [(.int p1), (.int en), (.ref ur)])) rfl rfl (D d5_55)
  have x660 := E_a0.wr W659
  have x661 := Ob_a0.other W659 ne_a0_ur
  have x662 := V_uv.other W659 (Ne.symm ne_ur_uv)
  have kp663 : Keep h0 h659 [a0, ur, uv] := (Keep.refl h0 [a0, ur, uv]).wr W659 (Or.inl (List.mem_of_getElem? (i := 1) rfl))
  have N659 := Fr.snoc X659 N0 ge_ur
  obtain ⟨T664, X664, e664, st664⟩ := own_gf X659 hx hZ hown (own_wk hw 25 rfl) e659 x661 7 rfl rfl (g := (mkF m 57 #[.val (.ref a0), .val (.int p1), .val (.double r2), .second] [(.ref a0)])) rfl rfl (D d5_57)
  obtain ⟨T665, X665, e665, st665⟩ := own_gf X664 hx hZ hown (own_wk hw 70 rfl) e664 x661 23 rfl rfl (g := (mkF m 61 #[.val (.ref a0), .val (.int p1), .val (.double r2), .second] [(.ref a0), (.ref uv)])) rfl rfl (D d5_61)
  obtain ⟨T666, h666, X666, e666, W666, V666, st666⟩ := own_stD X665 hx hZ e665 x662 (j := en) hen (en).toNatClampNeg rfl hlv (vs' := (lv.set (en).toNatClampNeg (.double r2))) rfl (g := (mkF m 65 #[.val (.ref a0), .val (.int p1), .val (.double r2), .second] [(.double r2), (.int en), (.ref uv)])) rfl rfl (D d5_65)
  have x667 := x660.wr W666
  have x668 := x661.other W666 ne_a0_uv
  have x669 := V659.other W666 ne_ur_uv
  have kp670 : Keep h0 h666 [a0, ur, uv] := kp663.wr W666 (Or.inl (List.mem_of_getElem? (i := 2) rfl))
  have N666 := Fr.snoc X666 N659 ge_uv
  obtain ⟨T671, X671, e671, st671⟩ := own_gf X666 hx hZ hown (own_wk hw 70 rfl) e666 x668 23 rfl rfl (g := (mkF m 68 #[.val (.ref a0), .val (.int p1), .val (.double r2), .second] [(.ref a0), (.ref a0)])) rfl rfl (D d5_68)
  obtain ⟨T672, h672, X672, e672, W672, st672⟩ := putF X671 hx hZ hown (host := "") (Or.inl (own_wk hw 70 rfl)) Via.refl e671 (x668.get 23 rfl rfl : Fld Z h666 a0 own_K "entriesUsed" "I" (.int en)) x667 (Or.inl (own_wk hw 71 rfl)) (own_wk hw 1 rfl) (ty := .int) (by decide) rfl rfl (g := (mkF m 73 #[.val (.ref a0), .val (.int p1), .val (.double r2), .second] [(.int (en + (1 : Int32))), (.ref a0)])) rfl rfl (D d5_73)
  have Ob672 := x668.put (own_layw hw) 23 rfl W672
  have x673 := x667.wr W672
  have x674 := x669.other W672 (Ne.symm ne_a0_ur)
  have x675 := V666.other W672 (Ne.symm ne_a0_uv)
  have kp676 : Keep h0 h672 [a0, ur, uv] := kp670.wr W672 (Or.inl (List.mem_of_getElem? (i := 0) rfl))
  have N672 := Fr.snoc X672 N666 ge_a0
  obtain ⟨fs, hr, hrun, hended, hW, hsame⟩ := X672.leave (v := none) (fun _ => rfl)
  refine ⟨_, _, pre0 _ ?_, hrun, hended, _, _, rfl, ?_, ⟨_, rfl⟩, hW, hsame.mono (by decide) (by decide)⟩
  · show own_S p e below s₁ (mkF m 0 #[.val (.ref a0), .val (.int p1), .val (.double r2), .second] []) _
    refine XS.aloadN X0.here hx rfl (D d5_0) rfl rfl (st654 _ (XS.aloadN X654.here hx rfl (D d5_4) rfl rfl (st655 _ (ld656 _ ?_))))
    rw [len_of S656 M656]
    show own_S p e below T655 (mkF m 9 #[.val (.ref a0), .val (.int p1), .val (.double r2), .second] [.int 64, (.int en)]) _
    refine XS.icmpYes X655.here hx rfl (pc0 := 9) (pc' := 46) rfl (D d5_9) rfl (feq (show ¬ (en = (64 : Int32)) from own_ne_of_lt hen.2)).2 (by decide) (by decide) (XS.aloadN X655.here hx rfl (D d5_46) rfl rfl (st657 _ (XS.aloadN X657.here hx rfl (D d5_50) rfl rfl (st658 _ (XS.iloadN X658.here hx rfl (D d5_54) rfl (st659 _ (XS.aloadN X659.here hx rfl (D d5_56) rfl rfl (st664 _ (XS.aloadN X664.here hx rfl (D d5_60) rfl rfl ?_)))))))))
    refine st665 _ (XS.dloadN X665.here hx rfl (D d5_64) rfl (st666 _ (XS.aloadN X666.here hx rfl (D d5_66) rfl rfl (XS.dup X666.here hx rfl (D d5_67) rfl rfl (st671 _ ?_)))))
    show own_S p e below T671 (mkF m 71 #[.val (.ref a0), .val (.int p1), .val (.double r2), .second] [(.int en), (.ref a0)]) _
    refine XS.iconst X671.here hx rfl (D d5_71) (XS.iadd X671.here hx rfl (D d5_72) rfl (st672 _ ?_))
    show own_S p e below T672 (mkF m 76 #[.val (.ref a0), .val (.int p1), .val (.double r2), .second] []) _
    exact X672.returnOut hx Bd.returns (D d5_76) hr
  · show Q5 Z a0 p1 r2 w_costs w_groupOf w_positionOf w_firstEntry w_entryCounts w_entryRooms ur uv w_bounds w_slacks w_keys w_keyValues w_head w_inverse w_values w_groupDualPass w_groupDualValues w_rates w_rated w_ratedGroups w_started w_groupCount w_variableCount en w_rowCount w_objective w_pivotsSinceInversion kur lr kuv lv h0 n0 _ T672.heap _
    rw [e672]
    exact ⟨rfl, N672, kp676, Ob672, x674, x675⟩
theorem own_gs {l : List Value} {i : Nat} {v d : Value} (h : i < l.length) : (l.set i v).getD i d = v := by rw [List.getD_eq_getElem?_getD, List.getElem?_set_self h]; rfl
theorem ef_4 (m : MethodId) (a0 : Addr) (r1 : UInt64) (p2 : Int32) (a3 : Addr) (a4 : Addr) : entryFrame m #[(.ref a0), (.double r1), (.int p2), (.ref a3), (.ref a4)] 8 = mkF m 0 #[.val (.ref a0), .val (.double r1), .second, .val (.int p2), .val (.ref a3), .val (.ref a4), .unset, .unset] [] := by first | (simp [entryFrame, mkF, argsToLocals, Value.category]; done) | rfl
abbrev own_loc1 (a0 : Addr) (r1 : UInt64) (p2 : Int32) (a3 a4 : Addr) : Array Slot := #[.val (.ref a0), .val (.double r1), .second, .val (.int p2), .val (.ref a3), .val (.ref a4), .unset, .unset]
abbrev own_d4 (p : Nat) (i : Instr) (n : Nat) : Prop := decode prog_56_method_3_code p = .ok (i, n)
theorem d4_0 : own_d4 0 (.aload_n 0) 1 := by decide +kernel
theorem d4_1 : own_d4 1 (.getfield 89) 3 := by decide +kernel
theorem d4_4 : own_d4 4 (.istore 6) 2 := by decide +kernel
abbrev own_loc2 (a0 : Addr) (r1 : UInt64) (p2 : Int32) (a3 a4 : Addr) (vn : Int32) : Array Slot := #[.val (.ref a0), .val (.double r1), .second, .val (.int p2), .val (.ref a3), .val (.ref a4), .val (.int vn), .unset]
theorem d4_6 : own_d4 6 (.iload 6) 2 := by decide +kernel
theorem d4_8 : own_d4 8 (.aload_n 0) 1 := by decide +kernel
theorem d4_9 : own_d4 9 (.getfield 7) 3 := by decide +kernel
theorem d4_12 : own_d4 12 .arraylength 1 := by decide +kernel
theorem d4_13 : own_d4 13 (.if_icmp .ne 87) 3 := by decide +kernel
theorem d4_100 : own_d4 100 (.aload_n 0) 1 := by decide +kernel
theorem d4_101 : own_d4 101 .dup 1 := by decide +kernel
theorem d4_102 : own_d4 102 (.getfield 89) 3 := by decide +kernel
theorem d4_105 : own_d4 105 (.iconst 1) 1 := by decide +kernel
theorem d4_106 : own_d4 106 .iadd 1 := by decide +kernel
theorem d4_107 : own_d4 107 (.putfield 89) 3 := by decide +kernel
theorem d4_110 : own_d4 110 (.aload_n 0) 1 := by decide +kernel
theorem d4_111 : own_d4 111 (.getfield 7) 3 := by decide +kernel
theorem d4_114 : own_d4 114 (.iload 6) 2 := by decide +kernel
theorem d4_116 : own_d4 116 (.dload_n 1) 1 := by decide +kernel
theorem d4_117 : own_d4 117 .dastore 1 := by decide +kernel
theorem d4_118 : own_d4 118 (.aload_n 0) 1 := by decide +kernel
theorem d4_119 : own_d4 119 (.getfield 13) 3 := by decide +kernel
theorem d4_122 : own_d4 122 (.iload 6) 2 := by decide +kernel
theorem d4_124 : own_d4 124 (.iload_n 3) 1 := by decide +kernel
theorem d4_125 : own_d4 125 .iastore 1 := by decide +kernel
theorem d4_126 : own_d4 126 (.aload_n 0) 1 := by decide +kernel
theorem d4_127 : own_d4 127 (.getfield 17) 3 := by decide +kernel
theorem d4_130 : own_d4 130 (.iload 6) 2 := by decide +kernel
theorem d4_132 : own_d4 132 (.iconst (-1)) 1 := by decide +kernel
theorem d4_133 : own_d4 133 .iastore 1 := by decide +kernel
theorem d4_134 : own_d4 134 (.aload_n 0) 1 := by decide +kernel
theorem d4_135 : own_d4 135 (.getfield 20) 3 := by decide +kernel
theorem d4_138 : own_d4 138 (.iload 6) 2 := by decide +kernel
theorem d4_140 : own_d4 140 (.aload_n 0) 1 := by decide +kernel
theorem d4_141 : own_d4 141 (.getfield 101) 3 := by decide +kernel
theorem d4_144 : own_d4 144 .iastore 1 := by decide +kernel
theorem d4_145 : own_d4 145 (.iconst 0) 1 := by decide +kernel
theorem d4_146 : own_d4 146 (.istore 7) 2 := by decide +kernel
abbrev own_loc3 (a0 : Addr) (r1 : UInt64) (p2 : Int32) (a3 a4 : Addr) (vn : Int32) : Array Slot := #[.val (.ref a0), .val (.double r1), .second, .val (.int p2), .val (.ref a3), .val (.ref a4), .val (.int vn), .val (.int 0)]
theorem d4_148 : own_d4 148 (.iload 7) 2 := by decide +kernel
theorem d4_150 : own_d4 150 (.aload 4) 2 := by decide +kernel
theorem d4_152 : own_d4 152 .arraylength 1 := by decide +kernel
theorem d4_153 : own_d4 153 (.if_icmp .ge 44) 3 := by decide +kernel
theorem d4_197 : own_d4 197 (.aload_n 0) 1 := by decide +kernel
theorem d4_198 : own_d4 198 (.getfield 26) 3 := by decide +kernel
theorem d4_201 : own_d4 201 (.iload 6) 2 := by decide +kernel
theorem d4_203 : own_d4 203 (.aload_n 0) 1 := by decide +kernel
theorem d4_204 : own_d4 204 (.getfield 23) 3 := by decide +kernel
theorem d4_207 : own_d4 207 (.iload 6) 2 := by decide +kernel
theorem d4_209 : own_d4 209 .iaload 1 := by decide +kernel
theorem d4_210 : own_d4 210 .iastore 1 := by decide +kernel
theorem d4_211 : own_d4 211 (.iload 6) 2 := by decide +kernel
theorem d4_213 : own_d4 213 .ireturn 1 := by decide +kernel
def Q4_0 (Z : State) (a0 : Addr) (r1 : UInt64) (p2 : Int32) (a3 a4 uc ug up uf ue um ur uv : Addr) (w_bounds w_slacks w_keys w_keyValues w_head w_inverse w_values w_groupDualPass w_groupDualValues w_rates w_rated w_ratedGroups w_started w_groupCount : Value) (vn en : Int32) (w_rowCount w_objective w_pivotsSinceInversion : Value) (kuc : ClassId) (lc : List Value) (kug : ClassId) (lg : List Value) (kup : ClassId) (lp : List Value) (kuf : ClassId) (lf : List Value) (kue : ClassId) (le : List Value) (kum : ClassId) (lm : List Value) (kur : ClassId) (lr : List Value) (kuv : ClassId) (lv : List Value) (ka3 ka4 : ClassId) (h0 : Heap) (n0 : Nat) (v : Option Value) (h : Heap) (L : List Loc) : Prop := v = some (.int vn) ∧ Fr n0 L ∧ Keep h0 h [a0, uc, ug, up, uf, ue, um, ur, uv] ∧ own_fs own_K own_N Z h a0 [(.ref uc), (.ref ug), (.ref up), (.ref uf), (.ref ue), (.ref um), (.ref ur), (.ref uv), w_bounds, w_slacks, w_keys, w_keyValues, w_head, w_inverse, w_values, w_groupDualPass, w_groupDualValues, w_rates, w_rated, w_ratedGroups, w_started, w_groupCount, (.int (vn + (1 : Int32))), (.int en), w_rowCount, w_objective, w_pivotsSinceInversion] ∧ Arv Z h uc kuc .double (16 : Int32) (lc.set (vn).toNatClampNeg (.double r1)) (.double (0 : UInt64)) ∧ Arv Z h ug kug .int (16 : Int32) (lg.set (vn).toNatClampNeg (.int p2)) (.int (0 : Int32)) ∧ Arv Z h up kup .int (16 : Int32) (lp.set (vn).toNatClampNeg (.int (-1 : Int32))) (.int (0 : Int32)) ∧ Arv Z h uf kuf .int (16 : Int32) (lf.set (vn).toNatClampNeg (.int en)) (.int (0 : Int32)) ∧ Arv Z h ue kue .int (16 : Int32) le (.int (0 : Int32)) ∧ Arv Z h um kum .int (16 : Int32) (lm.set (vn).toNatClampNeg (.int (0 : Int32))) (.int (0 : Int32)) ∧ Arv Z h ur kur .int (64 : Int32) lr (.int (0 : Int32)) ∧ Arv Z h uv kuv .double (64 : Int32) lv (.double (0 : UInt64))
set_option maxRecDepth 65536 in
set_option maxHeartbeats 40000000 in
theorem rm4_0 (l : Launch) (Z : State) (ag : Array Value) (hw : ∀ d ∈ tables_1, d.before ag Z = true) (ws : List Jvm.Cond) (a0 : Addr) (r1 : UInt64) (p2 : Int32) (a3 a4 uc ug up uf ue um ur uv : Addr) (w_bounds w_slacks w_keys w_keyValues w_head w_inverse w_values w_groupDualPass w_groupDualValues w_rates w_rated w_ratedGroups w_started w_groupCount : Value) (vn en : Int32) (w_rowCount w_objective w_pivotsSinceInversion : Value) (kuc : ClassId) (lc : List Value) (kug : ClassId) (lg : List Value) (kup : ClassId) (lp : List Value) (kuf : ClassId) (lf : List Value) (kue : ClassId) (le : List Value) (kum : ClassId) (lm : List Value) (kur : ClassId) (lr : List Value) (kuv : ClassId) (lv : List Value) (ka3 ka4 : ClassId) (h0 : Heap) (n0 : Nat) (Z0 : n0 ≤ h0.size) (E_a0 : Exa Z h0 a0 own_K) (Ob_a0 : own_fs own_K own_N Z h0 a0 [(.ref uc), (.ref ug), (.ref up), (.ref uf), (.ref ue), (.ref um), (.ref ur), (.ref uv), w_bounds, w_slacks, w_keys, w_keyValues, w_head, w_inverse, w_values, w_groupDualPass, w_groupDualValues, w_rates, w_rated, w_ratedGroups, w_started, w_groupCount, (.int vn), (.int en), w_rowCount, w_objective, w_pivotsSinceInversion]) (V_uc : Arv Z h0 uc kuc .double (16 : Int32) lc (.double (0 : UInt64))) (V_ug : Arv Z h0 ug kug .int (16 : Int32) lg (.int (0 : Int32))) (V_up : Arv Z h0 up kup .int (16 : Int32) lp (.int (0 : Int32))) (V_uf : Arv Z h0 uf kuf .int (16 : Int32) lf (.int (0 : Int32))) (V_ue : Arv Z h0 ue kue .int (16 : Int32) le (.int (0 : Int32))) (V_um : Arv Z h0 um kum .int (16 : Int32) lm (.int (0 : Int32))) (V_ur : Arv Z h0 ur kur .int (64 : Int32) lr (.int (0 : Int32))) (V_uv : Arv Z h0 uv kuv .double (64 : Int32) lv (.double (0 : UInt64))) (V_a3 : Arv Z h0 a3 ka3 .int (0 : Int32) [] (.int (0 : Int32))) (V_a4 : Arv Z h0 a4 ka4 .double (0 : Int32) [] (.double (0 : UInt64))) (ge_a0 : n0 ≤ a0) (ge_uc : n0 ≤ uc) (ge_ug : n0 ≤ ug) (ge_up : n0 ≤ up) (ge_uf : n0 ≤ uf) (ge_ue : n0 ≤ ue) (ge_um : n0 ≤ um) (ge_ur : n0 ≤ ur) (ge_uv : n0 ≤ uv) (ne_a0_uc : a0 ≠ uc) (ne_a0_ug : a0 ≠ ug) (ne_a0_up : a0 ≠ up) (ne_a0_uf : a0 ≠ uf) (ne_a0_ue : a0 ≠ ue) (ne_a0_um : a0 ≠ um) (ne_a0_ur : a0 ≠ ur) (ne_a0_uv : a0 ≠ uv) (ne_a0_a3 : a0 ≠ a3) (ne_a0_a4 : a0 ≠ a4) (ne_uc_ug : uc ≠ ug) (ne_uc_up : uc ≠ up) (ne_uc_uf : uc ≠ uf) (ne_uc_ue : uc ≠ ue) (ne_uc_um : uc ≠ um) (ne_uc_ur : uc ≠ ur) (ne_uc_uv : uc ≠ uv) (ne_uc_a3 : uc ≠ a3) (ne_uc_a4 : uc ≠ a4) (ne_ug_up : ug ≠ up) (ne_ug_uf : ug ≠ uf) (ne_ug_ue : ug ≠ ue) (ne_ug_um : ug ≠ um) (ne_ug_ur : ug ≠ ur) (ne_ug_uv : ug ≠ uv) (ne_ug_a3 : ug ≠ a3) (ne_ug_a4 : ug ≠ a4) (ne_up_uf : up ≠ uf) (ne_up_ue : up ≠ ue) (ne_up_um : up ≠ um) (ne_up_ur : up ≠ ur) (ne_up_uv : up ≠ uv) (ne_up_a3 : up ≠ a3) (ne_up_a4 : up ≠ a4) (ne_uf_ue : uf ≠ ue) (ne_uf_um : uf ≠ um) (ne_uf_ur : uf ≠ ur) (ne_uf_uv : uf ≠ uv) (ne_uf_a3 : uf ≠ a3) (ne_uf_a4 : uf ≠ a4) (ne_ue_um : ue ≠ um) (ne_ue_ur : ue ≠ ur) (ne_ue_uv : ue ≠ uv) (ne_ue_a3 : ue ≠ a3) (ne_ue_a4 : ue ≠ a4) (ne_um_ur : um ≠ ur) (ne_um_uv : um ≠ uv) (ne_um_a3 : um ≠ a3) (ne_um_a4 : um ≠ a4) (ne_ur_uv : ur ≠ uv) (ne_ur_a3 : ur ≠ a3) (ne_ur_a4 : ur ≠ a4) (ne_uv_a3 : uv ≠ a3) (ne_uv_a4 : uv ≠ a4) (hvn : ¬ vn < 0 ∧ vn < (16 : Int32)) (hle : le.getD (vn).toNatClampNeg (.int (0 : Int32)) = .int (0 : Int32)) (hl_uc : (vn).toNatClampNeg < lc.length) (hl_ug : (vn).toNatClampNeg < lg.length) (hl_up : (vn).toNatClampNeg < lp.length) (hl_uf : (vn).toNatClampNeg < lf.length) (hl_ue : (vn).toNatClampNeg < le.length) (hl_um : (vn).toNatClampNeg < lm.length) :
    MetFree l (⟨own_K, "addVariable", "(DI[I[D)I"⟩ : MethodName) (head1 (Jvm.Cond.code (⟨own_K, "addVariable", "(DI[I[D)I"⟩ : MethodName) prog_56_method_3_code 8 (some .int) :: ws) ({ frames := 0, cells := 0, slots := 0, locals := 0 } : Room)) (fun a U => a = #[(.ref a0), (.double r1), (.int p2), (.ref a3), (.ref a4)] ∧ Z.Warmed39 U.vm ∧ U.heap = h0) (fun _ _ _ _ _ => True) (fun _ U o U' => ∃ v L, o = .returned v ∧ Q4_0 Z a0 r1 p2 a3 a4 uc ug up uf ue um ur uv w_bounds w_slacks w_keys w_keyValues w_head w_inverse w_values w_groupDualPass w_groupDualValues w_rates w_rated w_ratedGroups w_started w_groupCount vn en w_rowCount w_objective w_pivotsSinceInversion kuc lc kug lg kup lp kuf lf kue le kum lm kur lr kuv lv ka3 ka4 h0 n0 v U'.heap L ∧ FrameEnd U o U' L ({ frames := 0, cells := 0, slots := 0, locals := 0 } : Room).cells ({ frames := 0, cells := 0, slots := 0, locals := 0 } : Room).slots) := by
  refine MetFree.of_bodySF (plainFor_of_name pn_0) hisR ?_
  intro p e s m args below meth c s₁ Bd hml0 hP hK
  obtain ⟨rfl, hZ, hh⟩ := hP
  have hx := Bd.exec
  have hby := Bd.bytes
  have hml : c.maxLocals = 8 := hml0
  have hown : s.vm.findClass own_K = some m.cls := findClass_of_methodNamed Bd.named
  have hnm := (name_of_methodNamed Bd.named Bd.method).1
  have X0 : Stand p l e ({ frames := 0, cells := 0, slots := 0, locals := 0 } : Room) s m #[(.ref a0), (.double r1), (.int p2), (.ref a3), (.ref a4)] below meth c s₁ [] 0 0 := Stand.of_body Bd
  have e0 : s₁.heap = h0 := by rw [← hh, Bd.state]; rfl
  have N0 := Fr.nil n0
  have D : ∀ {pc : Nat} {r : Except DecodeError (Instr × Nat)}, decode prog_56_method_3_code pc = r → decode c.code pc = r := fun q => hb hby q
  have pre0 : ∀ t, Steps p.tables e below (s₁.setTop (mkF m 0 #[.val (.ref a0), .val (.double r1), .second, .val (.int p2), .val (.ref a3), .val (.ref a4), .unset, .unset] [])) t → Steps p.tables e below (s₁.setTop (entryFrame m #[(.ref a0), (.double r1), (.int p2), (.ref a3), (.ref a4)] 8)) t := fun t k => castTop (ef_4 m a0 r1 p2 a3 a4) k
  obtain ⟨T677, X677, e677, st677⟩ := own_gf X0 hx hZ hown (own_wk hw 68 rfl) e0 Ob_a0 22 rfl rfl (g := (mkF m 1 (own_loc1 a0 r1 p2 a3 a4) [(.ref a0)])) rfl rfl (D d4_1)
  obtain ⟨T678, X678, e678, st678⟩ := own_gf X677 hx hZ hown (own_wk hw 10 rfl) e677 Ob_a0 0 rfl rfl (g := (mkF m 9 (own_loc2 a0 r1 p2 a3 a4 vn) [(.ref a0), (.int vn)])) rfl rfl (D d4_9)
  obtain ⟨cl679, Ar679, -, S679, M679, -, -⟩ := id V_uc
  have ld679 := X678.arraylength hx (by rw [e678]; exact Ar679.1) (State.isArrayOf_alike hZ.alike Ar679.2.1) (g := (mkF m 12 (own_loc2 a0 r1 p2 a3 a4 vn) [(.ref uc), (.int vn)])) rfl rfl (D d4_12)
  obtain ⟨T680, X680, e680, st680⟩ := own_gf X678 hx hZ hown (own_wk hw 68 rfl) e678 Ob_a0 22 rfl rfl (g := (mkF m 102 (own_loc2 a0 r1 p2 a3 a4 vn) [(.ref a0), (.ref a0)])) rfl rfl (D d4_102)
  obtain ⟨T681, h681, X681, e681, W681, st681⟩ := putF X680 hx hZ hown (host := "") (Or.inl (own_wk hw 68 rfl)) Via.refl e680 (Ob_a0.get 22 rfl rfl : Fld Z h0 a0 own_K "variableCount" "I" (.int vn)) E_a0 (Or.inl (own_wk hw 69 rfl)) (own_wk hw 1 rfl) (ty := .int) (by decide) rfl rfl (g := (mkF m 107 (own_loc2 a0 r1 p2 a3 a4 vn) [(.int (vn + (1 : Int32))), (.ref a0)])) rfl rfl (D d4_107)
  have Ob681 := Ob_a0.put (own_layw hw) 22 rfl W681
  have x682 := E_a0.wr W681
  have x683 := V_uc.other W681 (Ne.symm ne_a0_uc)
  have x684 := V_ug.other W681 (Ne.symm ne_a0_ug)
  have x685 := V_up.other W681 (Ne.symm ne_a0_up)
  have x686 := V_uf.other W681 (Ne.symm ne_a0_uf)
  have x687 := V_ue.other W681 (Ne.symm ne_a0_ue)
  have x688 := V_um.other W681 (Ne.symm ne_a0_um)
  have x689 := V_ur.other W681 (Ne.symm ne_a0_ur)
  have x690 := V_uv.other W681 (Ne.symm ne_a0_uv)
  have x691 := V_a3.other W681 (Ne.symm ne_a0_a3)
  have x692 := V_a4.other W681 (Ne.symm ne_a0_a4)
  have kp693 : Keep h0 h681 [a0, uc, ug, up, uf, ue, um, ur, uv] := (Keep.refl h0 [a0, uc, ug, up, uf, ue, um, ur, uv]).wr W681 (Or.inl (List.mem_of_getElem? (i := 0) rfl))
  have N681 := Fr.snoc X681 N0 ge_a0
  obtain ⟨T694, X694, e694, st694⟩ := own_gf X681 hx hZ hown (own_wk hw 10 rfl) e681 Ob681 0 rfl rfl (g := (mkF m 111 (own_loc2 a0 r1 p2 a3 a4 vn) [(.ref a0)])) rfl rfl (D d4_111)
  obtain ⟨T695, h695, X695, e695, W695, V695, st695⟩ := own_stD X694 hx hZ e694 x683 (j := vn) hvn (vn).toNatClampNeg rfl hl_uc (vs' := (lc.set (vn).toNatClampNeg (.double r1))) rfl (g := (mkF m 117 (own_loc2 a0 r1 p2 a3 a4 vn) [(.double r1), (.int vn), (.ref uc)])) rfl rfl (D d4_117)
  have x696 := x682.wr W695
  have x697 := x684.other W695 (Ne.symm ne_uc_ug)
  have x698 := x685.other W695 (Ne.symm ne_uc_up)
  have x699 := x686.other W695 (Ne.symm ne_uc_uf)
  have x700 := x687.other W695 (Ne.symm ne_uc_ue)
  have x701 := x688.other W695 (Ne.symm ne_uc_um)
  have x702 := x689.other W695 (Ne.symm ne_uc_ur)
  have x703 := x690.other W695 (Ne.symm ne_uc_uv)
  have x704 := x691.other W695 (Ne.symm ne_uc_a3)
  have x705 := x692.other W695 (Ne.symm ne_uc_a4)
  have x706 := Ob681.other W695 ne_a0_uc
  have kp707 : Keep h0 h695 [a0, uc, ug, up, uf, ue, um, ur, uv] := kp693.wr W695 (Or.inl (List.mem_of_getElem? (i := 1) rfl))
  have N695 := Fr.snoc X695 N681 ge_uc
  obtain ⟨T708, X708, e708, st708⟩ := own_gf X695 hx hZ hown (own_wk hw 13 rfl) e695 x706 1 rfl rfl (g := (mkF m 119 (own_loc2 a0 r1 p2 a3 a4 vn) [(.ref a0)])) rfl rfl (D d4_119)
  obtain ⟨T709, h709, X709, e709, W709, V709, st709⟩ := own_stI X708 hx hZ e708 x697 (j := vn) hvn (vn).toNatClampNeg rfl hl_ug (vs' := (lg.set (vn).toNatClampNeg (.int p2))) rfl (g := (mkF m 125 (own_loc2 a0 r1 p2 a3 a4 vn) [(.int p2), (.int vn), (.ref ug)])) rfl rfl (D d4_125)
  have x710 := x696.wr W709
  have x711 := x698.other W709 (Ne.symm ne_ug_up)
  have x712 := x699.other W709 (Ne.symm ne_ug_uf)
  have x713 := x700.other W709 (Ne.symm ne_ug_ue)
  have x714 := x701.other W709 (Ne.symm ne_ug_um)
  have x715 := x702.other W709 (Ne.symm ne_ug_ur)
  have x716 := x703.other W709 (Ne.symm ne_ug_uv)
  have x717 := x704.other W709 (Ne.symm ne_ug_a3)
  have x718 := x705.other W709 (Ne.symm ne_ug_a4)
  have x719 := x706.other W709 ne_a0_ug
  have x720 := V695.other W709 ne_uc_ug
  have kp721 : Keep h0 h709 [a0, uc, ug, up, uf, ue, um, ur, uv] := kp707.wr W709 (Or.inl (List.mem_of_getElem? (i := 2) rfl))
  have N709 := Fr.snoc X709 N695 ge_ug
  obtain ⟨T722, X722, e722, st722⟩ := own_gf X709 hx hZ hown (own_wk hw 15 rfl) e709 x719 2 rfl rfl (g := (mkF m 127 (own_loc2 a0 r1 p2 a3 a4 vn) [(.ref a0)])) rfl rfl (D d4_127)
  obtain ⟨T723, h723, X723, e723, W723, V723, st723⟩ := own_stI X722 hx hZ e722 x711 (j := vn) hvn (vn).toNatClampNeg rfl hl_up (vs' := (lp.set (vn).toNatClampNeg (.int (-1 : Int32)))) rfl (g := (mkF m 133 (own_loc2 a0 r1 p2 a3 a4 vn) [.int (-1), (.int vn), (.ref up)])) rfl rfl (D d4_133)
  have x724 := x710.wr W723
  have x725 := x712.other W723 (Ne.symm ne_up_uf)
  have x726 := x713.other W723 (Ne.symm ne_up_ue)
  have x727 := x714.other W723 (Ne.symm ne_up_um)
  have x728 := x715.other W723 (Ne.symm ne_up_ur)
  have x729 := x716.other W723 (Ne.symm ne_up_uv)
  have x730 := x717.other W723 (Ne.symm ne_up_a3)
  have x731 := x718.other W723 (Ne.symm ne_up_a4)
  have x732 := x719.other W723 ne_a0_up
  have x733 := x720.other W723 ne_uc_up
  have x734 := V709.other W723 ne_ug_up
  have kp735 : Keep h0 h723 [a0, uc, ug, up, uf, ue, um, ur, uv] := kp721.wr W723 (Or.inl (List.mem_of_getElem? (i := 3) rfl))
  have N723 := Fr.snoc X723 N709 ge_up
  obtain ⟨T736, X736, e736, st736⟩ := own_gf X723 hx hZ hown (own_wk hw 17 rfl) e723 x732 3 rfl rfl (g := (mkF m 135 (own_loc2 a0 r1 p2 a3 a4 vn) [(.ref a0)])) rfl rfl (D d4_135)
  obtain ⟨T737, X737, e737, st737⟩ := own_gf X736 hx hZ hown (own_wk hw 70 rfl) e736 x732 23 rfl rfl (g := (mkF m 141 (own_loc2 a0 r1 p2 a3 a4 vn) [(.ref a0), (.int vn), (.ref uf)])) rfl rfl (D d4_141)
  obtain ⟨T738, h738, X738, e738, W738, V738, st738⟩ := own_stI X737 hx hZ e737 x725 (j := vn) hvn (vn).toNatClampNeg rfl hl_uf (vs' := (lf.set (vn).toNatClampNeg (.int en))) rfl (g := (mkF m 144 (own_loc2 a0 r1 p2 a3 a4 vn) [(.int en), (.int vn), (.ref uf)])) rfl rfl (D d4_144)
  have x739 := x724.wr W738
  have x740 := x726.other W738 (Ne.symm ne_uf_ue)
  have x741 := x727.other W738 (Ne.symm ne_uf_um)
  have x742 := x728.other W738 (Ne.symm ne_uf_ur)
  have x743 := x729.other W738 (Ne.symm ne_uf_uv)
  have x744 := x730.other W738 (Ne.symm ne_uf_a3)
  have x745 := x731.other W738 (Ne.symm ne_uf_a4)
  have x746 := x732.other W738 ne_a0_uf
  have x747 := x733.other W738 ne_uc_uf
  have x748 := x734.other W738 ne_ug_uf
  have x749 := V723.other W738 ne_up_uf
  have kp750 : Keep h0 h738 [a0, uc, ug, up, uf, ue, um, ur, uv] := kp735.wr W738 (Or.inl (List.mem_of_getElem? (i := 4) rfl))
  have N738 := Fr.snoc X738 N723 ge_uf
  obtain ⟨cl751, Ar751, -, S751, M751, -, -⟩ := id x744
  have ld751 := X738.arraylength hx (by rw [e738]; exact Ar751.1) (State.isArrayOf_alike hZ.alike Ar751.2.1) (g := (mkF m 152 (own_loc3 a0 r1 p2 a3 a4 vn) [(.ref a3), .int 0])) rfl rfl (D d4_152)
  obtain ⟨T752, X752, e752, st752⟩ := own_gf X738 hx hZ hown (own_wk hw 21 rfl) e738 x746 5 rfl rfl (g := (mkF m 198 (own_loc3 a0 r1 p2 a3 a4 vn) [(.ref a0)])) rfl rfl (D d4_198)
  obtain ⟨T753, X753, e753, st753⟩ := own_gf X752 hx hZ hown (own_wk hw 19 rfl) e752 x746 4 rfl rfl (g := (mkF m 204 (own_loc3 a0 r1 p2 a3 a4 vn) [(.ref a0), (.int vn), (.ref um)])) rfl rfl (D d4_204)
  obtain ⟨T755, h755, X755, e755, W755, V755, st755⟩ := own_stI X753 hx hZ e753 x741 (j := vn) hvn (vn).toNatClampNeg rfl hl_um (vs' := (lm.set (vn).toNatClampNeg (.int (0 : Int32)))) rfl (g := (mkF m 210 (own_loc3 a0 r1 p2 a3 a4 vn) [.int 0, (.int vn), (.ref um)])) rfl rfl (D d4_210)
  have x756 := x739.wr W755
  have x757 := x740.other W755 ne_ue_um
  have x758 := x742.other W755 (Ne.symm ne_um_ur)
  have x759 := x743.other W755 (Ne.symm ne_um_uv)
  have x760 := x744.other W755 (Ne.symm ne_um_a3)
  have x761 := x745.other W755 (Ne.symm ne_um_a4)
  have x762 := x746.other W755 ne_a0_um
  have x763 := x747.other W755 ne_uc_um
  have x764 := x748.other W755 ne_ug_um
  have x765 := x749.other W755 ne_up_um
  have x766 := V738.other W755 ne_uf_um
  have kp767 : Keep h0 h755 [a0, uc, ug, up, uf, ue, um, ur, uv] := kp750.wr W755 (Or.inl (List.mem_of_getElem? (i := 6) rfl))
  have N755 := Fr.snoc X755 N738 ge_um
  obtain ⟨fs, hr, hrun, hended, hW, hsame⟩ := X755.leave (v := some (.int vn)) (fun h => by rw [Bd.returns] at h; cases h)
  refine ⟨_, _, pre0 _ ?_, hrun, hended, _, _, rfl, ?_, ⟨_, rfl⟩, hW, hsame.mono (by decide) (by decide)⟩
  · show own_S p e below s₁ (mkF m 0 (own_loc1 a0 r1 p2 a3 a4) []) _
    refine XS.aloadN X0.here hx rfl (D d4_0) rfl rfl (st677 _ (XS.istore X677.here hx rfl (D d4_4) rfl (l' := (own_loc2 a0 r1 p2 a3 a4 vn)) rfl (XS.iload X677.here hx rfl (D d4_6) rfl (XS.aloadN X677.here hx rfl (D d4_8) rfl rfl (st678 _ (ld679 _ ?_))))))
    rw [len_of S679 M679]
    show own_S p e below T678 (mkF m 13 (own_loc2 a0 r1 p2 a3 a4 vn) [.int 16, (.int vn)]) _
    refine XS.icmpYes X678.here hx rfl (pc0 := 13) (pc' := 100) rfl (D d4_13) rfl (feq (show ¬ (vn = (16 : Int32)) from own_ne_of_lt hvn.2)).2 (by decide) (by decide) (XS.aloadN X678.here hx rfl (D d4_100) rfl rfl (XS.dup X678.here hx rfl (D d4_101) rfl rfl (st680 _ (XS.iconst X680.here hx rfl (D d4_105) (XS.iadd X680.here hx rfl (D d4_106) rfl (st681 _ (XS.aloadN X681.here hx rfl (D d4_110) rfl rfl (st694 _ (XS.iload X694.here hx rfl (D d4_114) rfl ?_)))))))))
    refine XS.dloadN X694.here hx rfl (D d4_116) rfl (st695 _ (XS.aloadN X695.here hx rfl (D d4_118) rfl rfl (st708 _ ?_)))
    show own_S p e below T708 (mkF m 122 (own_loc2 a0 r1 p2 a3 a4 vn) [(.ref ug)]) _
    refine XS.iload X708.here hx rfl (D d4_122) rfl (XS.iloadN X708.here hx rfl (D d4_124) rfl (st709 _ (XS.aloadN X709.here hx rfl (D d4_126) rfl rfl (st722 _ (XS.iload X722.here hx rfl (D d4_130) rfl (XS.iconst X722.here hx rfl (D d4_132) (st723 _ (XS.aloadN X723.here hx rfl (D d4_134) rfl rfl (st736 _ ?_)))))))))
    refine XS.iload X736.here hx rfl (D d4_138) rfl (XS.aloadN X736.here hx rfl (D d4_140) rfl rfl (st737 _ (st738 _ ?_)))
    show own_S p e below T738 (mkF m 145 (own_loc2 a0 r1 p2 a3 a4 vn) []) _
    refine XS.iconst X738.here hx rfl (D d4_145) (XS.istore X738.here hx rfl (D d4_146) rfl (l' := (own_loc3 a0 r1 p2 a3 a4 vn)) rfl (XS.iload X738.here hx rfl (D d4_148) rfl (XS.aload X738.here hx rfl (D d4_150) rfl rfl (ld751 _ ?_))))
    rw [len_of S751 M751]
    show own_S p e below T738 (mkF m 153 (own_loc3 a0 r1 p2 a3 a4 vn) [.int 0, .int 0]) _
    refine XS.icmpYes X738.here hx rfl (pc0 := 153) (pc' := 197) rfl (D d4_153) rfl (flt (by decide : ¬ ((0 : Int32) < (0 : Int32)))).2.1 (by decide) (by decide) (XS.aloadN X738.here hx rfl (D d4_197) rfl rfl (st752 _ (XS.iload X752.here hx rfl (D d4_201) rfl (XS.aloadN X752.here hx rfl (D d4_203) rfl rfl (st753 _ (XS.iload X753.here hx rfl (D d4_207) rfl (own_ldI X753 hx hZ e753 x740 (j := vn) hvn (v := (.int (0 : Int32))) hle rfl rfl (D d4_209) (st755 _ (XS.iload X755.here hx rfl (D d4_211) rfl ?_)))))))))
    show own_S p e below T755 (mkF m 213 (own_loc3 a0 r1 p2 a3 a4 vn) [(.int vn)]) _
    exact retI X755 hx Bd.returns (D d4_213) hr
  · show Q4_0 Z a0 r1 p2 a3 a4 uc ug up uf ue um ur uv w_bounds w_slacks w_keys w_keyValues w_head w_inverse w_values w_groupDualPass w_groupDualValues w_rates w_rated w_ratedGroups w_started w_groupCount vn en w_rowCount w_objective w_pivotsSinceInversion kuc lc kug lg kup lp kuf lf kue le kum lm kur lr kuv lv ka3 ka4 h0 n0 _ T755.heap _
    rw [e755]
    exact ⟨rfl, N755, kp767, x762, x763, x764, x765, x766, x757, V755, x758, x759⟩
theorem d4_156 : own_d4 156 (.aload 5) 2 := by decide +kernel
theorem d4_158 : own_d4 158 (.iload 7) 2 := by decide +kernel
theorem d4_160 : own_d4 160 .daload 1 := by decide +kernel
theorem d4_161 : own_d4 161 (.dconst 0) 1 := by decide +kernel
theorem d4_162 : own_d4 162 (.dcmp .l) 1 := by decide +kernel
theorem d4_163 : own_d4 163 (.ifCond .eq 28) 3 := by decide +kernel
theorem d4_166 : own_d4 166 (.aload_n 0) 1 := by decide +kernel
theorem d4_167 : own_d4 167 (.aload 4) 2 := by decide +kernel
theorem d4_169 : own_d4 169 (.iload 7) 2 := by decide +kernel
theorem d4_171 : own_d4 171 .iaload 1 := by decide +kernel
theorem d4_172 : own_d4 172 (.aload 5) 2 := by decide +kernel
theorem d4_174 : own_d4 174 (.iload 7) 2 := by decide +kernel
theorem d4_176 : own_d4 176 .daload 1 := by decide +kernel
theorem pd_8 : parseMethodDescriptor "(ID)V" = some ⟨[.int, .double], none⟩ := by decide +kernel
theorem d4_177 : own_d4 177 (.invokevirtual 104) 3 := by decide +kernel
theorem d4_180 : own_d4 180 (.aload_n 0) 1 := by decide +kernel
theorem d4_181 : own_d4 181 (.getfield 23) 3 := by decide +kernel
theorem d4_184 : own_d4 184 (.iload 6) 2 := by decide +kernel
theorem d4_186 : own_d4 186 .dup2 1 := by decide +kernel
theorem d4_187 : own_d4 187 .iaload 1 := by decide +kernel
theorem d4_188 : own_d4 188 (.iconst 1) 1 := by decide +kernel
theorem d4_189 : own_d4 189 .iadd 1 := by decide +kernel
theorem d4_190 : own_d4 190 .iastore 1 := by decide +kernel
theorem d4_191 : own_d4 191 (.iinc 7 1) 3 := by decide +kernel
abbrev own_loc4 (a0 : Addr) (r1 : UInt64) (p2 : Int32) (a3 a4 : Addr) (vn : Int32) : Array Slot := #[.val (.ref a0), .val (.double r1), .second, .val (.int p2), .val (.ref a3), .val (.ref a4), .val (.int vn), .val (.int 1)]
theorem d4_194 : own_d4 194 (.goto (-46)) 3 := by decide +kernel
def Q4_1 (Z : State) (a0 : Addr) (r1 : UInt64) (p2 : Int32) (a3 a4 uc ug up uf ue um ur uv : Addr) (w_bounds w_slacks w_keys w_keyValues w_head w_inverse w_values w_groupDualPass w_groupDualValues w_rates w_rated w_ratedGroups w_started w_groupCount : Value) (vn en : Int32) (w_rowCount w_objective w_pivotsSinceInversion : Value) (kuc : ClassId) (lc : List Value) (kug : ClassId) (lg : List Value) (kup : ClassId) (lp : List Value) (kuf : ClassId) (lf : List Value) (kue : ClassId) (le : List Value) (kum : ClassId) (lm : List Value) (kur : ClassId) (lr : List Value) (kuv : ClassId) (lv : List Value) (ka3 : ClassId) (ro0 : Int32) (ka4 : ClassId) (xo0 : UInt64) (h0 : Heap) (n0 : Nat) (v : Option Value) (h : Heap) (L : List Loc) : Prop := v = some (.int vn) ∧ Fr n0 L ∧ Keep h0 h [a0, uc, ug, up, uf, ue, um, ur, uv] ∧ own_fs own_K own_N Z h a0 [(.ref uc), (.ref ug), (.ref up), (.ref uf), (.ref ue), (.ref um), (.ref ur), (.ref uv), w_bounds, w_slacks, w_keys, w_keyValues, w_head, w_inverse, w_values, w_groupDualPass, w_groupDualValues, w_rates, w_rated, w_ratedGroups, w_started, w_groupCount, (.int (vn + (1 : Int32))), (.int (en + (1 : Int32))), w_rowCount, w_objective, w_pivotsSinceInversion] ∧ Arv Z h uc kuc .double (16 : Int32) (lc.set (vn).toNatClampNeg (.double r1)) (.double (0 : UInt64)) ∧ Arv Z h ug kug .int (16 : Int32) (lg.set (vn).toNatClampNeg (.int p2)) (.int (0 : Int32)) ∧ Arv Z h up kup .int (16 : Int32) (lp.set (vn).toNatClampNeg (.int (-1 : Int32))) (.int (0 : Int32)) ∧ Arv Z h uf kuf .int (16 : Int32) (lf.set (vn).toNatClampNeg (.int en)) (.int (0 : Int32)) ∧ Arv Z h ue kue .int (16 : Int32) (le.set (vn).toNatClampNeg (.int (1 : Int32))) (.int (0 : Int32)) ∧ Arv Z h um kum .int (16 : Int32) (lm.set (vn).toNatClampNeg (.int (1 : Int32))) (.int (0 : Int32)) ∧ Arv Z h ur kur .int (64 : Int32) (lr.set (en).toNatClampNeg (.int ro0)) (.int (0 : Int32)) ∧ Arv Z h uv kuv .double (64 : Int32) (lv.set (en).toNatClampNeg (.double xo0)) (.double (0 : UInt64))
set_option maxRecDepth 65536 in
set_option maxHeartbeats 40000000 in
theorem rm4_1 (l : Launch) (Z : State) (ag : Array Value) (hw : ∀ d ∈ tables_1, d.before ag Z = true) (ws : List Jvm.Cond) (a0 : Addr) (r1 : UInt64) (p2 : Int32) (a3 a4 uc ug up uf ue um ur uv : Addr) (w_bounds w_slacks w_keys w_keyValues w_head w_inverse w_values w_groupDualPass w_groupDualValues w_rates w_rated w_ratedGroups w_started w_groupCount : Value) (vn en : Int32) (w_rowCount w_objective w_pivotsSinceInversion : Value) (kuc : ClassId) (lc : List Value) (kug : ClassId) (lg : List Value) (kup : ClassId) (lp : List Value) (kuf : ClassId) (lf : List Value) (kue : ClassId) (le : List Value) (kum : ClassId) (lm : List Value) (kur : ClassId) (lr : List Value) (kuv : ClassId) (lv : List Value) (ka3 : ClassId) (ro0 : Int32) (ka4 : ClassId) (xo0 : UInt64) (h0 : Heap) (n0 : Nat) (Z0 : n0 ≤ h0.size) (E_a0 : Exa Z h0 a0 own_K) (Ob_a0 : own_fs own_K own_N Z h0 a0 [(.ref uc), (.ref ug), (.ref up), (.ref uf), (.ref ue), (.ref um), (.ref ur), (.ref uv), w_bounds, w_slacks, w_keys, w_keyValues, w_head, w_inverse, w_values, w_groupDualPass, w_groupDualValues, w_rates, w_rated, w_ratedGroups, w_started, w_groupCount, (.int vn), (.int en), w_rowCount, w_objective, w_pivotsSinceInversion]) (V_uc : Arv Z h0 uc kuc .double (16 : Int32) lc (.double (0 : UInt64))) (V_ug : Arv Z h0 ug kug .int (16 : Int32) lg (.int (0 : Int32))) (V_up : Arv Z h0 up kup .int (16 : Int32) lp (.int (0 : Int32))) (V_uf : Arv Z h0 uf kuf .int (16 : Int32) lf (.int (0 : Int32))) (V_ue : Arv Z h0 ue kue .int (16 : Int32) le (.int (0 : Int32))) (V_um : Arv Z h0 um kum .int (16 : Int32) lm (.int (0 : Int32))) (V_ur : Arv Z h0 ur kur .int (64 : Int32) lr (.int (0 : Int32))) (V_uv : Arv Z h0 uv kuv .double (64 : Int32) lv (.double (0 : UInt64))) (V_a3 : Arv Z h0 a3 ka3 .int (1 : Int32) [(.int ro0)] (.int (0 : Int32))) (V_a4 : Arv Z h0 a4 ka4 .double (1 : Int32) [(.double xo0)] (.double (0 : UInt64))) (ge_a0 : n0 ≤ a0) (ge_uc : n0 ≤ uc) (ge_ug : n0 ≤ ug) (ge_up : n0 ≤ up) (ge_uf : n0 ≤ uf) (ge_ue : n0 ≤ ue) (ge_um : n0 ≤ um) (ge_ur : n0 ≤ ur) (ge_uv : n0 ≤ uv) (ne_a0_uc : a0 ≠ uc) (ne_a0_ug : a0 ≠ ug) (ne_a0_up : a0 ≠ up) (ne_a0_uf : a0 ≠ uf) (ne_a0_ue : a0 ≠ ue) (ne_a0_um : a0 ≠ um) (ne_a0_ur : a0 ≠ ur) (ne_a0_uv : a0 ≠ uv) (ne_a0_a3 : a0 ≠ a3) (ne_a0_a4 : a0 ≠ a4) (ne_uc_ug : uc ≠ ug) (ne_uc_up : uc ≠ up) (ne_uc_uf : uc ≠ uf) (ne_uc_ue : uc ≠ ue) (ne_uc_um : uc ≠ um) (ne_uc_ur : uc ≠ ur) (ne_uc_uv : uc ≠ uv) (ne_uc_a3 : uc ≠ a3) (ne_uc_a4 : uc ≠ a4) (ne_ug_up : ug ≠ up) (ne_ug_uf : ug ≠ uf) (ne_ug_ue : ug ≠ ue) (ne_ug_um : ug ≠ um) (ne_ug_ur : ug ≠ ur) (ne_ug_uv : ug ≠ uv) (ne_ug_a3 : ug ≠ a3) (ne_ug_a4 : ug ≠ a4) (ne_up_uf : up ≠ uf) (ne_up_ue : up ≠ ue) (ne_up_um : up ≠ um) (ne_up_ur : up ≠ ur) (ne_up_uv : up ≠ uv) (ne_up_a3 : up ≠ a3) (ne_up_a4 : up ≠ a4) (ne_uf_ue : uf ≠ ue) (ne_uf_um : uf ≠ um) (ne_uf_ur : uf ≠ ur) (ne_uf_uv : uf ≠ uv) (ne_uf_a3 : uf ≠ a3) (ne_uf_a4 : uf ≠ a4) (ne_ue_um : ue ≠ um) (ne_ue_ur : ue ≠ ur) (ne_ue_uv : ue ≠ uv) (ne_ue_a3 : ue ≠ a3) (ne_ue_a4 : ue ≠ a4) (ne_um_ur : um ≠ ur) (ne_um_uv : um ≠ uv) (ne_um_a3 : um ≠ a3) (ne_um_a4 : um ≠ a4) (ne_ur_uv : ur ≠ uv) (ne_ur_a3 : ur ≠ a3) (ne_ur_a4 : ur ≠ a4) (ne_uv_a3 : uv ≠ a3) (ne_uv_a4 : uv ≠ a4) (hvn : ¬ vn < 0 ∧ vn < (16 : Int32)) (hle : le.getD (vn).toNatClampNeg (.int (0 : Int32)) = .int (0 : Int32)) (hl_uc : (vn).toNatClampNeg < lc.length) (hl_ug : (vn).toNatClampNeg < lg.length) (hl_up : (vn).toNatClampNeg < lp.length) (hl_uf : (vn).toNatClampNeg < lf.length) (hl_ue : (vn).toNatClampNeg < le.length) (hl_um : (vn).toNatClampNeg < lm.length) (hen0 : ¬ en < 0 ∧ en < (64 : Int32)) (hlr0 : (en).toNatClampNeg < lr.length) (hlv0 : (en).toNatClampNeg < lv.length) (hz0 : ¬ (cmpValue (FP.dcmp xo0 (0 : UInt64)) .l) = (0 : Int32)) :
    MetFree l (⟨own_K, "addVariable", "(DI[I[D)I"⟩ : MethodName) (head1 (Jvm.Cond.code (⟨own_K, "addVariable", "(DI[I[D)I"⟩ : MethodName) prog_56_method_3_code 8 (some .int) :: ws) ({ frames := 1, cells := 0, slots := 0, locals := 15 } : Room)) (fun a U => a = #[(.ref a0), (.double r1), (.int p2), (.ref a3), (.ref a4)] ∧ Z.Warmed39 U.vm ∧ U.heap = h0) (fun _ _ _ _ _ => True) (fun _ U o U' => ∃ v L, o = .returned v ∧ Q4_1 Z a0 r1 p2 a3 a4 uc ug up uf ue um ur uv w_bounds w_slacks w_keys w_keyValues w_head w_inverse w_values w_groupDualPass w_groupDualValues w_rates w_rated w_ratedGroups w_started w_groupCount vn en w_rowCount w_objective w_pivotsSinceInversion kuc lc kug lg kup lp kuf lf kue le kum lm kur lr kuv lv ka3 ro0 ka4 xo0 h0 n0 v U'.heap L ∧ FrameEnd U o U' L ({ frames := 1, cells := 0, slots := 0, locals := 15 } : Room).cells ({ frames := 1, cells := 0, slots := 0, locals := 15 } : Room).slots) := by
  refine MetFree.of_bodySF (plainFor_of_name pn_0) hisR ?_
  intro p e s m args below meth c s₁ Bd hml0 hP hK
  obtain ⟨rfl, hZ, hh⟩ := hP
  have hx := Bd.exec
  have hby := Bd.bytes
  have hml : c.maxLocals = 8 := hml0
  have hown : s.vm.findClass own_K = some m.cls := findClass_of_methodNamed Bd.named
  have hnm := (name_of_methodNamed Bd.named Bd.method).1
  have X0 : Stand p l e ({ frames := 1, cells := 0, slots := 0, locals := 15 } : Room) s m #[(.ref a0), (.double r1), (.int p2), (.ref a3), (.ref a4)] below meth c s₁ [] 0 0 := Stand.of_body Bd
  have e0 : s₁.heap = h0 := by rw [← hh, Bd.state]; rfl
  have N0 := Fr.nil n0
  have D : ∀ {pc : Nat} {r : Except DecodeError (Instr × Nat)}, decode prog_56_method_3_code pc = r → decode c.code pc = r := fun q => hb hby q
  have pre0 : ∀ t, Steps p.tables e below (s₁.setTop (mkF m 0 #[.val (.ref a0), .val (.double r1), .second, .val (.int p2), .val (.ref a3), .val (.ref a4), .unset, .unset] [])) t → Steps p.tables e below (s₁.setTop (entryFrame m #[(.ref a0), (.double r1), (.int p2), (.ref a3), (.ref a4)] 8)) t := fun t k => castTop (ef_4 m a0 r1 p2 a3 a4) k
  obtain ⟨T768, X768, e768, st768⟩ := own_gf X0 hx hZ hown (own_wk hw 68 rfl) e0 Ob_a0 22 rfl rfl (g := (mkF m 1 (own_loc1 a0 r1 p2 a3 a4) [(.ref a0)])) rfl rfl (D d4_1)
  obtain ⟨T769, X769, e769, st769⟩ := own_gf X768 hx hZ hown (own_wk hw 10 rfl) e768 Ob_a0 0 rfl rfl (g := (mkF m 9 (own_loc2 a0 r1 p2 a3 a4 vn) [(.ref a0), (.int vn)])) rfl rfl (D d4_9)
  obtain ⟨cl770, Ar770, -, S770, M770, -, -⟩ := id V_uc
  have ld770 := X769.arraylength hx (by rw [e769]; exact Ar770.1) (State.isArrayOf_alike hZ.alike Ar770.2.1) (g := (mkF m 12 (own_loc2 a0 r1 p2 a3 a4 vn) [(.ref uc), (.int vn)])) rfl rfl (D d4_12)
  obtain ⟨T771, X771, e771, st771⟩ := own_gf X769 hx hZ hown (own_wk hw 68 rfl) e769 Ob_a0 22 rfl rfl (g := (mkF m 102 (own_loc2 a0 r1 p2 a3 a4 vn) [(.ref a0), (.ref a0)])) rfl rfl (D d4_102)
  obtain ⟨T772, h772, X772, e772, W772, st772⟩ := putF X771 hx hZ hown (host := "") (Or.inl (own_wk hw 68 rfl)) Via.refl e771 (Ob_a0.get 22 rfl rfl : Fld Z h0 a0 own_K "variableCount" "I" (.int vn)) E_a0 (Or.inl (own_wk hw 69 rfl)) (own_wk hw 1 rfl) (ty := .int) (by decide) rfl rfl (g := (mkF m 107 (own_loc2 a0 r1 p2 a3 a4 vn) [(.int (vn + (1 : Int32))), (.ref a0)])) rfl rfl (D d4_107)
  have Ob772 := Ob_a0.put (own_layw hw) 22 rfl W772
  have x773 := E_a0.wr W772
  have x774 := V_uc.other W772 (Ne.symm ne_a0_uc)
  have x775 := V_ug.other W772 (Ne.symm ne_a0_ug)
  have x776 := V_up.other W772 (Ne.symm ne_a0_up)
  have x777 := V_uf.other W772 (Ne.symm ne_a0_uf)
  have x778 := V_ue.other W772 (Ne.symm ne_a0_ue)
  have x779 := V_um.other W772 (Ne.symm ne_a0_um)
  have x780 := V_ur.other W772 (Ne.symm ne_a0_ur)
  have x781 := V_uv.other W772 (Ne.symm ne_a0_uv)
  have x782 := V_a3.other W772 (Ne.symm ne_a0_a3)
  have x783 := V_a4.other W772 (Ne.symm ne_a0_a4)
  have kp784 : Keep h0 h772 [a0, uc, ug, up, uf, ue, um, ur, uv] := (Keep.refl h0 [a0, uc, ug, up, uf, ue, um, ur, uv]).wr W772 (Or.inl (List.mem_of_getElem? (i := 0) rfl))
  have N772 := Fr.snoc X772 N0 ge_a0
  obtain ⟨T785, X785, e785, st785⟩ := own_gf X772 hx hZ hown (own_wk hw 10 rfl) e772 Ob772 0 rfl rfl (g := (mkF m 111 (own_loc2 a0 r1 p2 a3 a4 vn) [(.ref a0)])) rfl rfl (D d4_111)
  obtain ⟨T786, h786, X786, e786, W786, V786, st786⟩ := own_stD X785 hx hZ e785 x774 (j := vn) hvn (vn).toNatClampNeg rfl hl_uc (vs' := (lc.set (vn).toNatClampNeg (.double r1))) rfl (g := (mkF m 117 (own_loc2 a0 r1 p2 a3 a4 vn) [(.double r1), (.int vn), (.ref uc)])) rfl rfl (D d4_117)
  have x787 := x773.wr W786
  have x788 := x775.other W786 (Ne.symm ne_uc_ug)
  have x789 := x776.other W786 (Ne.symm ne_uc_up)
  have x790 := x777.other W786 (Ne.symm ne_uc_uf)
  have x791 := x778.other W786 (Ne.symm ne_uc_ue)
  have x792 := x779.other W786 (Ne.symm ne_uc_um)
  have x793 := x780.other W786 (Ne.symm ne_uc_ur)
  have x794 := x781.other W786 (Ne.symm ne_uc_uv)
  have x795 := x782.other W786 (Ne.symm ne_uc_a3)
  have x796 := x783.other W786 (Ne.symm ne_uc_a4)
  have x797 := Ob772.other W786 ne_a0_uc
  have kp798 : Keep h0 h786 [a0, uc, ug, up, uf, ue, um, ur, uv] := kp784.wr W786 (Or.inl (List.mem_of_getElem? (i := 1) rfl))
  have N786 := Fr.snoc X786 N772 ge_uc
  obtain ⟨T799, X799, e799, st799⟩ := own_gf X786 hx hZ hown (own_wk hw 13 rfl) e786 x797 1 rfl rfl (g := (mkF m 119 (own_loc2 a0 r1 p2 a3 a4 vn) [(.ref a0)])) rfl rfl (D d4_119)
  obtain ⟨T800, h800, X800, e800, W800, V800, st800⟩ := own_stI X799 hx hZ e799 x788 (j := vn) hvn (vn).toNatClampNeg rfl hl_ug (vs' := (lg.set (vn).toNatClampNeg (.int p2))) rfl (g := (mkF m 125 (own_loc2 a0 r1 p2 a3 a4 vn) [(.int p2), (.int vn), (.ref ug)])) rfl rfl (D d4_125)
  have x801 := x787.wr W800
  have x802 := x789.other W800 (Ne.symm ne_ug_up)
  have x803 := x790.other W800 (Ne.symm ne_ug_uf)
  have x804 := x791.other W800 (Ne.symm ne_ug_ue)
  have x805 := x792.other W800 (Ne.symm ne_ug_um)
  have x806 := x793.other W800 (Ne.symm ne_ug_ur)
  have x807 := x794.other W800 (Ne.symm ne_ug_uv)
  have x808 := x795.other W800 (Ne.symm ne_ug_a3)
  have x809 := x796.other W800 (Ne.symm ne_ug_a4)
  have x810 := x797.other W800 ne_a0_ug
  have x811 := V786.other W800 ne_uc_ug
  have kp812 : Keep h0 h800 [a0, uc, ug, up, uf, ue, um, ur, uv] := kp798.wr W800 (Or.inl (List.mem_of_getElem? (i := 2) rfl))
  have N800 := Fr.snoc X800 N786 ge_ug
  obtain ⟨T813, X813, e813, st813⟩ := own_gf X800 hx hZ hown (own_wk hw 15 rfl) e800 x810 2 rfl rfl (g := (mkF m 127 (own_loc2 a0 r1 p2 a3 a4 vn) [(.ref a0)])) rfl rfl (D d4_127)
  obtain ⟨T814, h814, X814, e814, W814, V814, st814⟩ := own_stI X813 hx hZ e813 x802 (j := vn) hvn (vn).toNatClampNeg rfl hl_up (vs' := (lp.set (vn).toNatClampNeg (.int (-1 : Int32)))) rfl (g := (mkF m 133 (own_loc2 a0 r1 p2 a3 a4 vn) [.int (-1), (.int vn), (.ref up)])) rfl rfl (D d4_133)
  have x815 := x801.wr W814
  have x816 := x803.other W814 (Ne.symm ne_up_uf)
  have x817 := x804.other W814 (Ne.symm ne_up_ue)
  have x818 := x805.other W814 (Ne.symm ne_up_um)
  have x819 := x806.other W814 (Ne.symm ne_up_ur)
  have x820 := x807.other W814 (Ne.symm ne_up_uv)
  have x821 := x808.other W814 (Ne.symm ne_up_a3)
  have x822 := x809.other W814 (Ne.symm ne_up_a4)
  have x823 := x810.other W814 ne_a0_up
  have x824 := x811.other W814 ne_uc_up
  have x825 := V800.other W814 ne_ug_up
  have kp826 : Keep h0 h814 [a0, uc, ug, up, uf, ue, um, ur, uv] := kp812.wr W814 (Or.inl (List.mem_of_getElem? (i := 3) rfl))
  have N814 := Fr.snoc X814 N800 ge_up
  obtain ⟨T827, X827, e827, st827⟩ := own_gf X814 hx hZ hown (own_wk hw 17 rfl) e814 x823 3 rfl rfl (g := (mkF m 135 (own_loc2 a0 r1 p2 a3 a4 vn) [(.ref a0)])) rfl rfl (D d4_135)
  obtain ⟨T828, X828, e828, st828⟩ := own_gf X827 hx hZ hown (own_wk hw 70 rfl) e827 x823 23 rfl rfl (g := (mkF m 141 (own_loc2 a0 r1 p2 a3 a4 vn) [(.ref a0), (.int vn), (.ref uf)])) rfl rfl (D d4_141)
  obtain ⟨T829, h829, X829, e829, W829, V829, st829⟩ := own_stI X828 hx hZ e828 x816 (j := vn) hvn (vn).toNatClampNeg rfl hl_uf (vs' := (lf.set (vn).toNatClampNeg (.int en))) rfl (g := (mkF m 144 (own_loc2 a0 r1 p2 a3 a4 vn) [(.int en), (.int vn), (.ref uf)])) rfl rfl (D d4_144)
  have x830 := x815.wr W829
  have x831 := x817.other W829 (Ne.symm ne_uf_ue)
  have x832 := x818.other W829 (Ne.symm ne_uf_um)
  have x833 := x819.other W829 (Ne.symm ne_uf_ur)
  have x834 := x820.other W829 (Ne.symm ne_uf_uv)
  have x835 := x821.other W829 (Ne.symm ne_uf_a3)
  have x836 := x822.other W829 (Ne.symm ne_uf_a4)
  have x837 := x823.other W829 ne_a0_uf
  have x838 := x824.other W829 ne_uc_uf
  have x839 := x825.other W829 ne_ug_uf
  have x840 := V814.other W829 ne_up_uf
  have kp841 : Keep h0 h829 [a0, uc, ug, up, uf, ue, um, ur, uv] := kp826.wr W829 (Or.inl (List.mem_of_getElem? (i := 4) rfl))
  have N829 := Fr.snoc X829 N814 ge_uf
  obtain ⟨cl842, Ar842, -, S842, M842, -, -⟩ := id x835
  have ld842 := X829.arraylength hx (by rw [e829]; exact Ar842.1) (State.isArrayOf_alike hZ.alike Ar842.2.1) (g := (mkF m 152 (own_loc3 a0 r1 p2 a3 a4 vn) [(.ref a3), .int 0])) rfl rfl (D d4_152)
  have cp846 : ∀ target, own_S p e below T829 (mkF m 177 (own_loc3 a0 r1 p2 a3 a4 vn) [(.double xo0), (.int ro0), (.ref a0)]) target → own_S p e below s₁ (mkF m 0 (own_loc1 a0 r1 p2 a3 a4) []) target := by
    intro target kt
    show own_S p e below s₁ (mkF m 0 (own_loc1 a0 r1 p2 a3 a4) []) _
    refine XS.aloadN X0.here hx rfl (D d4_0) rfl rfl (st768 _ (XS.istore X768.here hx rfl (D d4_4) rfl (l' := (own_loc2 a0 r1 p2 a3 a4 vn)) rfl (XS.iload X768.here hx rfl (D d4_6) rfl (XS.aloadN X768.here hx rfl (D d4_8) rfl rfl (st769 _ (ld770 _ ?_))))))
    rw [len_of S770 M770]
    show own_S p e below T769 (mkF m 13 (own_loc2 a0 r1 p2 a3 a4 vn) [.int 16, (.int vn)]) _
    refine XS.icmpYes X769.here hx rfl (pc0 := 13) (pc' := 100) rfl (D d4_13) rfl (feq (show ¬ (vn = (16 : Int32)) from own_ne_of_lt hvn.2)).2 (by decide) (by decide) (XS.aloadN X769.here hx rfl (D d4_100) rfl rfl (XS.dup X769.here hx rfl (D d4_101) rfl rfl (st771 _ (XS.iconst X771.here hx rfl (D d4_105) (XS.iadd X771.here hx rfl (D d4_106) rfl (st772 _ (XS.aloadN X772.here hx rfl (D d4_110) rfl rfl (st785 _ (XS.iload X785.here hx rfl (D d4_114) rfl ?_)))))))))
    refine XS.dloadN X785.here hx rfl (D d4_116) rfl (st786 _ (XS.aloadN X786.here hx rfl (D d4_118) rfl rfl (st799 _ ?_)))
    show own_S p e below T799 (mkF m 122 (own_loc2 a0 r1 p2 a3 a4 vn) [(.ref ug)]) _
    refine XS.iload X799.here hx rfl (D d4_122) rfl (XS.iloadN X799.here hx rfl (D d4_124) rfl (st800 _ (XS.aloadN X800.here hx rfl (D d4_126) rfl rfl (st813 _ (XS.iload X813.here hx rfl (D d4_130) rfl (XS.iconst X813.here hx rfl (D d4_132) (st814 _ (XS.aloadN X814.here hx rfl (D d4_134) rfl rfl (st827 _ ?_)))))))))
    refine XS.iload X827.here hx rfl (D d4_138) rfl (XS.aloadN X827.here hx rfl (D d4_140) rfl rfl (st828 _ (st829 _ ?_)))
    show own_S p e below T829 (mkF m 145 (own_loc2 a0 r1 p2 a3 a4 vn) []) _
    refine XS.iconst X829.here hx rfl (D d4_145) (XS.istore X829.here hx rfl (D d4_146) rfl (l' := (own_loc3 a0 r1 p2 a3 a4 vn)) rfl (XS.iload X829.here hx rfl (D d4_148) rfl (XS.aload X829.here hx rfl (D d4_150) rfl rfl (ld842 _ ?_))))
    rw [len_of S842 M842]
    show own_S p e below T829 (mkF m 153 (own_loc3 a0 r1 p2 a3 a4 vn) [.int 1, .int 0]) _
    refine XS.icmpNo X829.here hx rfl (D d4_153) rfl (tlt (by decide : (0 : Int32) < (1 : Int32))).2.1 (XS.aload X829.here hx rfl (D d4_156) rfl rfl (XS.iload X829.here hx rfl (D d4_158) rfl (own_ldD X829 hx hZ e829 x836 (j := (0 : Int32)) ⟨(by decide), (by decide)⟩ (v := (.double xo0)) rfl rfl rfl (D d4_160) (XS.dconst0 X829.here hx rfl (D d4_161) rfl (XS.dcmpS X829.here hx rfl (D d4_162) rfl rfl (XS.ifNo X829.here hx rfl (D d4_163) rfl ((if0 _ _).trans (feq (show ¬ ((cmpValue (FP.dcmp xo0 (0 : UInt64)) .l) = (0 : Int32)) from hz0)).1) (XS.aloadN X829.here hx rfl (D d4_166) rfl rfl (XS.aload X829.here hx rfl (D d4_167) rfl rfl (XS.iload X829.here hx rfl (D d4_169) rfl ?_)))))))))
    refine own_ldI X829 hx hZ e829 x835 (j := (0 : Int32)) ⟨(by decide), (by decide)⟩ (v := (.int ro0)) rfl rfl rfl (D d4_171) (XS.aload X829.here hx rfl (D d4_172) rfl rfl (XS.iload X829.here hx rfl (D d4_174) rfl (own_ldD X829 hx hZ e829 x836 (j := (0 : Int32)) ⟨(by decide), (by decide)⟩ (v := (.double xo0)) rfl rfl rfl (D d4_176) ?_)))
    exact kt
  obtain ⟨cq847, q847, q847'⟩ := x830.cell
  obtain ⟨_, _, ⟨T847, L847, k847, n847⟩, -, X847, ⟨Lc847, hQ847, l847, y847, z847⟩, st847⟩ := X829.privateBack hx (y := (⟨own_K, "appendEntry", "(ID)V"⟩ : MethodName)) hown (mvT hZ (own_wk hw 72 rfl)) (mvT hZ (own_wk hw 73 rfl)) (own_selp (ym := (⟨own_K, "addGroup", "()I"⟩ : MethodName)) (mvT hZ (own_wk hw 57 rfl)) rfl (Cond.privateMethod_at (mvP hZ (own_wk hw 74 rfl) (args := #[]))) (mvT hZ (own_wk hw 73 rfl)) (by decide)) (Cond.privateMethod_at (mvP hZ (own_wk hw 74 rfl) (args := #[]))) (mvT hZ (own_wk hw 75 rfl)) (by decide) (backOf (W := 0) (rm5 l Z ag hw [] a0 ro0 xo0 _ _ _ _ _ _ _ _ _ _ _ _ _ _ _ _ _ _ _ _ _ _ _ _ _ _ _ _ _ _ _ h829 n0 (Nat.le_trans Z0 kp841.1) x830 x837 x833 x834 ge_a0 ge_ur ge_uv ne_a0_ur ne_a0_uv ne_ur_uv hen0 hlr0 hlv0) hZ (own_wk hw 75 rfl) (own_wk hw 2 rfl) (by decide) (by decide)) (g := (mkF m 177 (own_loc3 a0 r1 p2 a3 a4 vn) [(.double xo0), (.int ro0), (.ref a0)])) rfl (by rw [hml]; rfl) (Steps.refl _) (a := a0) (by rw [e829]; exact q847) q847' (argsL := [(.int ro0), (.double xo0)]) (rest := []) (lenOf pd_8 rfl) rfl (by show 2 * 0 + _ ≤ _; exact Nat.le_of_eq rfl) (D d4_177) (fun _ _ => ⟨rfl, e829, (by decide : 0 + 0 ≤ _), (by decide : 0 + 0 ≤ _)⟩)
  dsimp only [Pt.U, Pt.locs, Pt.cells, Pt.slots] at X847 l847 y847 z847 st847 hQ847
  subst l847 y847 z847
  obtain ⟨rfl, N847q, K847, o847_0, o847_1, o847_2⟩ := hQ847
  have N847 := Fr.app N829 N847q
  have x848 := x830.keep K847
  have x849 := x831.keep K847 (ninS (Ne.symm ne_a0_ue) (ninS ne_ue_ur (ninS ne_ue_uv nin0)))
  have x850 := x832.keep K847 (ninS (Ne.symm ne_a0_um) (ninS ne_um_ur (ninS ne_um_uv nin0)))
  have x851 := x835.keep K847 (ninS (Ne.symm ne_a0_a3) (ninS (Ne.symm ne_ur_a3) (ninS (Ne.symm ne_uv_a3) nin0)))
  have x852 := x836.keep K847 (ninS (Ne.symm ne_a0_a4) (ninS (Ne.symm ne_ur_a4) (ninS (Ne.symm ne_uv_a4) nin0)))
  have x853 := x838.keep K847 (ninS (Ne.symm ne_a0_uc) (ninS ne_uc_ur (ninS ne_uc_uv nin0)))
  have x854 := x839.keep K847 (ninS (Ne.symm ne_a0_ug) (ninS ne_ug_ur (ninS ne_ug_uv nin0)))
  have x855 := x840.keep K847 (ninS (Ne.symm ne_a0_up) (ninS ne_up_ur (ninS ne_up_uv nin0)))
  have x856 := V829.keep K847 (ninS (Ne.symm ne_a0_uf) (ninS ne_uf_ur (ninS ne_uf_uv nin0)))
  have kp857 : Keep h0 T847.heap [a0, uc, ug, up, uf, ue, um, ur, uv] := kp841.trans K847 (allS (Or.inl (List.mem_of_getElem? (i := 0) rfl)) (allS (Or.inl (List.mem_of_getElem? (i := 7) rfl)) (allS (Or.inl (List.mem_of_getElem? (i := 8) rfl)) all0)))
  obtain ⟨T858, X858, e858, st858⟩ := own_gf X847 hx hZ hown (own_wk hw 19 rfl) rfl o847_0 4 rfl rfl (g := (mkF m 181 (own_loc3 a0 r1 p2 a3 a4 vn) [(.ref a0)])) rfl rfl (D d4_181)
  obtain ⟨T860, h860, X860, e860, W860, V860, st860⟩ := own_stI X858 hx hZ e858 x849 (j := vn) hvn (vn).toNatClampNeg rfl hl_ue (vs' := (le.set (vn).toNatClampNeg (.int (1 : Int32)))) rfl (g := (mkF m 190 (own_loc3 a0 r1 p2 a3 a4 vn) [.int 1, (.int vn), (.ref ue)])) rfl rfl (D d4_190)
  have x861 := x848.wr W860
  have x862 := x850.other W860 (Ne.symm ne_ue_um)
  have x863 := x851.other W860 (Ne.symm ne_ue_a3)
  have x864 := x852.other W860 (Ne.symm ne_ue_a4)
  have x865 := x853.other W860 ne_uc_ue
  have x866 := x854.other W860 ne_ug_ue
  have x867 := x855.other W860 ne_up_ue
  have x868 := x856.other W860 ne_uf_ue
  have x869 := o847_0.other W860 ne_a0_ue
  have x870 := o847_1.other W860 (Ne.symm ne_ue_ur)
  have x871 := o847_2.other W860 (Ne.symm ne_ue_uv)
  have kp872 : Keep h0 h860 [a0, uc, ug, up, uf, ue, um, ur, uv] := kp857.wr W860 (Or.inl (List.mem_of_getElem? (i := 5) rfl))
  have N860 := Fr.snoc X860 N847 ge_ue
  obtain ⟨cl873, Ar873, -, S873, M873, -, -⟩ := id x863
  have ld873 := X860.arraylength hx (by rw [e860]; exact Ar873.1) (State.isArrayOf_alike hZ.alike Ar873.2.1) (g := (mkF m 152 (own_loc4 a0 r1 p2 a3 a4 vn) [(.ref a3), .int 1])) rfl rfl (D d4_152)
  obtain ⟨T874, X874, e874, st874⟩ := own_gf X860 hx hZ hown (own_wk hw 21 rfl) e860 x869 5 rfl rfl (g := (mkF m 198 (own_loc4 a0 r1 p2 a3 a4 vn) [(.ref a0)])) rfl rfl (D d4_198)
  obtain ⟨T875, X875, e875, st875⟩ := own_gf X874 hx hZ hown (own_wk hw 19 rfl) e874 x869 4 rfl rfl (g := (mkF m 204 (own_loc4 a0 r1 p2 a3 a4 vn) [(.ref a0), (.int vn), (.ref um)])) rfl rfl (D d4_204)
  obtain ⟨T877, h877, X877, e877, W877, V877, st877⟩ := own_stI X875 hx hZ e875 x862 (j := vn) hvn (vn).toNatClampNeg rfl hl_um (vs' := (lm.set (vn).toNatClampNeg (.int (1 : Int32)))) rfl (g := (mkF m 210 (own_loc4 a0 r1 p2 a3 a4 vn) [.int 1, (.int vn), (.ref um)])) rfl rfl (D d4_210)
  have x878 := x861.wr W877
  have x879 := x863.other W877 (Ne.symm ne_um_a3)
  have x880 := x864.other W877 (Ne.symm ne_um_a4)
  have x881 := x865.other W877 ne_uc_um
  have x882 := x866.other W877 ne_ug_um
  have x883 := x867.other W877 ne_up_um
  have x884 := x868.other W877 ne_uf_um
  have x885 := x869.other W877 ne_a0_um
  have x886 := x870.other W877 (Ne.symm ne_um_ur)
  have x887 := x871.other W877 (Ne.symm ne_um_uv)
  have x888 := V860.other W877 ne_ue_um
  have kp889 : Keep h0 h877 [a0, uc, ug, up, uf, ue, um, ur, uv] := kp872.wr W877 (Or.inl (List.mem_of_getElem? (i := 6) rfl))
  have N877 := Fr.snoc X877 N860 ge_um
  obtain ⟨fs, hr, hrun, hended, hW, hsame⟩ := X877.leave (v := some (.int vn)) (fun h => by rw [Bd.returns] at h; cases h)
  refine ⟨_, _, pre0 _ ?_, hrun, hended, _, _, rfl, ?_, ⟨_, rfl⟩, hW, hsame.mono (by decide) (by decide)⟩
  · show own_S p e below s₁ (mkF m 0 (own_loc1 a0 r1 p2 a3 a4) []) _
    refine cp846 _ (st847.trans (XS.aloadN X847.here hx rfl (D d4_180) rfl rfl (st858 _ (XS.iload X858.here hx rfl (D d4_184) rfl (Jvm.Free.XT.dup2 X858.here hx rfl (D d4_186) rfl rfl rfl (own_ldI X858 hx hZ e858 x849 (j := vn) hvn (v := (.int (0 : Int32))) hle rfl rfl (D d4_187) (XS.iconst X858.here hx rfl (D d4_188) (XS.iadd X858.here hx rfl (D d4_189) rfl ?_))))))))
    show own_S p e below T858 (mkF m 190 (own_loc3 a0 r1 p2 a3 a4 vn) [(.int ((0 : Int32) + (1 : Int32))), (.int vn), (.ref ue)]) _
    rw [show ((0 : Int32) + (1 : Int32)) = (1 : Int32) from by decide]
    show own_S p e below T858 (mkF m 190 (own_loc3 a0 r1 p2 a3 a4 vn) [.int 1, (.int vn), (.ref ue)]) _
    refine st860 _ (XS.iinc X860.here hx rfl (D d4_191) rfl (l' := (own_loc4 a0 r1 p2 a3 a4 vn)) rfl (XS.goto X860.here hx rfl (pc0 := 194) (pc' := 148) rfl (D d4_194) (by decide) (by decide) (XS.iload X860.here hx rfl (D d4_148) rfl (XS.aload X860.here hx rfl (D d4_150) rfl rfl (ld873 _ ?_)))))
    rw [len_of S873 M873]
    show own_S p e below T860 (mkF m 153 (own_loc4 a0 r1 p2 a3 a4 vn) [.int 1, .int 1]) _
    refine XS.icmpYes X860.here hx rfl (pc0 := 153) (pc' := 197) rfl (D d4_153) rfl (flt (by decide : ¬ ((1 : Int32) < (1 : Int32)))).2.1 (by decide) (by decide) (XS.aloadN X860.here hx rfl (D d4_197) rfl rfl (st874 _ (XS.iload X874.here hx rfl (D d4_201) rfl (XS.aloadN X874.here hx rfl (D d4_203) rfl rfl (st875 _ (XS.iload X875.here hx rfl (D d4_207) rfl (own_ldI X875 hx hZ e875 V860 (j := vn) hvn (v := (.int (1 : Int32))) (own_gs hl_ue) rfl rfl (D d4_209) (st877 _ (XS.iload X877.here hx rfl (D d4_211) rfl ?_)))))))))
    show own_S p e below T877 (mkF m 213 (own_loc4 a0 r1 p2 a3 a4 vn) [(.int vn)]) _
    exact retI X877 hx Bd.returns (D d4_213) hr
  · show Q4_1 Z a0 r1 p2 a3 a4 uc ug up uf ue um ur uv w_bounds w_slacks w_keys w_keyValues w_head w_inverse w_values w_groupDualPass w_groupDualValues w_rates w_rated w_ratedGroups w_started w_groupCount vn en w_rowCount w_objective w_pivotsSinceInversion kuc lc kug lg kup lp kuf lf kue le kum lm kur lr kuv lv ka3 ro0 ka4 xo0 h0 n0 _ T877.heap _
    rw [e877]
    exact ⟨rfl, N877, kp889, x885, x881, x882, x883, x884, x888, V877, x886, x887⟩
abbrev own_loc5 (a0 : Addr) (r1 : UInt64) (p2 : Int32) (a3 a4 : Addr) (vn : Int32) : Array Slot := #[.val (.ref a0), .val (.double r1), .second, .val (.int p2), .val (.ref a3), .val (.ref a4), .val (.int vn), .val (.int 2)]
def Q4_2 (Z : State) (a0 : Addr) (r1 : UInt64) (p2 : Int32) (a3 a4 uc ug up uf ue um ur uv : Addr) (w_bounds w_slacks w_keys w_keyValues w_head w_inverse w_values w_groupDualPass w_groupDualValues w_rates w_rated w_ratedGroups w_started w_groupCount : Value) (vn en : Int32) (w_rowCount w_objective w_pivotsSinceInversion : Value) (kuc : ClassId) (lc : List Value) (kug : ClassId) (lg : List Value) (kup : ClassId) (lp : List Value) (kuf : ClassId) (lf : List Value) (kue : ClassId) (le : List Value) (kum : ClassId) (lm : List Value) (kur : ClassId) (lr : List Value) (kuv : ClassId) (lv : List Value) (ka3 : ClassId) (ro0 ro1 : Int32) (ka4 : ClassId) (xo0 xo1 : UInt64) (h0 : Heap) (n0 : Nat) (v : Option Value) (h : Heap) (L : List Loc) : Prop := v = some (.int vn) ∧ Fr n0 L ∧ Keep h0 h [a0, uc, ug, up, uf, ue, um, ur, uv] ∧ own_fs own_K own_N Z h a0 [(.ref uc), (.ref ug), (.ref up), (.ref uf), (.ref ue), (.ref um), (.ref ur), (.ref uv), w_bounds, w_slacks, w_keys, w_keyValues, w_head, w_inverse, w_values, w_groupDualPass, w_groupDualValues, w_rates, w_rated, w_ratedGroups, w_started, w_groupCount, (.int (vn + (1 : Int32))), (.int ((en + (1 : Int32)) + (1 : Int32))), w_rowCount, w_objective, w_pivotsSinceInversion] ∧ Arv Z h uc kuc .double (16 : Int32) (lc.set (vn).toNatClampNeg (.double r1)) (.double (0 : UInt64)) ∧ Arv Z h ug kug .int (16 : Int32) (lg.set (vn).toNatClampNeg (.int p2)) (.int (0 : Int32)) ∧ Arv Z h up kup .int (16 : Int32) (lp.set (vn).toNatClampNeg (.int (-1 : Int32))) (.int (0 : Int32)) ∧ Arv Z h uf kuf .int (16 : Int32) (lf.set (vn).toNatClampNeg (.int en)) (.int (0 : Int32)) ∧ Arv Z h ue kue .int (16 : Int32) ((le.set (vn).toNatClampNeg (.int (1 : Int32))).set (vn).toNatClampNeg (.int (2 : Int32))) (.int (0 : Int32)) ∧ Arv Z h um kum .int (16 : Int32) (lm.set (vn).toNatClampNeg (.int (2 : Int32))) (.int (0 : Int32)) ∧ Arv Z h ur kur .int (64 : Int32) ((lr.set (en).toNatClampNeg (.int ro0)).set ((en + (1 : Int32))).toNatClampNeg (.int ro1)) (.int (0 : Int32)) ∧ Arv Z h uv kuv .double (64 : Int32) ((lv.set (en).toNatClampNeg (.double xo0)).set ((en + (1 : Int32))).toNatClampNeg (.double xo1)) (.double (0 : UInt64))
set_option maxRecDepth 65536 in
set_option maxHeartbeats 40000000 in
theorem rm4_2 (l : Launch) (Z : State) (ag : Array Value) (hw : ∀ d ∈ tables_1, d.before ag Z = true) (ws : List Jvm.Cond) (a0 : Addr) (r1 : UInt64) (p2 : Int32) (a3 a4 uc ug up uf ue um ur uv : Addr) (w_bounds w_slacks w_keys w_keyValues w_head w_inverse w_values w_groupDualPass w_groupDualValues w_rates w_rated w_ratedGroups w_started w_groupCount : Value) (vn en : Int32) (w_rowCount w_objective w_pivotsSinceInversion : Value) (kuc : ClassId) (lc : List Value) (kug : ClassId) (lg : List Value) (kup : ClassId) (lp : List Value) (kuf : ClassId) (lf : List Value) (kue : ClassId) (le : List Value) (kum : ClassId) (lm : List Value) (kur : ClassId) (lr : List Value) (kuv : ClassId) (lv : List Value) (ka3 : ClassId) (ro0 ro1 : Int32) (ka4 : ClassId) (xo0 xo1 : UInt64) (h0 : Heap) (n0 : Nat) (Z0 : n0 ≤ h0.size) (E_a0 : Exa Z h0 a0 own_K) (Ob_a0 : own_fs own_K own_N Z h0 a0 [(.ref uc), (.ref ug), (.ref up), (.ref uf), (.ref ue), (.ref um), (.ref ur), (.ref uv), w_bounds, w_slacks, w_keys, w_keyValues, w_head, w_inverse, w_values, w_groupDualPass, w_groupDualValues, w_rates, w_rated, w_ratedGroups, w_started, w_groupCount, (.int vn), (.int en), w_rowCount, w_objective, w_pivotsSinceInversion]) (V_uc : Arv Z h0 uc kuc .double (16 : Int32) lc (.double (0 : UInt64))) (V_ug : Arv Z h0 ug kug .int (16 : Int32) lg (.int (0 : Int32))) (V_up : Arv Z h0 up kup .int (16 : Int32) lp (.int (0 : Int32))) (V_uf : Arv Z h0 uf kuf .int (16 : Int32) lf (.int (0 : Int32))) (V_ue : Arv Z h0 ue kue .int (16 : Int32) le (.int (0 : Int32))) (V_um : Arv Z h0 um kum .int (16 : Int32) lm (.int (0 : Int32))) (V_ur : Arv Z h0 ur kur .int (64 : Int32) lr (.int (0 : Int32))) (V_uv : Arv Z h0 uv kuv .double (64 : Int32) lv (.double (0 : UInt64))) (V_a3 : Arv Z h0 a3 ka3 .int (2 : Int32) [(.int ro0), (.int ro1)] (.int (0 : Int32))) (V_a4 : Arv Z h0 a4 ka4 .double (2 : Int32) [(.double xo0), (.double xo1)] (.double (0 : UInt64))) (ge_a0 : n0 ≤ a0) (ge_uc : n0 ≤ uc) (ge_ug : n0 ≤ ug) (ge_up : n0 ≤ up) (ge_uf : n0 ≤ uf) (ge_ue : n0 ≤ ue) (ge_um : n0 ≤ um) (ge_ur : n0 ≤ ur) (ge_uv : n0 ≤ uv) (ne_a0_uc : a0 ≠ uc) (ne_a0_ug : a0 ≠ ug) (ne_a0_up : a0 ≠ up) (ne_a0_uf : a0 ≠ uf) (ne_a0_ue : a0 ≠ ue) (ne_a0_um : a0 ≠ um) (ne_a0_ur : a0 ≠ ur) (ne_a0_uv : a0 ≠ uv) (ne_a0_a3 : a0 ≠ a3) (ne_a0_a4 : a0 ≠ a4) (ne_uc_ug : uc ≠ ug) (ne_uc_up : uc ≠ up) (ne_uc_uf : uc ≠ uf) (ne_uc_ue : uc ≠ ue) (ne_uc_um : uc ≠ um) (ne_uc_ur : uc ≠ ur) (ne_uc_uv : uc ≠ uv) (ne_uc_a3 : uc ≠ a3) (ne_uc_a4 : uc ≠ a4) (ne_ug_up : ug ≠ up) (ne_ug_uf : ug ≠ uf) (ne_ug_ue : ug ≠ ue) (ne_ug_um : ug ≠ um) (ne_ug_ur : ug ≠ ur) (ne_ug_uv : ug ≠ uv) (ne_ug_a3 : ug ≠ a3) (ne_ug_a4 : ug ≠ a4) (ne_up_uf : up ≠ uf) (ne_up_ue : up ≠ ue) (ne_up_um : up ≠ um) (ne_up_ur : up ≠ ur) (ne_up_uv : up ≠ uv) (ne_up_a3 : up ≠ a3) (ne_up_a4 : up ≠ a4) (ne_uf_ue : uf ≠ ue) (ne_uf_um : uf ≠ um) (ne_uf_ur : uf ≠ ur) (ne_uf_uv : uf ≠ uv) (ne_uf_a3 : uf ≠ a3) (ne_uf_a4 : uf ≠ a4) (ne_ue_um : ue ≠ um) (ne_ue_ur : ue ≠ ur) (ne_ue_uv : ue ≠ uv) (ne_ue_a3 : ue ≠ a3) (ne_ue_a4 : ue ≠ a4) (ne_um_ur : um ≠ ur) (ne_um_uv : um ≠ uv) (ne_um_a3 : um ≠ a3) (ne_um_a4 : um ≠ a4) (ne_ur_uv : ur ≠ uv) (ne_ur_a3 : ur ≠ a3) (ne_ur_a4 : ur ≠ a4) (ne_uv_a3 : uv ≠ a3) (ne_uv_a4 : uv ≠ a4) (hvn : ¬ vn < 0 ∧ vn < (16 : Int32)) (hle : le.getD (vn).toNatClampNeg (.int (0 : Int32)) = .int (0 : Int32)) (hl_uc : (vn).toNatClampNeg < lc.length) (hl_ug : (vn).toNatClampNeg < lg.length) (hl_up : (vn).toNatClampNeg < lp.length) (hl_uf : (vn).toNatClampNeg < lf.length) (hl_ue : (vn).toNatClampNeg < le.length) (hl_um : (vn).toNatClampNeg < lm.length) (hen0 : ¬ en < 0 ∧ en < (64 : Int32)) (hen1 : ¬ (en + (1 : Int32)) < 0 ∧ (en + (1 : Int32)) < (64 : Int32)) (hlr0 : (en).toNatClampNeg < lr.length) (hlv0 : (en).toNatClampNeg < lv.length) (hlr1 : ((en + (1 : Int32))).toNatClampNeg < lr.length) (hlv1 : ((en + (1 : Int32))).toNatClampNeg < lv.length) (hz0 : ¬ (cmpValue (FP.dcmp xo0 (0 : UInt64)) .l) = (0 : Int32)) (hz1 : ¬ (cmpValue (FP.dcmp xo1 (0 : UInt64)) .l) = (0 : Int32)) :
    MetFree l (⟨own_K, "addVariable", "(DI[I[D)I"⟩ : MethodName) (head1 (Jvm.Cond.code (⟨own_K, "addVariable", "(DI[I[D)I"⟩ : MethodName) prog_56_method_3_code 8 (some .int) :: ws) ({ frames := 1, cells := 0, slots := 0, locals := 15 } : Room)) (fun a U => a = #[(.ref a0), (.double r1), (.int p2), (.ref a3), (.ref a4)] ∧ Z.Warmed39 U.vm ∧ U.heap = h0) (fun _ _ _ _ _ => True) (fun _ U o U' => ∃ v L, o = .returned v ∧ Q4_2 Z a0 r1 p2 a3 a4 uc ug up uf ue um ur uv w_bounds w_slacks w_keys w_keyValues w_head w_inverse w_values w_groupDualPass w_groupDualValues w_rates w_rated w_ratedGroups w_started w_groupCount vn en w_rowCount w_objective w_pivotsSinceInversion kuc lc kug lg kup lp kuf lf kue le kum lm kur lr kuv lv ka3 ro0 ro1 ka4 xo0 xo1 h0 n0 v U'.heap L ∧ FrameEnd U o U' L ({ frames := 1, cells := 0, slots := 0, locals := 15 } : Room).cells ({ frames := 1, cells := 0, slots := 0, locals := 15 } : Room).slots) := by
  refine MetFree.of_bodySF (plainFor_of_name pn_0) hisR ?_
  intro p e s m args below meth c s₁ Bd hml0 hP hK
  obtain ⟨rfl, hZ, hh⟩ := hP
  have hx := Bd.exec
  have hby := Bd.bytes
  have hml : c.maxLocals = 8 := hml0
  have hown : s.vm.findClass own_K = some m.cls := findClass_of_methodNamed Bd.named
  have hnm := (name_of_methodNamed Bd.named Bd.method).1
  have X0 : Stand p l e ({ frames := 1, cells := 0, slots := 0, locals := 15 } : Room) s m #[(.ref a0), (.double r1), (.int p2), (.ref a3), (.ref a4)] below meth c s₁ [] 0 0 := Stand.of_body Bd
  have e0 : s₁.heap = h0 := by rw [← hh, Bd.state]; rfl
  have N0 := Fr.nil n0
  have D : ∀ {pc : Nat} {r : Except DecodeError (Instr × Nat)}, decode prog_56_method_3_code pc = r → decode c.code pc = r := fun q => hb hby q
  have pre0 : ∀ t, Steps p.tables e below (s₁.setTop (mkF m 0 #[.val (.ref a0), .val (.double r1), .second, .val (.int p2), .val (.ref a3), .val (.ref a4), .unset, .unset] [])) t → Steps p.tables e below (s₁.setTop (entryFrame m #[(.ref a0), (.double r1), (.int p2), (.ref a3), (.ref a4)] 8)) t := fun t k => castTop (ef_4 m a0 r1 p2 a3 a4) k
  obtain ⟨T890, X890, e890, st890⟩ := own_gf X0 hx hZ hown (own_wk hw 68 rfl) e0 Ob_a0 22 rfl rfl (g := (mkF m 1 (own_loc1 a0 r1 p2 a3 a4) [(.ref a0)])) rfl rfl (D d4_1)
  obtain ⟨T891, X891, e891, st891⟩ := own_gf X890 hx hZ hown (own_wk hw 10 rfl) e890 Ob_a0 0 rfl rfl (g := (mkF m 9 (own_loc2 a0 r1 p2 a3 a4 vn) [(.ref a0), (.int vn)])) rfl rfl (D d4_9)
  obtain ⟨cl892, Ar892, -, S892, M892, -, -⟩ := id V_uc
  have ld892 := X891.arraylength hx (by rw [e891]; exact Ar892.1) (State.isArrayOf_alike hZ.alike Ar892.2.1) (g := (mkF m 12 (own_loc2 a0 r1 p2 a3 a4 vn) [(.ref uc), (.int vn)])) rfl rfl (D d4_12)
  obtain ⟨T893, X893, e893, st893⟩ := own_gf X891 hx hZ hown (own_wk hw 68 rfl) e891 Ob_a0 22 rfl rfl (g := (mkF m 102 (own_loc2 a0 r1 p2 a3 a4 vn) [(.ref a0), (.ref a0)])) rfl rfl (D d4_102)
  obtain ⟨T894, h894, X894, e894, W894, st894⟩ := putF X893 hx hZ hown (host := "") (Or.inl (own_wk hw 68 rfl)) Via.refl e893 (Ob_a0.get 22 rfl rfl : Fld Z h0 a0 own_K "variableCount" "I" (.int vn)) E_a0 (Or.inl (own_wk hw 69 rfl)) (own_wk hw 1 rfl) (ty := .int) (by decide) rfl rfl (g := (mkF m 107 (own_loc2 a0 r1 p2 a3 a4 vn) [(.int (vn + (1 : Int32))), (.ref a0)])) rfl rfl (D d4_107)
  have Ob894 := Ob_a0.put (own_layw hw) 22 rfl W894
  have x895 := E_a0.wr W894
  have x896 := V_uc.other W894 (Ne.symm ne_a0_uc)
  have x897 := V_ug.other W894 (Ne.symm ne_a0_ug)
  have x898 := V_up.other W894 (Ne.symm ne_a0_up)
  have x899 := V_uf.other W894 (Ne.symm ne_a0_uf)
  have x900 := V_ue.other W894 (Ne.symm ne_a0_ue)
  have x901 := V_um.other W894 (Ne.symm ne_a0_um)
  have x902 := V_ur.other W894 (Ne.symm ne_a0_ur)
  have x903 := V_uv.other W894 (Ne.symm ne_a0_uv)
  have x904 := V_a3.other W894 (Ne.symm ne_a0_a3)
  have x905 := V_a4.other W894 (Ne.symm ne_a0_a4)
  have kp906 : Keep h0 h894 [a0, uc, ug, up, uf, ue, um, ur, uv] := (Keep.refl h0 [a0, uc, ug, up, uf, ue, um, ur, uv]).wr W894 (Or.inl (List.mem_of_getElem? (i := 0) rfl))
  have N894 := Fr.snoc X894 N0 ge_a0
  obtain ⟨T907, X907, e907, st907⟩ := own_gf X894 hx hZ hown (own_wk hw 10 rfl) e894 Ob894 0 rfl rfl (g := (mkF m 111 (own_loc2 a0 r1 p2 a3 a4 vn) [(.ref a0)])) rfl rfl (D d4_111)
  obtain ⟨T908, h908, X908, e908, W908, V908, st908⟩ := own_stD X907 hx hZ e907 x896 (j := vn) hvn (vn).toNatClampNeg rfl hl_uc (vs' := (lc.set (vn).toNatClampNeg (.double r1))) rfl (g := (mkF m 117 (own_loc2 a0 r1 p2 a3 a4 vn) [(.double r1), (.int vn), (.ref uc)])) rfl rfl (D d4_117)
  have x909 := x895.wr W908
  have x910 := x897.other W908 (Ne.symm ne_uc_ug)
  have x911 := x898.other W908 (Ne.symm ne_uc_up)
  have x912 := x899.other W908 (Ne.symm ne_uc_uf)
  have x913 := x900.other W908 (Ne.symm ne_uc_ue)
  have x914 := x901.other W908 (Ne.symm ne_uc_um)
  have x915 := x902.other W908 (Ne.symm ne_uc_ur)
  have x916 := x903.other W908 (Ne.symm ne_uc_uv)
  have x917 := x904.other W908 (Ne.symm ne_uc_a3)
  have x918 := x905.other W908 (Ne.symm ne_uc_a4)
  have x919 := Ob894.other W908 ne_a0_uc
  have kp920 : Keep h0 h908 [a0, uc, ug, up, uf, ue, um, ur, uv] := kp906.wr W908 (Or.inl (List.mem_of_getElem? (i := 1) rfl))
  have N908 := Fr.snoc X908 N894 ge_uc
  obtain ⟨T921, X921, e921, st921⟩ := own_gf X908 hx hZ hown (own_wk hw 13 rfl) e908 x919 1 rfl rfl (g := (mkF m 119 (own_loc2 a0 r1 p2 a3 a4 vn) [(.ref a0)])) rfl rfl (D d4_119)
  obtain ⟨T922, h922, X922, e922, W922, V922, st922⟩ := own_stI X921 hx hZ e921 x910 (j := vn) hvn (vn).toNatClampNeg rfl hl_ug (vs' := (lg.set (vn).toNatClampNeg (.int p2))) rfl (g := (mkF m 125 (own_loc2 a0 r1 p2 a3 a4 vn) [(.int p2), (.int vn), (.ref ug)])) rfl rfl (D d4_125)
  have x923 := x909.wr W922
  have x924 := x911.other W922 (Ne.symm ne_ug_up)
  have x925 := x912.other W922 (Ne.symm ne_ug_uf)
  have x926 := x913.other W922 (Ne.symm ne_ug_ue)
  have x927 := x914.other W922 (Ne.symm ne_ug_um)
  have x928 := x915.other W922 (Ne.symm ne_ug_ur)
  have x929 := x916.other W922 (Ne.symm ne_ug_uv)
  have x930 := x917.other W922 (Ne.symm ne_ug_a3)
  have x931 := x918.other W922 (Ne.symm ne_ug_a4)
  have x932 := x919.other W922 ne_a0_ug
  have x933 := V908.other W922 ne_uc_ug
  have kp934 : Keep h0 h922 [a0, uc, ug, up, uf, ue, um, ur, uv] := kp920.wr W922 (Or.inl (List.mem_of_getElem? (i := 2) rfl))
  have N922 := Fr.snoc X922 N908 ge_ug
  obtain ⟨T935, X935, e935, st935⟩ := own_gf X922 hx hZ hown (own_wk hw 15 rfl) e922 x932 2 rfl rfl (g := (mkF m 127 (own_loc2 a0 r1 p2 a3 a4 vn) [(.ref a0)])) rfl rfl (D d4_127)
  obtain ⟨T936, h936, X936, e936, W936, V936, st936⟩ := own_stI X935 hx hZ e935 x924 (j := vn) hvn (vn).toNatClampNeg rfl hl_up (vs' := (lp.set (vn).toNatClampNeg (.int (-1 : Int32)))) rfl (g := (mkF m 133 (own_loc2 a0 r1 p2 a3 a4 vn) [.int (-1), (.int vn), (.ref up)])) rfl rfl (D d4_133)
  have x937 := x923.wr W936
  have x938 := x925.other W936 (Ne.symm ne_up_uf)
  have x939 := x926.other W936 (Ne.symm ne_up_ue)
  have x940 := x927.other W936 (Ne.symm ne_up_um)
  have x941 := x928.other W936 (Ne.symm ne_up_ur)
  have x942 := x929.other W936 (Ne.symm ne_up_uv)
  have x943 := x930.other W936 (Ne.symm ne_up_a3)
  have x944 := x931.other W936 (Ne.symm ne_up_a4)
  have x945 := x932.other W936 ne_a0_up
  have x946 := x933.other W936 ne_uc_up
  have x947 := V922.other W936 ne_ug_up
  have kp948 : Keep h0 h936 [a0, uc, ug, up, uf, ue, um, ur, uv] := kp934.wr W936 (Or.inl (List.mem_of_getElem? (i := 3) rfl))
  have N936 := Fr.snoc X936 N922 ge_up
  obtain ⟨T949, X949, e949, st949⟩ := own_gf X936 hx hZ hown (own_wk hw 17 rfl) e936 x945 3 rfl rfl (g := (mkF m 135 (own_loc2 a0 r1 p2 a3 a4 vn) [(.ref a0)])) rfl rfl (D d4_135)
  obtain ⟨T950, X950, e950, st950⟩ := own_gf X949 hx hZ hown (own_wk hw 70 rfl) e949 x945 23 rfl rfl (g := (mkF m 141 (own_loc2 a0 r1 p2 a3 a4 vn) [(.ref a0), (.int vn), (.ref uf)])) rfl rfl (D d4_141)
  obtain ⟨T951, h951, X951, e951, W951, V951, st951⟩ := own_stI X950 hx hZ e950 x938 (j := vn) hvn (vn).toNatClampNeg rfl hl_uf (vs' := (lf.set (vn).toNatClampNeg (.int en))) rfl (g := (mkF m 144 (own_loc2 a0 r1 p2 a3 a4 vn) [(.int en), (.int vn), (.ref uf)])) rfl rfl (D d4_144)
  have x952 := x937.wr W951
  have x953 := x939.other W951 (Ne.symm ne_uf_ue)
  have x954 := x940.other W951 (Ne.symm ne_uf_um)
  have x955 := x941.other W951 (Ne.symm ne_uf_ur)
  have x956 := x942.other W951 (Ne.symm ne_uf_uv)
  have x957 := x943.other W951 (Ne.symm ne_uf_a3)
  have x958 := x944.other W951 (Ne.symm ne_uf_a4)
  have x959 := x945.other W951 ne_a0_uf
  have x960 := x946.other W951 ne_uc_uf
  have x961 := x947.other W951 ne_ug_uf
  have x962 := V936.other W951 ne_up_uf
  have kp963 : Keep h0 h951 [a0, uc, ug, up, uf, ue, um, ur, uv] := kp948.wr W951 (Or.inl (List.mem_of_getElem? (i := 4) rfl))
  have N951 := Fr.snoc X951 N936 ge_uf
  obtain ⟨cl964, Ar964, -, S964, M964, -, -⟩ := id x957
  have ld964 := X951.arraylength hx (by rw [e951]; exact Ar964.1) (State.isArrayOf_alike hZ.alike Ar964.2.1) (g := (mkF m 152 (own_loc3 a0 r1 p2 a3 a4 vn) [(.ref a3), .int 0])) rfl rfl (D d4_152)
  have cp968 : ∀ target, own_S p e below T951 (mkF m 177 (own_loc3 a0 r1 p2 a3 a4 vn) [(.double xo0), (.int ro0), (.ref a0)]) target → own_S p e below s₁ (mkF m 0 (own_loc1 a0 r1 p2 a3 a4) []) target := by
    intro target kt
    show own_S p e below s₁ (mkF m 0 (own_loc1 a0 r1 p2 a3 a4) []) _
    refine XS.aloadN X0.here hx rfl (D d4_0) rfl rfl (st890 _ (XS.istore X890.here hx rfl (D d4_4) rfl (l' := (own_loc2 a0 r1 p2 a3 a4 vn)) rfl (XS.iload X890.here hx rfl (D d4_6) rfl (XS.aloadN X890.here hx rfl (D d4_8) rfl rfl (st891 _ (ld892 _ ?_))))))
    rw [len_of S892 M892]
    show own_S p e below T891 (mkF m 13 (own_loc2 a0 r1 p2 a3 a4 vn) [.int 16, (.int vn)]) _
    refine XS.icmpYes X891.here hx rfl (pc0 := 13) (pc' := 100) rfl (D d4_13) rfl (feq (show ¬ (vn = (16 : Int32)) from own_ne_of_lt hvn.2)).2 (by decide) (by decide) (XS.aloadN X891.here hx rfl (D d4_100) rfl rfl (XS.dup X891.here hx rfl (D d4_101) rfl rfl (st893 _ (XS.iconst X893.here hx rfl (D d4_105) (XS.iadd X893.here hx rfl (D d4_106) rfl (st894 _ (XS.aloadN X894.here hx rfl (D d4_110) rfl rfl (st907 _ (XS.iload X907.here hx rfl (D d4_114) rfl ?_)))))))))
    refine XS.dloadN X907.here hx rfl (D d4_116) rfl (st908 _ (XS.aloadN X908.here hx rfl (D d4_118) rfl rfl (st921 _ ?_)))
    show own_S p e below T921 (mkF m 122 (own_loc2 a0 r1 p2 a3 a4 vn) [(.ref ug)]) _
    refine XS.iload X921.here hx rfl (D d4_122) rfl (XS.iloadN X921.here hx rfl (D d4_124) rfl (st922 _ (XS.aloadN X922.here hx rfl (D d4_126) rfl rfl (st935 _ (XS.iload X935.here hx rfl (D d4_130) rfl (XS.iconst X935.here hx rfl (D d4_132) (st936 _ (XS.aloadN X936.here hx rfl (D d4_134) rfl rfl (st949 _ ?_)))))))))
    refine XS.iload X949.here hx rfl (D d4_138) rfl (XS.aloadN X949.here hx rfl (D d4_140) rfl rfl (st950 _ (st951 _ ?_)))
    show own_S p e below T951 (mkF m 145 (own_loc2 a0 r1 p2 a3 a4 vn) []) _
    refine XS.iconst X951.here hx rfl (D d4_145) (XS.istore X951.here hx rfl (D d4_146) rfl (l' := (own_loc3 a0 r1 p2 a3 a4 vn)) rfl (XS.iload X951.here hx rfl (D d4_148) rfl (XS.aload X951.here hx rfl (D d4_150) rfl rfl (ld964 _ ?_))))
    rw [len_of S964 M964]
    show own_S p e below T951 (mkF m 153 (own_loc3 a0 r1 p2 a3 a4 vn) [.int 2, .int 0]) _
    refine XS.icmpNo X951.here hx rfl (D d4_153) rfl (tlt (by decide : (0 : Int32) < (2 : Int32))).2.1 (XS.aload X951.here hx rfl (D d4_156) rfl rfl (XS.iload X951.here hx rfl (D d4_158) rfl (own_ldD X951 hx hZ e951 x958 (j := (0 : Int32)) ⟨(by decide), (by decide)⟩ (v := (.double xo0)) rfl rfl rfl (D d4_160) (XS.dconst0 X951.here hx rfl (D d4_161) rfl (XS.dcmpS X951.here hx rfl (D d4_162) rfl rfl (XS.ifNo X951.here hx rfl (D d4_163) rfl ((if0 _ _).trans (feq (show ¬ ((cmpValue (FP.dcmp xo0 (0 : UInt64)) .l) = (0 : Int32)) from hz0)).1) (XS.aloadN X951.here hx rfl (D d4_166) rfl rfl (XS.aload X951.here hx rfl (D d4_167) rfl rfl (XS.iload X951.here hx rfl (D d4_169) rfl ?_)))))))))
    refine own_ldI X951 hx hZ e951 x957 (j := (0 : Int32)) ⟨(by decide), (by decide)⟩ (v := (.int ro0)) rfl rfl rfl (D d4_171) (XS.aload X951.here hx rfl (D d4_172) rfl rfl (XS.iload X951.here hx rfl (D d4_174) rfl (own_ldD X951 hx hZ e951 x958 (j := (0 : Int32)) ⟨(by decide), (by decide)⟩ (v := (.double xo0)) rfl rfl rfl (D d4_176) ?_)))
    exact kt
  obtain ⟨cq969, q969, q969'⟩ := x952.cell
  obtain ⟨_, _, ⟨T969, L969, k969, n969⟩, -, X969, ⟨Lc969, hQ969, l969, y969, z969⟩, st969⟩ := X951.privateBack hx (y := (⟨own_K, "appendEntry", "(ID)V"⟩ : MethodName)) hown (mvT hZ (own_wk hw 72 rfl)) (mvT hZ (own_wk hw 73 rfl)) (own_selp (ym := (⟨own_K, "addGroup", "()I"⟩ : MethodName)) (mvT hZ (own_wk hw 57 rfl)) rfl (Cond.privateMethod_at (mvP hZ (own_wk hw 74 rfl) (args := #[]))) (mvT hZ (own_wk hw 73 rfl)) (by decide)) (Cond.privateMethod_at (mvP hZ (own_wk hw 74 rfl) (args := #[]))) (mvT hZ (own_wk hw 75 rfl)) (by decide) (backOf (W := 0) (rm5 l Z ag hw [] a0 ro0 xo0 _ _ _ _ _ _ _ _ _ _ _ _ _ _ _ _ _ _ _ _ _ _ _ _ _ _ _ _ _ _ _ h951 n0 (Nat.le_trans Z0 kp963.1) x952 x959 x955 x956 ge_a0 ge_ur ge_uv ne_a0_ur ne_a0_uv ne_ur_uv hen0 hlr0 hlv0) hZ (own_wk hw 75 rfl) (own_wk hw 2 rfl) (by decide) (by decide)) (g := (mkF m 177 (own_loc3 a0 r1 p2 a3 a4 vn) [(.double xo0), (.int ro0), (.ref a0)])) rfl (by rw [hml]; rfl) (Steps.refl _) (a := a0) (by rw [e951]; exact q969) q969' (argsL := [(.int ro0), (.double xo0)]) (rest := []) (lenOf pd_8 rfl) rfl (by show 2 * 0 + _ ≤ _; exact Nat.le_of_eq rfl) (D d4_177) (fun _ _ => ⟨rfl, e951, (by decide : 0 + 0 ≤ _), (by decide : 0 + 0 ≤ _)⟩)
  dsimp only [Pt.U, Pt.locs, Pt.cells, Pt.slots] at X969 l969 y969 z969 st969 hQ969
  subst l969 y969 z969
  obtain ⟨rfl, N969q, K969, o969_0, o969_1, o969_2⟩ := hQ969
  have N969 := Fr.app N951 N969q
  have x970 := x952.keep K969
  have x971 := x953.keep K969 (ninS (Ne.symm ne_a0_ue) (ninS ne_ue_ur (ninS ne_ue_uv nin0)))
  have x972 := x954.keep K969 (ninS (Ne.symm ne_a0_um) (ninS ne_um_ur (ninS ne_um_uv nin0)))
  have x973 := x957.keep K969 (ninS (Ne.symm ne_a0_a3) (ninS (Ne.symm ne_ur_a3) (ninS (Ne.symm ne_uv_a3) nin0)))
  have x974 := x958.keep K969 (ninS (Ne.symm ne_a0_a4) (ninS (Ne.symm ne_ur_a4) (ninS (Ne.symm ne_uv_a4) nin0)))
  have x975 := x960.keep K969 (ninS (Ne.symm ne_a0_uc) (ninS ne_uc_ur (ninS ne_uc_uv nin0)))
  have x976 := x961.keep K969 (ninS (Ne.symm ne_a0_ug) (ninS ne_ug_ur (ninS ne_ug_uv nin0)))
  have x977 := x962.keep K969 (ninS (Ne.symm ne_a0_up) (ninS ne_up_ur (ninS ne_up_uv nin0)))
  have x978 := V951.keep K969 (ninS (Ne.symm ne_a0_uf) (ninS ne_uf_ur (ninS ne_uf_uv nin0)))
  have kp979 : Keep h0 T969.heap [a0, uc, ug, up, uf, ue, um, ur, uv] := kp963.trans K969 (allS (Or.inl (List.mem_of_getElem? (i := 0) rfl)) (allS (Or.inl (List.mem_of_getElem? (i := 7) rfl)) (allS (Or.inl (List.mem_of_getElem? (i := 8) rfl)) all0)))
  obtain ⟨T980, X980, e980, st980⟩ := own_gf X969 hx hZ hown (own_wk hw 19 rfl) rfl o969_0 4 rfl rfl (g := (mkF m 181 (own_loc3 a0 r1 p2 a3 a4 vn) [(.ref a0)])) rfl rfl (D d4_181)
  obtain ⟨T982, h982, X982, e982, W982, V982, st982⟩ := own_stI X980 hx hZ e980 x971 (j := vn) hvn (vn).toNatClampNeg rfl hl_ue (vs' := (le.set (vn).toNatClampNeg (.int (1 : Int32)))) rfl (g := (mkF m 190 (own_loc3 a0 r1 p2 a3 a4 vn) [.int 1, (.int vn), (.ref ue)])) rfl rfl (D d4_190)
  have x983 := x970.wr W982
  have x984 := x972.other W982 (Ne.symm ne_ue_um)
  have x985 := x973.other W982 (Ne.symm ne_ue_a3)
  have x986 := x974.other W982 (Ne.symm ne_ue_a4)
  have x987 := x975.other W982 ne_uc_ue
  have x988 := x976.other W982 ne_ug_ue
  have x989 := x977.other W982 ne_up_ue
  have x990 := x978.other W982 ne_uf_ue
  have x991 := o969_0.other W982 ne_a0_ue
  have x992 := o969_1.other W982 (Ne.symm ne_ue_ur)
  have x993 := o969_2.other W982 (Ne.symm ne_ue_uv)
  have kp994 : Keep h0 h982 [a0, uc, ug, up, uf, ue, um, ur, uv] := kp979.wr W982 (Or.inl (List.mem_of_getElem? (i := 5) rfl))
  have N982 := Fr.snoc X982 N969 ge_ue
  obtain ⟨cl995, Ar995, -, S995, M995, -, -⟩ := id x985
  have ld995 := X982.arraylength hx (by rw [e982]; exact Ar995.1) (State.isArrayOf_alike hZ.alike Ar995.2.1) (g := (mkF m 152 (own_loc4 a0 r1 p2 a3 a4 vn) [(.ref a3), .int 1])) rfl rfl (D d4_152)
  have cp999 : ∀ target, own_S p e below T982 (mkF m 177 (own_loc4 a0 r1 p2 a3 a4 vn) [(.double xo1), (.int ro1), (.ref a0)]) target → own_S p e below s₁ (mkF m 0 (own_loc1 a0 r1 p2 a3 a4) []) target := by
    intro target kt
    show own_S p e below s₁ (mkF m 0 (own_loc1 a0 r1 p2 a3 a4) []) _
    refine cp968 _ (st969.trans (XS.aloadN X969.here hx rfl (D d4_180) rfl rfl (st980 _ (XS.iload X980.here hx rfl (D d4_184) rfl (Jvm.Free.XT.dup2 X980.here hx rfl (D d4_186) rfl rfl rfl (own_ldI X980 hx hZ e980 x971 (j := vn) hvn (v := (.int (0 : Int32))) hle rfl rfl (D d4_187) (XS.iconst X980.here hx rfl (D d4_188) (XS.iadd X980.here hx rfl (D d4_189) rfl ?_))))))))
    show own_S p e below T980 (mkF m 190 (own_loc3 a0 r1 p2 a3 a4 vn) [(.int ((0 : Int32) + (1 : Int32))), (.int vn), (.ref ue)]) _
    rw [show ((0 : Int32) + (1 : Int32)) = (1 : Int32) from by decide]
    show own_S p e below T980 (mkF m 190 (own_loc3 a0 r1 p2 a3 a4 vn) [.int 1, (.int vn), (.ref ue)]) _
    refine st982 _ (XS.iinc X982.here hx rfl (D d4_191) rfl (l' := (own_loc4 a0 r1 p2 a3 a4 vn)) rfl (XS.goto X982.here hx rfl (pc0 := 194) (pc' := 148) rfl (D d4_194) (by decide) (by decide) (XS.iload X982.here hx rfl (D d4_148) rfl (XS.aload X982.here hx rfl (D d4_150) rfl rfl (ld995 _ ?_)))))
    rw [len_of S995 M995]
    show own_S p e below T982 (mkF m 153 (own_loc4 a0 r1 p2 a3 a4 vn) [.int 2, .int 1]) _
    refine XS.icmpNo X982.here hx rfl (D d4_153) rfl (tlt (by decide : (1 : Int32) < (2 : Int32))).2.1 (XS.aload X982.here hx rfl (D d4_156) rfl rfl (XS.iload X982.here hx rfl (D d4_158) rfl (own_ldD X982 hx hZ e982 x986 (j := (1 : Int32)) ⟨(by decide), (by decide)⟩ (v := (.double xo1)) rfl rfl rfl (D d4_160) (XS.dconst0 X982.here hx rfl (D d4_161) rfl (XS.dcmpS X982.here hx rfl (D d4_162) rfl rfl (XS.ifNo X982.here hx rfl (D d4_163) rfl ((if0 _ _).trans (feq (show ¬ ((cmpValue (FP.dcmp xo1 (0 : UInt64)) .l) = (0 : Int32)) from hz1)).1) (XS.aloadN X982.here hx rfl (D d4_166) rfl rfl (XS.aload X982.here hx rfl (D d4_167) rfl rfl (XS.iload X982.here hx rfl (D d4_169) rfl ?_)))))))))
    refine own_ldI X982 hx hZ e982 x985 (j := (1 : Int32)) ⟨(by decide), (by decide)⟩ (v := (.int ro1)) rfl rfl rfl (D d4_171) (XS.aload X982.here hx rfl (D d4_172) rfl rfl (XS.iload X982.here hx rfl (D d4_174) rfl (own_ldD X982 hx hZ e982 x986 (j := (1 : Int32)) ⟨(by decide), (by decide)⟩ (v := (.double xo1)) rfl rfl rfl (D d4_176) ?_)))
    exact kt
  obtain ⟨cq1000, q1000, q1000'⟩ := x983.cell
  obtain ⟨_, _, ⟨T1000, L1000, k1000, n1000⟩, -, X1000, ⟨Lc1000, hQ1000, l1000, y1000, z1000⟩, st1000⟩ := X982.privateBack hx (y := (⟨own_K, "appendEntry", "(ID)V"⟩ : MethodName)) hown (mvT hZ (own_wk hw 72 rfl)) (mvT hZ (own_wk hw 73 rfl)) (own_selp (ym := (⟨own_K, "addGroup", "()I"⟩ : MethodName)) (mvT hZ (own_wk hw 57 rfl)) rfl (Cond.privateMethod_at (mvP hZ (own_wk hw 74 rfl) (args := #[]))) (mvT hZ (own_wk hw 73 rfl)) (by decide)) (Cond.privateMethod_at (mvP hZ (own_wk hw 74 rfl) (args := #[]))) (mvT hZ (own_wk hw 75 rfl)) (by decide) (backOf (W := 0) (rm5 l Z ag hw [] a0 ro1 xo1 _ _ _ _ _ _ _ _ _ _ _ _ _ _ _ _ _ _ _ _ _ _ _ _ _ _ _ _ _ _ _ h982 n0 (Nat.le_trans Z0 kp994.1) x983 x991 x992 x993 ge_a0 ge_ur ge_uv ne_a0_ur ne_a0_uv ne_ur_uv hen1 (by rw [List.length_set]; exact hlr1) (by rw [List.length_set]; exact hlv1)) hZ (own_wk hw 75 rfl) (own_wk hw 2 rfl) (by decide) (by decide)) (g := (mkF m 177 (own_loc4 a0 r1 p2 a3 a4 vn) [(.double xo1), (.int ro1), (.ref a0)])) rfl (by rw [hml]; rfl) (Steps.refl _) (a := a0) (by rw [e982]; exact q1000) q1000' (argsL := [(.int ro1), (.double xo1)]) (rest := []) (lenOf pd_8 rfl) rfl (by show 2 * 0 + _ ≤ _; exact Nat.le_of_eq rfl) (D d4_177) (fun _ _ => ⟨rfl, e982, (by decide : 0 + 0 ≤ _), (by decide : 0 + 0 ≤ _)⟩)
  dsimp only [Pt.U, Pt.locs, Pt.cells, Pt.slots] at X1000 l1000 y1000 z1000 st1000 hQ1000
  subst l1000 y1000 z1000
  obtain ⟨rfl, N1000q, K1000, o1000_0, o1000_1, o1000_2⟩ := hQ1000
  have N1000 := Fr.app N982 N1000q
  have x1001 := x983.keep K1000
  have x1002 := x984.keep K1000 (ninS (Ne.symm ne_a0_um) (ninS ne_um_ur (ninS ne_um_uv nin0)))
  have x1003 := x985.keep K1000 (ninS (Ne.symm ne_a0_a3) (ninS (Ne.symm ne_ur_a3) (ninS (Ne.symm ne_uv_a3) nin0)))
  have x1004 := x986.keep K1000 (ninS (Ne.symm ne_a0_a4) (ninS (Ne.symm ne_ur_a4) (ninS (Ne.symm ne_uv_a4) nin0)))
  have x1005 := x987.keep K1000 (ninS (Ne.symm ne_a0_uc) (ninS ne_uc_ur (ninS ne_uc_uv nin0)))
  have x1006 := x988.keep K1000 (ninS (Ne.symm ne_a0_ug) (ninS ne_ug_ur (ninS ne_ug_uv nin0)))
  have x1007 := x989.keep K1000 (ninS (Ne.symm ne_a0_up) (ninS ne_up_ur (ninS ne_up_uv nin0)))
  have x1008 := x990.keep K1000 (ninS (Ne.symm ne_a0_uf) (ninS ne_uf_ur (ninS ne_uf_uv nin0)))
  have x1009 := V982.keep K1000 (ninS (Ne.symm ne_a0_ue) (ninS ne_ue_ur (ninS ne_ue_uv nin0)))
  have kp1010 : Keep h0 T1000.heap [a0, uc, ug, up, uf, ue, um, ur, uv] := kp994.trans K1000 (allS (Or.inl (List.mem_of_getElem? (i := 0) rfl)) (allS (Or.inl (List.mem_of_getElem? (i := 7) rfl)) (allS (Or.inl (List.mem_of_getElem? (i := 8) rfl)) all0)))
  obtain ⟨T1011, X1011, e1011, st1011⟩ := own_gf X1000 hx hZ hown (own_wk hw 19 rfl) rfl o1000_0 4 rfl rfl (g := (mkF m 181 (own_loc4 a0 r1 p2 a3 a4 vn) [(.ref a0)])) rfl rfl (D d4_181)
  obtain ⟨T1013, h1013, X1013, e1013, W1013, V1013, st1013⟩ := own_stI X1011 hx hZ e1011 x1009 (j := vn) hvn (vn).toNatClampNeg rfl (by rw [List.length_set]; exact hl_ue) (vs' := ((le.set (vn).toNatClampNeg (.int (1 : Int32))).set (vn).toNatClampNeg (.int (2 : Int32)))) rfl (g := (mkF m 190 (own_loc4 a0 r1 p2 a3 a4 vn) [.int 2, (.int vn), (.ref ue)])) rfl rfl (D d4_190)
  have x1014 := x1001.wr W1013
  have x1015 := x1002.other W1013 (Ne.symm ne_ue_um)
  have x1016 := x1003.other W1013 (Ne.symm ne_ue_a3)
  have x1017 := x1004.other W1013 (Ne.symm ne_ue_a4)
  have x1018 := x1005.other W1013 ne_uc_ue
  have x1019 := x1006.other W1013 ne_ug_ue
  have x1020 := x1007.other W1013 ne_up_ue
  have x1021 := x1008.other W1013 ne_uf_ue
  have x1022 := o1000_0.other W1013 ne_a0_ue
  have x1023 := o1000_1.other W1013 (Ne.symm ne_ue_ur)
  have x1024 := o1000_2.other W1013 (Ne.symm ne_ue_uv)
  have kp1025 : Keep h0 h1013 [a0, uc, ug, up, uf, ue, um, ur, uv] := kp1010.wr W1013 (Or.inl (List.mem_of_getElem? (i := 5) rfl))
  have N1013 := Fr.snoc X1013 N1000 ge_ue
  obtain ⟨cl1026, Ar1026, -, S1026, M1026, -, -⟩ := id x1016
  have ld1026 := X1013.arraylength hx (by rw [e1013]; exact Ar1026.1) (State.isArrayOf_alike hZ.alike Ar1026.2.1) (g := (mkF m 152 (own_loc5 a0 r1 p2 a3 a4 vn) [(.ref a3), .int 2])) rfl rfl (D d4_152)
  obtain ⟨T1027, X1027, e1027, st1027⟩ := own_gf X1013 hx hZ hown (own_wk hw 21 rfl) e1013 x1022 5 rfl rfl (g := (mkF m 198 (own_loc5 a0 r1 p2 a3 a4 vn) [(.ref a0)])) rfl rfl (D d4_198)
  obtain ⟨T1028, X1028, e1028, st1028⟩ := own_gf X1027 hx hZ hown (own_wk hw 19 rfl) e1027 x1022 4 rfl rfl (g := (mkF m 204 (own_loc5 a0 r1 p2 a3 a4 vn) [(.ref a0), (.int vn), (.ref um)])) rfl rfl (D d4_204)
  obtain ⟨T1030, h1030, X1030, e1030, W1030, V1030, st1030⟩ := own_stI X1028 hx hZ e1028 x1015 (j := vn) hvn (vn).toNatClampNeg rfl hl_um (vs' := (lm.set (vn).toNatClampNeg (.int (2 : Int32)))) rfl (g := (mkF m 210 (own_loc5 a0 r1 p2 a3 a4 vn) [.int 2, (.int vn), (.ref um)])) rfl rfl (D d4_210)
  have x1031 := x1014.wr W1030
  have x1032 := x1016.other W1030 (Ne.symm ne_um_a3)
  have x1033 := x1017.other W1030 (Ne.symm ne_um_a4)
  have x1034 := x1018.other W1030 ne_uc_um
  have x1035 := x1019.other W1030 ne_ug_um
  have x1036 := x1020.other W1030 ne_up_um
  have x1037 := x1021.other W1030 ne_uf_um
  have x1038 := x1022.other W1030 ne_a0_um
  have x1039 := x1023.other W1030 (Ne.symm ne_um_ur)
  have x1040 := x1024.other W1030 (Ne.symm ne_um_uv)
  have x1041 := V1013.other W1030 ne_ue_um
  have kp1042 : Keep h0 h1030 [a0, uc, ug, up, uf, ue, um, ur, uv] := kp1025.wr W1030 (Or.inl (List.mem_of_getElem? (i := 6) rfl))
  have N1030 := Fr.snoc X1030 N1013 ge_um
  obtain ⟨fs, hr, hrun, hended, hW, hsame⟩ := X1030.leave (v := some (.int vn)) (fun h => by rw [Bd.returns] at h; cases h)
  refine ⟨_, _, pre0 _ ?_, hrun, hended, _, _, rfl, ?_, ⟨_, rfl⟩, hW, hsame.mono (by decide) (by decide)⟩
  · show own_S p e below s₁ (mkF m 0 (own_loc1 a0 r1 p2 a3 a4) []) _
    refine cp999 _ (st1000.trans (XS.aloadN X1000.here hx rfl (D d4_180) rfl rfl (st1011 _ (XS.iload X1011.here hx rfl (D d4_184) rfl (Jvm.Free.XT.dup2 X1011.here hx rfl (D d4_186) rfl rfl rfl (own_ldI X1011 hx hZ e1011 x1009 (j := vn) hvn (v := (.int (1 : Int32))) (own_gs hl_ue) rfl rfl (D d4_187) (XS.iconst X1011.here hx rfl (D d4_188) (XS.iadd X1011.here hx rfl (D d4_189) rfl ?_))))))))
    show own_S p e below T1011 (mkF m 190 (own_loc4 a0 r1 p2 a3 a4 vn) [(.int ((1 : Int32) + (1 : Int32))), (.int vn), (.ref ue)]) _
    rw [show ((1 : Int32) + (1 : Int32)) = (2 : Int32) from by decide]
    show own_S p e below T1011 (mkF m 190 (own_loc4 a0 r1 p2 a3 a4 vn) [.int 2, (.int vn), (.ref ue)]) _
    refine st1013 _ (XS.iinc X1013.here hx rfl (D d4_191) rfl (l' := (own_loc5 a0 r1 p2 a3 a4 vn)) rfl (XS.goto X1013.here hx rfl (pc0 := 194) (pc' := 148) rfl (D d4_194) (by decide) (by decide) (XS.iload X1013.here hx rfl (D d4_148) rfl (XS.aload X1013.here hx rfl (D d4_150) rfl rfl (ld1026 _ ?_)))))
    rw [len_of S1026 M1026]
    show own_S p e below T1013 (mkF m 153 (own_loc5 a0 r1 p2 a3 a4 vn) [.int 2, .int 2]) _
    refine XS.icmpYes X1013.here hx rfl (pc0 := 153) (pc' := 197) rfl (D d4_153) rfl (flt (by decide : ¬ ((2 : Int32) < (2 : Int32)))).2.1 (by decide) (by decide) (XS.aloadN X1013.here hx rfl (D d4_197) rfl rfl (st1027 _ (XS.iload X1027.here hx rfl (D d4_201) rfl (XS.aloadN X1027.here hx rfl (D d4_203) rfl rfl (st1028 _ (XS.iload X1028.here hx rfl (D d4_207) rfl (own_ldI X1028 hx hZ e1028 V1013 (j := vn) hvn (v := (.int (2 : Int32))) (own_gs (by rw [List.length_set]; exact hl_ue)) rfl rfl (D d4_209) (st1030 _ (XS.iload X1030.here hx rfl (D d4_211) rfl ?_)))))))))
    show own_S p e below T1030 (mkF m 213 (own_loc5 a0 r1 p2 a3 a4 vn) [(.int vn)]) _
    exact retI X1030 hx Bd.returns (D d4_213) hr
  · show Q4_2 Z a0 r1 p2 a3 a4 uc ug up uf ue um ur uv w_bounds w_slacks w_keys w_keyValues w_head w_inverse w_values w_groupDualPass w_groupDualValues w_rates w_rated w_ratedGroups w_started w_groupCount vn en w_rowCount w_objective w_pivotsSinceInversion kuc lc kug lg kup lp kuf lf kue le kum lm kur lr kuv lv ka3 ro0 ro1 ka4 xo0 xo1 h0 n0 _ T1030.heap _
    rw [e1030]
    exact ⟨rfl, N1030, kp1042, x1038, x1034, x1035, x1036, x1037, x1041, V1030, x1039, x1040⟩
def Q4_2z (Z : State) (a0 : Addr) (r1 : UInt64) (p2 : Int32) (a3 a4 uc ug up uf ue um ur uv : Addr) (w_bounds w_slacks w_keys w_keyValues w_head w_inverse w_values w_groupDualPass w_groupDualValues w_rates w_rated w_ratedGroups w_started w_groupCount : Value) (vn en : Int32) (w_rowCount w_objective w_pivotsSinceInversion : Value) (kuc : ClassId) (lc : List Value) (kug : ClassId) (lg : List Value) (kup : ClassId) (lp : List Value) (kuf : ClassId) (lf : List Value) (kue : ClassId) (le : List Value) (kum : ClassId) (lm : List Value) (kur : ClassId) (lr : List Value) (kuv : ClassId) (lv : List Value) (ka3 : ClassId) (ro0 ro1 : Int32) (ka4 : ClassId) (xo0 xo1 : UInt64) (h0 : Heap) (n0 : Nat) (v : Option Value) (h : Heap) (L : List Loc) : Prop := v = some (.int vn) ∧ Fr n0 L ∧ Keep h0 h [a0, uc, ug, up, uf, ue, um, ur, uv] ∧ own_fs own_K own_N Z h a0 [(.ref uc), (.ref ug), (.ref up), (.ref uf), (.ref ue), (.ref um), (.ref ur), (.ref uv), w_bounds, w_slacks, w_keys, w_keyValues, w_head, w_inverse, w_values, w_groupDualPass, w_groupDualValues, w_rates, w_rated, w_ratedGroups, w_started, w_groupCount, (.int (vn + (1 : Int32))), (.int (en + (1 : Int32))), w_rowCount, w_objective, w_pivotsSinceInversion] ∧ Arv Z h uc kuc .double (16 : Int32) (lc.set (vn).toNatClampNeg (.double r1)) (.double (0 : UInt64)) ∧ Arv Z h ug kug .int (16 : Int32) (lg.set (vn).toNatClampNeg (.int p2)) (.int (0 : Int32)) ∧ Arv Z h up kup .int (16 : Int32) (lp.set (vn).toNatClampNeg (.int (-1 : Int32))) (.int (0 : Int32)) ∧ Arv Z h uf kuf .int (16 : Int32) (lf.set (vn).toNatClampNeg (.int en)) (.int (0 : Int32)) ∧ Arv Z h ue kue .int (16 : Int32) (le.set (vn).toNatClampNeg (.int (1 : Int32))) (.int (0 : Int32)) ∧ Arv Z h um kum .int (16 : Int32) (lm.set (vn).toNatClampNeg (.int (1 : Int32))) (.int (0 : Int32)) ∧ Arv Z h ur kur .int (64 : Int32) (lr.set (en).toNatClampNeg (.int ro0)) (.int (0 : Int32)) ∧ Arv Z h uv kuv .double (64 : Int32) (lv.set (en).toNatClampNeg (.double xo0)) (.double (0 : UInt64))
set_option maxRecDepth 65536 in
set_option maxHeartbeats 40000000 in
theorem rm4_2z (l : Launch) (Z : State) (ag : Array Value) (hw : ∀ d ∈ tables_1, d.before ag Z = true) (ws : List Jvm.Cond) (a0 : Addr) (r1 : UInt64) (p2 : Int32) (a3 a4 uc ug up uf ue um ur uv : Addr) (w_bounds w_slacks w_keys w_keyValues w_head w_inverse w_values w_groupDualPass w_groupDualValues w_rates w_rated w_ratedGroups w_started w_groupCount : Value) (vn en : Int32) (w_rowCount w_objective w_pivotsSinceInversion : Value) (kuc : ClassId) (lc : List Value) (kug : ClassId) (lg : List Value) (kup : ClassId) (lp : List Value) (kuf : ClassId) (lf : List Value) (kue : ClassId) (le : List Value) (kum : ClassId) (lm : List Value) (kur : ClassId) (lr : List Value) (kuv : ClassId) (lv : List Value) (ka3 : ClassId) (ro0 ro1 : Int32) (ka4 : ClassId) (xo0 xo1 : UInt64) (h0 : Heap) (n0 : Nat) (Z0 : n0 ≤ h0.size) (E_a0 : Exa Z h0 a0 own_K) (Ob_a0 : own_fs own_K own_N Z h0 a0 [(.ref uc), (.ref ug), (.ref up), (.ref uf), (.ref ue), (.ref um), (.ref ur), (.ref uv), w_bounds, w_slacks, w_keys, w_keyValues, w_head, w_inverse, w_values, w_groupDualPass, w_groupDualValues, w_rates, w_rated, w_ratedGroups, w_started, w_groupCount, (.int vn), (.int en), w_rowCount, w_objective, w_pivotsSinceInversion]) (V_uc : Arv Z h0 uc kuc .double (16 : Int32) lc (.double (0 : UInt64))) (V_ug : Arv Z h0 ug kug .int (16 : Int32) lg (.int (0 : Int32))) (V_up : Arv Z h0 up kup .int (16 : Int32) lp (.int (0 : Int32))) (V_uf : Arv Z h0 uf kuf .int (16 : Int32) lf (.int (0 : Int32))) (V_ue : Arv Z h0 ue kue .int (16 : Int32) le (.int (0 : Int32))) (V_um : Arv Z h0 um kum .int (16 : Int32) lm (.int (0 : Int32))) (V_ur : Arv Z h0 ur kur .int (64 : Int32) lr (.int (0 : Int32))) (V_uv : Arv Z h0 uv kuv .double (64 : Int32) lv (.double (0 : UInt64))) (V_a3 : Arv Z h0 a3 ka3 .int (2 : Int32) [(.int ro0), (.int ro1)] (.int (0 : Int32))) (V_a4 : Arv Z h0 a4 ka4 .double (2 : Int32) [(.double xo0), (.double xo1)] (.double (0 : UInt64))) (ge_a0 : n0 ≤ a0) (ge_uc : n0 ≤ uc) (ge_ug : n0 ≤ ug) (ge_up : n0 ≤ up) (ge_uf : n0 ≤ uf) (ge_ue : n0 ≤ ue) (ge_um : n0 ≤ um) (ge_ur : n0 ≤ ur) (ge_uv : n0 ≤ uv) (ne_a0_uc : a0 ≠ uc) (ne_a0_ug : a0 ≠ ug) (ne_a0_up : a0 ≠ up) (ne_a0_uf : a0 ≠ uf) (ne_a0_ue : a0 ≠ ue) (ne_a0_um : a0 ≠ um) (ne_a0_ur : a0 ≠ ur) (ne_a0_uv : a0 ≠ uv) (ne_a0_a3 : a0 ≠ a3) (ne_a0_a4 : a0 ≠ a4) (ne_uc_ug : uc ≠ ug) (ne_uc_up : uc ≠ up) (ne_uc_uf : uc ≠ uf) (ne_uc_ue : uc ≠ ue) (ne_uc_um : uc ≠ um) (ne_uc_ur : uc ≠ ur) (ne_uc_uv : uc ≠ uv) (ne_uc_a3 : uc ≠ a3) (ne_uc_a4 : uc ≠ a4) (ne_ug_up : ug ≠ up) (ne_ug_uf : ug ≠ uf) (ne_ug_ue : ug ≠ ue) (ne_ug_um : ug ≠ um) (ne_ug_ur : ug ≠ ur) (ne_ug_uv : ug ≠ uv) (ne_ug_a3 : ug ≠ a3) (ne_ug_a4 : ug ≠ a4) (ne_up_uf : up ≠ uf) (ne_up_ue : up ≠ ue) (ne_up_um : up ≠ um) (ne_up_ur : up ≠ ur) (ne_up_uv : up ≠ uv) (ne_up_a3 : up ≠ a3) (ne_up_a4 : up ≠ a4) (ne_uf_ue : uf ≠ ue) (ne_uf_um : uf ≠ um) (ne_uf_ur : uf ≠ ur) (ne_uf_uv : uf ≠ uv) (ne_uf_a3 : uf ≠ a3) (ne_uf_a4 : uf ≠ a4) (ne_ue_um : ue ≠ um) (ne_ue_ur : ue ≠ ur) (ne_ue_uv : ue ≠ uv) (ne_ue_a3 : ue ≠ a3) (ne_ue_a4 : ue ≠ a4) (ne_um_ur : um ≠ ur) (ne_um_uv : um ≠ uv) (ne_um_a3 : um ≠ a3) (ne_um_a4 : um ≠ a4) (ne_ur_uv : ur ≠ uv) (ne_ur_a3 : ur ≠ a3) (ne_ur_a4 : ur ≠ a4) (ne_uv_a3 : uv ≠ a3) (ne_uv_a4 : uv ≠ a4) (hvn : ¬ vn < 0 ∧ vn < (16 : Int32)) (hle : le.getD (vn).toNatClampNeg (.int (0 : Int32)) = .int (0 : Int32)) (hl_uc : (vn).toNatClampNeg < lc.length) (hl_ug : (vn).toNatClampNeg < lg.length) (hl_up : (vn).toNatClampNeg < lp.length) (hl_uf : (vn).toNatClampNeg < lf.length) (hl_ue : (vn).toNatClampNeg < le.length) (hl_um : (vn).toNatClampNeg < lm.length) (hen0 : ¬ en < 0 ∧ en < (64 : Int32)) (hlr0 : (en).toNatClampNeg < lr.length) (hlv0 : (en).toNatClampNeg < lv.length) (hz0 : ¬ (cmpValue (FP.dcmp xo0 (0 : UInt64)) .l) = (0 : Int32)) (hz1 : (cmpValue (FP.dcmp xo1 (0 : UInt64)) .l) = (0 : Int32)) :
    MetFree l (⟨own_K, "addVariable", "(DI[I[D)I"⟩ : MethodName) (head1 (Jvm.Cond.code (⟨own_K, "addVariable", "(DI[I[D)I"⟩ : MethodName) prog_56_method_3_code 8 (some .int) :: ws) ({ frames := 1, cells := 0, slots := 0, locals := 15 } : Room)) (fun a U => a = #[(.ref a0), (.double r1), (.int p2), (.ref a3), (.ref a4)] ∧ Z.Warmed39 U.vm ∧ U.heap = h0) (fun _ _ _ _ _ => True) (fun _ U o U' => ∃ v L, o = .returned v ∧ Q4_2z Z a0 r1 p2 a3 a4 uc ug up uf ue um ur uv w_bounds w_slacks w_keys w_keyValues w_head w_inverse w_values w_groupDualPass w_groupDualValues w_rates w_rated w_ratedGroups w_started w_groupCount vn en w_rowCount w_objective w_pivotsSinceInversion kuc lc kug lg kup lp kuf lf kue le kum lm kur lr kuv lv ka3 ro0 ro1 ka4 xo0 xo1 h0 n0 v U'.heap L ∧ FrameEnd U o U' L ({ frames := 1, cells := 0, slots := 0, locals := 15 } : Room).cells ({ frames := 1, cells := 0, slots := 0, locals := 15 } : Room).slots) := by
  refine MetFree.of_bodySF (plainFor_of_name pn_0) hisR ?_
  intro p e s m args below meth c s₁ Bd hml0 hP hK
  obtain ⟨rfl, hZ, hh⟩ := hP
  have hx := Bd.exec
  have hby := Bd.bytes
  have hml : c.maxLocals = 8 := hml0
  have hown : s.vm.findClass own_K = some m.cls := findClass_of_methodNamed Bd.named
  have hnm := (name_of_methodNamed Bd.named Bd.method).1
  have X0 : Stand p l e ({ frames := 1, cells := 0, slots := 0, locals := 15 } : Room) s m #[(.ref a0), (.double r1), (.int p2), (.ref a3), (.ref a4)] below meth c s₁ [] 0 0 := Stand.of_body Bd
  have e0 : s₁.heap = h0 := by rw [← hh, Bd.state]; rfl
  have N0 := Fr.nil n0
  have D : ∀ {pc : Nat} {r : Except DecodeError (Instr × Nat)}, decode prog_56_method_3_code pc = r → decode c.code pc = r := fun q => hb hby q
  have pre0 : ∀ t, Steps p.tables e below (s₁.setTop (mkF m 0 #[.val (.ref a0), .val (.double r1), .second, .val (.int p2), .val (.ref a3), .val (.ref a4), .unset, .unset] [])) t → Steps p.tables e below (s₁.setTop (entryFrame m #[(.ref a0), (.double r1), (.int p2), (.ref a3), (.ref a4)] 8)) t := fun t k => castTop (ef_4 m a0 r1 p2 a3 a4) k
  obtain ⟨T1043, X1043, e1043, st1043⟩ := own_gf X0 hx hZ hown (own_wk hw 68 rfl) e0 Ob_a0 22 rfl rfl (g := (mkF m 1 (own_loc1 a0 r1 p2 a3 a4) [(.ref a0)])) rfl rfl (D d4_1)
  obtain ⟨T1044, X1044, e1044, st1044⟩ := own_gf X1043 hx hZ hown (own_wk hw 10 rfl) e1043 Ob_a0 0 rfl rfl (g := (mkF m 9 (own_loc2 a0 r1 p2 a3 a4 vn) [(.ref a0), (.int vn)])) rfl rfl (D d4_9)
  obtain ⟨cl1045, Ar1045, -, S1045, M1045, -, -⟩ := id V_uc
  have ld1045 := X1044.arraylength hx (by rw [e1044]; exact Ar1045.1) (State.isArrayOf_alike hZ.alike Ar1045.2.1) (g := (mkF m 12 (own_loc2 a0 r1 p2 a3 a4 vn) [(.ref uc), (.int vn)])) rfl rfl (D d4_12)
  obtain ⟨T1046, X1046, e1046, st1046⟩ := own_gf X1044 hx hZ hown (own_wk hw 68 rfl) e1044 Ob_a0 22 rfl rfl (g := (mkF m 102 (own_loc2 a0 r1 p2 a3 a4 vn) [(.ref a0), (.ref a0)])) rfl rfl (D d4_102)
  obtain ⟨T1047, h1047, X1047, e1047, W1047, st1047⟩ := putF X1046 hx hZ hown (host := "") (Or.inl (own_wk hw 68 rfl)) Via.refl e1046 (Ob_a0.get 22 rfl rfl : Fld Z h0 a0 own_K "variableCount" "I" (.int vn)) E_a0 (Or.inl (own_wk hw 69 rfl)) (own_wk hw 1 rfl) (ty := .int) (by decide) rfl rfl (g := (mkF m 107 (own_loc2 a0 r1 p2 a3 a4 vn) [(.int (vn + (1 : Int32))), (.ref a0)])) rfl rfl (D d4_107)
  have Ob1047 := Ob_a0.put (own_layw hw) 22 rfl W1047
  have x1048 := E_a0.wr W1047
  have x1049 := V_uc.other W1047 (Ne.symm ne_a0_uc)
  have x1050 := V_ug.other W1047 (Ne.symm ne_a0_ug)
  have x1051 := V_up.other W1047 (Ne.symm ne_a0_up)
  have x1052 := V_uf.other W1047 (Ne.symm ne_a0_uf)
  have x1053 := V_ue.other W1047 (Ne.symm ne_a0_ue)
  have x1054 := V_um.other W1047 (Ne.symm ne_a0_um)
  have x1055 := V_ur.other W1047 (Ne.symm ne_a0_ur)
  have x1056 := V_uv.other W1047 (Ne.symm ne_a0_uv)
  have x1057 := V_a3.other W1047 (Ne.symm ne_a0_a3)
  have x1058 := V_a4.other W1047 (Ne.symm ne_a0_a4)
  have kp1059 : Keep h0 h1047 [a0, uc, ug, up, uf, ue, um, ur, uv] := (Keep.refl h0 [a0, uc, ug, up, uf, ue, um, ur, uv]).wr W1047 (Or.inl (List.mem_of_getElem? (i := 0) rfl))
  have N1047 := Fr.snoc X1047 N0 ge_a0
  obtain ⟨T1060, X1060, e1060, st1060⟩ := own_gf X1047 hx hZ hown (own_wk hw 10 rfl) e1047 Ob1047 0 rfl rfl (g := (mkF m 111 (own_loc2 a0 r1 p2 a3 a4 vn) [(.ref a0)])) rfl rfl (D d4_111)
  obtain ⟨T1061, h1061, X1061, e1061, W1061, V1061, st1061⟩ := own_stD X1060 hx hZ e1060 x1049 (j := vn) hvn (vn).toNatClampNeg rfl hl_uc (vs' := (lc.set (vn).toNatClampNeg (.double r1))) rfl (g := (mkF m 117 (own_loc2 a0 r1 p2 a3 a4 vn) [(.double r1), (.int vn), (.ref uc)])) rfl rfl (D d4_117)
  have x1062 := x1048.wr W1061
  have x1063 := x1050.other W1061 (Ne.symm ne_uc_ug)
  have x1064 := x1051.other W1061 (Ne.symm ne_uc_up)
  have x1065 := x1052.other W1061 (Ne.symm ne_uc_uf)
  have x1066 := x1053.other W1061 (Ne.symm ne_uc_ue)
  have x1067 := x1054.other W1061 (Ne.symm ne_uc_um)
  have x1068 := x1055.other W1061 (Ne.symm ne_uc_ur)
  have x1069 := x1056.other W1061 (Ne.symm ne_uc_uv)
  have x1070 := x1057.other W1061 (Ne.symm ne_uc_a3)
  have x1071 := x1058.other W1061 (Ne.symm ne_uc_a4)
  have x1072 := Ob1047.other W1061 ne_a0_uc
  have kp1073 : Keep h0 h1061 [a0, uc, ug, up, uf, ue, um, ur, uv] := kp1059.wr W1061 (Or.inl (List.mem_of_getElem? (i := 1) rfl))
  have N1061 := Fr.snoc X1061 N1047 ge_uc
  obtain ⟨T1074, X1074, e1074, st1074⟩ := own_gf X1061 hx hZ hown (own_wk hw 13 rfl) e1061 x1072 1 rfl rfl (g := (mkF m 119 (own_loc2 a0 r1 p2 a3 a4 vn) [(.ref a0)])) rfl rfl (D d4_119)
  obtain ⟨T1075, h1075, X1075, e1075, W1075, V1075, st1075⟩ := own_stI X1074 hx hZ e1074 x1063 (j := vn) hvn (vn).toNatClampNeg rfl hl_ug (vs' := (lg.set (vn).toNatClampNeg (.int p2))) rfl (g := (mkF m 125 (own_loc2 a0 r1 p2 a3 a4 vn) [(.int p2), (.int vn), (.ref ug)])) rfl rfl (D d4_125)
  have x1076 := x1062.wr W1075
  have x1077 := x1064.other W1075 (Ne.symm ne_ug_up)
  have x1078 := x1065.other W1075 (Ne.symm ne_ug_uf)
  have x1079 := x1066.other W1075 (Ne.symm ne_ug_ue)
  have x1080 := x1067.other W1075 (Ne.symm ne_ug_um)
  have x1081 := x1068.other W1075 (Ne.symm ne_ug_ur)
  have x1082 := x1069.other W1075 (Ne.symm ne_ug_uv)
  have x1083 := x1070.other W1075 (Ne.symm ne_ug_a3)
  have x1084 := x1071.other W1075 (Ne.symm ne_ug_a4)
  have x1085 := x1072.other W1075 ne_a0_ug
  have x1086 := V1061.other W1075 ne_uc_ug
  have kp1087 : Keep h0 h1075 [a0, uc, ug, up, uf, ue, um, ur, uv] := kp1073.wr W1075 (Or.inl (List.mem_of_getElem? (i := 2) rfl))
  have N1075 := Fr.snoc X1075 N1061 ge_ug
  obtain ⟨T1088, X1088, e1088, st1088⟩ := own_gf X1075 hx hZ hown (own_wk hw 15 rfl) e1075 x1085 2 rfl rfl (g := (mkF m 127 (own_loc2 a0 r1 p2 a3 a4 vn) [(.ref a0)])) rfl rfl (D d4_127)
  obtain ⟨T1089, h1089, X1089, e1089, W1089, V1089, st1089⟩ := own_stI X1088 hx hZ e1088 x1077 (j := vn) hvn (vn).toNatClampNeg rfl hl_up (vs' := (lp.set (vn).toNatClampNeg (.int (-1 : Int32)))) rfl (g := (mkF m 133 (own_loc2 a0 r1 p2 a3 a4 vn) [.int (-1), (.int vn), (.ref up)])) rfl rfl (D d4_133)
  have x1090 := x1076.wr W1089
  have x1091 := x1078.other W1089 (Ne.symm ne_up_uf)
  have x1092 := x1079.other W1089 (Ne.symm ne_up_ue)
  have x1093 := x1080.other W1089 (Ne.symm ne_up_um)
  have x1094 := x1081.other W1089 (Ne.symm ne_up_ur)
  have x1095 := x1082.other W1089 (Ne.symm ne_up_uv)
  have x1096 := x1083.other W1089 (Ne.symm ne_up_a3)
  have x1097 := x1084.other W1089 (Ne.symm ne_up_a4)
  have x1098 := x1085.other W1089 ne_a0_up
  have x1099 := x1086.other W1089 ne_uc_up
  have x1100 := V1075.other W1089 ne_ug_up
  have kp1101 : Keep h0 h1089 [a0, uc, ug, up, uf, ue, um, ur, uv] := kp1087.wr W1089 (Or.inl (List.mem_of_getElem? (i := 3) rfl))
  have N1089 := Fr.snoc X1089 N1075 ge_up
  obtain ⟨T1102, X1102, e1102, st1102⟩ := own_gf X1089 hx hZ hown (own_wk hw 17 rfl) e1089 x1098 3 rfl rfl (g := (mkF m 135 (own_loc2 a0 r1 p2 a3 a4 vn) [(.ref a0)])) rfl rfl (D d4_135)
  obtain ⟨T1103, X1103, e1103, st1103⟩ := own_gf X1102 hx hZ hown (own_wk hw 70 rfl) e1102 x1098 23 rfl rfl (g := (mkF m 141 (own_loc2 a0 r1 p2 a3 a4 vn) [(.ref a0), (.int vn), (.ref uf)])) rfl rfl (D d4_141)
  obtain ⟨T1104, h1104, X1104, e1104, W1104, V1104, st1104⟩ := own_stI X1103 hx hZ e1103 x1091 (j := vn) hvn (vn).toNatClampNeg rfl hl_uf (vs' := (lf.set (vn).toNatClampNeg (.int en))) rfl (g := (mkF m 144 (own_loc2 a0 r1 p2 a3 a4 vn) [(.int en), (.int vn), (.ref uf)])) rfl rfl (D d4_144)
  have x1105 := x1090.wr W1104
  have x1106 := x1092.other W1104 (Ne.symm ne_uf_ue)
  have x1107 := x1093.other W1104 (Ne.symm ne_uf_um)
  have x1108 := x1094.other W1104 (Ne.symm ne_uf_ur)
  have x1109 := x1095.other W1104 (Ne.symm ne_uf_uv)
  have x1110 := x1096.other W1104 (Ne.symm ne_uf_a3)
  have x1111 := x1097.other W1104 (Ne.symm ne_uf_a4)
  have x1112 := x1098.other W1104 ne_a0_uf
  have x1113 := x1099.other W1104 ne_uc_uf
  have x1114 := x1100.other W1104 ne_ug_uf
  have x1115 := V1089.other W1104 ne_up_uf
  have kp1116 : Keep h0 h1104 [a0, uc, ug, up, uf, ue, um, ur, uv] := kp1101.wr W1104 (Or.inl (List.mem_of_getElem? (i := 4) rfl))
  have N1104 := Fr.snoc X1104 N1089 ge_uf
  obtain ⟨cl1117, Ar1117, -, S1117, M1117, -, -⟩ := id x1110
  have ld1117 := X1104.arraylength hx (by rw [e1104]; exact Ar1117.1) (State.isArrayOf_alike hZ.alike Ar1117.2.1) (g := (mkF m 152 (own_loc3 a0 r1 p2 a3 a4 vn) [(.ref a3), .int 0])) rfl rfl (D d4_152)
  have cp1121 : ∀ target, own_S p e below T1104 (mkF m 177 (own_loc3 a0 r1 p2 a3 a4 vn) [(.double xo0), (.int ro0), (.ref a0)]) target → own_S p e below s₁ (mkF m 0 (own_loc1 a0 r1 p2 a3 a4) []) target := by
    intro target kt
    show own_S p e below s₁ (mkF m 0 (own_loc1 a0 r1 p2 a3 a4) []) _
    refine XS.aloadN X0.here hx rfl (D d4_0) rfl rfl (st1043 _ (XS.istore X1043.here hx rfl (D d4_4) rfl (l' := (own_loc2 a0 r1 p2 a3 a4 vn)) rfl (XS.iload X1043.here hx rfl (D d4_6) rfl (XS.aloadN X1043.here hx rfl (D d4_8) rfl rfl (st1044 _ (ld1045 _ ?_))))))
    rw [len_of S1045 M1045]
    show own_S p e below T1044 (mkF m 13 (own_loc2 a0 r1 p2 a3 a4 vn) [.int 16, (.int vn)]) _
    refine XS.icmpYes X1044.here hx rfl (pc0 := 13) (pc' := 100) rfl (D d4_13) rfl (feq (show ¬ (vn = (16 : Int32)) from own_ne_of_lt hvn.2)).2 (by decide) (by decide) (XS.aloadN X1044.here hx rfl (D d4_100) rfl rfl (XS.dup X1044.here hx rfl (D d4_101) rfl rfl (st1046 _ (XS.iconst X1046.here hx rfl (D d4_105) (XS.iadd X1046.here hx rfl (D d4_106) rfl (st1047 _ (XS.aloadN X1047.here hx rfl (D d4_110) rfl rfl (st1060 _ (XS.iload X1060.here hx rfl (D d4_114) rfl ?_)))))))))
    refine XS.dloadN X1060.here hx rfl (D d4_116) rfl (st1061 _ (XS.aloadN X1061.here hx rfl (D d4_118) rfl rfl (st1074 _ ?_)))
    show own_S p e below T1074 (mkF m 122 (own_loc2 a0 r1 p2 a3 a4 vn) [(.ref ug)]) _
    refine XS.iload X1074.here hx rfl (D d4_122) rfl (XS.iloadN X1074.here hx rfl (D d4_124) rfl (st1075 _ (XS.aloadN X1075.here hx rfl (D d4_126) rfl rfl (st1088 _ (XS.iload X1088.here hx rfl (D d4_130) rfl (XS.iconst X1088.here hx rfl (D d4_132) (st1089 _ (XS.aloadN X1089.here hx rfl (D d4_134) rfl rfl (st1102 _ ?_)))))))))
    refine XS.iload X1102.here hx rfl (D d4_138) rfl (XS.aloadN X1102.here hx rfl (D d4_140) rfl rfl (st1103 _ (st1104 _ ?_)))
    show own_S p e below T1104 (mkF m 145 (own_loc2 a0 r1 p2 a3 a4 vn) []) _
    refine XS.iconst X1104.here hx rfl (D d4_145) (XS.istore X1104.here hx rfl (D d4_146) rfl (l' := (own_loc3 a0 r1 p2 a3 a4 vn)) rfl (XS.iload X1104.here hx rfl (D d4_148) rfl (XS.aload X1104.here hx rfl (D d4_150) rfl rfl (ld1117 _ ?_))))
    rw [len_of S1117 M1117]
    show own_S p e below T1104 (mkF m 153 (own_loc3 a0 r1 p2 a3 a4 vn) [.int 2, .int 0]) _
    refine XS.icmpNo X1104.here hx rfl (D d4_153) rfl (tlt (by decide : (0 : Int32) < (2 : Int32))).2.1 (XS.aload X1104.here hx rfl (D d4_156) rfl rfl (XS.iload X1104.here hx rfl (D d4_158) rfl (own_ldD X1104 hx hZ e1104 x1111 (j := (0 : Int32)) ⟨(by decide), (by decide)⟩ (v := (.double xo0)) rfl rfl rfl (D d4_160) (XS.dconst0 X1104.here hx rfl (D d4_161) rfl (XS.dcmpS X1104.here hx rfl (D d4_162) rfl rfl (XS.ifNo X1104.here hx rfl (D d4_163) rfl ((if0 _ _).trans (feq (show ¬ ((cmpValue (FP.dcmp xo0 (0 : UInt64)) .l) = (0 : Int32)) from hz0)).1) (XS.aloadN X1104.here hx rfl (D d4_166) rfl rfl (XS.aload X1104.here hx rfl (D d4_167) rfl rfl (XS.iload X1104.here hx rfl (D d4_169) rfl ?_)))))))))
    refine own_ldI X1104 hx hZ e1104 x1110 (j := (0 : Int32)) ⟨(by decide), (by decide)⟩ (v := (.int ro0)) rfl rfl rfl (D d4_171) (XS.aload X1104.here hx rfl (D d4_172) rfl rfl (XS.iload X1104.here hx rfl (D d4_174) rfl (own_ldD X1104 hx hZ e1104 x1111 (j := (0 : Int32)) ⟨(by decide), (by decide)⟩ (v := (.double xo0)) rfl rfl rfl (D d4_176) ?_)))
    exact kt
  obtain ⟨cq1122, q1122, q1122'⟩ := x1105.cell
  obtain ⟨_, _, ⟨T1122, L1122, k1122, n1122⟩, -, X1122, ⟨Lc1122, hQ1122, l1122, y1122, z1122⟩, st1122⟩ := X1104.privateBack hx (y := (⟨own_K, "appendEntry", "(ID)V"⟩ : MethodName)) hown (mvT hZ (own_wk hw 72 rfl)) (mvT hZ (own_wk hw 73 rfl)) (own_selp (ym := (⟨own_K, "addGroup", "()I"⟩ : MethodName)) (mvT hZ (own_wk hw 57 rfl)) rfl (Cond.privateMethod_at (mvP hZ (own_wk hw 74 rfl) (args := #[]))) (mvT hZ (own_wk hw 73 rfl)) (by decide)) (Cond.privateMethod_at (mvP hZ (own_wk hw 74 rfl) (args := #[]))) (mvT hZ (own_wk hw 75 rfl)) (by decide) (backOf (W := 0) (rm5 l Z ag hw [] a0 ro0 xo0 _ _ _ _ _ _ _ _ _ _ _ _ _ _ _ _ _ _ _ _ _ _ _ _ _ _ _ _ _ _ _ h1104 n0 (Nat.le_trans Z0 kp1116.1) x1105 x1112 x1108 x1109 ge_a0 ge_ur ge_uv ne_a0_ur ne_a0_uv ne_ur_uv hen0 hlr0 hlv0) hZ (own_wk hw 75 rfl) (own_wk hw 2 rfl) (by decide) (by decide)) (g := (mkF m 177 (own_loc3 a0 r1 p2 a3 a4 vn) [(.double xo0), (.int ro0), (.ref a0)])) rfl (by rw [hml]; rfl) (Steps.refl _) (a := a0) (by rw [e1104]; exact q1122) q1122' (argsL := [(.int ro0), (.double xo0)]) (rest := []) (lenOf pd_8 rfl) rfl (by show 2 * 0 + _ ≤ _; exact Nat.le_of_eq rfl) (D d4_177) (fun _ _ => ⟨rfl, e1104, (by decide : 0 + 0 ≤ _), (by decide : 0 + 0 ≤ _)⟩)
  dsimp only [Pt.U, Pt.locs, Pt.cells, Pt.slots] at X1122 l1122 y1122 z1122 st1122 hQ1122
  subst l1122 y1122 z1122
  obtain ⟨rfl, N1122q, K1122, o1122_0, o1122_1, o1122_2⟩ := hQ1122
  have N1122 := Fr.app N1104 N1122q
  have x1123 := x1105.keep K1122
  have x1124 := x1106.keep K1122 (ninS (Ne.symm ne_a0_ue) (ninS ne_ue_ur (ninS ne_ue_uv nin0)))
  have x1125 := x1107.keep K1122 (ninS (Ne.symm ne_a0_um) (ninS ne_um_ur (ninS ne_um_uv nin0)))
  have x1126 := x1110.keep K1122 (ninS (Ne.symm ne_a0_a3) (ninS (Ne.symm ne_ur_a3) (ninS (Ne.symm ne_uv_a3) nin0)))
  have x1127 := x1111.keep K1122 (ninS (Ne.symm ne_a0_a4) (ninS (Ne.symm ne_ur_a4) (ninS (Ne.symm ne_uv_a4) nin0)))
  have x1128 := x1113.keep K1122 (ninS (Ne.symm ne_a0_uc) (ninS ne_uc_ur (ninS ne_uc_uv nin0)))
  have x1129 := x1114.keep K1122 (ninS (Ne.symm ne_a0_ug) (ninS ne_ug_ur (ninS ne_ug_uv nin0)))
  have x1130 := x1115.keep K1122 (ninS (Ne.symm ne_a0_up) (ninS ne_up_ur (ninS ne_up_uv nin0)))
  have x1131 := V1104.keep K1122 (ninS (Ne.symm ne_a0_uf) (ninS ne_uf_ur (ninS ne_uf_uv nin0)))
  have kp1132 : Keep h0 T1122.heap [a0, uc, ug, up, uf, ue, um, ur, uv] := kp1116.trans K1122 (allS (Or.inl (List.mem_of_getElem? (i := 0) rfl)) (allS (Or.inl (List.mem_of_getElem? (i := 7) rfl)) (allS (Or.inl (List.mem_of_getElem? (i := 8) rfl)) all0)))
  obtain ⟨T1133, X1133, e1133, st1133⟩ := own_gf X1122 hx hZ hown (own_wk hw 19 rfl) rfl o1122_0 4 rfl rfl (g := (mkF m 181 (own_loc3 a0 r1 p2 a3 a4 vn) [(.ref a0)])) rfl rfl (D d4_181)
  obtain ⟨T1135, h1135, X1135, e1135, W1135, V1135, st1135⟩ := own_stI X1133 hx hZ e1133 x1124 (j := vn) hvn (vn).toNatClampNeg rfl hl_ue (vs' := (le.set (vn).toNatClampNeg (.int (1 : Int32)))) rfl (g := (mkF m 190 (own_loc3 a0 r1 p2 a3 a4 vn) [.int 1, (.int vn), (.ref ue)])) rfl rfl (D d4_190)
  have x1136 := x1123.wr W1135
  have x1137 := x1125.other W1135 (Ne.symm ne_ue_um)
  have x1138 := x1126.other W1135 (Ne.symm ne_ue_a3)
  have x1139 := x1127.other W1135 (Ne.symm ne_ue_a4)
  have x1140 := x1128.other W1135 ne_uc_ue
  have x1141 := x1129.other W1135 ne_ug_ue
  have x1142 := x1130.other W1135 ne_up_ue
  have x1143 := x1131.other W1135 ne_uf_ue
  have x1144 := o1122_0.other W1135 ne_a0_ue
  have x1145 := o1122_1.other W1135 (Ne.symm ne_ue_ur)
  have x1146 := o1122_2.other W1135 (Ne.symm ne_ue_uv)
  have kp1147 : Keep h0 h1135 [a0, uc, ug, up, uf, ue, um, ur, uv] := kp1132.wr W1135 (Or.inl (List.mem_of_getElem? (i := 5) rfl))
  have N1135 := Fr.snoc X1135 N1122 ge_ue
  obtain ⟨cl1148, Ar1148, -, S1148, M1148, -, -⟩ := id x1138
  have ld1148 := X1135.arraylength hx (by rw [e1135]; exact Ar1148.1) (State.isArrayOf_alike hZ.alike Ar1148.2.1) (g := (mkF m 152 (own_loc4 a0 r1 p2 a3 a4 vn) [(.ref a3), .int 1])) rfl rfl (D d4_152)
  obtain ⟨cl1150, Ar1150, -, S1150, M1150, -, -⟩ := id x1138
  have ld1150 := X1135.arraylength hx (by rw [e1135]; exact Ar1150.1) (State.isArrayOf_alike hZ.alike Ar1150.2.1) (g := (mkF m 152 (own_loc5 a0 r1 p2 a3 a4 vn) [(.ref a3), .int 2])) rfl rfl (D d4_152)
  obtain ⟨T1151, X1151, e1151, st1151⟩ := own_gf X1135 hx hZ hown (own_wk hw 21 rfl) e1135 x1144 5 rfl rfl (g := (mkF m 198 (own_loc5 a0 r1 p2 a3 a4 vn) [(.ref a0)])) rfl rfl (D d4_198)
  obtain ⟨T1152, X1152, e1152, st1152⟩ := own_gf X1151 hx hZ hown (own_wk hw 19 rfl) e1151 x1144 4 rfl rfl (g := (mkF m 204 (own_loc5 a0 r1 p2 a3 a4 vn) [(.ref a0), (.int vn), (.ref um)])) rfl rfl (D d4_204)
  obtain ⟨T1154, h1154, X1154, e1154, W1154, V1154, st1154⟩ := own_stI X1152 hx hZ e1152 x1137 (j := vn) hvn (vn).toNatClampNeg rfl hl_um (vs' := (lm.set (vn).toNatClampNeg (.int (1 : Int32)))) rfl (g := (mkF m 210 (own_loc5 a0 r1 p2 a3 a4 vn) [.int 1, (.int vn), (.ref um)])) rfl rfl (D d4_210)
  have x1155 := x1136.wr W1154
  have x1156 := x1138.other W1154 (Ne.symm ne_um_a3)
  have x1157 := x1139.other W1154 (Ne.symm ne_um_a4)
  have x1158 := x1140.other W1154 ne_uc_um
  have x1159 := x1141.other W1154 ne_ug_um
  have x1160 := x1142.other W1154 ne_up_um
  have x1161 := x1143.other W1154 ne_uf_um
  have x1162 := x1144.other W1154 ne_a0_um
  have x1163 := x1145.other W1154 (Ne.symm ne_um_ur)
  have x1164 := x1146.other W1154 (Ne.symm ne_um_uv)
  have x1165 := V1135.other W1154 ne_ue_um
  have kp1166 : Keep h0 h1154 [a0, uc, ug, up, uf, ue, um, ur, uv] := kp1147.wr W1154 (Or.inl (List.mem_of_getElem? (i := 6) rfl))
  have N1154 := Fr.snoc X1154 N1135 ge_um
  obtain ⟨fs, hr, hrun, hended, hW, hsame⟩ := X1154.leave (v := some (.int vn)) (fun h => by rw [Bd.returns] at h; cases h)
  refine ⟨_, _, pre0 _ ?_, hrun, hended, _, _, rfl, ?_, ⟨_, rfl⟩, hW, hsame.mono (by decide) (by decide)⟩
  · show own_S p e below s₁ (mkF m 0 (own_loc1 a0 r1 p2 a3 a4) []) _
    refine cp1121 _ (st1122.trans (XS.aloadN X1122.here hx rfl (D d4_180) rfl rfl (st1133 _ (XS.iload X1133.here hx rfl (D d4_184) rfl (Jvm.Free.XT.dup2 X1133.here hx rfl (D d4_186) rfl rfl rfl (own_ldI X1133 hx hZ e1133 x1124 (j := vn) hvn (v := (.int (0 : Int32))) hle rfl rfl (D d4_187) (XS.iconst X1133.here hx rfl (D d4_188) (XS.iadd X1133.here hx rfl (D d4_189) rfl ?_))))))))
    show own_S p e below T1133 (mkF m 190 (own_loc3 a0 r1 p2 a3 a4 vn) [(.int ((0 : Int32) + (1 : Int32))), (.int vn), (.ref ue)]) _
    rw [show ((0 : Int32) + (1 : Int32)) = (1 : Int32) from by decide]
    show own_S p e below T1133 (mkF m 190 (own_loc3 a0 r1 p2 a3 a4 vn) [.int 1, (.int vn), (.ref ue)]) _
    refine st1135 _ (XS.iinc X1135.here hx rfl (D d4_191) rfl (l' := (own_loc4 a0 r1 p2 a3 a4 vn)) rfl (XS.goto X1135.here hx rfl (pc0 := 194) (pc' := 148) rfl (D d4_194) (by decide) (by decide) (XS.iload X1135.here hx rfl (D d4_148) rfl (XS.aload X1135.here hx rfl (D d4_150) rfl rfl (ld1148 _ ?_)))))
    rw [len_of S1148 M1148]
    show own_S p e below T1135 (mkF m 153 (own_loc4 a0 r1 p2 a3 a4 vn) [.int 2, .int 1]) _
    refine XS.icmpNo X1135.here hx rfl (D d4_153) rfl (tlt (by decide : (1 : Int32) < (2 : Int32))).2.1 (XS.aload X1135.here hx rfl (D d4_156) rfl rfl (XS.iload X1135.here hx rfl (D d4_158) rfl (own_ldD X1135 hx hZ e1135 x1139 (j := (1 : Int32)) ⟨(by decide), (by decide)⟩ (v := (.double xo1)) rfl rfl rfl (D d4_160) (XS.dconst0 X1135.here hx rfl (D d4_161) rfl (XS.dcmpS X1135.here hx rfl (D d4_162) rfl rfl (XS.ifYes X1135.here hx rfl (pc0 := 163) (pc' := 191) rfl (D d4_163) rfl ((if0 _ _).trans (teq (show (cmpValue (FP.dcmp xo1 (0 : UInt64)) .l) = (0 : Int32) from hz1)).1) (by decide) (by decide) (XS.iinc X1135.here hx rfl (D d4_191) rfl (l' := (own_loc5 a0 r1 p2 a3 a4 vn)) rfl (XS.goto X1135.here hx rfl (pc0 := 194) (pc' := 148) rfl (D d4_194) (by decide) (by decide) (XS.iload X1135.here hx rfl (D d4_148) rfl ?_)))))))))
    refine XS.aload X1135.here hx rfl (D d4_150) rfl rfl (ld1150 _ ?_)
    rw [len_of S1150 M1150]
    show own_S p e below T1135 (mkF m 153 (own_loc5 a0 r1 p2 a3 a4 vn) [.int 2, .int 2]) _
    refine XS.icmpYes X1135.here hx rfl (pc0 := 153) (pc' := 197) rfl (D d4_153) rfl (flt (by decide : ¬ ((2 : Int32) < (2 : Int32)))).2.1 (by decide) (by decide) (XS.aloadN X1135.here hx rfl (D d4_197) rfl rfl (st1151 _ (XS.iload X1151.here hx rfl (D d4_201) rfl (XS.aloadN X1151.here hx rfl (D d4_203) rfl rfl (st1152 _ (XS.iload X1152.here hx rfl (D d4_207) rfl (own_ldI X1152 hx hZ e1152 V1135 (j := vn) hvn (v := (.int (1 : Int32))) (own_gs hl_ue) rfl rfl (D d4_209) (st1154 _ (XS.iload X1154.here hx rfl (D d4_211) rfl ?_)))))))))
    show own_S p e below T1154 (mkF m 213 (own_loc5 a0 r1 p2 a3 a4 vn) [(.int vn)]) _
    exact retI X1154 hx Bd.returns (D d4_213) hr
  · show Q4_2z Z a0 r1 p2 a3 a4 uc ug up uf ue um ur uv w_bounds w_slacks w_keys w_keyValues w_head w_inverse w_values w_groupDualPass w_groupDualValues w_rates w_rated w_ratedGroups w_started w_groupCount vn en w_rowCount w_objective w_pivotsSinceInversion kuc lc kug lg kup lp kuf lf kue le kum lm kur lr kuv lv ka3 ro0 ro1 ka4 xo0 xo1 h0 n0 _ T1154.heap _
    rw [e1154]
    exact ⟨rfl, N1154, kp1166, x1162, x1158, x1159, x1160, x1161, x1165, V1154, x1163, x1164⟩
theorem own_one_nz : ¬ (cmpValue (FP.dcmp (4607182418800017408 : UInt64) (0 : UInt64)) .l) = (0 : Int32) := by decide +kernel
theorem ef_6 (m : MethodId) (a0 : Addr) (r1 : UInt64) (a2 : Addr) (a3 : Addr) : entryFrame m #[(.ref a0), (.double r1), (.ref a2), (.ref a3)] 7 = mkF m 0 #[.val (.ref a0), .val (.double r1), .second, .val (.ref a2), .val (.ref a3), .unset, .unset] [] := by first | (simp [entryFrame, mkF, argsToLocals, Value.category]; done) | rfl
abbrev own_d6 (p : Nat) (i : Instr) (n : Nat) : Prop := decode prog_56_method_6_code p = .ok (i, n)
theorem d6_0 : own_d6 0 (.iconst 0) 1 := by decide +kernel
theorem d6_1 : own_d6 1 (.istore 5) 2 := by decide +kernel
abbrev own_loc6 (a0 : Addr) (r1 : UInt64) (a2 a3 : Addr) : Array Slot := #[.val (.ref a0), .val (.double r1), .second, .val (.ref a2), .val (.ref a3), .val (.int 0), .unset]
theorem d6_3 : own_d6 3 (.iload 5) 2 := by decide +kernel
theorem d6_5 : own_d6 5 (.aload_n 3) 1 := by decide +kernel
theorem d6_6 : own_d6 6 .arraylength 1 := by decide +kernel
theorem d6_7 : own_d6 7 (.if_icmp .ge 55) 3 := by decide +kernel
theorem d6_62 : own_d6 62 (.aload_n 0) 1 := by decide +kernel
theorem d6_63 : own_d6 63 (.getfield 121) 3 := by decide +kernel
theorem d6_66 : own_d6 66 (.istore 5) 2 := by decide +kernel
abbrev own_loc7 (a0 : Addr) (r1 : UInt64) (a2 a3 : Addr) (rn : Int32) : Array Slot := #[.val (.ref a0), .val (.double r1), .second, .val (.ref a2), .val (.ref a3), .val (.int rn), .unset]
theorem d6_68 : own_d6 68 (.iload 5) 2 := by decide +kernel
theorem d6_70 : own_d6 70 (.aload_n 0) 1 := by decide +kernel
theorem d6_71 : own_d6 71 (.getfield 35) 3 := by decide +kernel
theorem d6_74 : own_d6 74 .arraylength 1 := by decide +kernel
theorem d6_75 : own_d6 75 (.if_icmp .ne 33) 3 := by decide +kernel
theorem d6_108 : own_d6 108 (.aload_n 0) 1 := by decide +kernel
theorem d6_109 : own_d6 109 .dup 1 := by decide +kernel
theorem d6_110 : own_d6 110 (.getfield 121) 3 := by decide +kernel
theorem d6_113 : own_d6 113 (.iconst 1) 1 := by decide +kernel
theorem d6_114 : own_d6 114 .iadd 1 := by decide +kernel
theorem d6_115 : own_d6 115 (.putfield 121) 3 := by decide +kernel
theorem d6_118 : own_d6 118 (.aload_n 0) 1 := by decide +kernel
theorem d6_119 : own_d6 119 (.getfield 35) 3 := by decide +kernel
theorem d6_122 : own_d6 122 (.iload 5) 2 := by decide +kernel
theorem d6_124 : own_d6 124 (.dload_n 1) 1 := by decide +kernel
theorem d6_125 : own_d6 125 .dastore 1 := by decide +kernel
theorem d6_126 : own_d6 126 (.iconst 0) 1 := by decide +kernel
theorem d6_127 : own_d6 127 (.istore 6) 2 := by decide +kernel
abbrev own_loc8 (a0 : Addr) (r1 : UInt64) (a2 a3 : Addr) (rn : Int32) : Array Slot := #[.val (.ref a0), .val (.double r1), .second, .val (.ref a2), .val (.ref a3), .val (.int rn), .val (.int 0)]
theorem d6_129 : own_d6 129 (.iload 6) 2 := by decide +kernel
theorem d6_131 : own_d6 131 (.aload_n 3) 1 := by decide +kernel
theorem d6_132 : own_d6 132 .arraylength 1 := by decide +kernel
theorem d6_133 : own_d6 133 (.if_icmp .ge 34) 3 := by decide +kernel
theorem d6_167 : own_d6 167 (.aload_n 0) 1 := by decide +kernel
theorem d6_168 : own_d6 168 (.dconst 0) 1 := by decide +kernel
theorem d6_169 : own_d6 169 (.iconst (-1)) 1 := by decide +kernel
theorem d6_170 : own_d6 170 (.iconst 1) 1 := by decide +kernel
theorem d6_171 : own_d6 171 (.newarray .int) 2 := by decide +kernel
theorem d6_173 : own_d6 173 .dup 1 := by decide +kernel
theorem d6_174 : own_d6 174 (.iconst 0) 1 := by decide +kernel
theorem d6_175 : own_d6 175 (.iload 5) 2 := by decide +kernel
theorem d6_177 : own_d6 177 .iastore 1 := by decide +kernel
theorem d6_178 : own_d6 178 (.iconst 1) 1 := by decide +kernel
theorem d6_179 : own_d6 179 (.newarray .double) 2 := by decide +kernel
theorem d6_181 : own_d6 181 .dup 1 := by decide +kernel
theorem d6_182 : own_d6 182 (.iconst 0) 1 := by decide +kernel
theorem d6_183 : own_d6 183 (.dconst 1) 1 := by decide +kernel
theorem d6_184 : own_d6 184 .dastore 1 := by decide +kernel
theorem pd_5 : parseMethodDescriptor "(DI[I[D)I" = some ⟨[.double, .int, (.array .int), (.array .double)], some .int⟩ := by decide +kernel
theorem d6_185 : own_d6 185 (.invokevirtual 128) 3 := by decide +kernel
theorem d6_188 : own_d6 188 (.istore 6) 2 := by decide +kernel
abbrev own_loc9 (a0 : Addr) (r1 : UInt64) (a2 a3 : Addr) (rn vn : Int32) : Array Slot := #[.val (.ref a0), .val (.double r1), .second, .val (.ref a2), .val (.ref a3), .val (.int rn), .val (.int vn)]
theorem d6_190 : own_d6 190 (.aload_n 0) 1 := by decide +kernel
theorem d6_191 : own_d6 191 (.getfield 38) 3 := by decide +kernel
theorem d6_194 : own_d6 194 (.iload 5) 2 := by decide +kernel
theorem d6_196 : own_d6 196 (.iload 6) 2 := by decide +kernel
theorem d6_198 : own_d6 198 .iastore 1 := by decide +kernel
theorem d6_199 : own_d6 199 (.aload_n 0) 1 := by decide +kernel
theorem d6_200 : own_d6 200 (.getfield 74) 3 := by decide +kernel
theorem d6_203 : own_d6 203 (.ifCond .eq 11) 3 := by decide +kernel
theorem d6_214 : own_d6 214 (.iload 5) 2 := by decide +kernel
theorem d6_216 : own_d6 216 .ireturn 1 := by decide +kernel
def Q6 (Z : State) (a0 : Addr) (r1 : UInt64) (a2 a3 uc ug up uf ue um ur uv ub us : Addr) (w_keys w_keyValues w_head w_inverse w_values w_groupDualPass w_groupDualValues w_rates w_rated w_ratedGroups w_groupCount : Value) (vn en rn : Int32) (w_objective w_pivotsSinceInversion : Value) (kuc : ClassId) (lc : List Value) (kug : ClassId) (lg : List Value) (kup : ClassId) (lp : List Value) (kuf : ClassId) (lf : List Value) (kue : ClassId) (le : List Value) (kum : ClassId) (lm : List Value) (kur : ClassId) (lr : List Value) (kuv : ClassId) (lv : List Value) (kub : ClassId) (lb : List Value) (kus : ClassId) (ls : List Value) (ka2 : ClassId) (l2 : List Value) (ka3 : ClassId) (l3 : List Value) (h0 : Heap) (n0 : Nat) (v : Option Value) (h : Heap) (L : List Loc) : Prop := v = some (.int rn) ∧ Fr n0 L ∧ Keep h0 h [a0, uc, ug, up, uf, ue, um, ur, uv, ub, us] ∧ own_fs own_K own_N Z h a0 [(.ref uc), (.ref ug), (.ref up), (.ref uf), (.ref ue), (.ref um), (.ref ur), (.ref uv), (.ref ub), (.ref us), w_keys, w_keyValues, w_head, w_inverse, w_values, w_groupDualPass, w_groupDualValues, w_rates, w_rated, w_ratedGroups, (.int (0 : Int32)), w_groupCount, (.int (vn + (1 : Int32))), (.int (en + (1 : Int32))), (.int (rn + (1 : Int32))), w_objective, w_pivotsSinceInversion] ∧ Arv Z h uc kuc .double (16 : Int32) (lc.set (vn).toNatClampNeg (.double (0 : UInt64))) (.double (0 : UInt64)) ∧ Arv Z h ug kug .int (16 : Int32) (lg.set (vn).toNatClampNeg (.int (-1 : Int32))) (.int (0 : Int32)) ∧ Arv Z h up kup .int (16 : Int32) (lp.set (vn).toNatClampNeg (.int (-1 : Int32))) (.int (0 : Int32)) ∧ Arv Z h uf kuf .int (16 : Int32) (lf.set (vn).toNatClampNeg (.int en)) (.int (0 : Int32)) ∧ Arv Z h ue kue .int (16 : Int32) (le.set (vn).toNatClampNeg (.int (1 : Int32))) (.int (0 : Int32)) ∧ Arv Z h um kum .int (16 : Int32) (lm.set (vn).toNatClampNeg (.int (1 : Int32))) (.int (0 : Int32)) ∧ Arv Z h ur kur .int (64 : Int32) (lr.set (en).toNatClampNeg (.int rn)) (.int (0 : Int32)) ∧ Arv Z h uv kuv .double (64 : Int32) (lv.set (en).toNatClampNeg (.double (4607182418800017408 : UInt64))) (.double (0 : UInt64)) ∧ Arv Z h ub kub .double (16 : Int32) (lb.set (rn).toNatClampNeg (.double r1)) (.double (0 : UInt64)) ∧ Arv Z h us kus .int (16 : Int32) (ls.set (rn).toNatClampNeg (.int vn)) (.int (0 : Int32))
set_option maxRecDepth 65536 in
set_option maxHeartbeats 40000000 in
theorem rm6 (l : Launch) (Z : State) (ag : Array Value) (hw : ∀ d ∈ tables_1, d.before ag Z = true) (ws : List Jvm.Cond) (a0 : Addr) (r1 : UInt64) (a2 a3 uc ug up uf ue um ur uv ub us : Addr) (w_keys w_keyValues w_head w_inverse w_values w_groupDualPass w_groupDualValues w_rates w_rated w_ratedGroups w_groupCount : Value) (vn en rn : Int32) (w_objective w_pivotsSinceInversion : Value) (kuc : ClassId) (lc : List Value) (kug : ClassId) (lg : List Value) (kup : ClassId) (lp : List Value) (kuf : ClassId) (lf : List Value) (kue : ClassId) (le : List Value) (kum : ClassId) (lm : List Value) (kur : ClassId) (lr : List Value) (kuv : ClassId) (lv : List Value) (kub : ClassId) (lb : List Value) (kus : ClassId) (ls : List Value) (ka2 : ClassId) (l2 : List Value) (ka3 : ClassId) (l3 : List Value) (h0 : Heap) (n0 : Nat) (Z0 : n0 ≤ h0.size) (E_a0 : Exa Z h0 a0 own_K) (Ob_a0 : own_fs own_K own_N Z h0 a0 [(.ref uc), (.ref ug), (.ref up), (.ref uf), (.ref ue), (.ref um), (.ref ur), (.ref uv), (.ref ub), (.ref us), w_keys, w_keyValues, w_head, w_inverse, w_values, w_groupDualPass, w_groupDualValues, w_rates, w_rated, w_ratedGroups, (.int (0 : Int32)), w_groupCount, (.int vn), (.int en), (.int rn), w_objective, w_pivotsSinceInversion]) (V_uc : Arv Z h0 uc kuc .double (16 : Int32) lc (.double (0 : UInt64))) (V_ug : Arv Z h0 ug kug .int (16 : Int32) lg (.int (0 : Int32))) (V_up : Arv Z h0 up kup .int (16 : Int32) lp (.int (0 : Int32))) (V_uf : Arv Z h0 uf kuf .int (16 : Int32) lf (.int (0 : Int32))) (V_ue : Arv Z h0 ue kue .int (16 : Int32) le (.int (0 : Int32))) (V_um : Arv Z h0 um kum .int (16 : Int32) lm (.int (0 : Int32))) (V_ur : Arv Z h0 ur kur .int (64 : Int32) lr (.int (0 : Int32))) (V_uv : Arv Z h0 uv kuv .double (64 : Int32) lv (.double (0 : UInt64))) (V_ub : Arv Z h0 ub kub .double (16 : Int32) lb (.double (0 : UInt64))) (V_us : Arv Z h0 us kus .int (16 : Int32) ls (.int (0 : Int32))) (V_a2 : Arv Z h0 a2 ka2 .int (0 : Int32) l2 (.int (0 : Int32))) (V_a3 : Arv Z h0 a3 ka3 .double (0 : Int32) l3 (.double (0 : UInt64))) (ge_a0 : n0 ≤ a0) (ge_uc : n0 ≤ uc) (ge_ug : n0 ≤ ug) (ge_up : n0 ≤ up) (ge_uf : n0 ≤ uf) (ge_ue : n0 ≤ ue) (ge_um : n0 ≤ um) (ge_ur : n0 ≤ ur) (ge_uv : n0 ≤ uv) (ge_ub : n0 ≤ ub) (ge_us : n0 ≤ us) (ne_a0_uc : a0 ≠ uc) (ne_a0_ug : a0 ≠ ug) (ne_a0_up : a0 ≠ up) (ne_a0_uf : a0 ≠ uf) (ne_a0_ue : a0 ≠ ue) (ne_a0_um : a0 ≠ um) (ne_a0_ur : a0 ≠ ur) (ne_a0_uv : a0 ≠ uv) (ne_a0_ub : a0 ≠ ub) (ne_a0_us : a0 ≠ us) (ne_a0_a2 : a0 ≠ a2) (ne_a0_a3 : a0 ≠ a3) (ne_uc_ug : uc ≠ ug) (ne_uc_up : uc ≠ up) (ne_uc_uf : uc ≠ uf) (ne_uc_ue : uc ≠ ue) (ne_uc_um : uc ≠ um) (ne_uc_ur : uc ≠ ur) (ne_uc_uv : uc ≠ uv) (ne_uc_ub : uc ≠ ub) (ne_uc_us : uc ≠ us) (ne_uc_a2 : uc ≠ a2) (ne_uc_a3 : uc ≠ a3) (ne_ug_up : ug ≠ up) (ne_ug_uf : ug ≠ uf) (ne_ug_ue : ug ≠ ue) (ne_ug_um : ug ≠ um) (ne_ug_ur : ug ≠ ur) (ne_ug_uv : ug ≠ uv) (ne_ug_ub : ug ≠ ub) (ne_ug_us : ug ≠ us) (ne_ug_a2 : ug ≠ a2) (ne_ug_a3 : ug ≠ a3) (ne_up_uf : up ≠ uf) (ne_up_ue : up ≠ ue) (ne_up_um : up ≠ um) (ne_up_ur : up ≠ ur) (ne_up_uv : up ≠ uv) (ne_up_ub : up ≠ ub) (ne_up_us : up ≠ us) (ne_up_a2 : up ≠ a2) (ne_up_a3 : up ≠ a3) (ne_uf_ue : uf ≠ ue) (ne_uf_um : uf ≠ um) (ne_uf_ur : uf ≠ ur) (ne_uf_uv : uf ≠ uv) (ne_uf_ub : uf ≠ ub) (ne_uf_us : uf ≠ us) (ne_uf_a2 : uf ≠ a2) (ne_uf_a3 : uf ≠ a3) (ne_ue_um : ue ≠ um) (ne_ue_ur : ue ≠ ur) (ne_ue_uv : ue ≠ uv) (ne_ue_ub : ue ≠ ub) (ne_ue_us : ue ≠ us) (ne_ue_a2 : ue ≠ a2) (ne_ue_a3 : ue ≠ a3) (ne_um_ur : um ≠ ur) (ne_um_uv : um ≠ uv) (ne_um_ub : um ≠ ub) (ne_um_us : um ≠ us) (ne_um_a2 : um ≠ a2) (ne_um_a3 : um ≠ a3) (ne_ur_uv : ur ≠ uv) (ne_ur_ub : ur ≠ ub) (ne_ur_us : ur ≠ us) (ne_ur_a2 : ur ≠ a2) (ne_ur_a3 : ur ≠ a3) (ne_uv_ub : uv ≠ ub) (ne_uv_us : uv ≠ us) (ne_uv_a2 : uv ≠ a2) (ne_uv_a3 : uv ≠ a3) (ne_ub_us : ub ≠ us) (ne_ub_a2 : ub ≠ a2) (ne_ub_a3 : ub ≠ a3) (ne_us_a2 : us ≠ a2) (ne_us_a3 : us ≠ a3) (hvn : ¬ vn < 0 ∧ vn < (16 : Int32)) (hle : le.getD (vn).toNatClampNeg (.int (0 : Int32)) = .int (0 : Int32)) (hl_uc : (vn).toNatClampNeg < lc.length) (hl_ug : (vn).toNatClampNeg < lg.length) (hl_up : (vn).toNatClampNeg < lp.length) (hl_uf : (vn).toNatClampNeg < lf.length) (hl_ue : (vn).toNatClampNeg < le.length) (hl_um : (vn).toNatClampNeg < lm.length) (hen0 : ¬ en < 0 ∧ en < (64 : Int32)) (hlr0 : (en).toNatClampNeg < lr.length) (hlv0 : (en).toNatClampNeg < lv.length) (hrn : ¬ rn < 0 ∧ rn < (16 : Int32)) (hl_ub : (rn).toNatClampNeg < lb.length) (hl_us : (rn).toNatClampNeg < ls.length) :
    MetFree l (⟨own_K, "addRow", "(D[I[D)I"⟩ : MethodName) (head1 (Jvm.Cond.code (⟨own_K, "addRow", "(D[I[D)I"⟩ : MethodName) prog_56_method_6_code 7 (some .int) :: ws) ({ frames := 2, cells := 2, slots := 2, locals := 34 } : Room)) (fun a U => a = #[(.ref a0), (.double r1), (.ref a2), (.ref a3)] ∧ Z.Warmed39 U.vm ∧ U.heap = h0) (fun _ _ _ _ _ => True) (fun _ U o U' => ∃ v L, o = .returned v ∧ Q6 Z a0 r1 a2 a3 uc ug up uf ue um ur uv ub us w_keys w_keyValues w_head w_inverse w_values w_groupDualPass w_groupDualValues w_rates w_rated w_ratedGroups w_groupCount vn en rn w_objective w_pivotsSinceInversion kuc lc kug lg kup lp kuf lf kue le kum lm kur lr kuv lv kub lb kus ls ka2 l2 ka3 l3 h0 n0 v U'.heap L ∧ FrameEnd U o U' L ({ frames := 2, cells := 2, slots := 2, locals := 34 } : Room).cells ({ frames := 2, cells := 2, slots := 2, locals := 34 } : Room).slots) := by
  refine MetFree.of_bodySF (plainFor_of_name pn_0) hisR ?_
  intro p e s m args below meth c s₁ Bd hml0 hP hK
  obtain ⟨rfl, hZ, hh⟩ := hP
  have hx := Bd.exec
  have hby := Bd.bytes
  have hml : c.maxLocals = 7 := hml0
  have hown : s.vm.findClass own_K = some m.cls := findClass_of_methodNamed Bd.named
  have hnm := (name_of_methodNamed Bd.named Bd.method).1
  have X0 : Stand p l e ({ frames := 2, cells := 2, slots := 2, locals := 34 } : Room) s m #[(.ref a0), (.double r1), (.ref a2), (.ref a3)] below meth c s₁ [] 0 0 := Stand.of_body Bd
  have e0 : s₁.heap = h0 := by rw [← hh, Bd.state]; rfl
  have N0 := Fr.nil n0
  have D : ∀ {pc : Nat} {r : Except DecodeError (Instr × Nat)}, decode prog_56_method_6_code pc = r → decode c.code pc = r := fun q => hb hby q
  have pre0 : ∀ t, Steps p.tables e below (s₁.setTop (mkF m 0 #[.val (.ref a0), .val (.double r1), .second, .val (.ref a2), .val (.ref a3), .unset, .unset] [])) t → Steps p.tables e below (s₁.setTop (entryFrame m #[(.ref a0), (.double r1), (.ref a2), (.ref a3)] 7)) t := fun t k => castTop (ef_6 m a0 r1 a2 a3) k
  obtain ⟨cl1167, Ar1167, -, S1167, M1167, -, -⟩ := id V_a2
  have ld1167 := X0.arraylength hx (by rw [e0]; exact Ar1167.1) (State.isArrayOf_alike hZ.alike Ar1167.2.1) (g := (mkF m 6 (own_loc6 a0 r1 a2 a3) [(.ref a2), .int 0])) rfl rfl (D d6_6)
  obtain ⟨T1168, X1168, e1168, st1168⟩ := own_gf X0 hx hZ hown (own_wk hw 81 rfl) e0 Ob_a0 24 rfl rfl (g := (mkF m 63 (own_loc6 a0 r1 a2 a3) [(.ref a0)])) rfl rfl (D d6_63)
  obtain ⟨T1169, X1169, e1169, st1169⟩ := own_gf X1168 hx hZ hown (own_wk hw 27 rfl) e1168 Ob_a0 8 rfl rfl (g := (mkF m 71 (own_loc7 a0 r1 a2 a3 rn) [(.ref a0), (.int rn)])) rfl rfl (D d6_71)
  obtain ⟨cl1170, Ar1170, -, S1170, M1170, -, -⟩ := id V_ub
  have ld1170 := X1169.arraylength hx (by rw [e1169]; exact Ar1170.1) (State.isArrayOf_alike hZ.alike Ar1170.2.1) (g := (mkF m 74 (own_loc7 a0 r1 a2 a3 rn) [(.ref ub), (.int rn)])) rfl rfl (D d6_74)
  obtain ⟨T1171, X1171, e1171, st1171⟩ := own_gf X1169 hx hZ hown (own_wk hw 81 rfl) e1169 Ob_a0 24 rfl rfl (g := (mkF m 110 (own_loc7 a0 r1 a2 a3 rn) [(.ref a0), (.ref a0)])) rfl rfl (D d6_110)
  obtain ⟨T1172, h1172, X1172, e1172, W1172, st1172⟩ := putF X1171 hx hZ hown (host := "") (Or.inl (own_wk hw 81 rfl)) Via.refl e1171 (Ob_a0.get 24 rfl rfl : Fld Z h0 a0 own_K "rowCount" "I" (.int rn)) E_a0 (Or.inl (own_wk hw 82 rfl)) (own_wk hw 1 rfl) (ty := .int) (by decide) rfl rfl (g := (mkF m 115 (own_loc7 a0 r1 a2 a3 rn) [(.int (rn + (1 : Int32))), (.ref a0)])) rfl rfl (D d6_115)
  have Ob1172 := Ob_a0.put (own_layw hw) 24 rfl W1172
  have x1173 := E_a0.wr W1172
  have x1174 := V_uc.other W1172 (Ne.symm ne_a0_uc)
  have x1175 := V_ug.other W1172 (Ne.symm ne_a0_ug)
  have x1176 := V_up.other W1172 (Ne.symm ne_a0_up)
  have x1177 := V_uf.other W1172 (Ne.symm ne_a0_uf)
  have x1178 := V_ue.other W1172 (Ne.symm ne_a0_ue)
  have x1179 := V_um.other W1172 (Ne.symm ne_a0_um)
  have x1180 := V_ur.other W1172 (Ne.symm ne_a0_ur)
  have x1181 := V_uv.other W1172 (Ne.symm ne_a0_uv)
  have x1182 := V_ub.other W1172 (Ne.symm ne_a0_ub)
  have x1183 := V_us.other W1172 (Ne.symm ne_a0_us)
  have x1184 := V_a2.other W1172 (Ne.symm ne_a0_a2)
  have x1185 := V_a3.other W1172 (Ne.symm ne_a0_a3)
  have kp1186 : Keep h0 h1172 [a0, uc, ug, up, uf, ue, um, ur, uv, ub, us] := (Keep.refl h0 [a0, uc, ug, up, uf, ue, um, ur, uv, ub, us]).wr W1172 (Or.inl (List.mem_of_getElem? (i := 0) rfl))
  have N1172 := Fr.snoc X1172 N0 ge_a0
  obtain ⟨T1187, X1187, e1187, st1187⟩ := own_gf X1172 hx hZ hown (own_wk hw 27 rfl) e1172 Ob1172 8 rfl rfl (g := (mkF m 119 (own_loc7 a0 r1 a2 a3 rn) [(.ref a0)])) rfl rfl (D d6_119)
  obtain ⟨T1188, h1188, X1188, e1188, W1188, V1188, st1188⟩ := own_stD X1187 hx hZ e1187 x1182 (j := rn) hrn (rn).toNatClampNeg rfl hl_ub (vs' := (lb.set (rn).toNatClampNeg (.double r1))) rfl (g := (mkF m 125 (own_loc7 a0 r1 a2 a3 rn) [(.double r1), (.int rn), (.ref ub)])) rfl rfl (D d6_125)
  have x1189 := x1173.wr W1188
  have x1190 := x1174.other W1188 ne_uc_ub
  have x1191 := x1175.other W1188 ne_ug_ub
  have x1192 := x1176.other W1188 ne_up_ub
  have x1193 := x1177.other W1188 ne_uf_ub
  have x1194 := x1178.other W1188 ne_ue_ub
  have x1195 := x1179.other W1188 ne_um_ub
  have x1196 := x1180.other W1188 ne_ur_ub
  have x1197 := x1181.other W1188 ne_uv_ub
  have x1198 := x1183.other W1188 (Ne.symm ne_ub_us)
  have x1199 := x1184.other W1188 (Ne.symm ne_ub_a2)
  have x1200 := x1185.other W1188 (Ne.symm ne_ub_a3)
  have x1201 := Ob1172.other W1188 ne_a0_ub
  have kp1202 : Keep h0 h1188 [a0, uc, ug, up, uf, ue, um, ur, uv, ub, us] := kp1186.wr W1188 (Or.inl (List.mem_of_getElem? (i := 9) rfl))
  have N1188 := Fr.snoc X1188 N1172 ge_ub
  obtain ⟨cl1203, Ar1203, -, S1203, M1203, -, -⟩ := id x1199
  have ld1203 := X1188.arraylength hx (by rw [e1188]; exact Ar1203.1) (State.isArrayOf_alike hZ.alike Ar1203.2.1) (g := (mkF m 132 (own_loc8 a0 r1 a2 a3 rn) [(.ref a2), .int 0])) rfl rfl (D d6_132)
  obtain ⟨T1204, h1204, k1204, X1204, e1204, E1204, A1204, st1204⟩ := newP X1188 hx hZ (own_wk hw 12 rfl) e1188 (g := (mkF m 171 (own_loc8 a0 r1 a2 a3 rn) [.int 1, .int (-1), (.double (0 : UInt64)), (.ref a0)])) rfl (D d6_171) rfl (by decide) (cap := 1) (by decide) (by decide) (by decide) (by decide)
  obtain ⟨b1204, g1204⟩ : ∃ z, z = h1188.size := ⟨_, rfl⟩
  have ne1205 : a0 ≠ b1204 := Nat.ne_of_lt (Nat.lt_of_lt_of_le (x1201.get 0 rfl rfl).lt (Nat.le_of_eq g1204.symm))
  have ne1206 : uc ≠ b1204 := Nat.ne_of_lt (Nat.lt_of_lt_of_le x1190.lt (Nat.le_of_eq g1204.symm))
  have ne1207 : ug ≠ b1204 := Nat.ne_of_lt (Nat.lt_of_lt_of_le x1191.lt (Nat.le_of_eq g1204.symm))
  have ne1208 : up ≠ b1204 := Nat.ne_of_lt (Nat.lt_of_lt_of_le x1192.lt (Nat.le_of_eq g1204.symm))
  have ne1209 : uf ≠ b1204 := Nat.ne_of_lt (Nat.lt_of_lt_of_le x1193.lt (Nat.le_of_eq g1204.symm))
  have ne1210 : ue ≠ b1204 := Nat.ne_of_lt (Nat.lt_of_lt_of_le x1194.lt (Nat.le_of_eq g1204.symm))
  have ne1211 : um ≠ b1204 := Nat.ne_of_lt (Nat.lt_of_lt_of_le x1195.lt (Nat.le_of_eq g1204.symm))
  have ne1212 : ur ≠ b1204 := Nat.ne_of_lt (Nat.lt_of_lt_of_le x1196.lt (Nat.le_of_eq g1204.symm))
  have ne1213 : uv ≠ b1204 := Nat.ne_of_lt (Nat.lt_of_lt_of_le x1197.lt (Nat.le_of_eq g1204.symm))
  have ne1214 : ub ≠ b1204 := Nat.ne_of_lt (Nat.lt_of_lt_of_le V1188.lt (Nat.le_of_eq g1204.symm))
  have ne1215 : us ≠ b1204 := Nat.ne_of_lt (Nat.lt_of_lt_of_le x1198.lt (Nat.le_of_eq g1204.symm))
  have ne1216 : a2 ≠ b1204 := Nat.ne_of_lt (Nat.lt_of_lt_of_le x1199.lt (Nat.le_of_eq g1204.symm))
  have ne1217 : a3 ≠ b1204 := Nat.ne_of_lt (Nat.lt_of_lt_of_le x1200.lt (Nat.le_of_eq g1204.symm))
  have ge_b1204 : n0 ≤ b1204 := Nat.le_trans (Nat.le_trans Z0 kp1202.1) (Nat.le_of_eq g1204.symm)
  have gs_b1204 : h0.size ≤ b1204 := Nat.le_trans kp1202.1 (Nat.le_of_eq g1204.symm)
  rw [← g1204] at A1204 st1204
  have x1218 := x1189.ext E1204
  have x1219 := x1190.ext E1204
  have x1220 := x1191.ext E1204
  have x1221 := x1192.ext E1204
  have x1222 := x1193.ext E1204
  have x1223 := x1194.ext E1204
  have x1224 := x1195.ext E1204
  have x1225 := x1196.ext E1204
  have x1226 := x1197.ext E1204
  have x1227 := x1198.ext E1204
  have x1228 := x1199.ext E1204
  have x1229 := x1200.ext E1204
  have x1230 := x1201.ext E1204
  have x1231 := V1188.ext E1204
  have kp1232 : Keep h0 h1204 [a0, uc, ug, up, uf, ue, um, ur, uv, ub, us] := kp1202.ext E1204
  have V1204 : Arv Z h1204 b1204 k1204 .int (1 : Int32) [(.int (0 : Int32))] (.int (0 : Int32)) := (Arv.new A1204 (by decide)).pad (pad_rep [] (.int (0 : Int32)) 1)
  obtain ⟨T1233, h1233, X1233, e1233, W1233, V1233, st1233⟩ := own_stI X1204 hx hZ e1204 V1204 (j := (0 : Int32)) ⟨(by decide), (by decide)⟩ 0 rfl (Nat.le_of_ble_eq_true rfl) (vs' := [(.int rn)]) rfl (g := (mkF m 177 (own_loc8 a0 r1 a2 a3 rn) [(.int rn), .int 0, (.ref b1204), (.ref b1204), .int (-1), (.double (0 : UInt64)), (.ref a0)])) rfl rfl (D d6_177)
  have x1234 := x1218.wr W1233
  have x1235 := x1219.other W1233 ne1206
  have x1236 := x1220.other W1233 ne1207
  have x1237 := x1221.other W1233 ne1208
  have x1238 := x1222.other W1233 ne1209
  have x1239 := x1223.other W1233 ne1210
  have x1240 := x1224.other W1233 ne1211
  have x1241 := x1225.other W1233 ne1212
  have x1242 := x1226.other W1233 ne1213
  have x1243 := x1227.other W1233 ne1215
  have x1244 := x1228.other W1233 ne1216
  have x1245 := x1229.other W1233 ne1217
  have x1246 := x1230.other W1233 ne1205
  have x1247 := x1231.other W1233 ne1214
  have kp1248 : Keep h0 h1233 [a0, uc, ug, up, uf, ue, um, ur, uv, ub, us] := kp1232.wr W1233 (Or.inr gs_b1204)
  have N1233 := Fr.snoc X1233 N1188 ge_b1204
  obtain ⟨T1249, h1249, k1249, X1249, e1249, E1249, A1249, st1249⟩ := newP X1233 hx hZ (own_wk hw 9 rfl) e1233 (g := (mkF m 179 (own_loc8 a0 r1 a2 a3 rn) [.int 1, (.ref b1204), .int (-1), (.double (0 : UInt64)), (.ref a0)])) rfl (D d6_179) rfl (by decide) (cap := 1) (by decide) (by decide) (by decide) (by decide)
  obtain ⟨b1249, g1249⟩ : ∃ z, z = h1233.size := ⟨_, rfl⟩
  have ne1250 : a0 ≠ b1249 := Nat.ne_of_lt (Nat.lt_of_lt_of_le (x1246.get 0 rfl rfl).lt (Nat.le_of_eq g1249.symm))
  have ne1251 : uc ≠ b1249 := Nat.ne_of_lt (Nat.lt_of_lt_of_le x1235.lt (Nat.le_of_eq g1249.symm))
  have ne1252 : ug ≠ b1249 := Nat.ne_of_lt (Nat.lt_of_lt_of_le x1236.lt (Nat.le_of_eq g1249.symm))
  have ne1253 : up ≠ b1249 := Nat.ne_of_lt (Nat.lt_of_lt_of_le x1237.lt (Nat.le_of_eq g1249.symm))
  have ne1254 : uf ≠ b1249 := Nat.ne_of_lt (Nat.lt_of_lt_of_le x1238.lt (Nat.le_of_eq g1249.symm))
  have ne1255 : ue ≠ b1249 := Nat.ne_of_lt (Nat.lt_of_lt_of_le x1239.lt (Nat.le_of_eq g1249.symm))
  have ne1256 : um ≠ b1249 := Nat.ne_of_lt (Nat.lt_of_lt_of_le x1240.lt (Nat.le_of_eq g1249.symm))
  have ne1257 : ur ≠ b1249 := Nat.ne_of_lt (Nat.lt_of_lt_of_le x1241.lt (Nat.le_of_eq g1249.symm))
  have ne1258 : uv ≠ b1249 := Nat.ne_of_lt (Nat.lt_of_lt_of_le x1242.lt (Nat.le_of_eq g1249.symm))
  have ne1259 : ub ≠ b1249 := Nat.ne_of_lt (Nat.lt_of_lt_of_le x1247.lt (Nat.le_of_eq g1249.symm))
  have ne1260 : us ≠ b1249 := Nat.ne_of_lt (Nat.lt_of_lt_of_le x1243.lt (Nat.le_of_eq g1249.symm))
  have ne1261 : a2 ≠ b1249 := Nat.ne_of_lt (Nat.lt_of_lt_of_le x1244.lt (Nat.le_of_eq g1249.symm))
  have ne1262 : a3 ≠ b1249 := Nat.ne_of_lt (Nat.lt_of_lt_of_le x1245.lt (Nat.le_of_eq g1249.symm))
  have ne1263 : b1204 ≠ b1249 := Nat.ne_of_lt (Nat.lt_of_lt_of_le V1233.lt (Nat.le_of_eq g1249.symm))
  have ge_b1249 : n0 ≤ b1249 := Nat.le_trans (Nat.le_trans Z0 kp1248.1) (Nat.le_of_eq g1249.symm)
  have gs_b1249 : h0.size ≤ b1249 := Nat.le_trans kp1248.1 (Nat.le_of_eq g1249.symm)
  rw [← g1249] at A1249 st1249
  have x1264 := x1234.ext E1249
  have x1265 := x1235.ext E1249
  have x1266 := x1236.ext E1249
  have x1267 := x1237.ext E1249
  have x1268 := x1238.ext E1249
  have x1269 := x1239.ext E1249
  have x1270 := x1240.ext E1249
  have x1271 := x1241.ext E1249
  have x1272 := x1242.ext E1249
  have x1273 := x1243.ext E1249
  have x1274 := x1244.ext E1249
  have x1275 := x1245.ext E1249
  have x1276 := x1246.ext E1249
  have x1277 := x1247.ext E1249
  have x1278 := V1233.ext E1249
  have kp1279 : Keep h0 h1249 [a0, uc, ug, up, uf, ue, um, ur, uv, ub, us] := kp1248.ext E1249
  have V1249 : Arv Z h1249 b1249 k1249 .double (1 : Int32) [(.double (0 : UInt64))] (.double (0 : UInt64)) := (Arv.new A1249 (by decide)).pad (pad_rep [] (.double (0 : UInt64)) 1)
  obtain ⟨T1280, h1280, X1280, e1280, W1280, V1280, st1280⟩ := own_stD X1249 hx hZ e1249 V1249 (j := (0 : Int32)) ⟨(by decide), (by decide)⟩ 0 rfl (Nat.le_of_ble_eq_true rfl) (vs' := [(.double (4607182418800017408 : UInt64))]) rfl (g := (mkF m 184 (own_loc8 a0 r1 a2 a3 rn) [(.double (4607182418800017408 : UInt64)), .int 0, (.ref b1249), (.ref b1249), (.ref b1204), .int (-1), (.double (0 : UInt64)), (.ref a0)])) rfl rfl (D d6_184)
  have x1281 := x1264.wr W1280
  have x1282 := x1265.other W1280 ne1251
  have x1283 := x1266.other W1280 ne1252
  have x1284 := x1267.other W1280 ne1253
  have x1285 := x1268.other W1280 ne1254
  have x1286 := x1269.other W1280 ne1255
  have x1287 := x1270.other W1280 ne1256
  have x1288 := x1271.other W1280 ne1257
  have x1289 := x1272.other W1280 ne1258
  have x1290 := x1273.other W1280 ne1260
  have x1291 := x1274.other W1280 ne1261
  have x1292 := x1275.other W1280 ne1262
  have x1293 := x1276.other W1280 ne1250
  have x1294 := x1277.other W1280 ne1259
  have x1295 := x1278.other W1280 ne1263
  have kp1296 : Keep h0 h1280 [a0, uc, ug, up, uf, ue, um, ur, uv, ub, us] := kp1279.wr W1280 (Or.inr gs_b1249)
  have N1280 := Fr.snoc X1280 N1233 ge_b1249
  have cp1297 : ∀ target, own_S p e below T1280 (mkF m 185 (own_loc8 a0 r1 a2 a3 rn) [(.ref b1249), (.ref b1204), .int (-1), (.double (0 : UInt64)), (.ref a0)]) target → own_S p e below s₁ (mkF m 0 #[.val (.ref a0), .val (.double r1), .second, .val (.ref a2), .val (.ref a3), .unset, .unset] []) target := by
    intro target kt
    show own_S p e below s₁ (mkF m 0 #[.val (.ref a0), .val (.double r1), .second, .val (.ref a2), .val (.ref a3), .unset, .unset] []) _
    refine XS.iconst X0.here hx rfl (D d6_0) (XS.istore X0.here hx rfl (D d6_1) rfl (l' := (own_loc6 a0 r1 a2 a3)) rfl (XS.iload X0.here hx rfl (D d6_3) rfl (XS.aloadN X0.here hx rfl (D d6_5) rfl rfl (ld1167 _ ?_))))
    rw [len_of S1167 M1167]
    show own_S p e below s₁ (mkF m 7 (own_loc6 a0 r1 a2 a3) [.int 0, .int 0]) _
    refine XS.icmpYes X0.here hx rfl (pc0 := 7) (pc' := 62) rfl (D d6_7) rfl (flt (by decide : ¬ ((0 : Int32) < (0 : Int32)))).2.1 (by decide) (by decide) (XS.aloadN X0.here hx rfl (D d6_62) rfl rfl (st1168 _ (XS.istore X1168.here hx rfl (D d6_66) rfl (l' := (own_loc7 a0 r1 a2 a3 rn)) rfl (XS.iload X1168.here hx rfl (D d6_68) rfl (XS.aloadN X1168.here hx rfl (D d6_70) rfl rfl (st1169 _ (ld1170 _ ?_)))))))
    rw [len_of S1170 M1170]
    show own_S p e below T1169 (mkF m 75 (own_loc7 a0 r1 a2 a3 rn) [.int 16, (.int rn)]) _
    refine XS.icmpYes X1169.here hx rfl (pc0 := 75) (pc' := 108) rfl (D d6_75) rfl (feq (show ¬ (rn = (16 : Int32)) from own_ne_of_lt hrn.2)).2 (by decide) (by decide) (XS.aloadN X1169.here hx rfl (D d6_108) rfl rfl (XS.dup X1169.here hx rfl (D d6_109) rfl rfl (st1171 _ (XS.iconst X1171.here hx rfl (D d6_113) (XS.iadd X1171.here hx rfl (D d6_114) rfl (st1172 _ (XS.aloadN X1172.here hx rfl (D d6_118) rfl rfl (st1187 _ (XS.iload X1187.here hx rfl (D d6_122) rfl ?_)))))))))
    refine XS.dloadN X1187.here hx rfl (D d6_124) rfl (st1188 _ (XS.iconst X1188.here hx rfl (D d6_126) (XS.istore X1188.here hx rfl (D d6_127) rfl (l' := (own_loc8 a0 r1 a2 a3 rn)) rfl ?_)))
    show own_S p e below T1188 (mkF m 129 (own_loc8 a0 r1 a2 a3 rn) []) _
    refine XS.iload X1188.here hx rfl (D d6_129) rfl (XS.aloadN X1188.here hx rfl (D d6_131) rfl rfl (ld1203 _ ?_))
    rw [len_of S1203 M1203]
    show own_S p e below T1188 (mkF m 133 (own_loc8 a0 r1 a2 a3 rn) [.int 0, .int 0]) _
    refine XS.icmpYes X1188.here hx rfl (pc0 := 133) (pc' := 167) rfl (D d6_133) rfl (flt (by decide : ¬ ((0 : Int32) < (0 : Int32)))).2.1 (by decide) (by decide) (XS.aloadN X1188.here hx rfl (D d6_167) rfl rfl (XS.dconst0 X1188.here hx rfl (D d6_168) rfl (XS.iconst X1188.here hx rfl (D d6_169) (XS.iconst X1188.here hx rfl (D d6_170) (st1204 _ (XS.dup X1204.here hx rfl (D d6_173) rfl rfl (XS.iconst X1204.here hx rfl (D d6_174) (XS.iload X1204.here hx rfl (D d6_175) rfl (st1233 _ ?_)))))))))
    refine XS.iconst X1233.here hx rfl (D d6_178) (st1249 _ (XS.dup X1249.here hx rfl (D d6_181) rfl rfl (XS.iconst X1249.here hx rfl (D d6_182) (XS.dconst1 X1249.here hx rfl (D d6_183) rfl (st1280 _ ?_)))))
    exact kt
  obtain ⟨cq1298, kq1298, q1298a, q1298b, q1298c⟩ := isOf hZ e1280 x1281
  obtain ⟨_, _, ⟨T1298, L1298, k1298, n1298⟩, -, X1298, ⟨Lc1298, hQ1298, l1298, y1298, z1298⟩, st1298⟩ := X1280.virtualBack hx (y := (⟨own_K, "addVariable", "(DI[I[D)I"⟩ : MethodName)) (z := (⟨own_K, "addVariable", "(DI[I[D)I"⟩ : MethodName)) hown (mvT hZ (own_wk hw 83 rfl)) (mvT hZ (own_wk hw 64 rfl)) (notFace_of_selects (args := #[]) (mvT hZ (own_wk hw 66 rfl))) (mvT hZ (own_wk hw 66 rfl)) (mvT hZ (own_wk hw 65 rfl)) (by decide) (backOf (W := 0) (rm4_1 l Z ag hw [] a0 (0 : UInt64) (-1 : Int32) b1204 b1249 _ _ _ _ _ _ _ _ _ _ _ _ _ _ _ _ _ _ _ _ _ _ _ _ _ _ _ _ _ _ _ _ _ _ _ _ _ _ _ _ _ _ _ _ _ _ _ h1280 n0 (Nat.le_trans Z0 kp1296.1) x1281 x1293 x1282 x1283 x1284 x1285 x1286 x1287 x1288 x1289 x1295 V1280 ge_a0 ge_uc ge_ug ge_up ge_uf ge_ue ge_um ge_ur ge_uv ne_a0_uc ne_a0_ug ne_a0_up ne_a0_uf ne_a0_ue ne_a0_um ne_a0_ur ne_a0_uv ne1205 ne1250 ne_uc_ug ne_uc_up ne_uc_uf ne_uc_ue ne_uc_um ne_uc_ur ne_uc_uv ne1206 ne1251 ne_ug_up ne_ug_uf ne_ug_ue ne_ug_um ne_ug_ur ne_ug_uv ne1207 ne1252 ne_up_uf ne_up_ue ne_up_um ne_up_ur ne_up_uv ne1208 ne1253 ne_uf_ue ne_uf_um ne_uf_ur ne_uf_uv ne1209 ne1254 ne_ue_um ne_ue_ur ne_ue_uv ne1210 ne1255 ne_um_ur ne_um_uv ne1211 ne1256 ne_ur_uv ne1212 ne1257 ne1213 ne1258 hvn hle hl_uc hl_ug hl_up hl_uf hl_ue hl_um hen0 hlr0 hlv0 own_one_nz) hZ (own_wk hw 67 rfl) (own_wk hw 2 rfl) (by decide) (by decide)) q1298a q1298c (g := (mkF m 185 (own_loc8 a0 r1 a2 a3 rn) [(.ref b1249), (.ref b1204), .int (-1), (.double (0 : UInt64)), (.ref a0)])) rfl (by rw [hml]; rfl) (Steps.refl _) (argsL := [(.double (0 : UInt64)), (.int (-1 : Int32)), (.ref b1204), (.ref b1249)]) (rest := []) (lenOf pd_5 rfl) rfl (by show 2 * 0 + _ ≤ _; exact Nat.le_of_eq rfl) (D d6_185) (fun _ _ => ⟨rfl, e1280, (by decide : 2 + 0 ≤ _), (by decide : 2 + 0 ≤ _)⟩)
  dsimp only [Pt.U, Pt.locs, Pt.cells, Pt.slots] at X1298 l1298 y1298 z1298 st1298 hQ1298
  subst l1298 y1298 z1298
  obtain ⟨rfl, N1298q, K1298, o1298_0, o1298_1, o1298_2, o1298_3, o1298_4, o1298_5, o1298_6, o1298_7, o1298_8⟩ := hQ1298
  have N1298 := Fr.app N1280 N1298q
  have x1299 := x1281.keep K1298
  have x1300 := x1290.keep K1298 (ninS (Ne.symm ne_a0_us) (ninS (Ne.symm ne_uc_us) (ninS (Ne.symm ne_ug_us) (ninS (Ne.symm ne_up_us) (ninS (Ne.symm ne_uf_us) (ninS (Ne.symm ne_ue_us) (ninS (Ne.symm ne_um_us) (ninS (Ne.symm ne_ur_us) (ninS (Ne.symm ne_uv_us) nin0)))))))))
  have x1301 := x1291.keep K1298 (ninS (Ne.symm ne_a0_a2) (ninS (Ne.symm ne_uc_a2) (ninS (Ne.symm ne_ug_a2) (ninS (Ne.symm ne_up_a2) (ninS (Ne.symm ne_uf_a2) (ninS (Ne.symm ne_ue_a2) (ninS (Ne.symm ne_um_a2) (ninS (Ne.symm ne_ur_a2) (ninS (Ne.symm ne_uv_a2) nin0)))))))))
  have x1302 := x1292.keep K1298 (ninS (Ne.symm ne_a0_a3) (ninS (Ne.symm ne_uc_a3) (ninS (Ne.symm ne_ug_a3) (ninS (Ne.symm ne_up_a3) (ninS (Ne.symm ne_uf_a3) (ninS (Ne.symm ne_ue_a3) (ninS (Ne.symm ne_um_a3) (ninS (Ne.symm ne_ur_a3) (ninS (Ne.symm ne_uv_a3) nin0)))))))))
  have x1303 := x1294.keep K1298 (ninS (Ne.symm ne_a0_ub) (ninS (Ne.symm ne_uc_ub) (ninS (Ne.symm ne_ug_ub) (ninS (Ne.symm ne_up_ub) (ninS (Ne.symm ne_uf_ub) (ninS (Ne.symm ne_ue_ub) (ninS (Ne.symm ne_um_ub) (ninS (Ne.symm ne_ur_ub) (ninS (Ne.symm ne_uv_ub) nin0)))))))))
  have x1304 := x1295.keep K1298 (ninS (Ne.symm ne1205) (ninS (Ne.symm ne1206) (ninS (Ne.symm ne1207) (ninS (Ne.symm ne1208) (ninS (Ne.symm ne1209) (ninS (Ne.symm ne1210) (ninS (Ne.symm ne1211) (ninS (Ne.symm ne1212) (ninS (Ne.symm ne1213) nin0)))))))))
  have x1305 := V1280.keep K1298 (ninS (Ne.symm ne1250) (ninS (Ne.symm ne1251) (ninS (Ne.symm ne1252) (ninS (Ne.symm ne1253) (ninS (Ne.symm ne1254) (ninS (Ne.symm ne1255) (ninS (Ne.symm ne1256) (ninS (Ne.symm ne1257) (ninS (Ne.symm ne1258) nin0)))))))))
  have kp1306 : Keep h0 T1298.heap [a0, uc, ug, up, uf, ue, um, ur, uv, ub, us] := kp1296.trans K1298 (allS (Or.inl (List.mem_of_getElem? (i := 0) rfl)) (allS (Or.inl (List.mem_of_getElem? (i := 1) rfl)) (allS (Or.inl (List.mem_of_getElem? (i := 2) rfl)) (allS (Or.inl (List.mem_of_getElem? (i := 3) rfl)) (allS (Or.inl (List.mem_of_getElem? (i := 4) rfl)) (allS (Or.inl (List.mem_of_getElem? (i := 5) rfl)) (allS (Or.inl (List.mem_of_getElem? (i := 6) rfl)) (allS (Or.inl (List.mem_of_getElem? (i := 7) rfl)) (allS (Or.inl (List.mem_of_getElem? (i := 8) rfl)) all0)))))))))
  obtain ⟨T1307, X1307, e1307, st1307⟩ := own_gf X1298 hx hZ hown (own_wk hw 29 rfl) rfl o1298_0 9 rfl rfl (g := (mkF m 191 (own_loc9 a0 r1 a2 a3 rn vn) [(.ref a0)])) rfl rfl (D d6_191)
  obtain ⟨T1308, h1308, X1308, e1308, W1308, V1308, st1308⟩ := own_stI X1307 hx hZ e1307 x1300 (j := rn) hrn (rn).toNatClampNeg rfl hl_us (vs' := (ls.set (rn).toNatClampNeg (.int vn))) rfl (g := (mkF m 198 (own_loc9 a0 r1 a2 a3 rn vn) [(.int vn), (.int rn), (.ref us)])) rfl rfl (D d6_198)
  have x1309 := x1299.wr W1308
  have x1310 := x1301.other W1308 (Ne.symm ne_us_a2)
  have x1311 := x1302.other W1308 (Ne.symm ne_us_a3)
  have x1312 := x1303.other W1308 ne_ub_us
  have x1313 := x1304.other W1308 (Ne.symm ne1215)
  have x1314 := x1305.other W1308 (Ne.symm ne1260)
  have x1315 := o1298_0.other W1308 ne_a0_us
  have x1316 := o1298_1.other W1308 ne_uc_us
  have x1317 := o1298_2.other W1308 ne_ug_us
  have x1318 := o1298_3.other W1308 ne_up_us
  have x1319 := o1298_4.other W1308 ne_uf_us
  have x1320 := o1298_5.other W1308 ne_ue_us
  have x1321 := o1298_6.other W1308 ne_um_us
  have x1322 := o1298_7.other W1308 ne_ur_us
  have x1323 := o1298_8.other W1308 ne_uv_us
  have kp1324 : Keep h0 h1308 [a0, uc, ug, up, uf, ue, um, ur, uv, ub, us] := kp1306.wr W1308 (Or.inl (List.mem_of_getElem? (i := 10) rfl))
  have N1308 := Fr.snoc X1308 N1298 ge_us
  obtain ⟨T1325, X1325, e1325, st1325⟩ := own_gf X1308 hx hZ hown (own_wk hw 59 rfl) e1308 x1315 20 rfl rfl (g := (mkF m 200 (own_loc9 a0 r1 a2 a3 rn vn) [(.ref a0)])) rfl rfl (D d6_200)
  obtain ⟨fs, hr, hrun, hended, hW, hsame⟩ := X1325.leave (v := some (.int rn)) (fun h => by rw [Bd.returns] at h; cases h)
  refine ⟨_, _, pre0 _ ?_, hrun, hended, _, _, rfl, ?_, ⟨_, rfl⟩, hW, hsame.mono (by decide) (by decide)⟩
  · show own_S p e below s₁ (mkF m 0 #[.val (.ref a0), .val (.double r1), .second, .val (.ref a2), .val (.ref a3), .unset, .unset] []) _
    refine cp1297 _ (st1298.trans (XS.istore X1298.here hx rfl (D d6_188) rfl (l' := (own_loc9 a0 r1 a2 a3 rn vn)) rfl (XS.aloadN X1298.here hx rfl (D d6_190) rfl rfl (st1307 _ (XS.iload X1307.here hx rfl (D d6_194) rfl (XS.iload X1307.here hx rfl (D d6_196) rfl (st1308 _ (XS.aloadN X1308.here hx rfl (D d6_199) rfl rfl (st1325 _ ?_)))))))))
    refine XS.ifYes X1325.here hx rfl (pc0 := 203) (pc' := 214) rfl (D d6_203) rfl ((if0 _ _).trans (teq (by decide : (0 : Int32) = (0 : Int32))).1) (by decide) (by decide) (XS.iload X1325.here hx rfl (D d6_214) rfl ?_)
    show own_S p e below T1325 (mkF m 216 (own_loc9 a0 r1 a2 a3 rn vn) [(.int rn)]) _
    exact retI X1325 hx Bd.returns (D d6_216) hr
  · show Q6 Z a0 r1 a2 a3 uc ug up uf ue um ur uv ub us w_keys w_keyValues w_head w_inverse w_values w_groupDualPass w_groupDualValues w_rates w_rated w_ratedGroups w_groupCount vn en rn w_objective w_pivotsSinceInversion kuc lc kug lg kup lp kuf lf kue le kum lm kur lr kuv lv kub lb kus ls ka2 l2 ka3 l3 h0 n0 _ T1325.heap _
    rw [e1325]
    exact ⟨rfl, N1308, kp1324, x1315, x1316, x1317, x1318, x1319, x1320, x1321, x1322, x1323, x1312, V1308⟩
theorem ef_10 (m : MethodId) (a0 : Addr) (a1 : Addr) (p2 : Int32) (r3 : UInt64) : entryFrame m #[(.ref a0), (.ref a1), (.int p2), (.double r3)] 7 = mkF m 0 #[.val (.ref a0), .val (.ref a1), .val (.int p2), .val (.double r3), .second, .unset, .unset] [] := by first | (simp [entryFrame, mkF, argsToLocals, Value.category]; done) | rfl
abbrev own_d10 (p : Nat) (i : Instr) (n : Nat) : Prop := decode prog_56_method_20_code p = .ok (i, n)
theorem d10_0 : own_d10 0 (.aload_n 0) 1 := by decide +kernel
theorem d10_1 : own_d10 1 (.getfield 20) 3 := by decide +kernel
theorem d10_4 : own_d10 4 (.iload_n 2) 1 := by decide +kernel
theorem d10_5 : own_d10 5 .iaload 1 := by decide +kernel
theorem d10_6 : own_d10 6 (.aload_n 0) 1 := by decide +kernel
theorem d10_7 : own_d10 7 (.getfield 23) 3 := by decide +kernel
theorem d10_10 : own_d10 10 (.iload_n 2) 1 := by decide +kernel
theorem d10_11 : own_d10 11 .iaload 1 := by decide +kernel
theorem d10_12 : own_d10 12 .iadd 1 := by decide +kernel
theorem d10_13 : own_d10 13 (.istore 5) 2 := by decide +kernel
abbrev own_loc10 (a0 a1 : Addr) (p2 : Int32) (r3 : UInt64) (fe : Int32) : Array Slot := #[.val (.ref a0), .val (.ref a1), .val (.int p2), .val (.double r3), .second, .val (.int (fe + (0 : Int32))), .unset]
theorem d10_15 : own_d10 15 (.aload_n 0) 1 := by decide +kernel
theorem d10_16 : own_d10 16 (.getfield 20) 3 := by decide +kernel
theorem d10_19 : own_d10 19 (.iload_n 2) 1 := by decide +kernel
theorem d10_20 : own_d10 20 .iaload 1 := by decide +kernel
theorem d10_21 : own_d10 21 (.istore 6) 2 := by decide +kernel
abbrev own_loc11 (a0 a1 : Addr) (p2 : Int32) (r3 : UInt64) (fe : Int32) : Array Slot := #[.val (.ref a0), .val (.ref a1), .val (.int p2), .val (.double r3), .second, .val (.int (fe + (0 : Int32))), .val (.int fe)]
theorem d10_23 : own_d10 23 (.iload 6) 2 := by decide +kernel
theorem d10_25 : own_d10 25 (.iload 5) 2 := by decide +kernel
theorem d10_27 : own_d10 27 (.if_icmp .ge 30) 3 := by decide +kernel
theorem d10_57 : own_d10 57 .return_ 1 := by decide +kernel
def Q10_n (Z : State) (a0 a1 : Addr) (p2 : Int32) (r3 : UInt64) (w_costs w_groupOf w_positionOf : Value) (uf ue : Addr) (w_entryRooms : Value) (ur uv : Addr) (w_bounds w_slacks w_keys w_keyValues w_head w_inverse w_values w_groupDualPass w_groupDualValues w_rates w_rated w_ratedGroups w_started w_groupCount w_variableCount w_entriesUsed w_rowCount w_objective w_pivotsSinceInversion : Value) (kuf : ClassId) (lf : List Value) (kue : ClassId) (le : List Value) (kur : ClassId) (lr : List Value) (kuv : ClassId) (lv : List Value) (ka1 : ClassId) (y0 y1 : UInt64) (fe : Int32) (h0 : Heap) (n0 : Nat) (v : Option Value) (h : Heap) (L : List Loc) : Prop := v = none ∧ Fr n0 L ∧ Keep h0 h [a1] ∧ Arv Z h a1 ka1 .double (2 : Int32) [(.double y0), (.double y1)] (.double (0 : UInt64))
set_option maxRecDepth 65536 in
set_option maxHeartbeats 40000000 in
theorem rm10_n (l : Launch) (Z : State) (ag : Array Value) (hw : ∀ d ∈ tables_1, d.before ag Z = true) (ws : List Jvm.Cond) (a0 a1 : Addr) (p2 : Int32) (r3 : UInt64) (w_costs w_groupOf w_positionOf : Value) (uf ue : Addr) (w_entryRooms : Value) (ur uv : Addr) (w_bounds w_slacks w_keys w_keyValues w_head w_inverse w_values w_groupDualPass w_groupDualValues w_rates w_rated w_ratedGroups w_started w_groupCount w_variableCount w_entriesUsed w_rowCount w_objective w_pivotsSinceInversion : Value) (kuf : ClassId) (lf : List Value) (kue : ClassId) (le : List Value) (kur : ClassId) (lr : List Value) (kuv : ClassId) (lv : List Value) (ka1 : ClassId) (y0 y1 : UInt64) (fe : Int32) (h0 : Heap) (n0 : Nat) (Z0 : n0 ≤ h0.size) (E_a0 : Exa Z h0 a0 own_K) (Ob_a0 : own_fs own_K own_N Z h0 a0 [w_costs, w_groupOf, w_positionOf, (.ref uf), (.ref ue), w_entryRooms, (.ref ur), (.ref uv), w_bounds, w_slacks, w_keys, w_keyValues, w_head, w_inverse, w_values, w_groupDualPass, w_groupDualValues, w_rates, w_rated, w_ratedGroups, w_started, w_groupCount, w_variableCount, w_entriesUsed, w_rowCount, w_objective, w_pivotsSinceInversion]) (V_uf : Arv Z h0 uf kuf .int (16 : Int32) lf (.int (0 : Int32))) (V_ue : Arv Z h0 ue kue .int (16 : Int32) le (.int (0 : Int32))) (V_ur : Arv Z h0 ur kur .int (64 : Int32) lr (.int (0 : Int32))) (V_uv : Arv Z h0 uv kuv .double (64 : Int32) lv (.double (0 : UInt64))) (V_a1 : Arv Z h0 a1 ka1 .double (2 : Int32) [(.double y0), (.double y1)] (.double (0 : UInt64))) (ge_a1 : n0 ≤ a1) (ne_a1_a0 : a1 ≠ a0) (ne_a1_uf : a1 ≠ uf) (ne_a1_ue : a1 ≠ ue) (ne_a1_ur : a1 ≠ ur) (ne_a1_uv : a1 ≠ uv) (hp2 : ¬ p2 < 0 ∧ p2 < (16 : Int32)) (hfe : lf.getD (p2).toNatClampNeg (.int (0 : Int32)) = .int fe) (hle : le.getD (p2).toNatClampNeg (.int (0 : Int32)) = .int (0 : Int32)) (hend : ¬ fe < (fe + (0 : Int32))) :
    MetFree l (⟨own_K, "addColumn", "([DID)V"⟩ : MethodName) (head1 (Jvm.Cond.code (⟨own_K, "addColumn", "([DID)V"⟩ : MethodName) prog_56_method_20_code 7 none :: ws) ({ frames := 0, cells := 0, slots := 0, locals := 0 } : Room)) (fun a U => a = #[(.ref a0), (.ref a1), (.int p2), (.double r3)] ∧ Z.Warmed39 U.vm ∧ U.heap = h0) (fun _ _ _ _ _ => True) (fun _ U o U' => ∃ v L, o = .returned v ∧ Q10_n Z a0 a1 p2 r3 w_costs w_groupOf w_positionOf uf ue w_entryRooms ur uv w_bounds w_slacks w_keys w_keyValues w_head w_inverse w_values w_groupDualPass w_groupDualValues w_rates w_rated w_ratedGroups w_started w_groupCount w_variableCount w_entriesUsed w_rowCount w_objective w_pivotsSinceInversion kuf lf kue le kur lr kuv lv ka1 y0 y1 fe h0 n0 v U'.heap L ∧ FrameEnd U o U' L ({ frames := 0, cells := 0, slots := 0, locals := 0 } : Room).cells ({ frames := 0, cells := 0, slots := 0, locals := 0 } : Room).slots) := by
  refine MetFree.of_bodySF (plainFor_of_name pn_0) hisR ?_
  intro p e s m args below meth c s₁ Bd hml0 hP hK
  obtain ⟨rfl, hZ, hh⟩ := hP
  have hx := Bd.exec
  have hby := Bd.bytes
  have hml : c.maxLocals = 7 := hml0
  have hown : s.vm.findClass own_K = some m.cls := findClass_of_methodNamed Bd.named
  have hnm := (name_of_methodNamed Bd.named Bd.method).1
  have X0 : Stand p l e ({ frames := 0, cells := 0, slots := 0, locals := 0 } : Room) s m #[(.ref a0), (.ref a1), (.int p2), (.double r3)] below meth c s₁ [] 0 0 := Stand.of_body Bd
  have e0 : s₁.heap = h0 := by rw [← hh, Bd.state]; rfl
  have N0 := Fr.nil n0
  have D : ∀ {pc : Nat} {r : Except DecodeError (Instr × Nat)}, decode prog_56_method_20_code pc = r → decode c.code pc = r := fun q => hb hby q
  have pre0 : ∀ t, Steps p.tables e below (s₁.setTop (mkF m 0 #[.val (.ref a0), .val (.ref a1), .val (.int p2), .val (.double r3), .second, .unset, .unset] [])) t → Steps p.tables e below (s₁.setTop (entryFrame m #[(.ref a0), (.ref a1), (.int p2), (.double r3)] 7)) t := fun t k => castTop (ef_10 m a0 a1 p2 r3) k
  obtain ⟨T1326, X1326, e1326, st1326⟩ := own_gf X0 hx hZ hown (own_wk hw 17 rfl) e0 Ob_a0 3 rfl rfl (g := (mkF m 1 #[.val (.ref a0), .val (.ref a1), .val (.int p2), .val (.double r3), .second, .unset, .unset] [(.ref a0)])) rfl rfl (D d10_1)
  obtain ⟨T1328, X1328, e1328, st1328⟩ := own_gf X1326 hx hZ hown (own_wk hw 19 rfl) e1326 Ob_a0 4 rfl rfl (g := (mkF m 7 #[.val (.ref a0), .val (.ref a1), .val (.int p2), .val (.double r3), .second, .unset, .unset] [(.ref a0), (.int fe)])) rfl rfl (D d10_7)
  obtain ⟨T1330, X1330, e1330, st1330⟩ := own_gf X1328 hx hZ hown (own_wk hw 17 rfl) e1328 Ob_a0 3 rfl rfl (g := (mkF m 16 (own_loc10 a0 a1 p2 r3 fe) [(.ref a0)])) rfl rfl (D d10_16)
  obtain ⟨fs, hr, hrun, hended, hW, hsame⟩ := X1330.leave (v := none) (fun _ => rfl)
  refine ⟨_, _, pre0 _ ?_, hrun, hended, _, _, rfl, ?_, ⟨_, rfl⟩, hW, hsame.mono (by decide) (by decide)⟩
  · show own_S p e below s₁ (mkF m 0 #[.val (.ref a0), .val (.ref a1), .val (.int p2), .val (.double r3), .second, .unset, .unset] []) _
    refine XS.aloadN X0.here hx rfl (D d10_0) rfl rfl (st1326 _ (XS.iloadN X1326.here hx rfl (D d10_4) rfl (own_ldI X1326 hx hZ e1326 V_uf (j := p2) hp2 (v := (.int fe)) hfe rfl rfl (D d10_5) (XS.aloadN X1326.here hx rfl (D d10_6) rfl rfl (st1328 _ (XS.iloadN X1328.here hx rfl (D d10_10) rfl (own_ldI X1328 hx hZ e1328 V_ue (j := p2) hp2 (v := (.int (0 : Int32))) hle rfl rfl (D d10_11) (XS.iadd X1328.here hx rfl (D d10_12) rfl (XS.istore X1328.here hx rfl (D d10_13) rfl (l' := (own_loc10 a0 a1 p2 r3 fe)) rfl ?_)))))))))
    refine XS.aloadN X1328.here hx rfl (D d10_15) rfl rfl (st1330 _ (XS.iloadN X1330.here hx rfl (D d10_19) rfl (own_ldI X1330 hx hZ e1330 V_uf (j := p2) hp2 (v := (.int fe)) hfe rfl rfl (D d10_20) (XS.istore X1330.here hx rfl (D d10_21) rfl (l' := (own_loc11 a0 a1 p2 r3 fe)) rfl ?_))))
    show own_S p e below T1330 (mkF m 23 (own_loc11 a0 a1 p2 r3 fe) []) _
    refine XS.iload X1330.here hx rfl (D d10_23) rfl (XS.iload X1330.here hx rfl (D d10_25) rfl (XS.icmpYes X1330.here hx rfl (pc0 := 27) (pc' := 57) rfl (D d10_27) rfl (flt (show ¬ (fe < (fe + (0 : Int32))) from hend)).2.1 (by decide) (by decide) ?_))
    show own_S p e below T1330 (mkF m 57 (own_loc11 a0 a1 p2 r3 fe) []) _
    exact X1330.returnOut hx Bd.returns (D d10_57) hr
  · show Q10_n Z a0 a1 p2 r3 w_costs w_groupOf w_positionOf uf ue w_entryRooms ur uv w_bounds w_slacks w_keys w_keyValues w_head w_inverse w_values w_groupDualPass w_groupDualValues w_rates w_rated w_ratedGroups w_started w_groupCount w_variableCount w_entriesUsed w_rowCount w_objective w_pivotsSinceInversion kuf lf kue le kur lr kuv lv ka1 y0 y1 fe h0 n0 _ T1330.heap _
    rw [e1330]
    exact ⟨rfl, N0, (Keep.refl h0 [a1]), V_a1⟩
abbrev own_loc12 (a0 a1 : Addr) (p2 : Int32) (r3 : UInt64) (fe : Int32) : Array Slot := #[.val (.ref a0), .val (.ref a1), .val (.int p2), .val (.double r3), .second, .val (.int (fe + (1 : Int32))), .unset]
abbrev own_loc13 (a0 a1 : Addr) (p2 : Int32) (r3 : UInt64) (fe : Int32) : Array Slot := #[.val (.ref a0), .val (.ref a1), .val (.int p2), .val (.double r3), .second, .val (.int (fe + (1 : Int32))), .val (.int fe)]
theorem d10_30 : own_d10 30 (.aload_n 1) 1 := by decide +kernel
theorem d10_31 : own_d10 31 (.aload_n 0) 1 := by decide +kernel
theorem d10_32 : own_d10 32 (.getfield 29) 3 := by decide +kernel
theorem d10_35 : own_d10 35 (.iload 6) 2 := by decide +kernel
theorem d10_37 : own_d10 37 .iaload 1 := by decide +kernel
theorem d10_38 : own_d10 38 .dup2 1 := by decide +kernel
theorem d10_39 : own_d10 39 .daload 1 := by decide +kernel
theorem d10_40 : own_d10 40 (.dload_n 3) 1 := by decide +kernel
theorem d10_41 : own_d10 41 (.aload_n 0) 1 := by decide +kernel
theorem d10_42 : own_d10 42 (.getfield 32) 3 := by decide +kernel
theorem d10_45 : own_d10 45 (.iload 6) 2 := by decide +kernel
theorem d10_47 : own_d10 47 .daload 1 := by decide +kernel
theorem d10_48 : own_d10 48 .dmul 1 := by decide +kernel
theorem d10_49 : own_d10 49 .dadd 1 := by decide +kernel
theorem d10_50 : own_d10 50 .dastore 1 := by decide +kernel
theorem d10_51 : own_d10 51 (.iinc 6 1) 3 := by decide +kernel
abbrev own_loc14 (a0 a1 : Addr) (p2 : Int32) (r3 : UInt64) (fe : Int32) : Array Slot := #[.val (.ref a0), .val (.ref a1), .val (.int p2), .val (.double r3), .second, .val (.int (fe + (1 : Int32))), .val (.int (fe + (1 : Int32)))]
theorem d10_54 : own_d10 54 (.goto (-31)) 3 := by decide +kernel
def Q10_0 (Z : State) (a0 a1 : Addr) (p2 : Int32) (r3 : UInt64) (w_costs w_groupOf w_positionOf : Value) (uf ue : Addr) (w_entryRooms : Value) (ur uv : Addr) (w_bounds w_slacks w_keys w_keyValues w_head w_inverse w_values w_groupDualPass w_groupDualValues w_rates w_rated w_ratedGroups w_started w_groupCount w_variableCount w_entriesUsed w_rowCount w_objective w_pivotsSinceInversion : Value) (kuf : ClassId) (lf : List Value) (kue : ClassId) (le : List Value) (kur : ClassId) (lr : List Value) (kuv : ClassId) (lv : List Value) (ka1 : ClassId) (y0 y1 : UInt64) (fe : Int32) (x0 z0 : UInt64) (h0 : Heap) (n0 : Nat) (v : Option Value) (h : Heap) (L : List Loc) : Prop := v = none ∧ Fr n0 L ∧ Keep h0 h [a1] ∧ Arv Z h a1 ka1 .double (2 : Int32) [(.double z0), (.double y1)] (.double (0 : UInt64))
set_option maxRecDepth 65536 in
set_option maxHeartbeats 40000000 in
theorem rm10_0 (l : Launch) (Z : State) (ag : Array Value) (hw : ∀ d ∈ tables_1, d.before ag Z = true) (ws : List Jvm.Cond) (a0 a1 : Addr) (p2 : Int32) (r3 : UInt64) (w_costs w_groupOf w_positionOf : Value) (uf ue : Addr) (w_entryRooms : Value) (ur uv : Addr) (w_bounds w_slacks w_keys w_keyValues w_head w_inverse w_values w_groupDualPass w_groupDualValues w_rates w_rated w_ratedGroups w_started w_groupCount w_variableCount w_entriesUsed w_rowCount w_objective w_pivotsSinceInversion : Value) (kuf : ClassId) (lf : List Value) (kue : ClassId) (le : List Value) (kur : ClassId) (lr : List Value) (kuv : ClassId) (lv : List Value) (ka1 : ClassId) (y0 y1 : UInt64) (fe : Int32) (x0 z0 : UInt64) (h0 : Heap) (n0 : Nat) (Z0 : n0 ≤ h0.size) (E_a0 : Exa Z h0 a0 own_K) (Ob_a0 : own_fs own_K own_N Z h0 a0 [w_costs, w_groupOf, w_positionOf, (.ref uf), (.ref ue), w_entryRooms, (.ref ur), (.ref uv), w_bounds, w_slacks, w_keys, w_keyValues, w_head, w_inverse, w_values, w_groupDualPass, w_groupDualValues, w_rates, w_rated, w_ratedGroups, w_started, w_groupCount, w_variableCount, w_entriesUsed, w_rowCount, w_objective, w_pivotsSinceInversion]) (V_uf : Arv Z h0 uf kuf .int (16 : Int32) lf (.int (0 : Int32))) (V_ue : Arv Z h0 ue kue .int (16 : Int32) le (.int (0 : Int32))) (V_ur : Arv Z h0 ur kur .int (64 : Int32) lr (.int (0 : Int32))) (V_uv : Arv Z h0 uv kuv .double (64 : Int32) lv (.double (0 : UInt64))) (V_a1 : Arv Z h0 a1 ka1 .double (2 : Int32) [(.double y0), (.double y1)] (.double (0 : UInt64))) (ge_a1 : n0 ≤ a1) (ne_a1_a0 : a1 ≠ a0) (ne_a1_uf : a1 ≠ uf) (ne_a1_ue : a1 ≠ ue) (ne_a1_ur : a1 ≠ ur) (ne_a1_uv : a1 ≠ uv) (hp2 : ¬ p2 < 0 ∧ p2 < (16 : Int32)) (hfe : lf.getD (p2).toNatClampNeg (.int (0 : Int32)) = .int fe) (hle : le.getD (p2).toNatClampNeg (.int (0 : Int32)) = .int (1 : Int32)) (hi0 : ¬ fe < 0 ∧ fe < (64 : Int32)) (hlt0 : fe < (fe + (1 : Int32))) (hr0 : lr.getD (fe).toNatClampNeg (.int (0 : Int32)) = .int (0 : Int32)) (hv0 : lv.getD (fe).toNatClampNeg (.double (0 : UInt64)) = .double x0) (nm0 : Jvm.Free.Fl.NoNaN64 (FP.dmul r3 x0)) (na0 : Jvm.Free.Fl.NoNaN64 (FP.dadd y0 (FP.dmul r3 x0))) (hz0 : FP.dadd y0 (FP.dmul r3 x0) = z0) (hend : ¬ (fe + (1 : Int32)) < (fe + (1 : Int32))) :
    MetFree l (⟨own_K, "addColumn", "([DID)V"⟩ : MethodName) (head1 (Jvm.Cond.code (⟨own_K, "addColumn", "([DID)V"⟩ : MethodName) prog_56_method_20_code 7 none :: ws) ({ frames := 0, cells := 0, slots := 0, locals := 0 } : Room)) (fun a U => a = #[(.ref a0), (.ref a1), (.int p2), (.double r3)] ∧ Z.Warmed39 U.vm ∧ U.heap = h0) (fun _ _ _ _ _ => True) (fun _ U o U' => ∃ v L, o = .returned v ∧ Q10_0 Z a0 a1 p2 r3 w_costs w_groupOf w_positionOf uf ue w_entryRooms ur uv w_bounds w_slacks w_keys w_keyValues w_head w_inverse w_values w_groupDualPass w_groupDualValues w_rates w_rated w_ratedGroups w_started w_groupCount w_variableCount w_entriesUsed w_rowCount w_objective w_pivotsSinceInversion kuf lf kue le kur lr kuv lv ka1 y0 y1 fe x0 z0 h0 n0 v U'.heap L ∧ FrameEnd U o U' L ({ frames := 0, cells := 0, slots := 0, locals := 0 } : Room).cells ({ frames := 0, cells := 0, slots := 0, locals := 0 } : Room).slots) := by
  refine MetFree.of_bodySF (plainFor_of_name pn_0) hisR ?_
  intro p e s m args below meth c s₁ Bd hml0 hP hK
  obtain ⟨rfl, hZ, hh⟩ := hP
  have hx := Bd.exec
  have hby := Bd.bytes
  have hml : c.maxLocals = 7 := hml0
  have hown : s.vm.findClass own_K = some m.cls := findClass_of_methodNamed Bd.named
  have hnm := (name_of_methodNamed Bd.named Bd.method).1
  have X0 : Stand p l e ({ frames := 0, cells := 0, slots := 0, locals := 0 } : Room) s m #[(.ref a0), (.ref a1), (.int p2), (.double r3)] below meth c s₁ [] 0 0 := Stand.of_body Bd
  have e0 : s₁.heap = h0 := by rw [← hh, Bd.state]; rfl
  have N0 := Fr.nil n0
  have D : ∀ {pc : Nat} {r : Except DecodeError (Instr × Nat)}, decode prog_56_method_20_code pc = r → decode c.code pc = r := fun q => hb hby q
  have pre0 : ∀ t, Steps p.tables e below (s₁.setTop (mkF m 0 #[.val (.ref a0), .val (.ref a1), .val (.int p2), .val (.double r3), .second, .unset, .unset] [])) t → Steps p.tables e below (s₁.setTop (entryFrame m #[(.ref a0), (.ref a1), (.int p2), (.double r3)] 7)) t := fun t k => castTop (ef_10 m a0 a1 p2 r3) k
  obtain ⟨T1332, X1332, e1332, st1332⟩ := own_gf X0 hx hZ hown (own_wk hw 17 rfl) e0 Ob_a0 3 rfl rfl (g := (mkF m 1 #[.val (.ref a0), .val (.ref a1), .val (.int p2), .val (.double r3), .second, .unset, .unset] [(.ref a0)])) rfl rfl (D d10_1)
  obtain ⟨T1334, X1334, e1334, st1334⟩ := own_gf X1332 hx hZ hown (own_wk hw 19 rfl) e1332 Ob_a0 4 rfl rfl (g := (mkF m 7 #[.val (.ref a0), .val (.ref a1), .val (.int p2), .val (.double r3), .second, .unset, .unset] [(.ref a0), (.int fe)])) rfl rfl (D d10_7)
  obtain ⟨T1336, X1336, e1336, st1336⟩ := own_gf X1334 hx hZ hown (own_wk hw 17 rfl) e1334 Ob_a0 3 rfl rfl (g := (mkF m 16 (own_loc12 a0 a1 p2 r3 fe) [(.ref a0)])) rfl rfl (D d10_16)
  obtain ⟨T1338, X1338, e1338, st1338⟩ := own_gf X1336 hx hZ hown (own_wk hw 23 rfl) e1336 Ob_a0 6 rfl rfl (g := (mkF m 32 (own_loc13 a0 a1 p2 r3 fe) [(.ref a0), (.ref a1)])) rfl rfl (D d10_32)
  obtain ⟨T1341, X1341, e1341, st1341⟩ := own_gf X1338 hx hZ hown (own_wk hw 25 rfl) e1338 Ob_a0 7 rfl rfl (g := (mkF m 42 (own_loc13 a0 a1 p2 r3 fe) [(.ref a0), (.double r3), (.double y0), .int 0, (.ref a1)])) rfl rfl (D d10_42)
  obtain ⟨T1343, h1343, X1343, e1343, W1343, V1343, st1343⟩ := own_stD X1341 hx hZ e1341 V_a1 (j := (0 : Int32)) ⟨(by decide), (by decide)⟩ 0 rfl (Nat.le_of_ble_eq_true rfl) (vs' := [(.double z0), (.double y1)]) rfl (g := (mkF m 50 (own_loc13 a0 a1 p2 r3 fe) [(.double z0), .int 0, (.ref a1)])) rfl rfl (D d10_50)
  have x1344 := E_a0.wr W1343
  have x1345 := Ob_a0.other W1343 (Ne.symm ne_a1_a0)
  have x1346 := V_uf.other W1343 (Ne.symm ne_a1_uf)
  have x1347 := V_ue.other W1343 (Ne.symm ne_a1_ue)
  have x1348 := V_ur.other W1343 (Ne.symm ne_a1_ur)
  have x1349 := V_uv.other W1343 (Ne.symm ne_a1_uv)
  have kp1350 : Keep h0 h1343 [a1] := (Keep.refl h0 [a1]).wr W1343 (Or.inl (List.mem_of_getElem? (i := 0) rfl))
  have N1343 := Fr.snoc X1343 N0 ge_a1
  obtain ⟨fs, hr, hrun, hended, hW, hsame⟩ := X1343.leave (v := none) (fun _ => rfl)
  refine ⟨_, _, pre0 _ ?_, hrun, hended, _, _, rfl, ?_, ⟨_, rfl⟩, hW, hsame.mono (by decide) (by decide)⟩
  · show own_S p e below s₁ (mkF m 0 #[.val (.ref a0), .val (.ref a1), .val (.int p2), .val (.double r3), .second, .unset, .unset] []) _
    refine XS.aloadN X0.here hx rfl (D d10_0) rfl rfl (st1332 _ (XS.iloadN X1332.here hx rfl (D d10_4) rfl (own_ldI X1332 hx hZ e1332 V_uf (j := p2) hp2 (v := (.int fe)) hfe rfl rfl (D d10_5) (XS.aloadN X1332.here hx rfl (D d10_6) rfl rfl (st1334 _ (XS.iloadN X1334.here hx rfl (D d10_10) rfl (own_ldI X1334 hx hZ e1334 V_ue (j := p2) hp2 (v := (.int (1 : Int32))) hle rfl rfl (D d10_11) (XS.iadd X1334.here hx rfl (D d10_12) rfl (XS.istore X1334.here hx rfl (D d10_13) rfl (l' := (own_loc12 a0 a1 p2 r3 fe)) rfl ?_)))))))))
    refine XS.aloadN X1334.here hx rfl (D d10_15) rfl rfl (st1336 _ (XS.iloadN X1336.here hx rfl (D d10_19) rfl (own_ldI X1336 hx hZ e1336 V_uf (j := p2) hp2 (v := (.int fe)) hfe rfl rfl (D d10_20) (XS.istore X1336.here hx rfl (D d10_21) rfl (l' := (own_loc13 a0 a1 p2 r3 fe)) rfl ?_))))
    show own_S p e below T1336 (mkF m 23 (own_loc13 a0 a1 p2 r3 fe) []) _
    refine XS.iload X1336.here hx rfl (D d10_23) rfl (XS.iload X1336.here hx rfl (D d10_25) rfl (XS.icmpNo X1336.here hx rfl (D d10_27) rfl (tlt (show fe < (fe + (1 : Int32)) from hlt0)).2.1 (XS.aloadN X1336.here hx rfl (D d10_30) rfl rfl (XS.aloadN X1336.here hx rfl (D d10_31) rfl rfl (st1338 _ (XS.iload X1338.here hx rfl (D d10_35) rfl (own_ldI X1338 hx hZ e1338 V_ur (j := fe) hi0 (v := (.int (0 : Int32))) hr0 rfl rfl (D d10_37) (Jvm.Free.XT.dup2 X1338.here hx rfl (D d10_38) rfl rfl rfl (own_ldD X1338 hx hZ e1338 V_a1 (j := (0 : Int32)) ⟨(by decide), (by decide)⟩ (v := (.double y0)) rfl rfl rfl (D d10_39) ?_)))))))))
    refine XS.dloadN X1338.here hx rfl (D d10_40) rfl (XS.aloadN X1338.here hx rfl (D d10_41) rfl rfl (st1341 _ (XS.iload X1341.here hx rfl (D d10_45) rfl (own_ldD X1341 hx hZ e1341 V_uv (j := fe) hi0 (v := (.double x0)) hv0 rfl rfl (D d10_47) (XS.dmulS X1341.here hx rfl (D d10_48) rfl nm0 rfl ?_)))))
    show own_S p e below T1341 (mkF m 49 (own_loc13 a0 a1 p2 r3 fe) [(.double (FP.dmul r3 x0)), (.double y0), .int 0, (.ref a1)]) _
    refine XS.daddS X1341.here hx rfl (D d10_49) rfl na0 hz0 (st1343 _ (XS.iinc X1343.here hx rfl (D d10_51) rfl (l' := (own_loc14 a0 a1 p2 r3 fe)) rfl (XS.goto X1343.here hx rfl (pc0 := 54) (pc' := 23) rfl (D d10_54) (by decide) (by decide) (XS.iload X1343.here hx rfl (D d10_23) rfl (XS.iload X1343.here hx rfl (D d10_25) rfl (XS.icmpYes X1343.here hx rfl (pc0 := 27) (pc' := 57) rfl (D d10_27) rfl (flt (show ¬ ((fe + (1 : Int32)) < (fe + (1 : Int32))) from hend)).2.1 (by decide) (by decide) ?_))))))
    show own_S p e below T1343 (mkF m 57 (own_loc14 a0 a1 p2 r3 fe) []) _
    exact X1343.returnOut hx Bd.returns (D d10_57) hr
  · show Q10_0 Z a0 a1 p2 r3 w_costs w_groupOf w_positionOf uf ue w_entryRooms ur uv w_bounds w_slacks w_keys w_keyValues w_head w_inverse w_values w_groupDualPass w_groupDualValues w_rates w_rated w_ratedGroups w_started w_groupCount w_variableCount w_entriesUsed w_rowCount w_objective w_pivotsSinceInversion kuf lf kue le kur lr kuv lv ka1 y0 y1 fe x0 z0 h0 n0 _ T1343.heap _
    rw [e1343]
    exact ⟨rfl, N1343, kp1350, V1343⟩
def Q10_1 (Z : State) (a0 a1 : Addr) (p2 : Int32) (r3 : UInt64) (w_costs w_groupOf w_positionOf : Value) (uf ue : Addr) (w_entryRooms : Value) (ur uv : Addr) (w_bounds w_slacks w_keys w_keyValues w_head w_inverse w_values w_groupDualPass w_groupDualValues w_rates w_rated w_ratedGroups w_started w_groupCount w_variableCount w_entriesUsed w_rowCount w_objective w_pivotsSinceInversion : Value) (kuf : ClassId) (lf : List Value) (kue : ClassId) (le : List Value) (kur : ClassId) (lr : List Value) (kuv : ClassId) (lv : List Value) (ka1 : ClassId) (y0 y1 : UInt64) (fe : Int32) (x0 z0 : UInt64) (h0 : Heap) (n0 : Nat) (v : Option Value) (h : Heap) (L : List Loc) : Prop := v = none ∧ Fr n0 L ∧ Keep h0 h [a1] ∧ Arv Z h a1 ka1 .double (2 : Int32) [(.double y0), (.double z0)] (.double (0 : UInt64))
set_option maxRecDepth 65536 in
set_option maxHeartbeats 40000000 in
theorem rm10_1 (l : Launch) (Z : State) (ag : Array Value) (hw : ∀ d ∈ tables_1, d.before ag Z = true) (ws : List Jvm.Cond) (a0 a1 : Addr) (p2 : Int32) (r3 : UInt64) (w_costs w_groupOf w_positionOf : Value) (uf ue : Addr) (w_entryRooms : Value) (ur uv : Addr) (w_bounds w_slacks w_keys w_keyValues w_head w_inverse w_values w_groupDualPass w_groupDualValues w_rates w_rated w_ratedGroups w_started w_groupCount w_variableCount w_entriesUsed w_rowCount w_objective w_pivotsSinceInversion : Value) (kuf : ClassId) (lf : List Value) (kue : ClassId) (le : List Value) (kur : ClassId) (lr : List Value) (kuv : ClassId) (lv : List Value) (ka1 : ClassId) (y0 y1 : UInt64) (fe : Int32) (x0 z0 : UInt64) (h0 : Heap) (n0 : Nat) (Z0 : n0 ≤ h0.size) (E_a0 : Exa Z h0 a0 own_K) (Ob_a0 : own_fs own_K own_N Z h0 a0 [w_costs, w_groupOf, w_positionOf, (.ref uf), (.ref ue), w_entryRooms, (.ref ur), (.ref uv), w_bounds, w_slacks, w_keys, w_keyValues, w_head, w_inverse, w_values, w_groupDualPass, w_groupDualValues, w_rates, w_rated, w_ratedGroups, w_started, w_groupCount, w_variableCount, w_entriesUsed, w_rowCount, w_objective, w_pivotsSinceInversion]) (V_uf : Arv Z h0 uf kuf .int (16 : Int32) lf (.int (0 : Int32))) (V_ue : Arv Z h0 ue kue .int (16 : Int32) le (.int (0 : Int32))) (V_ur : Arv Z h0 ur kur .int (64 : Int32) lr (.int (0 : Int32))) (V_uv : Arv Z h0 uv kuv .double (64 : Int32) lv (.double (0 : UInt64))) (V_a1 : Arv Z h0 a1 ka1 .double (2 : Int32) [(.double y0), (.double y1)] (.double (0 : UInt64))) (ge_a1 : n0 ≤ a1) (ne_a1_a0 : a1 ≠ a0) (ne_a1_uf : a1 ≠ uf) (ne_a1_ue : a1 ≠ ue) (ne_a1_ur : a1 ≠ ur) (ne_a1_uv : a1 ≠ uv) (hp2 : ¬ p2 < 0 ∧ p2 < (16 : Int32)) (hfe : lf.getD (p2).toNatClampNeg (.int (0 : Int32)) = .int fe) (hle : le.getD (p2).toNatClampNeg (.int (0 : Int32)) = .int (1 : Int32)) (hi0 : ¬ fe < 0 ∧ fe < (64 : Int32)) (hlt0 : fe < (fe + (1 : Int32))) (hr0 : lr.getD (fe).toNatClampNeg (.int (0 : Int32)) = .int (1 : Int32)) (hv0 : lv.getD (fe).toNatClampNeg (.double (0 : UInt64)) = .double x0) (nm0 : Jvm.Free.Fl.NoNaN64 (FP.dmul r3 x0)) (na0 : Jvm.Free.Fl.NoNaN64 (FP.dadd y1 (FP.dmul r3 x0))) (hz0 : FP.dadd y1 (FP.dmul r3 x0) = z0) (hend : ¬ (fe + (1 : Int32)) < (fe + (1 : Int32))) :
    MetFree l (⟨own_K, "addColumn", "([DID)V"⟩ : MethodName) (head1 (Jvm.Cond.code (⟨own_K, "addColumn", "([DID)V"⟩ : MethodName) prog_56_method_20_code 7 none :: ws) ({ frames := 0, cells := 0, slots := 0, locals := 0 } : Room)) (fun a U => a = #[(.ref a0), (.ref a1), (.int p2), (.double r3)] ∧ Z.Warmed39 U.vm ∧ U.heap = h0) (fun _ _ _ _ _ => True) (fun _ U o U' => ∃ v L, o = .returned v ∧ Q10_1 Z a0 a1 p2 r3 w_costs w_groupOf w_positionOf uf ue w_entryRooms ur uv w_bounds w_slacks w_keys w_keyValues w_head w_inverse w_values w_groupDualPass w_groupDualValues w_rates w_rated w_ratedGroups w_started w_groupCount w_variableCount w_entriesUsed w_rowCount w_objective w_pivotsSinceInversion kuf lf kue le kur lr kuv lv ka1 y0 y1 fe x0 z0 h0 n0 v U'.heap L ∧ FrameEnd U o U' L ({ frames := 0, cells := 0, slots := 0, locals := 0 } : Room).cells ({ frames := 0, cells := 0, slots := 0, locals := 0 } : Room).slots) := by
  refine MetFree.of_bodySF (plainFor_of_name pn_0) hisR ?_
  intro p e s m args below meth c s₁ Bd hml0 hP hK
  obtain ⟨rfl, hZ, hh⟩ := hP
  have hx := Bd.exec
  have hby := Bd.bytes
  have hml : c.maxLocals = 7 := hml0
  have hown : s.vm.findClass own_K = some m.cls := findClass_of_methodNamed Bd.named
  have hnm := (name_of_methodNamed Bd.named Bd.method).1
  have X0 : Stand p l e ({ frames := 0, cells := 0, slots := 0, locals := 0 } : Room) s m #[(.ref a0), (.ref a1), (.int p2), (.double r3)] below meth c s₁ [] 0 0 := Stand.of_body Bd
  have e0 : s₁.heap = h0 := by rw [← hh, Bd.state]; rfl
  have N0 := Fr.nil n0
  have D : ∀ {pc : Nat} {r : Except DecodeError (Instr × Nat)}, decode prog_56_method_20_code pc = r → decode c.code pc = r := fun q => hb hby q
  have pre0 : ∀ t, Steps p.tables e below (s₁.setTop (mkF m 0 #[.val (.ref a0), .val (.ref a1), .val (.int p2), .val (.double r3), .second, .unset, .unset] [])) t → Steps p.tables e below (s₁.setTop (entryFrame m #[(.ref a0), (.ref a1), (.int p2), (.double r3)] 7)) t := fun t k => castTop (ef_10 m a0 a1 p2 r3) k
  obtain ⟨T1351, X1351, e1351, st1351⟩ := own_gf X0 hx hZ hown (own_wk hw 17 rfl) e0 Ob_a0 3 rfl rfl (g := (mkF m 1 #[.val (.ref a0), .val (.ref a1), .val (.int p2), .val (.double r3), .second, .unset, .unset] [(.ref a0)])) rfl rfl (D d10_1)
  obtain ⟨T1353, X1353, e1353, st1353⟩ := own_gf X1351 hx hZ hown (own_wk hw 19 rfl) e1351 Ob_a0 4 rfl rfl (g := (mkF m 7 #[.val (.ref a0), .val (.ref a1), .val (.int p2), .val (.double r3), .second, .unset, .unset] [(.ref a0), (.int fe)])) rfl rfl (D d10_7)
  obtain ⟨T1355, X1355, e1355, st1355⟩ := own_gf X1353 hx hZ hown (own_wk hw 17 rfl) e1353 Ob_a0 3 rfl rfl (g := (mkF m 16 (own_loc12 a0 a1 p2 r3 fe) [(.ref a0)])) rfl rfl (D d10_16)
  obtain ⟨T1357, X1357, e1357, st1357⟩ := own_gf X1355 hx hZ hown (own_wk hw 23 rfl) e1355 Ob_a0 6 rfl rfl (g := (mkF m 32 (own_loc13 a0 a1 p2 r3 fe) [(.ref a0), (.ref a1)])) rfl rfl (D d10_32)
  obtain ⟨T1360, X1360, e1360, st1360⟩ := own_gf X1357 hx hZ hown (own_wk hw 25 rfl) e1357 Ob_a0 7 rfl rfl (g := (mkF m 42 (own_loc13 a0 a1 p2 r3 fe) [(.ref a0), (.double r3), (.double y1), .int 1, (.ref a1)])) rfl rfl (D d10_42)
  obtain ⟨T1362, h1362, X1362, e1362, W1362, V1362, st1362⟩ := own_stD X1360 hx hZ e1360 V_a1 (j := (1 : Int32)) ⟨(by decide), (by decide)⟩ 1 rfl (Nat.le_of_ble_eq_true rfl) (vs' := [(.double y0), (.double z0)]) rfl (g := (mkF m 50 (own_loc13 a0 a1 p2 r3 fe) [(.double z0), .int 1, (.ref a1)])) rfl rfl (D d10_50)
  have x1363 := E_a0.wr W1362
  have x1364 := Ob_a0.other W1362 (Ne.symm ne_a1_a0)
  have x1365 := V_uf.other W1362 (Ne.symm ne_a1_uf)
  have x1366 := V_ue.other W1362 (Ne.symm ne_a1_ue)
  have x1367 := V_ur.other W1362 (Ne.symm ne_a1_ur)
  have x1368 := V_uv.other W1362 (Ne.symm ne_a1_uv)
  have kp1369 : Keep h0 h1362 [a1] := (Keep.refl h0 [a1]).wr W1362 (Or.inl (List.mem_of_getElem? (i := 0) rfl))
  have N1362 := Fr.snoc X1362 N0 ge_a1
  obtain ⟨fs, hr, hrun, hended, hW, hsame⟩ := X1362.leave (v := none) (fun _ => rfl)
  refine ⟨_, _, pre0 _ ?_, hrun, hended, _, _, rfl, ?_, ⟨_, rfl⟩, hW, hsame.mono (by decide) (by decide)⟩
  · show own_S p e below s₁ (mkF m 0 #[.val (.ref a0), .val (.ref a1), .val (.int p2), .val (.double r3), .second, .unset, .unset] []) _
    refine XS.aloadN X0.here hx rfl (D d10_0) rfl rfl (st1351 _ (XS.iloadN X1351.here hx rfl (D d10_4) rfl (own_ldI X1351 hx hZ e1351 V_uf (j := p2) hp2 (v := (.int fe)) hfe rfl rfl (D d10_5) (XS.aloadN X1351.here hx rfl (D d10_6) rfl rfl (st1353 _ (XS.iloadN X1353.here hx rfl (D d10_10) rfl (own_ldI X1353 hx hZ e1353 V_ue (j := p2) hp2 (v := (.int (1 : Int32))) hle rfl rfl (D d10_11) (XS.iadd X1353.here hx rfl (D d10_12) rfl (XS.istore X1353.here hx rfl (D d10_13) rfl (l' := (own_loc12 a0 a1 p2 r3 fe)) rfl ?_)))))))))
    refine XS.aloadN X1353.here hx rfl (D d10_15) rfl rfl (st1355 _ (XS.iloadN X1355.here hx rfl (D d10_19) rfl (own_ldI X1355 hx hZ e1355 V_uf (j := p2) hp2 (v := (.int fe)) hfe rfl rfl (D d10_20) (XS.istore X1355.here hx rfl (D d10_21) rfl (l' := (own_loc13 a0 a1 p2 r3 fe)) rfl ?_))))
    show own_S p e below T1355 (mkF m 23 (own_loc13 a0 a1 p2 r3 fe) []) _
    refine XS.iload X1355.here hx rfl (D d10_23) rfl (XS.iload X1355.here hx rfl (D d10_25) rfl (XS.icmpNo X1355.here hx rfl (D d10_27) rfl (tlt (show fe < (fe + (1 : Int32)) from hlt0)).2.1 (XS.aloadN X1355.here hx rfl (D d10_30) rfl rfl (XS.aloadN X1355.here hx rfl (D d10_31) rfl rfl (st1357 _ (XS.iload X1357.here hx rfl (D d10_35) rfl (own_ldI X1357 hx hZ e1357 V_ur (j := fe) hi0 (v := (.int (1 : Int32))) hr0 rfl rfl (D d10_37) (Jvm.Free.XT.dup2 X1357.here hx rfl (D d10_38) rfl rfl rfl (own_ldD X1357 hx hZ e1357 V_a1 (j := (1 : Int32)) ⟨(by decide), (by decide)⟩ (v := (.double y1)) rfl rfl rfl (D d10_39) ?_)))))))))
    refine XS.dloadN X1357.here hx rfl (D d10_40) rfl (XS.aloadN X1357.here hx rfl (D d10_41) rfl rfl (st1360 _ (XS.iload X1360.here hx rfl (D d10_45) rfl (own_ldD X1360 hx hZ e1360 V_uv (j := fe) hi0 (v := (.double x0)) hv0 rfl rfl (D d10_47) (XS.dmulS X1360.here hx rfl (D d10_48) rfl nm0 rfl ?_)))))
    show own_S p e below T1360 (mkF m 49 (own_loc13 a0 a1 p2 r3 fe) [(.double (FP.dmul r3 x0)), (.double y1), .int 1, (.ref a1)]) _
    refine XS.daddS X1360.here hx rfl (D d10_49) rfl na0 hz0 (st1362 _ (XS.iinc X1362.here hx rfl (D d10_51) rfl (l' := (own_loc14 a0 a1 p2 r3 fe)) rfl (XS.goto X1362.here hx rfl (pc0 := 54) (pc' := 23) rfl (D d10_54) (by decide) (by decide) (XS.iload X1362.here hx rfl (D d10_23) rfl (XS.iload X1362.here hx rfl (D d10_25) rfl (XS.icmpYes X1362.here hx rfl (pc0 := 27) (pc' := 57) rfl (D d10_27) rfl (flt (show ¬ ((fe + (1 : Int32)) < (fe + (1 : Int32))) from hend)).2.1 (by decide) (by decide) ?_))))))
    show own_S p e below T1362 (mkF m 57 (own_loc14 a0 a1 p2 r3 fe) []) _
    exact X1362.returnOut hx Bd.returns (D d10_57) hr
  · show Q10_1 Z a0 a1 p2 r3 w_costs w_groupOf w_positionOf uf ue w_entryRooms ur uv w_bounds w_slacks w_keys w_keyValues w_head w_inverse w_values w_groupDualPass w_groupDualValues w_rates w_rated w_ratedGroups w_started w_groupCount w_variableCount w_entriesUsed w_rowCount w_objective w_pivotsSinceInversion kuf lf kue le kur lr kuv lv ka1 y0 y1 fe x0 z0 h0 n0 _ T1362.heap _
    rw [e1362]
    exact ⟨rfl, N1362, kp1369, V1362⟩
abbrev own_loc15 (a0 a1 : Addr) (p2 : Int32) (r3 : UInt64) (fe : Int32) : Array Slot := #[.val (.ref a0), .val (.ref a1), .val (.int p2), .val (.double r3), .second, .val (.int (fe + (2 : Int32))), .unset]
abbrev own_loc16 (a0 a1 : Addr) (p2 : Int32) (r3 : UInt64) (fe : Int32) : Array Slot := #[.val (.ref a0), .val (.ref a1), .val (.int p2), .val (.double r3), .second, .val (.int (fe + (2 : Int32))), .val (.int fe)]
abbrev own_loc17 (a0 a1 : Addr) (p2 : Int32) (r3 : UInt64) (fe : Int32) : Array Slot := #[.val (.ref a0), .val (.ref a1), .val (.int p2), .val (.double r3), .second, .val (.int (fe + (2 : Int32))), .val (.int (fe + (1 : Int32)))]
abbrev own_loc18 (a0 a1 : Addr) (p2 : Int32) (r3 : UInt64) (fe : Int32) : Array Slot := #[.val (.ref a0), .val (.ref a1), .val (.int p2), .val (.double r3), .second, .val (.int (fe + (2 : Int32))), .val (.int ((fe + (1 : Int32)) + (1 : Int32)))]
def Q10_01 (Z : State) (a0 a1 : Addr) (p2 : Int32) (r3 : UInt64) (w_costs w_groupOf w_positionOf : Value) (uf ue : Addr) (w_entryRooms : Value) (ur uv : Addr) (w_bounds w_slacks w_keys w_keyValues w_head w_inverse w_values w_groupDualPass w_groupDualValues w_rates w_rated w_ratedGroups w_started w_groupCount w_variableCount w_entriesUsed w_rowCount w_objective w_pivotsSinceInversion : Value) (kuf : ClassId) (lf : List Value) (kue : ClassId) (le : List Value) (kur : ClassId) (lr : List Value) (kuv : ClassId) (lv : List Value) (ka1 : ClassId) (y0 y1 : UInt64) (fe : Int32) (x0 z0 x1 z1 : UInt64) (h0 : Heap) (n0 : Nat) (v : Option Value) (h : Heap) (L : List Loc) : Prop := v = none ∧ Fr n0 L ∧ Keep h0 h [a1] ∧ Arv Z h a1 ka1 .double (2 : Int32) [(.double z0), (.double z1)] (.double (0 : UInt64))
set_option maxRecDepth 65536 in
set_option maxHeartbeats 40000000 in
theorem rm10_01 (l : Launch) (Z : State) (ag : Array Value) (hw : ∀ d ∈ tables_1, d.before ag Z = true) (ws : List Jvm.Cond) (a0 a1 : Addr) (p2 : Int32) (r3 : UInt64) (w_costs w_groupOf w_positionOf : Value) (uf ue : Addr) (w_entryRooms : Value) (ur uv : Addr) (w_bounds w_slacks w_keys w_keyValues w_head w_inverse w_values w_groupDualPass w_groupDualValues w_rates w_rated w_ratedGroups w_started w_groupCount w_variableCount w_entriesUsed w_rowCount w_objective w_pivotsSinceInversion : Value) (kuf : ClassId) (lf : List Value) (kue : ClassId) (le : List Value) (kur : ClassId) (lr : List Value) (kuv : ClassId) (lv : List Value) (ka1 : ClassId) (y0 y1 : UInt64) (fe : Int32) (x0 z0 x1 z1 : UInt64) (h0 : Heap) (n0 : Nat) (Z0 : n0 ≤ h0.size) (E_a0 : Exa Z h0 a0 own_K) (Ob_a0 : own_fs own_K own_N Z h0 a0 [w_costs, w_groupOf, w_positionOf, (.ref uf), (.ref ue), w_entryRooms, (.ref ur), (.ref uv), w_bounds, w_slacks, w_keys, w_keyValues, w_head, w_inverse, w_values, w_groupDualPass, w_groupDualValues, w_rates, w_rated, w_ratedGroups, w_started, w_groupCount, w_variableCount, w_entriesUsed, w_rowCount, w_objective, w_pivotsSinceInversion]) (V_uf : Arv Z h0 uf kuf .int (16 : Int32) lf (.int (0 : Int32))) (V_ue : Arv Z h0 ue kue .int (16 : Int32) le (.int (0 : Int32))) (V_ur : Arv Z h0 ur kur .int (64 : Int32) lr (.int (0 : Int32))) (V_uv : Arv Z h0 uv kuv .double (64 : Int32) lv (.double (0 : UInt64))) (V_a1 : Arv Z h0 a1 ka1 .double (2 : Int32) [(.double y0), (.double y1)] (.double (0 : UInt64))) (ge_a1 : n0 ≤ a1) (ne_a1_a0 : a1 ≠ a0) (ne_a1_uf : a1 ≠ uf) (ne_a1_ue : a1 ≠ ue) (ne_a1_ur : a1 ≠ ur) (ne_a1_uv : a1 ≠ uv) (hp2 : ¬ p2 < 0 ∧ p2 < (16 : Int32)) (hfe : lf.getD (p2).toNatClampNeg (.int (0 : Int32)) = .int fe) (hle : le.getD (p2).toNatClampNeg (.int (0 : Int32)) = .int (2 : Int32)) (hi0 : ¬ fe < 0 ∧ fe < (64 : Int32)) (hlt0 : fe < (fe + (2 : Int32))) (hr0 : lr.getD (fe).toNatClampNeg (.int (0 : Int32)) = .int (0 : Int32)) (hv0 : lv.getD (fe).toNatClampNeg (.double (0 : UInt64)) = .double x0) (nm0 : Jvm.Free.Fl.NoNaN64 (FP.dmul r3 x0)) (na0 : Jvm.Free.Fl.NoNaN64 (FP.dadd y0 (FP.dmul r3 x0))) (hz0 : FP.dadd y0 (FP.dmul r3 x0) = z0) (hi1 : ¬ (fe + (1 : Int32)) < 0 ∧ (fe + (1 : Int32)) < (64 : Int32)) (hlt1 : (fe + (1 : Int32)) < (fe + (2 : Int32))) (hr1 : lr.getD ((fe + (1 : Int32))).toNatClampNeg (.int (0 : Int32)) = .int (1 : Int32)) (hv1 : lv.getD ((fe + (1 : Int32))).toNatClampNeg (.double (0 : UInt64)) = .double x1) (nm1 : Jvm.Free.Fl.NoNaN64 (FP.dmul r3 x1)) (na1 : Jvm.Free.Fl.NoNaN64 (FP.dadd y1 (FP.dmul r3 x1))) (hz1 : FP.dadd y1 (FP.dmul r3 x1) = z1) (hend : ¬ ((fe + (1 : Int32)) + (1 : Int32)) < (fe + (2 : Int32))) :
    MetFree l (⟨own_K, "addColumn", "([DID)V"⟩ : MethodName) (head1 (Jvm.Cond.code (⟨own_K, "addColumn", "([DID)V"⟩ : MethodName) prog_56_method_20_code 7 none :: ws) ({ frames := 0, cells := 0, slots := 0, locals := 0 } : Room)) (fun a U => a = #[(.ref a0), (.ref a1), (.int p2), (.double r3)] ∧ Z.Warmed39 U.vm ∧ U.heap = h0) (fun _ _ _ _ _ => True) (fun _ U o U' => ∃ v L, o = .returned v ∧ Q10_01 Z a0 a1 p2 r3 w_costs w_groupOf w_positionOf uf ue w_entryRooms ur uv w_bounds w_slacks w_keys w_keyValues w_head w_inverse w_values w_groupDualPass w_groupDualValues w_rates w_rated w_ratedGroups w_started w_groupCount w_variableCount w_entriesUsed w_rowCount w_objective w_pivotsSinceInversion kuf lf kue le kur lr kuv lv ka1 y0 y1 fe x0 z0 x1 z1 h0 n0 v U'.heap L ∧ FrameEnd U o U' L ({ frames := 0, cells := 0, slots := 0, locals := 0 } : Room).cells ({ frames := 0, cells := 0, slots := 0, locals := 0 } : Room).slots) := by
  refine MetFree.of_bodySF (plainFor_of_name pn_0) hisR ?_
  intro p e s m args below meth c s₁ Bd hml0 hP hK
  obtain ⟨rfl, hZ, hh⟩ := hP
  have hx := Bd.exec
  have hby := Bd.bytes
  have hml : c.maxLocals = 7 := hml0
  have hown : s.vm.findClass own_K = some m.cls := findClass_of_methodNamed Bd.named
  have hnm := (name_of_methodNamed Bd.named Bd.method).1
  have X0 : Stand p l e ({ frames := 0, cells := 0, slots := 0, locals := 0 } : Room) s m #[(.ref a0), (.ref a1), (.int p2), (.double r3)] below meth c s₁ [] 0 0 := Stand.of_body Bd
  have e0 : s₁.heap = h0 := by rw [← hh, Bd.state]; rfl
  have N0 := Fr.nil n0
  have D : ∀ {pc : Nat} {r : Except DecodeError (Instr × Nat)}, decode prog_56_method_20_code pc = r → decode c.code pc = r := fun q => hb hby q
  have pre0 : ∀ t, Steps p.tables e below (s₁.setTop (mkF m 0 #[.val (.ref a0), .val (.ref a1), .val (.int p2), .val (.double r3), .second, .unset, .unset] [])) t → Steps p.tables e below (s₁.setTop (entryFrame m #[(.ref a0), (.ref a1), (.int p2), (.double r3)] 7)) t := fun t k => castTop (ef_10 m a0 a1 p2 r3) k
  obtain ⟨T1370, X1370, e1370, st1370⟩ := own_gf X0 hx hZ hown (own_wk hw 17 rfl) e0 Ob_a0 3 rfl rfl (g := (mkF m 1 #[.val (.ref a0), .val (.ref a1), .val (.int p2), .val (.double r3), .second, .unset, .unset] [(.ref a0)])) rfl rfl (D d10_1)
  obtain ⟨T1372, X1372, e1372, st1372⟩ := own_gf X1370 hx hZ hown (own_wk hw 19 rfl) e1370 Ob_a0 4 rfl rfl (g := (mkF m 7 #[.val (.ref a0), .val (.ref a1), .val (.int p2), .val (.double r3), .second, .unset, .unset] [(.ref a0), (.int fe)])) rfl rfl (D d10_7)
  obtain ⟨T1374, X1374, e1374, st1374⟩ := own_gf X1372 hx hZ hown (own_wk hw 17 rfl) e1372 Ob_a0 3 rfl rfl (g := (mkF m 16 (own_loc15 a0 a1 p2 r3 fe) [(.ref a0)])) rfl rfl (D d10_16)
  obtain ⟨T1376, X1376, e1376, st1376⟩ := own_gf X1374 hx hZ hown (own_wk hw 23 rfl) e1374 Ob_a0 6 rfl rfl (g := (mkF m 32 (own_loc16 a0 a1 p2 r3 fe) [(.ref a0), (.ref a1)])) rfl rfl (D d10_32)
  obtain ⟨T1379, X1379, e1379, st1379⟩ := own_gf X1376 hx hZ hown (own_wk hw 25 rfl) e1376 Ob_a0 7 rfl rfl (g := (mkF m 42 (own_loc16 a0 a1 p2 r3 fe) [(.ref a0), (.double r3), (.double y0), .int 0, (.ref a1)])) rfl rfl (D d10_42)
  obtain ⟨T1381, h1381, X1381, e1381, W1381, V1381, st1381⟩ := own_stD X1379 hx hZ e1379 V_a1 (j := (0 : Int32)) ⟨(by decide), (by decide)⟩ 0 rfl (Nat.le_of_ble_eq_true rfl) (vs' := [(.double z0), (.double y1)]) rfl (g := (mkF m 50 (own_loc16 a0 a1 p2 r3 fe) [(.double z0), .int 0, (.ref a1)])) rfl rfl (D d10_50)
  have x1382 := E_a0.wr W1381
  have x1383 := Ob_a0.other W1381 (Ne.symm ne_a1_a0)
  have x1384 := V_uf.other W1381 (Ne.symm ne_a1_uf)
  have x1385 := V_ue.other W1381 (Ne.symm ne_a1_ue)
  have x1386 := V_ur.other W1381 (Ne.symm ne_a1_ur)
  have x1387 := V_uv.other W1381 (Ne.symm ne_a1_uv)
  have kp1388 : Keep h0 h1381 [a1] := (Keep.refl h0 [a1]).wr W1381 (Or.inl (List.mem_of_getElem? (i := 0) rfl))
  have N1381 := Fr.snoc X1381 N0 ge_a1
  obtain ⟨T1389, X1389, e1389, st1389⟩ := own_gf X1381 hx hZ hown (own_wk hw 23 rfl) e1381 x1383 6 rfl rfl (g := (mkF m 32 (own_loc17 a0 a1 p2 r3 fe) [(.ref a0), (.ref a1)])) rfl rfl (D d10_32)
  obtain ⟨T1392, X1392, e1392, st1392⟩ := own_gf X1389 hx hZ hown (own_wk hw 25 rfl) e1389 x1383 7 rfl rfl (g := (mkF m 42 (own_loc17 a0 a1 p2 r3 fe) [(.ref a0), (.double r3), (.double y1), .int 1, (.ref a1)])) rfl rfl (D d10_42)
  obtain ⟨T1394, h1394, X1394, e1394, W1394, V1394, st1394⟩ := own_stD X1392 hx hZ e1392 V1381 (j := (1 : Int32)) ⟨(by decide), (by decide)⟩ 1 rfl (Nat.le_of_ble_eq_true rfl) (vs' := [(.double z0), (.double z1)]) rfl (g := (mkF m 50 (own_loc17 a0 a1 p2 r3 fe) [(.double z1), .int 1, (.ref a1)])) rfl rfl (D d10_50)
  have x1395 := x1382.wr W1394
  have x1396 := x1383.other W1394 (Ne.symm ne_a1_a0)
  have x1397 := x1384.other W1394 (Ne.symm ne_a1_uf)
  have x1398 := x1385.other W1394 (Ne.symm ne_a1_ue)
  have x1399 := x1386.other W1394 (Ne.symm ne_a1_ur)
  have x1400 := x1387.other W1394 (Ne.symm ne_a1_uv)
  have kp1401 : Keep h0 h1394 [a1] := kp1388.wr W1394 (Or.inl (List.mem_of_getElem? (i := 0) rfl))
  have N1394 := Fr.snoc X1394 N1381 ge_a1
  obtain ⟨fs, hr, hrun, hended, hW, hsame⟩ := X1394.leave (v := none) (fun _ => rfl)
  refine ⟨_, _, pre0 _ ?_, hrun, hended, _, _, rfl, ?_, ⟨_, rfl⟩, hW, hsame.mono (by decide) (by decide)⟩
  · show own_S p e below s₁ (mkF m 0 #[.val (.ref a0), .val (.ref a1), .val (.int p2), .val (.double r3), .second, .unset, .unset] []) _
    refine XS.aloadN X0.here hx rfl (D d10_0) rfl rfl (st1370 _ (XS.iloadN X1370.here hx rfl (D d10_4) rfl (own_ldI X1370 hx hZ e1370 V_uf (j := p2) hp2 (v := (.int fe)) hfe rfl rfl (D d10_5) (XS.aloadN X1370.here hx rfl (D d10_6) rfl rfl (st1372 _ (XS.iloadN X1372.here hx rfl (D d10_10) rfl (own_ldI X1372 hx hZ e1372 V_ue (j := p2) hp2 (v := (.int (2 : Int32))) hle rfl rfl (D d10_11) (XS.iadd X1372.here hx rfl (D d10_12) rfl (XS.istore X1372.here hx rfl (D d10_13) rfl (l' := (own_loc15 a0 a1 p2 r3 fe)) rfl ?_)))))))))
    refine XS.aloadN X1372.here hx rfl (D d10_15) rfl rfl (st1374 _ (XS.iloadN X1374.here hx rfl (D d10_19) rfl (own_ldI X1374 hx hZ e1374 V_uf (j := p2) hp2 (v := (.int fe)) hfe rfl rfl (D d10_20) (XS.istore X1374.here hx rfl (D d10_21) rfl (l' := (own_loc16 a0 a1 p2 r3 fe)) rfl ?_))))
    show own_S p e below T1374 (mkF m 23 (own_loc16 a0 a1 p2 r3 fe) []) _
    refine XS.iload X1374.here hx rfl (D d10_23) rfl (XS.iload X1374.here hx rfl (D d10_25) rfl (XS.icmpNo X1374.here hx rfl (D d10_27) rfl (tlt (show fe < (fe + (2 : Int32)) from hlt0)).2.1 (XS.aloadN X1374.here hx rfl (D d10_30) rfl rfl (XS.aloadN X1374.here hx rfl (D d10_31) rfl rfl (st1376 _ (XS.iload X1376.here hx rfl (D d10_35) rfl (own_ldI X1376 hx hZ e1376 V_ur (j := fe) hi0 (v := (.int (0 : Int32))) hr0 rfl rfl (D d10_37) (Jvm.Free.XT.dup2 X1376.here hx rfl (D d10_38) rfl rfl rfl (own_ldD X1376 hx hZ e1376 V_a1 (j := (0 : Int32)) ⟨(by decide), (by decide)⟩ (v := (.double y0)) rfl rfl rfl (D d10_39) ?_)))))))))
    refine XS.dloadN X1376.here hx rfl (D d10_40) rfl (XS.aloadN X1376.here hx rfl (D d10_41) rfl rfl (st1379 _ (XS.iload X1379.here hx rfl (D d10_45) rfl (own_ldD X1379 hx hZ e1379 V_uv (j := fe) hi0 (v := (.double x0)) hv0 rfl rfl (D d10_47) (XS.dmulS X1379.here hx rfl (D d10_48) rfl nm0 rfl ?_)))))
    show own_S p e below T1379 (mkF m 49 (own_loc16 a0 a1 p2 r3 fe) [(.double (FP.dmul r3 x0)), (.double y0), .int 0, (.ref a1)]) _
    refine XS.daddS X1379.here hx rfl (D d10_49) rfl na0 hz0 (st1381 _ (XS.iinc X1381.here hx rfl (D d10_51) rfl (l' := (own_loc17 a0 a1 p2 r3 fe)) rfl (XS.goto X1381.here hx rfl (pc0 := 54) (pc' := 23) rfl (D d10_54) (by decide) (by decide) (XS.iload X1381.here hx rfl (D d10_23) rfl (XS.iload X1381.here hx rfl (D d10_25) rfl (XS.icmpNo X1381.here hx rfl (D d10_27) rfl (tlt (show (fe + (1 : Int32)) < (fe + (2 : Int32)) from hlt1)).2.1 (XS.aloadN X1381.here hx rfl (D d10_30) rfl rfl (XS.aloadN X1381.here hx rfl (D d10_31) rfl rfl (st1389 _ ?_)))))))))
    refine XS.iload X1389.here hx rfl (D d10_35) rfl (own_ldI X1389 hx hZ e1389 x1386 (j := (fe + (1 : Int32))) hi1 (v := (.int (1 : Int32))) hr1 rfl rfl (D d10_37) (Jvm.Free.XT.dup2 X1389.here hx rfl (D d10_38) rfl rfl rfl (own_ldD X1389 hx hZ e1389 V1381 (j := (1 : Int32)) ⟨(by decide), (by decide)⟩ (v := (.double y1)) rfl rfl rfl (D d10_39) (XS.dloadN X1389.here hx rfl (D d10_40) rfl (XS.aloadN X1389.here hx rfl (D d10_41) rfl rfl (st1392 _ ?_))))))
    show own_S p e below T1392 (mkF m 45 (own_loc17 a0 a1 p2 r3 fe) [(.ref uv), (.double r3), (.double y1), .int 1, (.ref a1)]) _
    refine XS.iload X1392.here hx rfl (D d10_45) rfl (own_ldD X1392 hx hZ e1392 x1387 (j := (fe + (1 : Int32))) hi1 (v := (.double x1)) hv1 rfl rfl (D d10_47) (XS.dmulS X1392.here hx rfl (D d10_48) rfl nm1 rfl (XS.daddS X1392.here hx rfl (D d10_49) rfl na1 hz1 (st1394 _ (XS.iinc X1394.here hx rfl (D d10_51) rfl (l' := (own_loc18 a0 a1 p2 r3 fe)) rfl (XS.goto X1394.here hx rfl (pc0 := 54) (pc' := 23) rfl (D d10_54) (by decide) (by decide) (XS.iload X1394.here hx rfl (D d10_23) rfl (XS.iload X1394.here hx rfl (D d10_25) rfl (XS.icmpYes X1394.here hx rfl (pc0 := 27) (pc' := 57) rfl (D d10_27) rfl (flt (show ¬ (((fe + (1 : Int32)) + (1 : Int32)) < (fe + (2 : Int32))) from hend)).2.1 (by decide) (by decide) ?_)))))))))
    show own_S p e below T1394 (mkF m 57 (own_loc18 a0 a1 p2 r3 fe) []) _
    exact X1394.returnOut hx Bd.returns (D d10_57) hr
  · show Q10_01 Z a0 a1 p2 r3 w_costs w_groupOf w_positionOf uf ue w_entryRooms ur uv w_bounds w_slacks w_keys w_keyValues w_head w_inverse w_values w_groupDualPass w_groupDualValues w_rates w_rated w_ratedGroups w_started w_groupCount w_variableCount w_entriesUsed w_rowCount w_objective w_pivotsSinceInversion kuf lf kue le kur lr kuv lv ka1 y0 y1 fe x0 z0 x1 z1 h0 n0 _ T1394.heap _
    rw [e1394]
    exact ⟨rfl, N1394, kp1401, V1394⟩
theorem own_g0 {g : Int32} (h : g = 0) : ¬ g < 0 ∧ g < (1 : Int32) := by subst h; exact ⟨by decide, by decide⟩
theorem own_gk {g : Int32} (h : g = 0) : [(.int (0 : Int32) : Value)].getD g.toNatClampNeg (.int (0 : Int32)) = .int (0 : Int32) := by subst h; rfl
theorem own_gd {g : Int32} {x : UInt64} (h : g = 0) : [(.double x : Value)].getD g.toNatClampNeg (.double (0 : UInt64)) = .double x := by subst h; rfl
def own_Qc (Z : State) (h0 : Heap) (n0 : Nat) (c0 c1 : UInt64) (v : Option Value) (h : Heap) (L : List Loc) : Prop := ∃ (o : Addr) (k : ClassId), v = some (.ref o) ∧ Fr n0 L ∧ Keep h0 h [] ∧ n0 ≤ o ∧ h0.size ≤ o ∧ Exa Z h o "[D" ∧ Arv Z h o k .double (2 : Int32) [(.double c0), (.double c1)] (.double (0 : UInt64))
theorem ef_9 (m : MethodId) (a0 : Addr) (p1 : Int32) : entryFrame m #[(.ref a0), (.int p1)] 4 = mkF m 0 #[.val (.ref a0), .val (.int p1), .unset, .unset] [] := by first | (simp [entryFrame, mkF, argsToLocals, Value.category]; done) | rfl
abbrev own_d9 (p : Nat) (i : Instr) (n : Nat) : Prop := decode prog_56_method_19_code p = .ok (i, n)
theorem d9_0 : own_d9 0 (.aload_n 0) 1 := by decide +kernel
theorem d9_1 : own_d9 1 (.getfield 121) 3 := by decide +kernel
theorem d9_4 : own_d9 4 (.newarray .double) 2 := by decide +kernel
theorem d9_6 : own_d9 6 (.astore_n 2) 1 := by decide +kernel
theorem d9_7 : own_d9 7 (.aload_n 0) 1 := by decide +kernel
theorem d9_8 : own_d9 8 (.aload_n 2) 1 := by decide +kernel
theorem d9_9 : own_d9 9 (.iload_n 1) 1 := by decide +kernel
theorem d9_10 : own_d9 10 (.dconst 1) 1 := by decide +kernel
theorem pd_13 : parseMethodDescriptor "([DID)V" = some ⟨[(.array .double), .int, .double], none⟩ := by decide +kernel
theorem d9_11 : own_d9 11 (.invokevirtual 218) 3 := by decide +kernel
theorem d9_14 : own_d9 14 (.aload_n 0) 1 := by decide +kernel
theorem d9_15 : own_d9 15 (.getfield 13) 3 := by decide +kernel
theorem d9_18 : own_d9 18 (.iload_n 1) 1 := by decide +kernel
theorem d9_19 : own_d9 19 .iaload 1 := by decide +kernel
theorem d9_20 : own_d9 20 (.istore_n 3) 1 := by decide +kernel
theorem d9_21 : own_d9 21 (.iload_n 3) 1 := by decide +kernel
theorem d9_22 : own_d9 22 (.ifCond .lt 17) 3 := by decide +kernel
theorem d9_39 : own_d9 39 (.aload_n 2) 1 := by decide +kernel
theorem d9_40 : own_d9 40 .areturn 1 := by decide +kernel
theorem d9_25 : own_d9 25 (.aload_n 0) 1 := by decide +kernel
theorem d9_26 : own_d9 26 (.aload_n 2) 1 := by decide +kernel
theorem d9_27 : own_d9 27 (.aload_n 0) 1 := by decide +kernel
theorem d9_28 : own_d9 28 (.getfield 41) 3 := by decide +kernel
theorem d9_31 : own_d9 31 (.iload_n 3) 1 := by decide +kernel
theorem d9_32 : own_d9 32 .iaload 1 := by decide +kernel
theorem d9_33 : own_d9 33 (.ldc2_w 222) 3 := by decide +kernel
theorem d9_36 : own_d9 36 (.invokevirtual 218) 3 := by decide +kernel
set_option maxRecDepth 65536 in
set_option maxHeartbeats 40000000 in
theorem rm9_0 (l : Launch) (Z : State) (ag : Array Value) (hw : ∀ d ∈ tables_1, d.before ag Z = true) (ws : List Jvm.Cond) (a0 : Addr) (p1 : Int32) (w_costs : Value) (ug : Addr) (w_positionOf : Value) (uf ue : Addr) (w_entryRooms : Value) (ur uv : Addr) (w_bounds w_slacks : Value) (uk : Addr) (w_keyValues w_head w_inverse w_values w_groupDualPass w_groupDualValues w_rates w_rated w_ratedGroups w_started w_groupCount w_variableCount w_entriesUsed w_objective w_pivotsSinceInversion : Value) (kug : ClassId) (lg : List Value) (kuf : ClassId) (lf : List Value) (kue : ClassId) (le : List Value) (kur : ClassId) (lr : List Value) (kuv : ClassId) (lv : List Value) (kuk : ClassId) (g fe fk : Int32) (x0 : UInt64) (h0 : Heap) (n0 : Nat) (Z0 : n0 ≤ h0.size) (E_a0 : Exa Z h0 a0 own_K) (Ob_a0 : own_fs own_K own_N Z h0 a0 [w_costs, (.ref ug), w_positionOf, (.ref uf), (.ref ue), w_entryRooms, (.ref ur), (.ref uv), w_bounds, w_slacks, (.ref uk), w_keyValues, w_head, w_inverse, w_values, w_groupDualPass, w_groupDualValues, w_rates, w_rated, w_ratedGroups, w_started, w_groupCount, w_variableCount, w_entriesUsed, (.int (2 : Int32)), w_objective, w_pivotsSinceInversion]) (V_ug : Arv Z h0 ug kug .int (16 : Int32) lg (.int (0 : Int32))) (V_uf : Arv Z h0 uf kuf .int (16 : Int32) lf (.int (0 : Int32))) (V_ue : Arv Z h0 ue kue .int (16 : Int32) le (.int (0 : Int32))) (V_ur : Arv Z h0 ur kur .int (64 : Int32) lr (.int (0 : Int32))) (V_uv : Arv Z h0 uv kuv .double (64 : Int32) lv (.double (0 : UInt64))) (V_uk : Arv Z h0 uk kuk .int (1 : Int32) [(.int (0 : Int32))] (.int (0 : Int32))) (hp1 : ¬ p1 < 0 ∧ p1 < (16 : Int32)) (hg : lg.getD (p1).toNatClampNeg (.int (0 : Int32)) = .int g) (hgz : ¬ g < 0 → g = 0) (hfe : lf.getD (p1).toNatClampNeg (.int (0 : Int32)) = .int fe) (hle : le.getD (p1).toNatClampNeg (.int (0 : Int32)) = .int (1 : Int32)) (hi0 : ¬ fe < 0 ∧ fe < (64 : Int32)) (hlt0 : fe < (fe + (1 : Int32))) (hr0 : lr.getD (fe).toNatClampNeg (.int (0 : Int32)) = .int (0 : Int32)) (hv0 : lv.getD (fe).toNatClampNeg (.double (0 : UInt64)) = .double x0) (hend : ¬ (fe + (1 : Int32)) < (fe + (1 : Int32))) (hwx0 : own_w x0) (hfk : lf.getD ((0 : Int32)).toNatClampNeg (.int (0 : Int32)) = .int fk) (hlk : le.getD ((0 : Int32)).toNatClampNeg (.int (0 : Int32)) = .int (0 : Int32)) (hek : ¬ fk < (fk + (0 : Int32))) :
    MetFree l (⟨own_K, "workingColumn", "(I)[D"⟩ : MethodName) (head1 (Jvm.Cond.code (⟨own_K, "workingColumn", "(I)[D"⟩ : MethodName) prog_56_method_19_code 4 (some (.array .double)) :: ws) ({ frames := 1, cells := 1, slots := 2, locals := 18 } : Room)) (fun a U => a = #[(.ref a0), (.int p1)] ∧ Z.Warmed39 U.vm ∧ U.heap = h0) (fun _ _ _ _ _ => True) (fun _ U o U' => ∃ v L, o = .returned v ∧ own_Qc Z h0 n0 x0 (0 : UInt64) v U'.heap L ∧ FrameEnd U o U' L ({ frames := 1, cells := 1, slots := 2, locals := 18 } : Room).cells ({ frames := 1, cells := 1, slots := 2, locals := 18 } : Room).slots) := by
  refine MetFree.of_bodySF (plainFor_of_name pn_0) hisR ?_
  intro p e s m args below meth c s₁ Bd hml0 hP hK
  obtain ⟨rfl, hZ, hh⟩ := hP
  have hx := Bd.exec
  have hby := Bd.bytes
  have hml : c.maxLocals = 4 := hml0
  have hown : s.vm.findClass own_K = some m.cls := findClass_of_methodNamed Bd.named
  have hnm := (name_of_methodNamed Bd.named Bd.method).1
  have X0 : Stand p l e ({ frames := 1, cells := 1, slots := 2, locals := 18 } : Room) s m #[(.ref a0), (.int p1)] below meth c s₁ [] 0 0 := Stand.of_body Bd
  have e0 : s₁.heap = h0 := by rw [← hh, Bd.state]; rfl
  have N0 := Fr.nil n0
  have D : ∀ {pc : Nat} {r : Except DecodeError (Instr × Nat)}, decode prog_56_method_19_code pc = r → decode c.code pc = r := fun q => hb hby q
  have pre0 : ∀ t, Steps p.tables e below (s₁.setTop (mkF m 0 #[.val (.ref a0), .val (.int p1), .unset, .unset] [])) t → Steps p.tables e below (s₁.setTop (entryFrame m #[(.ref a0), (.int p1)] 4)) t := fun t k => castTop (ef_9 m a0 p1) k
  obtain ⟨T1402, X1402, e1402, st1402⟩ := own_gf X0 hx hZ hown (own_wk hw 81 rfl) e0 Ob_a0 24 rfl rfl (g := (mkF m 1 #[.val (.ref a0), .val (.int p1), .unset, .unset] [(.ref a0)])) rfl rfl (D d9_1)
  obtain ⟨T1403, h1403, k1403, X1403, e1403, E1403, A1403, EA1403, st1403⟩ := newPE X1402 hx hZ (own_wk hw 9 rfl) e1402 (g := (mkF m 4 #[.val (.ref a0), .val (.int p1), .unset, .unset] [.int 2])) rfl (D d9_4) rfl (by decide) (cap := 2) (by decide) (by decide) (by decide) (by decide) (ad := "[D") (by decide)
  obtain ⟨b1403, g1403⟩ : ∃ z, z = h0.size := ⟨_, rfl⟩
  have ge_b1403 : n0 ≤ b1403 := Nat.le_trans Z0 (Nat.le_of_eq g1403.symm)
  have gs_b1403 : h0.size ≤ b1403 := Nat.le_trans (Keep.refl h0 []).1 (Nat.le_of_eq g1403.symm)
  rw [← g1403] at A1403 st1403 EA1403
  have kp1404 : Keep h0 h1403 [] := (Keep.refl h0 []).ext E1403
  have V1403 : Arv Z h1403 b1403 k1403 .double (2 : Int32) [(.double (0 : UInt64)), (.double (0 : UInt64))] (.double (0 : UInt64)) := (Arv.new A1403 (by decide)).pad (pad_rep [] (.double (0 : UInt64)) 2)
  obtain ⟨cq1405, q1405, q1405'⟩ := (E_a0.keep kp1404).cell
  obtain ⟨_, _, ⟨T1405, L1405, k1405, n1405⟩, -, X1405, ⟨Lc1405, hQ1405, l1405, y1405, z1405⟩, st1405⟩ := X1403.privateBack hx (y := (⟨own_K, "addColumn", "([DID)V"⟩ : MethodName)) hown (mvT hZ (own_wk hw 107 rfl)) (mvT hZ (own_wk hw 108 rfl)) (own_selp (ym := (⟨own_K, "addGroup", "()I"⟩ : MethodName)) (mvT hZ (own_wk hw 57 rfl)) rfl (Cond.privateMethod_at (mvP hZ (own_wk hw 109 rfl) (args := #[]))) (mvT hZ (own_wk hw 108 rfl)) (by decide)) (Cond.privateMethod_at (mvP hZ (own_wk hw 109 rfl) (args := #[]))) (mvT hZ (own_wk hw 110 rfl)) (by decide) (backOf (W := 0) (rm10_0 l Z ag hw [] a0 b1403 p1 (4607182418800017408 : UInt64) _ _ _ _ _ _ _ _ _ _ _ _ _ _ _ _ _ _ _ _ _ _ _ _ _ _ _ _ _ _ _ _ _ _ _ _ _ _ fe x0 x0 h1403 n0 (Nat.le_trans Z0 kp1404.1) (E_a0.keep kp1404) (Ob_a0.keep kp1404 nin0) (V_uf.keep kp1404 nin0) (V_ue.keep kp1404 nin0) (V_ur.keep kp1404 nin0) (V_uv.keep kp1404 nin0) V1403 ge_b1403 (Nat.ne_of_gt (Nat.lt_of_lt_of_le (Ob_a0.get 0 rfl rfl).lt gs_b1403)) (Nat.ne_of_gt (Nat.lt_of_lt_of_le V_uf.lt gs_b1403)) (Nat.ne_of_gt (Nat.lt_of_lt_of_le V_ue.lt gs_b1403)) (Nat.ne_of_gt (Nat.lt_of_lt_of_le V_ur.lt gs_b1403)) (Nat.ne_of_gt (Nat.lt_of_lt_of_le V_uv.lt gs_b1403)) hp1 hfe hle hi0 hlt0 hr0 hv0 (own_nmul own_w1 hwx0) (own_naz1 hwx0) (own_az1 hwx0) hend) hZ (own_wk hw 110 rfl) (own_wk hw 2 rfl) (by decide) (by decide)) (g := (mkF m 11 #[.val (.ref a0), .val (.int p1), .val (.ref b1403), .unset] [(.double (4607182418800017408 : UInt64)), (.int p1), (.ref b1403), (.ref a0)])) rfl (by rw [hml]; rfl) (Steps.refl _) (a := a0) (by rw [e1403]; exact q1405) q1405' (argsL := [(.ref b1403), (.int p1), (.double (4607182418800017408 : UInt64))]) (rest := []) (lenOf pd_13 rfl) rfl (by show 2 * 0 + _ ≤ _; exact Nat.le_of_eq rfl) (D d9_11) (fun _ _ => ⟨rfl, e1403, (by decide : 1 + 0 ≤ _), (by decide : 2 + 0 ≤ _)⟩)
  dsimp only [Pt.U, Pt.locs, Pt.cells, Pt.slots] at X1405 l1405 y1405 z1405 st1405 hQ1405
  subst l1405 y1405 z1405
  obtain ⟨rfl, N1405q, K1405, o1405_0⟩ := hQ1405
  have N1405 := Fr.app N0 N1405q
  have x1406 := EA1403.keep K1405
  have kp1407 : Keep h0 T1405.heap [] := kp1404.trans K1405 (allS (Or.inr gs_b1403) all0)
  obtain ⟨T1408, X1408, e1408, st1408⟩ := own_gf X1405 hx hZ hown (own_wk hw 13 rfl) rfl (Ob_a0.keep kp1407 nin0) 1 rfl rfl (g := (mkF m 15 #[.val (.ref a0), .val (.int p1), .val (.ref b1403), .unset] [(.ref a0)])) rfl rfl (D d9_15)
  have cp1411 : ∀ target, own_S p e below T1408 (mkF m 22 #[.val (.ref a0), .val (.int p1), .val (.ref b1403), .val (.int g)] [(.int g)]) target → own_S p e below s₁ (mkF m 0 #[.val (.ref a0), .val (.int p1), .unset, .unset] []) target := by
    intro target kt
    show own_S p e below s₁ (mkF m 0 #[.val (.ref a0), .val (.int p1), .unset, .unset] []) _
    refine XS.aloadN X0.here hx rfl (D d9_0) rfl rfl (st1402 _ (st1403 _ (XS.astoreN X1403.here hx rfl (D d9_6) rfl rfl (l' := #[.val (.ref a0), .val (.int p1), .val (.ref b1403), .unset]) rfl (XS.aloadN X1403.here hx rfl (D d9_7) rfl rfl (XS.aloadN X1403.here hx rfl (D d9_8) rfl rfl (XS.iloadN X1403.here hx rfl (D d9_9) rfl (XS.dconst1 X1403.here hx rfl (D d9_10) rfl (st1405.trans (XS.aloadN X1405.here hx rfl (D d9_14) rfl rfl ?_)))))))))
    refine st1408 _ (XS.iloadN X1408.here hx rfl (D d9_18) rfl (own_ldI X1408 hx hZ e1408 (V_ug.keep kp1407 nin0) (j := p1) hp1 (v := (.int g)) hg rfl rfl (D d9_19) (XS.istoreN X1408.here hx rfl (D d9_20) rfl (l' := #[.val (.ref a0), .val (.int p1), .val (.ref b1403), .val (.int g)]) rfl ?_)))
    show own_S p e below T1408 (mkF m 21 #[.val (.ref a0), .val (.int p1), .val (.ref b1403), .val (.int g)] []) _
    refine XS.iloadN X1408.here hx rfl (D d9_21) rfl ?_
    exact kt
  by_cases hc1410 : g < (0 : Int32)
  · obtain ⟨fs, hr, hrun, hended, hW, hsame⟩ := X1408.leave (v := some (.ref b1403)) (fun h => by rw [Bd.returns] at h; cases h)
    refine ⟨_, _, pre0 _ ?_, hrun, hended, _, _, rfl, ?_, ⟨_, rfl⟩, hW, hsame.mono (by decide) (by decide)⟩
    · show own_S p e below s₁ (mkF m 0 #[.val (.ref a0), .val (.int p1), .unset, .unset] []) _
      refine cp1411 _ (XS.ifYes X1408.here hx rfl (pc0 := 22) (pc' := 39) rfl (D d9_22) rfl ((if0 _ _).trans (tlt hc1410).1) (by decide) (by decide) (XS.aloadN X1408.here hx rfl (D d9_39) rfl rfl ?_))
      show own_S p e below T1408 (mkF m 40 #[.val (.ref a0), .val (.int p1), .val (.ref b1403), .val (.int g)] [(.ref b1403)]) _
      exact Jvm.RoadKit.retOut X1408 hx Bd.returns rfl (Or.inr (Or.inr (Or.inr (Or.inr ⟨rfl, rfl, rfl⟩)))) (D d9_40) hr
    · show own_Qc Z h0 n0 x0 (0 : UInt64) _ T1408.heap _
      rw [e1408]
      exact ⟨b1403, k1403, rfl, N1405, kp1407, ge_b1403, gs_b1403, x1406, o1405_0⟩
  · obtain ⟨T1412, X1412, e1412, st1412⟩ := own_gf X1408 hx hZ hown (own_wk hw 31 rfl) e1408 (Ob_a0.keep kp1407 nin0) 10 rfl rfl (g := (mkF m 28 #[.val (.ref a0), .val (.int p1), .val (.ref b1403), .val (.int g)] [(.ref a0), (.ref b1403), (.ref a0)])) rfl rfl (D d9_28)
    obtain ⟨cq1414, q1414, q1414'⟩ := (E_a0.keep kp1407).cell
    obtain ⟨_, _, ⟨T1414, L1414, k1414, n1414⟩, -, X1414, ⟨Lc1414, hQ1414, l1414, y1414, z1414⟩, st1414⟩ := X1412.privateBack hx (y := (⟨own_K, "addColumn", "([DID)V"⟩ : MethodName)) hown (mvT hZ (own_wk hw 107 rfl)) (mvT hZ (own_wk hw 108 rfl)) (own_selp (ym := (⟨own_K, "addGroup", "()I"⟩ : MethodName)) (mvT hZ (own_wk hw 57 rfl)) rfl (Cond.privateMethod_at (mvP hZ (own_wk hw 109 rfl) (args := #[]))) (mvT hZ (own_wk hw 108 rfl)) (by decide)) (Cond.privateMethod_at (mvP hZ (own_wk hw 109 rfl) (args := #[]))) (mvT hZ (own_wk hw 110 rfl)) (by decide) (backOf (W := 0) (rm10_n l Z ag hw [] a0 b1403 (0 : Int32) (13830554455654793216 : UInt64) _ _ _ _ _ _ _ _ _ _ _ _ _ _ _ _ _ _ _ _ _ _ _ _ _ _ _ _ _ _ _ _ _ _ _ _ _ _ fk T1405.heap n0 (Nat.le_trans Z0 kp1407.1) (E_a0.keep kp1407) (Ob_a0.keep kp1407 nin0) (V_uf.keep kp1407 nin0) (V_ue.keep kp1407 nin0) (V_ur.keep kp1407 nin0) (V_uv.keep kp1407 nin0) o1405_0 ge_b1403 (Nat.ne_of_gt (Nat.lt_of_lt_of_le (Ob_a0.get 0 rfl rfl).lt gs_b1403)) (Nat.ne_of_gt (Nat.lt_of_lt_of_le V_uf.lt gs_b1403)) (Nat.ne_of_gt (Nat.lt_of_lt_of_le V_ue.lt gs_b1403)) (Nat.ne_of_gt (Nat.lt_of_lt_of_le V_ur.lt gs_b1403)) (Nat.ne_of_gt (Nat.lt_of_lt_of_le V_uv.lt gs_b1403)) ⟨(by decide), (by decide)⟩ hfk hlk hek) hZ (own_wk hw 110 rfl) (own_wk hw 2 rfl) (by decide) (by decide)) (g := (mkF m 36 #[.val (.ref a0), .val (.int p1), .val (.ref b1403), .val (.int g)] [(.double (13830554455654793216 : UInt64)), .int 0, (.ref b1403), (.ref a0)])) rfl (by rw [hml]; rfl) (Steps.refl _) (a := a0) (by rw [e1412]; exact q1414) q1414' (argsL := [(.ref b1403), (.int (0 : Int32)), (.double (13830554455654793216 : UInt64))]) (rest := []) (lenOf pd_13 rfl) rfl (by show 2 * 0 + _ ≤ _; exact Nat.le_of_eq rfl) (D d9_36) (fun _ _ => ⟨rfl, e1412, (by decide : 1 + 0 ≤ _), (by decide : 2 + 0 ≤ _)⟩)
    dsimp only [Pt.U, Pt.locs, Pt.cells, Pt.slots] at X1414 l1414 y1414 z1414 st1414 hQ1414
    subst l1414 y1414 z1414
    obtain ⟨rfl, N1414q, K1414, o1414_0⟩ := hQ1414
    have N1414 := Fr.app N1405 N1414q
    have x1415 := x1406.keep K1414
    have kp1416 : Keep h0 T1414.heap [] := kp1407.trans K1414 (allS (Or.inr gs_b1403) all0)
    obtain ⟨fs, hr, hrun, hended, hW, hsame⟩ := X1414.leave (v := some (.ref b1403)) (fun h => by rw [Bd.returns] at h; cases h)
    refine ⟨_, _, pre0 _ ?_, hrun, hended, _, _, rfl, ?_, ⟨_, rfl⟩, hW, hsame.mono (by decide) (by decide)⟩
    · show own_S p e below s₁ (mkF m 0 #[.val (.ref a0), .val (.int p1), .unset, .unset] []) _
      refine cp1411 _ (XS.ifNo X1408.here hx rfl (D d9_22) rfl ((if0 _ _).trans (flt hc1410).1) (XS.aloadN X1408.here hx rfl (D d9_25) rfl rfl (XS.aloadN X1408.here hx rfl (D d9_26) rfl rfl (XS.aloadN X1408.here hx rfl (D d9_27) rfl rfl (st1412 _ (XS.iloadN X1412.here hx rfl (D d9_31) rfl (own_ldI X1412 hx hZ e1412 (V_uk.keep kp1407 nin0) (j := g) (own_g0 (hgz hc1410)) (v := (.int (0 : Int32))) (own_gk (hgz hc1410)) rfl rfl (D d9_32) (X1412.ldc2DoubleC hx hown (mvT hZ (own_wk hw 134 rfl)) (g := (mkF m 33 #[.val (.ref a0), .val (.int p1), .val (.ref b1403), .val (.int g)] [.int 0, (.ref b1403), (.ref a0)])) rfl (D d9_33) _ (st1414.trans ?_)))))))))
      refine XS.aloadN X1414.here hx rfl (D d9_39) rfl rfl ?_
      show own_S p e below T1414 (mkF m 40 #[.val (.ref a0), .val (.int p1), .val (.ref b1403), .val (.int g)] [(.ref b1403)]) _
      exact Jvm.RoadKit.retOut X1414 hx Bd.returns rfl (Or.inr (Or.inr (Or.inr (Or.inr ⟨rfl, rfl, rfl⟩)))) (D d9_40) hr
    · show own_Qc Z h0 n0 x0 (0 : UInt64) _ T1414.heap _
      exact ⟨b1403, k1403, rfl, N1414, kp1416, ge_b1403, gs_b1403, x1415, o1414_0⟩
set_option maxRecDepth 65536 in
set_option maxHeartbeats 40000000 in
theorem rm9_1 (l : Launch) (Z : State) (ag : Array Value) (hw : ∀ d ∈ tables_1, d.before ag Z = true) (ws : List Jvm.Cond) (a0 : Addr) (p1 : Int32) (w_costs : Value) (ug : Addr) (w_positionOf : Value) (uf ue : Addr) (w_entryRooms : Value) (ur uv : Addr) (w_bounds w_slacks : Value) (uk : Addr) (w_keyValues w_head w_inverse w_values w_groupDualPass w_groupDualValues w_rates w_rated w_ratedGroups w_started w_groupCount w_variableCount w_entriesUsed w_objective w_pivotsSinceInversion : Value) (kug : ClassId) (lg : List Value) (kuf : ClassId) (lf : List Value) (kue : ClassId) (le : List Value) (kur : ClassId) (lr : List Value) (kuv : ClassId) (lv : List Value) (kuk : ClassId) (g fe fk : Int32) (x0 : UInt64) (h0 : Heap) (n0 : Nat) (Z0 : n0 ≤ h0.size) (E_a0 : Exa Z h0 a0 own_K) (Ob_a0 : own_fs own_K own_N Z h0 a0 [w_costs, (.ref ug), w_positionOf, (.ref uf), (.ref ue), w_entryRooms, (.ref ur), (.ref uv), w_bounds, w_slacks, (.ref uk), w_keyValues, w_head, w_inverse, w_values, w_groupDualPass, w_groupDualValues, w_rates, w_rated, w_ratedGroups, w_started, w_groupCount, w_variableCount, w_entriesUsed, (.int (2 : Int32)), w_objective, w_pivotsSinceInversion]) (V_ug : Arv Z h0 ug kug .int (16 : Int32) lg (.int (0 : Int32))) (V_uf : Arv Z h0 uf kuf .int (16 : Int32) lf (.int (0 : Int32))) (V_ue : Arv Z h0 ue kue .int (16 : Int32) le (.int (0 : Int32))) (V_ur : Arv Z h0 ur kur .int (64 : Int32) lr (.int (0 : Int32))) (V_uv : Arv Z h0 uv kuv .double (64 : Int32) lv (.double (0 : UInt64))) (V_uk : Arv Z h0 uk kuk .int (1 : Int32) [(.int (0 : Int32))] (.int (0 : Int32))) (hp1 : ¬ p1 < 0 ∧ p1 < (16 : Int32)) (hg : lg.getD (p1).toNatClampNeg (.int (0 : Int32)) = .int g) (hgz : ¬ g < 0 → g = 0) (hfe : lf.getD (p1).toNatClampNeg (.int (0 : Int32)) = .int fe) (hle : le.getD (p1).toNatClampNeg (.int (0 : Int32)) = .int (1 : Int32)) (hi0 : ¬ fe < 0 ∧ fe < (64 : Int32)) (hlt0 : fe < (fe + (1 : Int32))) (hr0 : lr.getD (fe).toNatClampNeg (.int (0 : Int32)) = .int (1 : Int32)) (hv0 : lv.getD (fe).toNatClampNeg (.double (0 : UInt64)) = .double x0) (hend : ¬ (fe + (1 : Int32)) < (fe + (1 : Int32))) (hwx0 : own_w x0) (hfk : lf.getD ((0 : Int32)).toNatClampNeg (.int (0 : Int32)) = .int fk) (hlk : le.getD ((0 : Int32)).toNatClampNeg (.int (0 : Int32)) = .int (0 : Int32)) (hek : ¬ fk < (fk + (0 : Int32))) :
    MetFree l (⟨own_K, "workingColumn", "(I)[D"⟩ : MethodName) (head1 (Jvm.Cond.code (⟨own_K, "workingColumn", "(I)[D"⟩ : MethodName) prog_56_method_19_code 4 (some (.array .double)) :: ws) ({ frames := 1, cells := 1, slots := 2, locals := 18 } : Room)) (fun a U => a = #[(.ref a0), (.int p1)] ∧ Z.Warmed39 U.vm ∧ U.heap = h0) (fun _ _ _ _ _ => True) (fun _ U o U' => ∃ v L, o = .returned v ∧ own_Qc Z h0 n0 (0 : UInt64) x0 v U'.heap L ∧ FrameEnd U o U' L ({ frames := 1, cells := 1, slots := 2, locals := 18 } : Room).cells ({ frames := 1, cells := 1, slots := 2, locals := 18 } : Room).slots) := by
  refine MetFree.of_bodySF (plainFor_of_name pn_0) hisR ?_
  intro p e s m args below meth c s₁ Bd hml0 hP hK
  obtain ⟨rfl, hZ, hh⟩ := hP
  have hx := Bd.exec
  have hby := Bd.bytes
  have hml : c.maxLocals = 4 := hml0
  have hown : s.vm.findClass own_K = some m.cls := findClass_of_methodNamed Bd.named
  have hnm := (name_of_methodNamed Bd.named Bd.method).1
  have X0 : Stand p l e ({ frames := 1, cells := 1, slots := 2, locals := 18 } : Room) s m #[(.ref a0), (.int p1)] below meth c s₁ [] 0 0 := Stand.of_body Bd
  have e0 : s₁.heap = h0 := by rw [← hh, Bd.state]; rfl
  have N0 := Fr.nil n0
  have D : ∀ {pc : Nat} {r : Except DecodeError (Instr × Nat)}, decode prog_56_method_19_code pc = r → decode c.code pc = r := fun q => hb hby q
  have pre0 : ∀ t, Steps p.tables e below (s₁.setTop (mkF m 0 #[.val (.ref a0), .val (.int p1), .unset, .unset] [])) t → Steps p.tables e below (s₁.setTop (entryFrame m #[(.ref a0), (.int p1)] 4)) t := fun t k => castTop (ef_9 m a0 p1) k
  obtain ⟨T1417, X1417, e1417, st1417⟩ := own_gf X0 hx hZ hown (own_wk hw 81 rfl) e0 Ob_a0 24 rfl rfl (g := (mkF m 1 #[.val (.ref a0), .val (.int p1), .unset, .unset] [(.ref a0)])) rfl rfl (D d9_1)
  obtain ⟨T1418, h1418, k1418, X1418, e1418, E1418, A1418, EA1418, st1418⟩ := newPE X1417 hx hZ (own_wk hw 9 rfl) e1417 (g := (mkF m 4 #[.val (.ref a0), .val (.int p1), .unset, .unset] [.int 2])) rfl (D d9_4) rfl (by decide) (cap := 2) (by decide) (by decide) (by decide) (by decide) (ad := "[D") (by decide)
  obtain ⟨b1418, g1418⟩ : ∃ z, z = h0.size := ⟨_, rfl⟩
  have ge_b1418 : n0 ≤ b1418 := Nat.le_trans Z0 (Nat.le_of_eq g1418.symm)
  have gs_b1418 : h0.size ≤ b1418 := Nat.le_trans (Keep.refl h0 []).1 (Nat.le_of_eq g1418.symm)
  rw [← g1418] at A1418 st1418 EA1418
  have kp1419 : Keep h0 h1418 [] := (Keep.refl h0 []).ext E1418
  have V1418 : Arv Z h1418 b1418 k1418 .double (2 : Int32) [(.double (0 : UInt64)), (.double (0 : UInt64))] (.double (0 : UInt64)) := (Arv.new A1418 (by decide)).pad (pad_rep [] (.double (0 : UInt64)) 2)
  obtain ⟨cq1420, q1420, q1420'⟩ := (E_a0.keep kp1419).cell
  obtain ⟨_, _, ⟨T1420, L1420, k1420, n1420⟩, -, X1420, ⟨Lc1420, hQ1420, l1420, y1420, z1420⟩, st1420⟩ := X1418.privateBack hx (y := (⟨own_K, "addColumn", "([DID)V"⟩ : MethodName)) hown (mvT hZ (own_wk hw 107 rfl)) (mvT hZ (own_wk hw 108 rfl)) (own_selp (ym := (⟨own_K, "addGroup", "()I"⟩ : MethodName)) (mvT hZ (own_wk hw 57 rfl)) rfl (Cond.privateMethod_at (mvP hZ (own_wk hw 109 rfl) (args := #[]))) (mvT hZ (own_wk hw 108 rfl)) (by decide)) (Cond.privateMethod_at (mvP hZ (own_wk hw 109 rfl) (args := #[]))) (mvT hZ (own_wk hw 110 rfl)) (by decide) (backOf (W := 0) (rm10_1 l Z ag hw [] a0 b1418 p1 (4607182418800017408 : UInt64) _ _ _ _ _ _ _ _ _ _ _ _ _ _ _ _ _ _ _ _ _ _ _ _ _ _ _ _ _ _ _ _ _ _ _ _ _ _ fe x0 x0 h1418 n0 (Nat.le_trans Z0 kp1419.1) (E_a0.keep kp1419) (Ob_a0.keep kp1419 nin0) (V_uf.keep kp1419 nin0) (V_ue.keep kp1419 nin0) (V_ur.keep kp1419 nin0) (V_uv.keep kp1419 nin0) V1418 ge_b1418 (Nat.ne_of_gt (Nat.lt_of_lt_of_le (Ob_a0.get 0 rfl rfl).lt gs_b1418)) (Nat.ne_of_gt (Nat.lt_of_lt_of_le V_uf.lt gs_b1418)) (Nat.ne_of_gt (Nat.lt_of_lt_of_le V_ue.lt gs_b1418)) (Nat.ne_of_gt (Nat.lt_of_lt_of_le V_ur.lt gs_b1418)) (Nat.ne_of_gt (Nat.lt_of_lt_of_le V_uv.lt gs_b1418)) hp1 hfe hle hi0 hlt0 hr0 hv0 (own_nmul own_w1 hwx0) (own_naz1 hwx0) (own_az1 hwx0) hend) hZ (own_wk hw 110 rfl) (own_wk hw 2 rfl) (by decide) (by decide)) (g := (mkF m 11 #[.val (.ref a0), .val (.int p1), .val (.ref b1418), .unset] [(.double (4607182418800017408 : UInt64)), (.int p1), (.ref b1418), (.ref a0)])) rfl (by rw [hml]; rfl) (Steps.refl _) (a := a0) (by rw [e1418]; exact q1420) q1420' (argsL := [(.ref b1418), (.int p1), (.double (4607182418800017408 : UInt64))]) (rest := []) (lenOf pd_13 rfl) rfl (by show 2 * 0 + _ ≤ _; exact Nat.le_of_eq rfl) (D d9_11) (fun _ _ => ⟨rfl, e1418, (by decide : 1 + 0 ≤ _), (by decide : 2 + 0 ≤ _)⟩)
  dsimp only [Pt.U, Pt.locs, Pt.cells, Pt.slots] at X1420 l1420 y1420 z1420 st1420 hQ1420
  subst l1420 y1420 z1420
  obtain ⟨rfl, N1420q, K1420, o1420_0⟩ := hQ1420
  have N1420 := Fr.app N0 N1420q
  have x1421 := EA1418.keep K1420
  have kp1422 : Keep h0 T1420.heap [] := kp1419.trans K1420 (allS (Or.inr gs_b1418) all0)
  obtain ⟨T1423, X1423, e1423, st1423⟩ := own_gf X1420 hx hZ hown (own_wk hw 13 rfl) rfl (Ob_a0.keep kp1422 nin0) 1 rfl rfl (g := (mkF m 15 #[.val (.ref a0), .val (.int p1), .val (.ref b1418), .unset] [(.ref a0)])) rfl rfl (D d9_15)
  have cp1426 : ∀ target, own_S p e below T1423 (mkF m 22 #[.val (.ref a0), .val (.int p1), .val (.ref b1418), .val (.int g)] [(.int g)]) target → own_S p e below s₁ (mkF m 0 #[.val (.ref a0), .val (.int p1), .unset, .unset] []) target := by
    intro target kt
    show own_S p e below s₁ (mkF m 0 #[.val (.ref a0), .val (.int p1), .unset, .unset] []) _
    refine XS.aloadN X0.here hx rfl (D d9_0) rfl rfl (st1417 _ (st1418 _ (XS.astoreN X1418.here hx rfl (D d9_6) rfl rfl (l' := #[.val (.ref a0), .val (.int p1), .val (.ref b1418), .unset]) rfl (XS.aloadN X1418.here hx rfl (D d9_7) rfl rfl (XS.aloadN X1418.here hx rfl (D d9_8) rfl rfl (XS.iloadN X1418.here hx rfl (D d9_9) rfl (XS.dconst1 X1418.here hx rfl (D d9_10) rfl (st1420.trans (XS.aloadN X1420.here hx rfl (D d9_14) rfl rfl ?_)))))))))
    refine st1423 _ (XS.iloadN X1423.here hx rfl (D d9_18) rfl (own_ldI X1423 hx hZ e1423 (V_ug.keep kp1422 nin0) (j := p1) hp1 (v := (.int g)) hg rfl rfl (D d9_19) (XS.istoreN X1423.here hx rfl (D d9_20) rfl (l' := #[.val (.ref a0), .val (.int p1), .val (.ref b1418), .val (.int g)]) rfl ?_)))
    show own_S p e below T1423 (mkF m 21 #[.val (.ref a0), .val (.int p1), .val (.ref b1418), .val (.int g)] []) _
    refine XS.iloadN X1423.here hx rfl (D d9_21) rfl ?_
    exact kt
  by_cases hc1425 : g < (0 : Int32)
  · obtain ⟨fs, hr, hrun, hended, hW, hsame⟩ := X1423.leave (v := some (.ref b1418)) (fun h => by rw [Bd.returns] at h; cases h)
    refine ⟨_, _, pre0 _ ?_, hrun, hended, _, _, rfl, ?_, ⟨_, rfl⟩, hW, hsame.mono (by decide) (by decide)⟩
    · show own_S p e below s₁ (mkF m 0 #[.val (.ref a0), .val (.int p1), .unset, .unset] []) _
      refine cp1426 _ (XS.ifYes X1423.here hx rfl (pc0 := 22) (pc' := 39) rfl (D d9_22) rfl ((if0 _ _).trans (tlt hc1425).1) (by decide) (by decide) (XS.aloadN X1423.here hx rfl (D d9_39) rfl rfl ?_))
      show own_S p e below T1423 (mkF m 40 #[.val (.ref a0), .val (.int p1), .val (.ref b1418), .val (.int g)] [(.ref b1418)]) _
      exact Jvm.RoadKit.retOut X1423 hx Bd.returns rfl (Or.inr (Or.inr (Or.inr (Or.inr ⟨rfl, rfl, rfl⟩)))) (D d9_40) hr
    · show own_Qc Z h0 n0 (0 : UInt64) x0 _ T1423.heap _
      rw [e1423]
      exact ⟨b1418, k1418, rfl, N1420, kp1422, ge_b1418, gs_b1418, x1421, o1420_0⟩
  · obtain ⟨T1427, X1427, e1427, st1427⟩ := own_gf X1423 hx hZ hown (own_wk hw 31 rfl) e1423 (Ob_a0.keep kp1422 nin0) 10 rfl rfl (g := (mkF m 28 #[.val (.ref a0), .val (.int p1), .val (.ref b1418), .val (.int g)] [(.ref a0), (.ref b1418), (.ref a0)])) rfl rfl (D d9_28)
    obtain ⟨cq1429, q1429, q1429'⟩ := (E_a0.keep kp1422).cell
    obtain ⟨_, _, ⟨T1429, L1429, k1429, n1429⟩, -, X1429, ⟨Lc1429, hQ1429, l1429, y1429, z1429⟩, st1429⟩ := X1427.privateBack hx (y := (⟨own_K, "addColumn", "([DID)V"⟩ : MethodName)) hown (mvT hZ (own_wk hw 107 rfl)) (mvT hZ (own_wk hw 108 rfl)) (own_selp (ym := (⟨own_K, "addGroup", "()I"⟩ : MethodName)) (mvT hZ (own_wk hw 57 rfl)) rfl (Cond.privateMethod_at (mvP hZ (own_wk hw 109 rfl) (args := #[]))) (mvT hZ (own_wk hw 108 rfl)) (by decide)) (Cond.privateMethod_at (mvP hZ (own_wk hw 109 rfl) (args := #[]))) (mvT hZ (own_wk hw 110 rfl)) (by decide) (backOf (W := 0) (rm10_n l Z ag hw [] a0 b1418 (0 : Int32) (13830554455654793216 : UInt64) _ _ _ _ _ _ _ _ _ _ _ _ _ _ _ _ _ _ _ _ _ _ _ _ _ _ _ _ _ _ _ _ _ _ _ _ _ _ fk T1420.heap n0 (Nat.le_trans Z0 kp1422.1) (E_a0.keep kp1422) (Ob_a0.keep kp1422 nin0) (V_uf.keep kp1422 nin0) (V_ue.keep kp1422 nin0) (V_ur.keep kp1422 nin0) (V_uv.keep kp1422 nin0) o1420_0 ge_b1418 (Nat.ne_of_gt (Nat.lt_of_lt_of_le (Ob_a0.get 0 rfl rfl).lt gs_b1418)) (Nat.ne_of_gt (Nat.lt_of_lt_of_le V_uf.lt gs_b1418)) (Nat.ne_of_gt (Nat.lt_of_lt_of_le V_ue.lt gs_b1418)) (Nat.ne_of_gt (Nat.lt_of_lt_of_le V_ur.lt gs_b1418)) (Nat.ne_of_gt (Nat.lt_of_lt_of_le V_uv.lt gs_b1418)) ⟨(by decide), (by decide)⟩ hfk hlk hek) hZ (own_wk hw 110 rfl) (own_wk hw 2 rfl) (by decide) (by decide)) (g := (mkF m 36 #[.val (.ref a0), .val (.int p1), .val (.ref b1418), .val (.int g)] [(.double (13830554455654793216 : UInt64)), .int 0, (.ref b1418), (.ref a0)])) rfl (by rw [hml]; rfl) (Steps.refl _) (a := a0) (by rw [e1427]; exact q1429) q1429' (argsL := [(.ref b1418), (.int (0 : Int32)), (.double (13830554455654793216 : UInt64))]) (rest := []) (lenOf pd_13 rfl) rfl (by show 2 * 0 + _ ≤ _; exact Nat.le_of_eq rfl) (D d9_36) (fun _ _ => ⟨rfl, e1427, (by decide : 1 + 0 ≤ _), (by decide : 2 + 0 ≤ _)⟩)
    dsimp only [Pt.U, Pt.locs, Pt.cells, Pt.slots] at X1429 l1429 y1429 z1429 st1429 hQ1429
    subst l1429 y1429 z1429
    obtain ⟨rfl, N1429q, K1429, o1429_0⟩ := hQ1429
    have N1429 := Fr.app N1420 N1429q
    have x1430 := x1421.keep K1429
    have kp1431 : Keep h0 T1429.heap [] := kp1422.trans K1429 (allS (Or.inr gs_b1418) all0)
    obtain ⟨fs, hr, hrun, hended, hW, hsame⟩ := X1429.leave (v := some (.ref b1418)) (fun h => by rw [Bd.returns] at h; cases h)
    refine ⟨_, _, pre0 _ ?_, hrun, hended, _, _, rfl, ?_, ⟨_, rfl⟩, hW, hsame.mono (by decide) (by decide)⟩
    · show own_S p e below s₁ (mkF m 0 #[.val (.ref a0), .val (.int p1), .unset, .unset] []) _
      refine cp1426 _ (XS.ifNo X1423.here hx rfl (D d9_22) rfl ((if0 _ _).trans (flt hc1425).1) (XS.aloadN X1423.here hx rfl (D d9_25) rfl rfl (XS.aloadN X1423.here hx rfl (D d9_26) rfl rfl (XS.aloadN X1423.here hx rfl (D d9_27) rfl rfl (st1427 _ (XS.iloadN X1427.here hx rfl (D d9_31) rfl (own_ldI X1427 hx hZ e1427 (V_uk.keep kp1422 nin0) (j := g) (own_g0 (hgz hc1425)) (v := (.int (0 : Int32))) (own_gk (hgz hc1425)) rfl rfl (D d9_32) (X1427.ldc2DoubleC hx hown (mvT hZ (own_wk hw 134 rfl)) (g := (mkF m 33 #[.val (.ref a0), .val (.int p1), .val (.ref b1418), .val (.int g)] [.int 0, (.ref b1418), (.ref a0)])) rfl (D d9_33) _ (st1429.trans ?_)))))))))
      refine XS.aloadN X1429.here hx rfl (D d9_39) rfl rfl ?_
      show own_S p e below T1429 (mkF m 40 #[.val (.ref a0), .val (.int p1), .val (.ref b1418), .val (.int g)] [(.ref b1418)]) _
      exact Jvm.RoadKit.retOut X1429 hx Bd.returns rfl (Or.inr (Or.inr (Or.inr (Or.inr ⟨rfl, rfl, rfl⟩)))) (D d9_40) hr
    · show own_Qc Z h0 n0 (0 : UInt64) x0 _ T1429.heap _
      exact ⟨b1418, k1418, rfl, N1429, kp1431, ge_b1418, gs_b1418, x1430, o1429_0⟩
set_option maxRecDepth 65536 in
set_option maxHeartbeats 40000000 in
theorem rm9_01 (l : Launch) (Z : State) (ag : Array Value) (hw : ∀ d ∈ tables_1, d.before ag Z = true) (ws : List Jvm.Cond) (a0 : Addr) (p1 : Int32) (w_costs : Value) (ug : Addr) (w_positionOf : Value) (uf ue : Addr) (w_entryRooms : Value) (ur uv : Addr) (w_bounds w_slacks : Value) (uk : Addr) (w_keyValues w_head w_inverse w_values w_groupDualPass w_groupDualValues w_rates w_rated w_ratedGroups w_started w_groupCount w_variableCount w_entriesUsed w_objective w_pivotsSinceInversion : Value) (kug : ClassId) (lg : List Value) (kuf : ClassId) (lf : List Value) (kue : ClassId) (le : List Value) (kur : ClassId) (lr : List Value) (kuv : ClassId) (lv : List Value) (kuk : ClassId) (g fe fk : Int32) (x0 x1 : UInt64) (h0 : Heap) (n0 : Nat) (Z0 : n0 ≤ h0.size) (E_a0 : Exa Z h0 a0 own_K) (Ob_a0 : own_fs own_K own_N Z h0 a0 [w_costs, (.ref ug), w_positionOf, (.ref uf), (.ref ue), w_entryRooms, (.ref ur), (.ref uv), w_bounds, w_slacks, (.ref uk), w_keyValues, w_head, w_inverse, w_values, w_groupDualPass, w_groupDualValues, w_rates, w_rated, w_ratedGroups, w_started, w_groupCount, w_variableCount, w_entriesUsed, (.int (2 : Int32)), w_objective, w_pivotsSinceInversion]) (V_ug : Arv Z h0 ug kug .int (16 : Int32) lg (.int (0 : Int32))) (V_uf : Arv Z h0 uf kuf .int (16 : Int32) lf (.int (0 : Int32))) (V_ue : Arv Z h0 ue kue .int (16 : Int32) le (.int (0 : Int32))) (V_ur : Arv Z h0 ur kur .int (64 : Int32) lr (.int (0 : Int32))) (V_uv : Arv Z h0 uv kuv .double (64 : Int32) lv (.double (0 : UInt64))) (V_uk : Arv Z h0 uk kuk .int (1 : Int32) [(.int (0 : Int32))] (.int (0 : Int32))) (hp1 : ¬ p1 < 0 ∧ p1 < (16 : Int32)) (hg : lg.getD (p1).toNatClampNeg (.int (0 : Int32)) = .int g) (hgz : ¬ g < 0 → g = 0) (hfe : lf.getD (p1).toNatClampNeg (.int (0 : Int32)) = .int fe) (hle : le.getD (p1).toNatClampNeg (.int (0 : Int32)) = .int (2 : Int32)) (hi0 : ¬ fe < 0 ∧ fe < (64 : Int32)) (hlt0 : fe < (fe + (2 : Int32))) (hr0 : lr.getD (fe).toNatClampNeg (.int (0 : Int32)) = .int (0 : Int32)) (hv0 : lv.getD (fe).toNatClampNeg (.double (0 : UInt64)) = .double x0) (hi1 : ¬ (fe + (1 : Int32)) < 0 ∧ (fe + (1 : Int32)) < (64 : Int32)) (hlt1 : (fe + (1 : Int32)) < (fe + (2 : Int32))) (hr1 : lr.getD ((fe + (1 : Int32))).toNatClampNeg (.int (0 : Int32)) = .int (1 : Int32)) (hv1 : lv.getD ((fe + (1 : Int32))).toNatClampNeg (.double (0 : UInt64)) = .double x1) (hend : ¬ ((fe + (1 : Int32)) + (1 : Int32)) < (fe + (2 : Int32))) (hwx0 : own_w x0) (hwx1 : own_w x1) (hfk : lf.getD ((0 : Int32)).toNatClampNeg (.int (0 : Int32)) = .int fk) (hlk : le.getD ((0 : Int32)).toNatClampNeg (.int (0 : Int32)) = .int (0 : Int32)) (hek : ¬ fk < (fk + (0 : Int32))) :
    MetFree l (⟨own_K, "workingColumn", "(I)[D"⟩ : MethodName) (head1 (Jvm.Cond.code (⟨own_K, "workingColumn", "(I)[D"⟩ : MethodName) prog_56_method_19_code 4 (some (.array .double)) :: ws) ({ frames := 1, cells := 1, slots := 2, locals := 18 } : Room)) (fun a U => a = #[(.ref a0), (.int p1)] ∧ Z.Warmed39 U.vm ∧ U.heap = h0) (fun _ _ _ _ _ => True) (fun _ U o U' => ∃ v L, o = .returned v ∧ own_Qc Z h0 n0 x0 x1 v U'.heap L ∧ FrameEnd U o U' L ({ frames := 1, cells := 1, slots := 2, locals := 18 } : Room).cells ({ frames := 1, cells := 1, slots := 2, locals := 18 } : Room).slots) := by
  refine MetFree.of_bodySF (plainFor_of_name pn_0) hisR ?_
  intro p e s m args below meth c s₁ Bd hml0 hP hK
  obtain ⟨rfl, hZ, hh⟩ := hP
  have hx := Bd.exec
  have hby := Bd.bytes
  have hml : c.maxLocals = 4 := hml0
  have hown : s.vm.findClass own_K = some m.cls := findClass_of_methodNamed Bd.named
  have hnm := (name_of_methodNamed Bd.named Bd.method).1
  have X0 : Stand p l e ({ frames := 1, cells := 1, slots := 2, locals := 18 } : Room) s m #[(.ref a0), (.int p1)] below meth c s₁ [] 0 0 := Stand.of_body Bd
  have e0 : s₁.heap = h0 := by rw [← hh, Bd.state]; rfl
  have N0 := Fr.nil n0
  have D : ∀ {pc : Nat} {r : Except DecodeError (Instr × Nat)}, decode prog_56_method_19_code pc = r → decode c.code pc = r := fun q => hb hby q
  have pre0 : ∀ t, Steps p.tables e below (s₁.setTop (mkF m 0 #[.val (.ref a0), .val (.int p1), .unset, .unset] [])) t → Steps p.tables e below (s₁.setTop (entryFrame m #[(.ref a0), (.int p1)] 4)) t := fun t k => castTop (ef_9 m a0 p1) k
  obtain ⟨T1432, X1432, e1432, st1432⟩ := own_gf X0 hx hZ hown (own_wk hw 81 rfl) e0 Ob_a0 24 rfl rfl (g := (mkF m 1 #[.val (.ref a0), .val (.int p1), .unset, .unset] [(.ref a0)])) rfl rfl (D d9_1)
  obtain ⟨T1433, h1433, k1433, X1433, e1433, E1433, A1433, EA1433, st1433⟩ := newPE X1432 hx hZ (own_wk hw 9 rfl) e1432 (g := (mkF m 4 #[.val (.ref a0), .val (.int p1), .unset, .unset] [.int 2])) rfl (D d9_4) rfl (by decide) (cap := 2) (by decide) (by decide) (by decide) (by decide) (ad := "[D") (by decide)
  obtain ⟨b1433, g1433⟩ : ∃ z, z = h0.size := ⟨_, rfl⟩
  have ge_b1433 : n0 ≤ b1433 := Nat.le_trans Z0 (Nat.le_of_eq g1433.symm)
  have gs_b1433 : h0.size ≤ b1433 := Nat.le_trans (Keep.refl h0 []).1 (Nat.le_of_eq g1433.symm)
  rw [← g1433] at A1433 st1433 EA1433
  have kp1434 : Keep h0 h1433 [] := (Keep.refl h0 []).ext E1433
  have V1433 : Arv Z h1433 b1433 k1433 .double (2 : Int32) [(.double (0 : UInt64)), (.double (0 : UInt64))] (.double (0 : UInt64)) := (Arv.new A1433 (by decide)).pad (pad_rep [] (.double (0 : UInt64)) 2)
  obtain ⟨cq1435, q1435, q1435'⟩ := (E_a0.keep kp1434).cell
  obtain ⟨_, _, ⟨T1435, L1435, k1435, n1435⟩, -, X1435, ⟨Lc1435, hQ1435, l1435, y1435, z1435⟩, st1435⟩ := X1433.privateBack hx (y := (⟨own_K, "addColumn", "([DID)V"⟩ : MethodName)) hown (mvT hZ (own_wk hw 107 rfl)) (mvT hZ (own_wk hw 108 rfl)) (own_selp (ym := (⟨own_K, "addGroup", "()I"⟩ : MethodName)) (mvT hZ (own_wk hw 57 rfl)) rfl (Cond.privateMethod_at (mvP hZ (own_wk hw 109 rfl) (args := #[]))) (mvT hZ (own_wk hw 108 rfl)) (by decide)) (Cond.privateMethod_at (mvP hZ (own_wk hw 109 rfl) (args := #[]))) (mvT hZ (own_wk hw 110 rfl)) (by decide) (backOf (W := 0) (rm10_01 l Z ag hw [] a0 b1433 p1 (4607182418800017408 : UInt64) _ _ _ _ _ _ _ _ _ _ _ _ _ _ _ _ _ _ _ _ _ _ _ _ _ _ _ _ _ _ _ _ _ _ _ _ _ _ fe x0 x0 x1 x1 h1433 n0 (Nat.le_trans Z0 kp1434.1) (E_a0.keep kp1434) (Ob_a0.keep kp1434 nin0) (V_uf.keep kp1434 nin0) (V_ue.keep kp1434 nin0) (V_ur.keep kp1434 nin0) (V_uv.keep kp1434 nin0) V1433 ge_b1433 (Nat.ne_of_gt (Nat.lt_of_lt_of_le (Ob_a0.get 0 rfl rfl).lt gs_b1433)) (Nat.ne_of_gt (Nat.lt_of_lt_of_le V_uf.lt gs_b1433)) (Nat.ne_of_gt (Nat.lt_of_lt_of_le V_ue.lt gs_b1433)) (Nat.ne_of_gt (Nat.lt_of_lt_of_le V_ur.lt gs_b1433)) (Nat.ne_of_gt (Nat.lt_of_lt_of_le V_uv.lt gs_b1433)) hp1 hfe hle hi0 hlt0 hr0 hv0 (own_nmul own_w1 hwx0) (own_naz1 hwx0) (own_az1 hwx0) hi1 hlt1 hr1 hv1 (own_nmul own_w1 hwx1) (own_naz1 hwx1) (own_az1 hwx1) hend) hZ (own_wk hw 110 rfl) (own_wk hw 2 rfl) (by decide) (by decide)) (g := (mkF m 11 #[.val (.ref a0), .val (.int p1), .val (.ref b1433), .unset] [(.double (4607182418800017408 : UInt64)), (.int p1), (.ref b1433), (.ref a0)])) rfl (by rw [hml]; rfl) (Steps.refl _) (a := a0) (by rw [e1433]; exact q1435) q1435' (argsL := [(.ref b1433), (.int p1), (.double (4607182418800017408 : UInt64))]) (rest := []) (lenOf pd_13 rfl) rfl (by show 2 * 0 + _ ≤ _; exact Nat.le_of_eq rfl) (D d9_11) (fun _ _ => ⟨rfl, e1433, (by decide : 1 + 0 ≤ _), (by decide : 2 + 0 ≤ _)⟩)
  dsimp only [Pt.U, Pt.locs, Pt.cells, Pt.slots] at X1435 l1435 y1435 z1435 st1435 hQ1435
  subst l1435 y1435 z1435
  obtain ⟨rfl, N1435q, K1435, o1435_0⟩ := hQ1435
  have N1435 := Fr.app N0 N1435q
  have x1436 := EA1433.keep K1435
  have kp1437 : Keep h0 T1435.heap [] := kp1434.trans K1435 (allS (Or.inr gs_b1433) all0)
  obtain ⟨T1438, X1438, e1438, st1438⟩ := own_gf X1435 hx hZ hown (own_wk hw 13 rfl) rfl (Ob_a0.keep kp1437 nin0) 1 rfl rfl (g := (mkF m 15 #[.val (.ref a0), .val (.int p1), .val (.ref b1433), .unset] [(.ref a0)])) rfl rfl (D d9_15)
  have cp1441 : ∀ target, own_S p e below T1438 (mkF m 22 #[.val (.ref a0), .val (.int p1), .val (.ref b1433), .val (.int g)] [(.int g)]) target → own_S p e below s₁ (mkF m 0 #[.val (.ref a0), .val (.int p1), .unset, .unset] []) target := by
    intro target kt
    show own_S p e below s₁ (mkF m 0 #[.val (.ref a0), .val (.int p1), .unset, .unset] []) _
    refine XS.aloadN X0.here hx rfl (D d9_0) rfl rfl (st1432 _ (st1433 _ (XS.astoreN X1433.here hx rfl (D d9_6) rfl rfl (l' := #[.val (.ref a0), .val (.int p1), .val (.ref b1433), .unset]) rfl (XS.aloadN X1433.here hx rfl (D d9_7) rfl rfl (XS.aloadN X1433.here hx rfl (D d9_8) rfl rfl (XS.iloadN X1433.here hx rfl (D d9_9) rfl (XS.dconst1 X1433.here hx rfl (D d9_10) rfl (st1435.trans (XS.aloadN X1435.here hx rfl (D d9_14) rfl rfl ?_)))))))))
    refine st1438 _ (XS.iloadN X1438.here hx rfl (D d9_18) rfl (own_ldI X1438 hx hZ e1438 (V_ug.keep kp1437 nin0) (j := p1) hp1 (v := (.int g)) hg rfl rfl (D d9_19) (XS.istoreN X1438.here hx rfl (D d9_20) rfl (l' := #[.val (.ref a0), .val (.int p1), .val (.ref b1433), .val (.int g)]) rfl ?_)))
    show own_S p e below T1438 (mkF m 21 #[.val (.ref a0), .val (.int p1), .val (.ref b1433), .val (.int g)] []) _
    refine XS.iloadN X1438.here hx rfl (D d9_21) rfl ?_
    exact kt
  by_cases hc1440 : g < (0 : Int32)
  · obtain ⟨fs, hr, hrun, hended, hW, hsame⟩ := X1438.leave (v := some (.ref b1433)) (fun h => by rw [Bd.returns] at h; cases h)
    refine ⟨_, _, pre0 _ ?_, hrun, hended, _, _, rfl, ?_, ⟨_, rfl⟩, hW, hsame.mono (by decide) (by decide)⟩
    · show own_S p e below s₁ (mkF m 0 #[.val (.ref a0), .val (.int p1), .unset, .unset] []) _
      refine cp1441 _ (XS.ifYes X1438.here hx rfl (pc0 := 22) (pc' := 39) rfl (D d9_22) rfl ((if0 _ _).trans (tlt hc1440).1) (by decide) (by decide) (XS.aloadN X1438.here hx rfl (D d9_39) rfl rfl ?_))
      show own_S p e below T1438 (mkF m 40 #[.val (.ref a0), .val (.int p1), .val (.ref b1433), .val (.int g)] [(.ref b1433)]) _
      exact Jvm.RoadKit.retOut X1438 hx Bd.returns rfl (Or.inr (Or.inr (Or.inr (Or.inr ⟨rfl, rfl, rfl⟩)))) (D d9_40) hr
    · show own_Qc Z h0 n0 x0 x1 _ T1438.heap _
      rw [e1438]
      exact ⟨b1433, k1433, rfl, N1435, kp1437, ge_b1433, gs_b1433, x1436, o1435_0⟩
  · obtain ⟨T1442, X1442, e1442, st1442⟩ := own_gf X1438 hx hZ hown (own_wk hw 31 rfl) e1438 (Ob_a0.keep kp1437 nin0) 10 rfl rfl (g := (mkF m 28 #[.val (.ref a0), .val (.int p1), .val (.ref b1433), .val (.int g)] [(.ref a0), (.ref b1433), (.ref a0)])) rfl rfl (D d9_28)
    obtain ⟨cq1444, q1444, q1444'⟩ := (E_a0.keep kp1437).cell
    obtain ⟨_, _, ⟨T1444, L1444, k1444, n1444⟩, -, X1444, ⟨Lc1444, hQ1444, l1444, y1444, z1444⟩, st1444⟩ := X1442.privateBack hx (y := (⟨own_K, "addColumn", "([DID)V"⟩ : MethodName)) hown (mvT hZ (own_wk hw 107 rfl)) (mvT hZ (own_wk hw 108 rfl)) (own_selp (ym := (⟨own_K, "addGroup", "()I"⟩ : MethodName)) (mvT hZ (own_wk hw 57 rfl)) rfl (Cond.privateMethod_at (mvP hZ (own_wk hw 109 rfl) (args := #[]))) (mvT hZ (own_wk hw 108 rfl)) (by decide)) (Cond.privateMethod_at (mvP hZ (own_wk hw 109 rfl) (args := #[]))) (mvT hZ (own_wk hw 110 rfl)) (by decide) (backOf (W := 0) (rm10_n l Z ag hw [] a0 b1433 (0 : Int32) (13830554455654793216 : UInt64) _ _ _ _ _ _ _ _ _ _ _ _ _ _ _ _ _ _ _ _ _ _ _ _ _ _ _ _ _ _ _ _ _ _ _ _ _ _ fk T1435.heap n0 (Nat.le_trans Z0 kp1437.1) (E_a0.keep kp1437) (Ob_a0.keep kp1437 nin0) (V_uf.keep kp1437 nin0) (V_ue.keep kp1437 nin0) (V_ur.keep kp1437 nin0) (V_uv.keep kp1437 nin0) o1435_0 ge_b1433 (Nat.ne_of_gt (Nat.lt_of_lt_of_le (Ob_a0.get 0 rfl rfl).lt gs_b1433)) (Nat.ne_of_gt (Nat.lt_of_lt_of_le V_uf.lt gs_b1433)) (Nat.ne_of_gt (Nat.lt_of_lt_of_le V_ue.lt gs_b1433)) (Nat.ne_of_gt (Nat.lt_of_lt_of_le V_ur.lt gs_b1433)) (Nat.ne_of_gt (Nat.lt_of_lt_of_le V_uv.lt gs_b1433)) ⟨(by decide), (by decide)⟩ hfk hlk hek) hZ (own_wk hw 110 rfl) (own_wk hw 2 rfl) (by decide) (by decide)) (g := (mkF m 36 #[.val (.ref a0), .val (.int p1), .val (.ref b1433), .val (.int g)] [(.double (13830554455654793216 : UInt64)), .int 0, (.ref b1433), (.ref a0)])) rfl (by rw [hml]; rfl) (Steps.refl _) (a := a0) (by rw [e1442]; exact q1444) q1444' (argsL := [(.ref b1433), (.int (0 : Int32)), (.double (13830554455654793216 : UInt64))]) (rest := []) (lenOf pd_13 rfl) rfl (by show 2 * 0 + _ ≤ _; exact Nat.le_of_eq rfl) (D d9_36) (fun _ _ => ⟨rfl, e1442, (by decide : 1 + 0 ≤ _), (by decide : 2 + 0 ≤ _)⟩)
    dsimp only [Pt.U, Pt.locs, Pt.cells, Pt.slots] at X1444 l1444 y1444 z1444 st1444 hQ1444
    subst l1444 y1444 z1444
    obtain ⟨rfl, N1444q, K1444, o1444_0⟩ := hQ1444
    have N1444 := Fr.app N1435 N1444q
    have x1445 := x1436.keep K1444
    have kp1446 : Keep h0 T1444.heap [] := kp1437.trans K1444 (allS (Or.inr gs_b1433) all0)
    obtain ⟨fs, hr, hrun, hended, hW, hsame⟩ := X1444.leave (v := some (.ref b1433)) (fun h => by rw [Bd.returns] at h; cases h)
    refine ⟨_, _, pre0 _ ?_, hrun, hended, _, _, rfl, ?_, ⟨_, rfl⟩, hW, hsame.mono (by decide) (by decide)⟩
    · show own_S p e below s₁ (mkF m 0 #[.val (.ref a0), .val (.int p1), .unset, .unset] []) _
      refine cp1441 _ (XS.ifNo X1438.here hx rfl (D d9_22) rfl ((if0 _ _).trans (flt hc1440).1) (XS.aloadN X1438.here hx rfl (D d9_25) rfl rfl (XS.aloadN X1438.here hx rfl (D d9_26) rfl rfl (XS.aloadN X1438.here hx rfl (D d9_27) rfl rfl (st1442 _ (XS.iloadN X1442.here hx rfl (D d9_31) rfl (own_ldI X1442 hx hZ e1442 (V_uk.keep kp1437 nin0) (j := g) (own_g0 (hgz hc1440)) (v := (.int (0 : Int32))) (own_gk (hgz hc1440)) rfl rfl (D d9_32) (X1442.ldc2DoubleC hx hown (mvT hZ (own_wk hw 134 rfl)) (g := (mkF m 33 #[.val (.ref a0), .val (.int p1), .val (.ref b1433), .val (.int g)] [.int 0, (.ref b1433), (.ref a0)])) rfl (D d9_33) _ (st1444.trans ?_)))))))))
      refine XS.aloadN X1444.here hx rfl (D d9_39) rfl rfl ?_
      show own_S p e below T1444 (mkF m 40 #[.val (.ref a0), .val (.int p1), .val (.ref b1433), .val (.int g)] [(.ref b1433)]) _
      exact Jvm.RoadKit.retOut X1444 hx Bd.returns rfl (Or.inr (Or.inr (Or.inr (Or.inr ⟨rfl, rfl, rfl⟩)))) (D d9_40) hr
    · show own_Qc Z h0 n0 x0 x1 _ T1444.heap _
      exact ⟨b1433, k1433, rfl, N1444, kp1446, ge_b1433, gs_b1433, x1445, o1444_0⟩
def own_col (lf le lr lv lg : List Value) (v : Int32) (c0 c1 : UInt64) : Prop := (¬ v < 0 ∧ v < (16 : Int32)) ∧ (∃ g : Int32, lg.getD (v).toNatClampNeg (.int (0 : Int32)) = .int g ∧ (¬ g < 0 → g = 0)) ∧ own_w c0 ∧ own_w c1 ∧ ∃ fe : Int32, lf.getD (v).toNatClampNeg (.int (0 : Int32)) = .int fe ∧ (((le.getD (v).toNatClampNeg (.int (0 : Int32)) = .int (1 : Int32)) ∧ (¬ fe < 0 ∧ fe < (64 : Int32)) ∧ (fe < (fe + (1 : Int32))) ∧ (lr.getD (fe).toNatClampNeg (.int (0 : Int32)) = .int (0 : Int32)) ∧ (lv.getD (fe).toNatClampNeg (.double (0 : UInt64)) = .double c0) ∧ (¬ (fe + (1 : Int32)) < (fe + (1 : Int32))) ∧ c1 = (0 : UInt64)) ∨ ((le.getD (v).toNatClampNeg (.int (0 : Int32)) = .int (1 : Int32)) ∧ (¬ fe < 0 ∧ fe < (64 : Int32)) ∧ (fe < (fe + (1 : Int32))) ∧ (lr.getD (fe).toNatClampNeg (.int (0 : Int32)) = .int (1 : Int32)) ∧ (lv.getD (fe).toNatClampNeg (.double (0 : UInt64)) = .double c1) ∧ (¬ (fe + (1 : Int32)) < (fe + (1 : Int32))) ∧ c0 = (0 : UInt64)) ∨ ((le.getD (v).toNatClampNeg (.int (0 : Int32)) = .int (2 : Int32)) ∧ (¬ fe < 0 ∧ fe < (64 : Int32)) ∧ (fe < (fe + (2 : Int32))) ∧ (lr.getD (fe).toNatClampNeg (.int (0 : Int32)) = .int (0 : Int32)) ∧ (lv.getD (fe).toNatClampNeg (.double (0 : UInt64)) = .double c0) ∧ (¬ (fe + (1 : Int32)) < 0 ∧ (fe + (1 : Int32)) < (64 : Int32)) ∧ ((fe + (1 : Int32)) < (fe + (2 : Int32))) ∧ (lr.getD ((fe + (1 : Int32))).toNatClampNeg (.int (0 : Int32)) = .int (1 : Int32)) ∧ (lv.getD ((fe + (1 : Int32))).toNatClampNeg (.double (0 : UInt64)) = .double c1) ∧ (¬ ((fe + (1 : Int32)) + (1 : Int32)) < (fe + (2 : Int32)))))
def own_key (lf le : List Value) : Prop := ∃ fk : Int32, lf.getD ((0 : Int32)).toNatClampNeg (.int (0 : Int32)) = .int fk ∧ le.getD ((0 : Int32)).toNatClampNeg (.int (0 : Int32)) = .int (0 : Int32) ∧ ¬ fk < (fk + (0 : Int32))
theorem rm9 (l : Launch) (Z : State) (ag : Array Value) (hw : ∀ d ∈ tables_1, d.before ag Z = true) (ws : List Jvm.Cond) (a0 : Addr) (p1 : Int32) (w_costs : Value) (ug : Addr) (w_positionOf : Value) (uf ue : Addr) (w_entryRooms : Value) (ur uv : Addr) (w_bounds w_slacks : Value) (uk : Addr) (w_keyValues w_head w_inverse w_values w_groupDualPass w_groupDualValues w_rates w_rated w_ratedGroups w_started w_groupCount w_variableCount w_entriesUsed w_objective w_pivotsSinceInversion : Value) (kug : ClassId) (lg : List Value) (kuf : ClassId) (lf : List Value) (kue : ClassId) (le : List Value) (kur : ClassId) (lr : List Value) (kuv : ClassId) (lv : List Value) (kuk : ClassId) (c0 c1 : UInt64) (h0 : Heap) (n0 : Nat) (Z0 : n0 ≤ h0.size) (E_a0 : Exa Z h0 a0 own_K) (Ob_a0 : own_fs own_K own_N Z h0 a0 [w_costs, (.ref ug), w_positionOf, (.ref uf), (.ref ue), w_entryRooms, (.ref ur), (.ref uv), w_bounds, w_slacks, (.ref uk), w_keyValues, w_head, w_inverse, w_values, w_groupDualPass, w_groupDualValues, w_rates, w_rated, w_ratedGroups, w_started, w_groupCount, w_variableCount, w_entriesUsed, (.int (2 : Int32)), w_objective, w_pivotsSinceInversion]) (V_ug : Arv Z h0 ug kug .int (16 : Int32) lg (.int (0 : Int32))) (V_uf : Arv Z h0 uf kuf .int (16 : Int32) lf (.int (0 : Int32))) (V_ue : Arv Z h0 ue kue .int (16 : Int32) le (.int (0 : Int32))) (V_ur : Arv Z h0 ur kur .int (64 : Int32) lr (.int (0 : Int32))) (V_uv : Arv Z h0 uv kuv .double (64 : Int32) lv (.double (0 : UInt64))) (V_uk : Arv Z h0 uk kuk .int (1 : Int32) [(.int (0 : Int32))] (.int (0 : Int32))) (hcol : own_col lf le lr lv lg p1 c0 c1) (hkey : own_key lf le) :
    MetFree l (⟨own_K, "workingColumn", "(I)[D"⟩ : MethodName) (head1 (Jvm.Cond.code (⟨own_K, "workingColumn", "(I)[D"⟩ : MethodName) prog_56_method_19_code 4 (some (.array .double)) :: ws) ({ frames := 1, cells := 1, slots := 2, locals := 18 } : Room)) (fun a U => a = #[(.ref a0), (.int p1)] ∧ Z.Warmed39 U.vm ∧ U.heap = h0) (fun _ _ _ _ _ => True) (fun _ U o U' => ∃ v L, o = .returned v ∧ own_Qc Z h0 n0 c0 c1 v U'.heap L ∧ FrameEnd U o U' L ({ frames := 1, cells := 1, slots := 2, locals := 18 } : Room).cells ({ frames := 1, cells := 1, slots := 2, locals := 18 } : Room).slots) := by
  obtain ⟨fk, hfk, hlk, hek⟩ := hkey
  obtain ⟨hp1, ⟨g, hg, hgz⟩, w0, w1, fe, hfe, hc⟩ := hcol
  rcases hc with ⟨hle, hi0, hlt0, hr0, hv0, hend, rfl⟩ | ⟨hle, hi0, hlt0, hr0, hv0, hend, rfl⟩ | ⟨hle, hi0, hlt0, hr0, hv0, hi1, hlt1, hr1, hv1, hend⟩
  · exact rm9_0 l Z ag hw ws a0 p1 w_costs ug w_positionOf uf ue w_entryRooms ur uv w_bounds w_slacks uk w_keyValues w_head w_inverse w_values w_groupDualPass w_groupDualValues w_rates w_rated w_ratedGroups w_started w_groupCount w_variableCount w_entriesUsed w_objective w_pivotsSinceInversion kug lg kuf lf kue le kur lr kuv lv kuk g fe fk c0 h0 n0 Z0 E_a0 Ob_a0 V_ug V_uf V_ue V_ur V_uv V_uk hp1 hg hgz hfe hle hi0 hlt0 hr0 hv0 hend w0 hfk hlk hek
  · exact rm9_1 l Z ag hw ws a0 p1 w_costs ug w_positionOf uf ue w_entryRooms ur uv w_bounds w_slacks uk w_keyValues w_head w_inverse w_values w_groupDualPass w_groupDualValues w_rates w_rated w_ratedGroups w_started w_groupCount w_variableCount w_entriesUsed w_objective w_pivotsSinceInversion kug lg kuf lf kue le kur lr kuv lv kuk g fe fk c1 h0 n0 Z0 E_a0 Ob_a0 V_ug V_uf V_ue V_ur V_uv V_uk hp1 hg hgz hfe hle hi0 hlt0 hr0 hv0 hend w1 hfk hlk hek
  · exact rm9_01 l Z ag hw ws a0 p1 w_costs ug w_positionOf uf ue w_entryRooms ur uv w_bounds w_slacks uk w_keyValues w_head w_inverse w_values w_groupDualPass w_groupDualValues w_rates w_rated w_ratedGroups w_started w_groupCount w_variableCount w_entriesUsed w_objective w_pivotsSinceInversion kug lg kuf lf kue le kur lr kuv lv kuk g fe fk c0 c1 h0 n0 Z0 E_a0 Ob_a0 V_ug V_uf V_ue V_ur V_uv V_uk hp1 hg hgz hfe hle hi0 hlt0 hr0 hv0 hi1 hlt1 hr1 hv1 hend w0 w1 hfk hlk hek
def own_Qs (Z : State) (h0 : Heap) (n0 : Nat) (a0 : Addr) (ka0 : ClassId) (d0 d1 : Addr) (v : Option Value) (h : Heap) (L : List Loc) : Prop := v = none ∧ Fr n0 L ∧ Keep h0 h [a0] ∧ Arv Z h a0 ka0 (.array .double) (2 : Int32) [(.ref d0), (.ref d1)] .null
def own_swp (p1 p2 : Int32) (c0 c1 d0 d1 : Addr) : Prop := (p1 = 0 ∧ p2 = 0 ∧ d0 = c0 ∧ d1 = c1) ∨ (p1 = 1 ∧ p2 = 1 ∧ d0 = c0 ∧ d1 = c1) ∨ (p1 = 0 ∧ p2 = 1 ∧ d0 = c1 ∧ d1 = c0)
theorem ef_12_v00 (m : MethodId) (a0 : Addr) : entryFrame m #[(.ref a0), (.int (0 : Int32)), (.int (0 : Int32))] 4 = mkF m 0 #[.val (.ref a0), .val (.int 0), .val (.int 0), .unset] [] := by first | (simp [entryFrame, mkF, argsToLocals, Value.category]; done) | rfl
abbrev own_d12 (p : Nat) (i : Instr) (n : Nat) : Prop := decode prog_56_method_34_code p = .ok (i, n)
theorem d12_0 : own_d12 0 (.aload_n 0) 1 := by decide +kernel
theorem d12_1 : own_d12 1 (.iload_n 1) 1 := by decide +kernel
theorem d12_2 : own_d12 2 .aaload 1 := by decide +kernel
theorem d12_3 : own_d12 3 (.astore_n 3) 1 := by decide +kernel
theorem d12_4 : own_d12 4 (.aload_n 0) 1 := by decide +kernel
theorem d12_5 : own_d12 5 (.iload_n 1) 1 := by decide +kernel
theorem d12_6 : own_d12 6 (.aload_n 0) 1 := by decide +kernel
theorem d12_7 : own_d12 7 (.iload_n 2) 1 := by decide +kernel
theorem d12_8 : own_d12 8 .aaload 1 := by decide +kernel
theorem d12_9 : own_d12 9 .aastore 1 := by decide +kernel
theorem d12_10 : own_d12 10 (.aload_n 0) 1 := by decide +kernel
theorem d12_11 : own_d12 11 (.iload_n 2) 1 := by decide +kernel
theorem d12_12 : own_d12 12 (.aload_n 3) 1 := by decide +kernel
theorem d12_13 : own_d12 13 .aastore 1 := by decide +kernel
theorem d12_14 : own_d12 14 .return_ 1 := by decide +kernel
set_option maxRecDepth 65536 in
set_option maxHeartbeats 40000000 in
theorem rm12_00 (l : Launch) (Z : State) (ag : Array Value) (hw : ∀ d ∈ tables_1, d.before ag Z = true) (ws : List Jvm.Cond) (a0 : Addr) (ka0 : ClassId) (c0 c1 : Addr) (h0 : Heap) (n0 : Nat) (Z0 : n0 ≤ h0.size) (V_a0 : Arv Z h0 a0 ka0 (.array .double) (2 : Int32) [(.ref c0), (.ref c1)] .null) (E_c0 : Exa Z h0 c0 "[D") (E_c1 : Exa Z h0 c1 "[D") (ge_a0 : n0 ≤ a0) (ne_a0_c0 : a0 ≠ c0) (ne_a0_c1 : a0 ≠ c1) (O_a0 : OvrA Z ka0 .double "[D") :
    MetFree l (⟨own_K, "swap", "([[DII)V"⟩ : MethodName) (head1 (Jvm.Cond.code (⟨own_K, "swap", "([[DII)V"⟩ : MethodName) prog_56_method_34_code 4 none :: ws) ({ frames := 0, cells := 0, slots := 0, locals := 0 } : Room)) (fun a U => a = #[(.ref a0), (.int (0 : Int32)), (.int (0 : Int32))] ∧ Z.Warmed39 U.vm ∧ U.heap = h0) (fun _ _ _ _ _ => True) (fun _ U o U' => ∃ v L, o = .returned v ∧ own_Qs Z h0 n0 a0 ka0 c0 c1 v U'.heap L ∧ FrameEnd U o U' L ({ frames := 0, cells := 0, slots := 0, locals := 0 } : Room).cells ({ frames := 0, cells := 0, slots := 0, locals := 0 } : Room).slots) := by
  refine MetFree.of_bodySF (plainFor_of_name pn_0) hisR ?_
  intro p e s m args below meth c s₁ Bd hml0 hP hK
  obtain ⟨rfl, hZ, hh⟩ := hP
  have hx := Bd.exec
  have hby := Bd.bytes
  have hml : c.maxLocals = 4 := hml0
  have hown : s.vm.findClass own_K = some m.cls := findClass_of_methodNamed Bd.named
  have hnm := (name_of_methodNamed Bd.named Bd.method).1
  have X0 : Stand p l e ({ frames := 0, cells := 0, slots := 0, locals := 0 } : Room) s m #[(.ref a0), (.int (0 : Int32)), (.int (0 : Int32))] below meth c s₁ [] 0 0 := Stand.of_body Bd
  have e0 : s₁.heap = h0 := by rw [← hh, Bd.state]; rfl
  have N0 := Fr.nil n0
  have D : ∀ {pc : Nat} {r : Except DecodeError (Instr × Nat)}, decode prog_56_method_34_code pc = r → decode c.code pc = r := fun q => hb hby q
  have pre0 : ∀ t, Steps p.tables e below (s₁.setTop (mkF m 0 #[.val (.ref a0), .val (.int 0), .val (.int 0), .unset] [])) t → Steps p.tables e below (s₁.setTop (entryFrame m #[(.ref a0), (.int (0 : Int32)), (.int (0 : Int32))] 4)) t := fun t k => castTop (ef_12_v00 m a0) k
  obtain ⟨T1449, h1449, X1449, e1449, W1449, V1449, st1449⟩ := own_stA X0 hx hZ e0 V_a0 O_a0 E_c0 (j := (0 : Int32)) ⟨(by decide), (by decide)⟩ 0 rfl (Nat.le_of_ble_eq_true rfl) (vs' := [(.ref c0), (.ref c1)]) rfl (g := (mkF m 9 #[.val (.ref a0), .val (.int 0), .val (.int 0), .val (.ref c0)] [(.ref c0), .int 0, (.ref a0)])) rfl rfl (D d12_9)
  have x1450 := E_c0.wr W1449
  have x1451 := E_c1.wr W1449
  have kp1452 : Keep h0 h1449 [a0] := (Keep.refl h0 [a0]).wr W1449 (Or.inl (List.mem_of_getElem? (i := 0) rfl))
  have N1449 := Fr.snoc X1449 N0 ge_a0
  obtain ⟨T1453, h1453, X1453, e1453, W1453, V1453, st1453⟩ := own_stA X1449 hx hZ e1449 V1449 O_a0 x1450 (j := (0 : Int32)) ⟨(by decide), (by decide)⟩ 0 rfl (Nat.le_of_ble_eq_true rfl) (vs' := [(.ref c0), (.ref c1)]) rfl (g := (mkF m 13 #[.val (.ref a0), .val (.int 0), .val (.int 0), .val (.ref c0)] [(.ref c0), .int 0, (.ref a0)])) rfl rfl (D d12_13)
  have x1454 := x1450.wr W1453
  have x1455 := x1451.wr W1453
  have kp1456 : Keep h0 h1453 [a0] := kp1452.wr W1453 (Or.inl (List.mem_of_getElem? (i := 0) rfl))
  have N1453 := Fr.snoc X1453 N1449 ge_a0
  obtain ⟨fs, hr, hrun, hended, hW, hsame⟩ := X1453.leave (v := none) (fun _ => rfl)
  refine ⟨_, _, pre0 _ ?_, hrun, hended, _, _, rfl, ?_, ⟨_, rfl⟩, hW, hsame.mono (by decide) (by decide)⟩
  · show own_S p e below s₁ (mkF m 0 #[.val (.ref a0), .val (.int 0), .val (.int 0), .unset] []) _
    refine XS.aloadN X0.here hx rfl (D d12_0) rfl rfl (XS.iloadN X0.here hx rfl (D d12_1) rfl (own_ldA X0 hx hZ e0 V_a0 (j := (0 : Int32)) ⟨(by decide), (by decide)⟩ (v := (.ref c0)) rfl rfl rfl (D d12_2) (XS.astoreN X0.here hx rfl (D d12_3) rfl rfl (l' := #[.val (.ref a0), .val (.int 0), .val (.int 0), .val (.ref c0)]) rfl (XS.aloadN X0.here hx rfl (D d12_4) rfl rfl (XS.iloadN X0.here hx rfl (D d12_5) rfl (XS.aloadN X0.here hx rfl (D d12_6) rfl rfl (XS.iloadN X0.here hx rfl (D d12_7) rfl (own_ldA X0 hx hZ e0 V_a0 (j := (0 : Int32)) ⟨(by decide), (by decide)⟩ (v := (.ref c0)) rfl rfl rfl (D d12_8) (st1449 _ ?_)))))))))
    refine XS.aloadN X1449.here hx rfl (D d12_10) rfl rfl (XS.iloadN X1449.here hx rfl (D d12_11) rfl (XS.aloadN X1449.here hx rfl (D d12_12) rfl rfl (st1453 _ ?_)))
    show own_S p e below T1453 (mkF m 14 #[.val (.ref a0), .val (.int 0), .val (.int 0), .val (.ref c0)] []) _
    exact X1453.returnOut hx Bd.returns (D d12_14) hr
  · show own_Qs Z h0 n0 a0 ka0 c0 c1 _ T1453.heap _
    rw [e1453]
    exact ⟨rfl, N1453, kp1456, V1453⟩
theorem ef_12_v11 (m : MethodId) (a0 : Addr) : entryFrame m #[(.ref a0), (.int (1 : Int32)), (.int (1 : Int32))] 4 = mkF m 0 #[.val (.ref a0), .val (.int 1), .val (.int 1), .unset] [] := by first | (simp [entryFrame, mkF, argsToLocals, Value.category]; done) | rfl
set_option maxRecDepth 65536 in
set_option maxHeartbeats 40000000 in
theorem rm12_11 (l : Launch) (Z : State) (ag : Array Value) (hw : ∀ d ∈ tables_1, d.before ag Z = true) (ws : List Jvm.Cond) (a0 : Addr) (ka0 : ClassId) (c0 c1 : Addr) (h0 : Heap) (n0 : Nat) (Z0 : n0 ≤ h0.size) (V_a0 : Arv Z h0 a0 ka0 (.array .double) (2 : Int32) [(.ref c0), (.ref c1)] .null) (E_c0 : Exa Z h0 c0 "[D") (E_c1 : Exa Z h0 c1 "[D") (ge_a0 : n0 ≤ a0) (ne_a0_c0 : a0 ≠ c0) (ne_a0_c1 : a0 ≠ c1) (O_a0 : OvrA Z ka0 .double "[D") :
    MetFree l (⟨own_K, "swap", "([[DII)V"⟩ : MethodName) (head1 (Jvm.Cond.code (⟨own_K, "swap", "([[DII)V"⟩ : MethodName) prog_56_method_34_code 4 none :: ws) ({ frames := 0, cells := 0, slots := 0, locals := 0 } : Room)) (fun a U => a = #[(.ref a0), (.int (1 : Int32)), (.int (1 : Int32))] ∧ Z.Warmed39 U.vm ∧ U.heap = h0) (fun _ _ _ _ _ => True) (fun _ U o U' => ∃ v L, o = .returned v ∧ own_Qs Z h0 n0 a0 ka0 c0 c1 v U'.heap L ∧ FrameEnd U o U' L ({ frames := 0, cells := 0, slots := 0, locals := 0 } : Room).cells ({ frames := 0, cells := 0, slots := 0, locals := 0 } : Room).slots) := by
  refine MetFree.of_bodySF (plainFor_of_name pn_0) hisR ?_
  intro p e s m args below meth c s₁ Bd hml0 hP hK
  obtain ⟨rfl, hZ, hh⟩ := hP
  have hx := Bd.exec
  have hby := Bd.bytes
  have hml : c.maxLocals = 4 := hml0
  have hown : s.vm.findClass own_K = some m.cls := findClass_of_methodNamed Bd.named
  have hnm := (name_of_methodNamed Bd.named Bd.method).1
  have X0 : Stand p l e ({ frames := 0, cells := 0, slots := 0, locals := 0 } : Room) s m #[(.ref a0), (.int (1 : Int32)), (.int (1 : Int32))] below meth c s₁ [] 0 0 := Stand.of_body Bd
  have e0 : s₁.heap = h0 := by rw [← hh, Bd.state]; rfl
  have N0 := Fr.nil n0
  have D : ∀ {pc : Nat} {r : Except DecodeError (Instr × Nat)}, decode prog_56_method_34_code pc = r → decode c.code pc = r := fun q => hb hby q
  have pre0 : ∀ t, Steps p.tables e below (s₁.setTop (mkF m 0 #[.val (.ref a0), .val (.int 1), .val (.int 1), .unset] [])) t → Steps p.tables e below (s₁.setTop (entryFrame m #[(.ref a0), (.int (1 : Int32)), (.int (1 : Int32))] 4)) t := fun t k => castTop (ef_12_v11 m a0) k
  obtain ⟨T1459, h1459, X1459, e1459, W1459, V1459, st1459⟩ := own_stA X0 hx hZ e0 V_a0 O_a0 E_c1 (j := (1 : Int32)) ⟨(by decide), (by decide)⟩ 1 rfl (Nat.le_of_ble_eq_true rfl) (vs' := [(.ref c0), (.ref c1)]) rfl (g := (mkF m 9 #[.val (.ref a0), .val (.int 1), .val (.int 1), .val (.ref c1)] [(.ref c1), .int 1, (.ref a0)])) rfl rfl (D d12_9)
  have x1460 := E_c0.wr W1459
  have x1461 := E_c1.wr W1459
  have kp1462 : Keep h0 h1459 [a0] := (Keep.refl h0 [a0]).wr W1459 (Or.inl (List.mem_of_getElem? (i := 0) rfl))
  have N1459 := Fr.snoc X1459 N0 ge_a0
  obtain ⟨T1463, h1463, X1463, e1463, W1463, V1463, st1463⟩ := own_stA X1459 hx hZ e1459 V1459 O_a0 x1461 (j := (1 : Int32)) ⟨(by decide), (by decide)⟩ 1 rfl (Nat.le_of_ble_eq_true rfl) (vs' := [(.ref c0), (.ref c1)]) rfl (g := (mkF m 13 #[.val (.ref a0), .val (.int 1), .val (.int 1), .val (.ref c1)] [(.ref c1), .int 1, (.ref a0)])) rfl rfl (D d12_13)
  have x1464 := x1460.wr W1463
  have x1465 := x1461.wr W1463
  have kp1466 : Keep h0 h1463 [a0] := kp1462.wr W1463 (Or.inl (List.mem_of_getElem? (i := 0) rfl))
  have N1463 := Fr.snoc X1463 N1459 ge_a0
  obtain ⟨fs, hr, hrun, hended, hW, hsame⟩ := X1463.leave (v := none) (fun _ => rfl)
  refine ⟨_, _, pre0 _ ?_, hrun, hended, _, _, rfl, ?_, ⟨_, rfl⟩, hW, hsame.mono (by decide) (by decide)⟩
  · show own_S p e below s₁ (mkF m 0 #[.val (.ref a0), .val (.int 1), .val (.int 1), .unset] []) _
    refine XS.aloadN X0.here hx rfl (D d12_0) rfl rfl (XS.iloadN X0.here hx rfl (D d12_1) rfl (own_ldA X0 hx hZ e0 V_a0 (j := (1 : Int32)) ⟨(by decide), (by decide)⟩ (v := (.ref c1)) rfl rfl rfl (D d12_2) (XS.astoreN X0.here hx rfl (D d12_3) rfl rfl (l' := #[.val (.ref a0), .val (.int 1), .val (.int 1), .val (.ref c1)]) rfl (XS.aloadN X0.here hx rfl (D d12_4) rfl rfl (XS.iloadN X0.here hx rfl (D d12_5) rfl (XS.aloadN X0.here hx rfl (D d12_6) rfl rfl (XS.iloadN X0.here hx rfl (D d12_7) rfl (own_ldA X0 hx hZ e0 V_a0 (j := (1 : Int32)) ⟨(by decide), (by decide)⟩ (v := (.ref c1)) rfl rfl rfl (D d12_8) (st1459 _ ?_)))))))))
    refine XS.aloadN X1459.here hx rfl (D d12_10) rfl rfl (XS.iloadN X1459.here hx rfl (D d12_11) rfl (XS.aloadN X1459.here hx rfl (D d12_12) rfl rfl (st1463 _ ?_)))
    show own_S p e below T1463 (mkF m 14 #[.val (.ref a0), .val (.int 1), .val (.int 1), .val (.ref c1)] []) _
    exact X1463.returnOut hx Bd.returns (D d12_14) hr
  · show own_Qs Z h0 n0 a0 ka0 c0 c1 _ T1463.heap _
    rw [e1463]
    exact ⟨rfl, N1463, kp1466, V1463⟩
theorem ef_12_v01 (m : MethodId) (a0 : Addr) : entryFrame m #[(.ref a0), (.int (0 : Int32)), (.int (1 : Int32))] 4 = mkF m 0 #[.val (.ref a0), .val (.int 0), .val (.int 1), .unset] [] := by first | (simp [entryFrame, mkF, argsToLocals, Value.category]; done) | rfl
set_option maxRecDepth 65536 in
set_option maxHeartbeats 40000000 in
theorem rm12_01 (l : Launch) (Z : State) (ag : Array Value) (hw : ∀ d ∈ tables_1, d.before ag Z = true) (ws : List Jvm.Cond) (a0 : Addr) (ka0 : ClassId) (c0 c1 : Addr) (h0 : Heap) (n0 : Nat) (Z0 : n0 ≤ h0.size) (V_a0 : Arv Z h0 a0 ka0 (.array .double) (2 : Int32) [(.ref c0), (.ref c1)] .null) (E_c0 : Exa Z h0 c0 "[D") (E_c1 : Exa Z h0 c1 "[D") (ge_a0 : n0 ≤ a0) (ne_a0_c0 : a0 ≠ c0) (ne_a0_c1 : a0 ≠ c1) (O_a0 : OvrA Z ka0 .double "[D") :
    MetFree l (⟨own_K, "swap", "([[DII)V"⟩ : MethodName) (head1 (Jvm.Cond.code (⟨own_K, "swap", "([[DII)V"⟩ : MethodName) prog_56_method_34_code 4 none :: ws) ({ frames := 0, cells := 0, slots := 0, locals := 0 } : Room)) (fun a U => a = #[(.ref a0), (.int (0 : Int32)), (.int (1 : Int32))] ∧ Z.Warmed39 U.vm ∧ U.heap = h0) (fun _ _ _ _ _ => True) (fun _ U o U' => ∃ v L, o = .returned v ∧ own_Qs Z h0 n0 a0 ka0 c1 c0 v U'.heap L ∧ FrameEnd U o U' L ({ frames := 0, cells := 0, slots := 0, locals := 0 } : Room).cells ({ frames := 0, cells := 0, slots := 0, locals := 0 } : Room).slots) := by
  refine MetFree.of_bodySF (plainFor_of_name pn_0) hisR ?_
  intro p e s m args below meth c s₁ Bd hml0 hP hK
  obtain ⟨rfl, hZ, hh⟩ := hP
  have hx := Bd.exec
  have hby := Bd.bytes
  have hml : c.maxLocals = 4 := hml0
  have hown : s.vm.findClass own_K = some m.cls := findClass_of_methodNamed Bd.named
  have hnm := (name_of_methodNamed Bd.named Bd.method).1
  have X0 : Stand p l e ({ frames := 0, cells := 0, slots := 0, locals := 0 } : Room) s m #[(.ref a0), (.int (0 : Int32)), (.int (1 : Int32))] below meth c s₁ [] 0 0 := Stand.of_body Bd
  have e0 : s₁.heap = h0 := by rw [← hh, Bd.state]; rfl
  have N0 := Fr.nil n0
  have D : ∀ {pc : Nat} {r : Except DecodeError (Instr × Nat)}, decode prog_56_method_34_code pc = r → decode c.code pc = r := fun q => hb hby q
  have pre0 : ∀ t, Steps p.tables e below (s₁.setTop (mkF m 0 #[.val (.ref a0), .val (.int 0), .val (.int 1), .unset] [])) t → Steps p.tables e below (s₁.setTop (entryFrame m #[(.ref a0), (.int (0 : Int32)), (.int (1 : Int32))] 4)) t := fun t k => castTop (ef_12_v01 m a0) k
  obtain ⟨T1469, h1469, X1469, e1469, W1469, V1469, st1469⟩ := own_stA X0 hx hZ e0 V_a0 O_a0 E_c1 (j := (0 : Int32)) ⟨(by decide), (by decide)⟩ 0 rfl (Nat.le_of_ble_eq_true rfl) (vs' := [(.ref c1), (.ref c1)]) rfl (g := (mkF m 9 #[.val (.ref a0), .val (.int 0), .val (.int 1), .val (.ref c0)] [(.ref c1), .int 0, (.ref a0)])) rfl rfl (D d12_9)
  have x1470 := E_c0.wr W1469
  have x1471 := E_c1.wr W1469
  have kp1472 : Keep h0 h1469 [a0] := (Keep.refl h0 [a0]).wr W1469 (Or.inl (List.mem_of_getElem? (i := 0) rfl))
  have N1469 := Fr.snoc X1469 N0 ge_a0
  obtain ⟨T1473, h1473, X1473, e1473, W1473, V1473, st1473⟩ := own_stA X1469 hx hZ e1469 V1469 O_a0 x1470 (j := (1 : Int32)) ⟨(by decide), (by decide)⟩ 1 rfl (Nat.le_of_ble_eq_true rfl) (vs' := [(.ref c1), (.ref c0)]) rfl (g := (mkF m 13 #[.val (.ref a0), .val (.int 0), .val (.int 1), .val (.ref c0)] [(.ref c0), .int 1, (.ref a0)])) rfl rfl (D d12_13)
  have x1474 := x1470.wr W1473
  have x1475 := x1471.wr W1473
  have kp1476 : Keep h0 h1473 [a0] := kp1472.wr W1473 (Or.inl (List.mem_of_getElem? (i := 0) rfl))
  have N1473 := Fr.snoc X1473 N1469 ge_a0
  obtain ⟨fs, hr, hrun, hended, hW, hsame⟩ := X1473.leave (v := none) (fun _ => rfl)
  refine ⟨_, _, pre0 _ ?_, hrun, hended, _, _, rfl, ?_, ⟨_, rfl⟩, hW, hsame.mono (by decide) (by decide)⟩
  · show own_S p e below s₁ (mkF m 0 #[.val (.ref a0), .val (.int 0), .val (.int 1), .unset] []) _
    refine XS.aloadN X0.here hx rfl (D d12_0) rfl rfl (XS.iloadN X0.here hx rfl (D d12_1) rfl (own_ldA X0 hx hZ e0 V_a0 (j := (0 : Int32)) ⟨(by decide), (by decide)⟩ (v := (.ref c0)) rfl rfl rfl (D d12_2) (XS.astoreN X0.here hx rfl (D d12_3) rfl rfl (l' := #[.val (.ref a0), .val (.int 0), .val (.int 1), .val (.ref c0)]) rfl (XS.aloadN X0.here hx rfl (D d12_4) rfl rfl (XS.iloadN X0.here hx rfl (D d12_5) rfl (XS.aloadN X0.here hx rfl (D d12_6) rfl rfl (XS.iloadN X0.here hx rfl (D d12_7) rfl (own_ldA X0 hx hZ e0 V_a0 (j := (1 : Int32)) ⟨(by decide), (by decide)⟩ (v := (.ref c1)) rfl rfl rfl (D d12_8) (st1469 _ ?_)))))))))
    refine XS.aloadN X1469.here hx rfl (D d12_10) rfl rfl (XS.iloadN X1469.here hx rfl (D d12_11) rfl (XS.aloadN X1469.here hx rfl (D d12_12) rfl rfl (st1473 _ ?_)))
    show own_S p e below T1473 (mkF m 14 #[.val (.ref a0), .val (.int 0), .val (.int 1), .val (.ref c0)] []) _
    exact X1473.returnOut hx Bd.returns (D d12_14) hr
  · show own_Qs Z h0 n0 a0 ka0 c1 c0 _ T1473.heap _
    rw [e1473]
    exact ⟨rfl, N1473, kp1476, V1473⟩
theorem ef_12 (m : MethodId) (a0 : Addr) (p1 : Int32) (p2 : Int32) : entryFrame m #[(.ref a0), (.int p1), (.int p2)] 4 = mkF m 0 #[.val (.ref a0), .val (.int p1), .val (.int p2), .unset] [] := by first | (simp [entryFrame, mkF, argsToLocals, Value.category]; done) | rfl
theorem rm12 (l : Launch) (Z : State) (ag : Array Value) (hw : ∀ d ∈ tables_1, d.before ag Z = true) (ws : List Jvm.Cond) (a0 : Addr) (p1 p2 : Int32) (ka0 : ClassId) (c0 c1 d0 d1 : Addr) (h0 : Heap) (n0 : Nat) (Z0 : n0 ≤ h0.size) (V_a0 : Arv Z h0 a0 ka0 (.array .double) (2 : Int32) [(.ref c0), (.ref c1)] .null) (E_c0 : Exa Z h0 c0 "[D") (E_c1 : Exa Z h0 c1 "[D") (ge_a0 : n0 ≤ a0) (ne_a0_c0 : a0 ≠ c0) (ne_a0_c1 : a0 ≠ c1) (O_a0 : OvrA Z ka0 .double "[D") (hsp : own_swp p1 p2 c0 c1 d0 d1) :
    MetFree l (⟨own_K, "swap", "([[DII)V"⟩ : MethodName) (head1 (Jvm.Cond.code (⟨own_K, "swap", "([[DII)V"⟩ : MethodName) prog_56_method_34_code 4 none :: ws) ({ frames := 0, cells := 0, slots := 0, locals := 0 } : Room)) (fun a U => a = #[(.ref a0), (.int p1), (.int p2)] ∧ Z.Warmed39 U.vm ∧ U.heap = h0) (fun _ _ _ _ _ => True) (fun _ U o U' => ∃ v L, o = .returned v ∧ own_Qs Z h0 n0 a0 ka0 d0 d1 v U'.heap L ∧ FrameEnd U o U' L ({ frames := 0, cells := 0, slots := 0, locals := 0 } : Room).cells ({ frames := 0, cells := 0, slots := 0, locals := 0 } : Room).slots) := by
  rcases hsp with ⟨rfl, rfl, rfl, rfl⟩ | ⟨rfl, rfl, rfl, rfl⟩ | ⟨rfl, rfl, rfl, rfl⟩
  · exact rm12_00 l Z ag hw ws a0 ka0 _ _ h0 n0 Z0 V_a0 E_c0 E_c1 ge_a0 ne_a0_c0 ne_a0_c1 O_a0
  · exact rm12_11 l Z ag hw ws a0 ka0 _ _ h0 n0 Z0 V_a0 E_c0 E_c1 ge_a0 ne_a0_c0 ne_a0_c1 O_a0
  · exact rm12_01 l Z ag hw ws a0 ka0 _ _ h0 n0 Z0 V_a0 E_c0 E_c1 ge_a0 ne_a0_c0 ne_a0_c1 O_a0
theorem ef_13 (m : MethodId) (p0 : Int32) (p1 : Int32) : entryFrame m #[(.int p0), (.int p1)] 2 = mkF m 0 #[.val (.int p0), .val (.int p1)] [] := by first | (simp [entryFrame, mkF, argsToLocals, Value.category]; done) | rfl
abbrev own_d13 (p : Nat) (i : Instr) (n : Nat) : Prop := decode jdk_29_method_65_code p = .ok (i, n)
theorem d13_0 : own_d13 0 (.iload_n 0) 1 := by decide +kernel
theorem d13_1 : own_d13 1 (.iload_n 1) 1 := by decide +kernel
theorem d13_2 : own_d13 2 (.if_icmp .lt 7) 3 := by decide +kernel
theorem d13_9 : own_d13 9 (.iload_n 1) 1 := by decide +kernel
theorem d13_5 : own_d13 5 (.iload_n 0) 1 := by decide +kernel
theorem d13_6 : own_d13 6 (.goto 4) 3 := by decide +kernel
def own_max (p0 : Int32) (p1 : Int32) : Int32 := (if p0 < p1 then p1 else p0)
def Q13 (Z : State) (p0 p1 : Int32) (h0 : Heap) (n0 : Nat) (v : Option Value) (h : Heap) (L : List Loc) : Prop := v = some (.int (own_max p0 p1)) ∧ Fr n0 L ∧ h = h0
theorem d13_10 : own_d13 10 .ireturn 1 := by decide +kernel
set_option maxRecDepth 65536 in
set_option maxHeartbeats 40000000 in
theorem rm13 (l : Launch) (Z : State) (ag : Array Value) (hw : ∀ d ∈ tables_1, d.before ag Z = true) (ws : List Jvm.Cond) (p0 p1 : Int32) (h0 : Heap) (n0 : Nat) (Z0 : n0 ≤ h0.size) :
    MetFree l (⟨"java/lang/Math", "max", "(II)I"⟩ : MethodName) (head1 (Jvm.Cond.code (⟨"java/lang/Math", "max", "(II)I"⟩ : MethodName) jdk_29_method_65_code 2 (some .int) :: ws) ({ frames := 0, cells := 0, slots := 0, locals := 0 } : Room)) (fun a U => a = #[(.int p0), (.int p1)] ∧ Z.Warmed39 U.vm ∧ U.heap = h0) (fun _ _ _ _ _ => True) (fun _ U o U' => ∃ v L, o = .returned v ∧ Q13 Z p0 p1 h0 n0 v U'.heap L ∧ FrameEnd U o U' L ({ frames := 0, cells := 0, slots := 0, locals := 0 } : Room).cells ({ frames := 0, cells := 0, slots := 0, locals := 0 } : Room).slots) := by
  refine MetFree.of_bodySF (Jvm.Free.JP.mathPlain rfl (by decide +kernel)) hisR ?_
  intro p e s m args below meth c s₁ Bd hml0 hP hK
  obtain ⟨rfl, hZ, hh⟩ := hP
  have hx := Bd.exec
  have hby := Bd.bytes
  have hml : c.maxLocals = 2 := hml0
  have hown : s.vm.findClass "java/lang/Math" = some m.cls := findClass_of_methodNamed Bd.named
  have hnm := (name_of_methodNamed Bd.named Bd.method).1
  have X0 : Stand p l e ({ frames := 0, cells := 0, slots := 0, locals := 0 } : Room) s m #[(.int p0), (.int p1)] below meth c s₁ [] 0 0 := Stand.of_body Bd
  have e0 : s₁.heap = h0 := by rw [← hh, Bd.state]; rfl
  have N0 := Fr.nil n0
  have D : ∀ {pc : Nat} {r : Except DecodeError (Instr × Nat)}, decode jdk_29_method_65_code pc = r → decode c.code pc = r := fun q => hb hby q
  have pre0 : ∀ t, Steps p.tables e below (s₁.setTop (mkF m 0 #[.val (.int p0), .val (.int p1)] [])) t → Steps p.tables e below (s₁.setTop (entryFrame m #[(.int p0), (.int p1)] 2)) t := fun t k => castTop (ef_13 m p0 p1) k
  obtain ⟨fs, hr, hrun, hended, hW, hsame⟩ := X0.leave (v := some (.int (own_max p0 p1))) (fun h => by rw [Bd.returns] at h; cases h)
  refine ⟨_, _, pre0 _ ?_, hrun, hended, _, _, rfl, ?_, ⟨_, rfl⟩, hW, hsame.mono (by decide) (by decide)⟩
  · show own_S p e below s₁ (mkF m 0 #[.val (.int p0), .val (.int p1)] []) _
    refine XS.iloadN X0.here hx rfl (D d13_0) rfl (XS.iloadN X0.here hx rfl (D d13_1) rfl ?_)
    by_cases hc1477 : p0 < p1
    · show own_S p e below s₁ (mkF m 2 #[.val (.int p0), .val (.int p1)] [(.int p1), (.int p0)]) _
      refine XS.icmpYes X0.here hx rfl (pc0 := 2) (pc' := 9) rfl (D d13_2) rfl (tlt hc1477).1 (by decide) (by decide) (XS.iloadN X0.here hx rfl (D d13_9) rfl ?_)
      show own_S p e below s₁ (mkF m 10 #[.val (.int p0), .val (.int p1)] [(.int p1)]) _
      have q : (own_max p0 p1) = p1 := by unfold own_max; rw [if_pos hc1477]
      have hr := own_cast (P := fun z => ∀ (f : JFrame) (acts : List Action), f.method = m → f.locked = none → f.entered = [] → (doReturn e (s₁.setTop f) acts (some (.int z))).1 = s₁.setFrames fs) q hr
      exact retI X0 hx Bd.returns (D d13_10) hr
    · show own_S p e below s₁ (mkF m 2 #[.val (.int p0), .val (.int p1)] [(.int p1), (.int p0)]) _
      refine XS.icmpNo X0.here hx rfl (D d13_2) rfl (flt hc1477).1 (XS.iloadN X0.here hx rfl (D d13_5) rfl (XS.goto X0.here hx rfl (pc0 := 6) (pc' := 10) rfl (D d13_6) (by decide) (by decide) ?_))
      show own_S p e below s₁ (mkF m 10 #[.val (.int p0), .val (.int p1)] [(.int p0)]) _
      have q : (own_max p0 p1) = p0 := by unfold own_max; rw [if_neg hc1477]
      have hr := own_cast (P := fun z => ∀ (f : JFrame) (acts : List Action), f.method = m → f.locked = none → f.entered = [] → (doReturn e (s₁.setTop f) acts (some (.int z))).1 = s₁.setFrames fs) q hr
      exact retI X0 hx Bd.returns (D d13_10) hr
  · show Q13 Z p0 p1 h0 n0 _ s₁.heap _
    rw [e0]
    exact ⟨rfl, N0, rfl⟩
theorem ef_15 (m : MethodId) (p0 : Int32) (p1 : Int32) : entryFrame m #[(.int p0), (.int p1)] 2 = mkF m 0 #[.val (.int p0), .val (.int p1)] [] := by first | (simp [entryFrame, mkF, argsToLocals, Value.category]; done) | rfl
abbrev own_d15 (p : Nat) (i : Instr) (n : Nat) : Prop := decode jdk_29_method_69_code p = .ok (i, n)
theorem d15_0 : own_d15 0 (.iload_n 0) 1 := by decide +kernel
theorem d15_1 : own_d15 1 (.iload_n 1) 1 := by decide +kernel
theorem d15_2 : own_d15 2 (.if_icmp .gt 7) 3 := by decide +kernel
theorem d15_9 : own_d15 9 (.iload_n 1) 1 := by decide +kernel
theorem d15_5 : own_d15 5 (.iload_n 0) 1 := by decide +kernel
theorem d15_6 : own_d15 6 (.goto 4) 3 := by decide +kernel
def own_min (p0 : Int32) (p1 : Int32) : Int32 := (if p1 < p0 then p1 else p0)
def Q15 (Z : State) (p0 p1 : Int32) (h0 : Heap) (n0 : Nat) (v : Option Value) (h : Heap) (L : List Loc) : Prop := v = some (.int (own_min p0 p1)) ∧ Fr n0 L ∧ h = h0
theorem d15_10 : own_d15 10 .ireturn 1 := by decide +kernel
set_option maxRecDepth 65536 in
set_option maxHeartbeats 40000000 in
theorem rm15 (l : Launch) (Z : State) (ag : Array Value) (hw : ∀ d ∈ tables_1, d.before ag Z = true) (ws : List Jvm.Cond) (p0 p1 : Int32) (h0 : Heap) (n0 : Nat) (Z0 : n0 ≤ h0.size) :
    MetFree l (⟨"java/lang/Math", "min", "(II)I"⟩ : MethodName) (head1 (Jvm.Cond.code (⟨"java/lang/Math", "min", "(II)I"⟩ : MethodName) jdk_29_method_69_code 2 (some .int) :: ws) ({ frames := 0, cells := 0, slots := 0, locals := 0 } : Room)) (fun a U => a = #[(.int p0), (.int p1)] ∧ Z.Warmed39 U.vm ∧ U.heap = h0) (fun _ _ _ _ _ => True) (fun _ U o U' => ∃ v L, o = .returned v ∧ Q15 Z p0 p1 h0 n0 v U'.heap L ∧ FrameEnd U o U' L ({ frames := 0, cells := 0, slots := 0, locals := 0 } : Room).cells ({ frames := 0, cells := 0, slots := 0, locals := 0 } : Room).slots) := by
  refine MetFree.of_bodySF (Jvm.Free.JP.mathPlain rfl (by decide +kernel)) hisR ?_
  intro p e s m args below meth c s₁ Bd hml0 hP hK
  obtain ⟨rfl, hZ, hh⟩ := hP
  have hx := Bd.exec
  have hby := Bd.bytes
  have hml : c.maxLocals = 2 := hml0
  have hown : s.vm.findClass "java/lang/Math" = some m.cls := findClass_of_methodNamed Bd.named
  have hnm := (name_of_methodNamed Bd.named Bd.method).1
  have X0 : Stand p l e ({ frames := 0, cells := 0, slots := 0, locals := 0 } : Room) s m #[(.int p0), (.int p1)] below meth c s₁ [] 0 0 := Stand.of_body Bd
  have e0 : s₁.heap = h0 := by rw [← hh, Bd.state]; rfl
  have N0 := Fr.nil n0
  have D : ∀ {pc : Nat} {r : Except DecodeError (Instr × Nat)}, decode jdk_29_method_69_code pc = r → decode c.code pc = r := fun q => hb hby q
  have pre0 : ∀ t, Steps p.tables e below (s₁.setTop (mkF m 0 #[.val (.int p0), .val (.int p1)] [])) t → Steps p.tables e below (s₁.setTop (entryFrame m #[(.int p0), (.int p1)] 2)) t := fun t k => castTop (ef_15 m p0 p1) k
  obtain ⟨fs, hr, hrun, hended, hW, hsame⟩ := X0.leave (v := some (.int (own_min p0 p1))) (fun h => by rw [Bd.returns] at h; cases h)
  refine ⟨_, _, pre0 _ ?_, hrun, hended, _, _, rfl, ?_, ⟨_, rfl⟩, hW, hsame.mono (by decide) (by decide)⟩
  · show own_S p e below s₁ (mkF m 0 #[.val (.int p0), .val (.int p1)] []) _
    refine XS.iloadN X0.here hx rfl (D d15_0) rfl (XS.iloadN X0.here hx rfl (D d15_1) rfl ?_)
    by_cases hc1478 : p1 < p0
    · show own_S p e below s₁ (mkF m 2 #[.val (.int p0), .val (.int p1)] [(.int p1), (.int p0)]) _
      refine XS.icmpYes X0.here hx rfl (pc0 := 2) (pc' := 9) rfl (D d15_2) rfl (tlt hc1478).2.2.1 (by decide) (by decide) (XS.iloadN X0.here hx rfl (D d15_9) rfl ?_)
      show own_S p e below s₁ (mkF m 10 #[.val (.int p0), .val (.int p1)] [(.int p1)]) _
      have q : (own_min p0 p1) = p1 := by unfold own_min; rw [if_pos hc1478]
      have hr := own_cast (P := fun z => ∀ (f : JFrame) (acts : List Action), f.method = m → f.locked = none → f.entered = [] → (doReturn e (s₁.setTop f) acts (some (.int z))).1 = s₁.setFrames fs) q hr
      exact retI X0 hx Bd.returns (D d15_10) hr
    · show own_S p e below s₁ (mkF m 2 #[.val (.int p0), .val (.int p1)] [(.int p1), (.int p0)]) _
      refine XS.icmpNo X0.here hx rfl (D d15_2) rfl (flt hc1478).2.2.1 (XS.iloadN X0.here hx rfl (D d15_5) rfl (XS.goto X0.here hx rfl (pc0 := 6) (pc' := 10) rfl (D d15_6) (by decide) (by decide) ?_))
      show own_S p e below s₁ (mkF m 10 #[.val (.int p0), .val (.int p1)] [(.int p0)]) _
      have q : (own_min p0 p1) = p0 := by unfold own_min; rw [if_neg hc1478]
      have hr := own_cast (P := fun z => ∀ (f : JFrame) (acts : List Action), f.method = m → f.locked = none → f.entered = [] → (doReturn e (s₁.setTop f) acts (some (.int z))).1 = s₁.setFrames fs) q hr
      exact retI X0 hx Bd.returns (D d15_10) hr
  · show Q15 Z p0 p1 h0 n0 _ s₁.heap _
    rw [e0]
    exact ⟨rfl, N0, rfl⟩
theorem own_cp {l : List Value} {d : Value} {x y : UInt64} (h0 : l.getD 0 d = .double x) (h1 : l.getD 1 d = .double y) : [(.double x : Value), .double y] = (List.range (2 : Int32).toNatClampNeg).map fun i => l.getD ((0 : Int32).toNatClampNeg + i) d := by show _ = [l.getD 0 d, l.getD 1 d]; rw [h0, h1]
theorem pn_4 : plainName "java/util/Arrays" = true := by first | (simp [plainName, overriddenIn]; done) | decide +kernel
theorem ef_14_v2 (m : MethodId) (a0 : Addr) : entryFrame m #[(.ref a0), (.int (2 : Int32))] 3 = mkF m 0 #[.val (.ref a0), .val (.int 2), .unset] [] := by first | (simp [entryFrame, mkF, argsToLocals, Value.category]; done) | rfl
abbrev own_d14 (p : Nat) (i : Instr) (n : Nat) : Prop := decode jdk_65_method_127_code p = .ok (i, n)
theorem d14_0 : own_d14 0 (.iload_n 1) 1 := by decide +kernel
theorem d14_1 : own_d14 1 (.aload_n 0) 1 := by decide +kernel
theorem d14_2 : own_d14 2 .arraylength 1 := by decide +kernel
theorem d14_3 : own_d14 3 (.if_icmp .ne 11) 3 := by decide +kernel
theorem d14_14 : own_d14 14 (.iload_n 1) 1 := by decide +kernel
theorem d14_15 : own_d14 15 (.newarray .double) 2 := by decide +kernel
theorem d14_17 : own_d14 17 (.astore_n 2) 1 := by decide +kernel
theorem d14_18 : own_d14 18 (.aload_n 0) 1 := by decide +kernel
theorem d14_19 : own_d14 19 (.iconst 0) 1 := by decide +kernel
theorem d14_20 : own_d14 20 (.aload_n 2) 1 := by decide +kernel
theorem d14_21 : own_d14 21 (.iconst 0) 1 := by decide +kernel
theorem d14_22 : own_d14 22 (.aload_n 0) 1 := by decide +kernel
theorem d14_23 : own_d14 23 .arraylength 1 := by decide +kernel
theorem d14_24 : own_d14 24 (.iload_n 1) 1 := by decide +kernel
theorem pd_9 : parseMethodDescriptor "(II)I" = some ⟨[.int, .int], some .int⟩ := by decide +kernel
theorem d14_25 : own_d14 25 (.invokestatic 304) 3 := by decide +kernel
theorem d14_28 : own_d14 28 (.invokestatic 150) 3 := by decide +kernel
theorem d14_31 : own_d14 31 (.aload_n 2) 1 := by decide +kernel
theorem d14_32 : own_d14 32 .areturn 1 := by decide +kernel
set_option maxRecDepth 65536 in
set_option maxHeartbeats 40000000 in
theorem rm14 (l : Launch) (Z : State) (ag : Array Value) (hw : ∀ d ∈ tables_1, d.before ag Z = true) (ws : List Jvm.Cond) (a0 : Addr) (ka0 : ClassId) (lb : List Value) (h0 : Heap) (n0 : Nat) (Z0 : n0 ≤ h0.size) (V_a0 : Arv Z h0 a0 ka0 .double (16 : Int32) lb (.double (0 : UInt64))) (hbd0 : lb.getD 0 (.double (0 : UInt64)) = .double (0 : UInt64)) (hbd1 : lb.getD 1 (.double (0 : UInt64)) = .double (0 : UInt64)) :
    MetFree l (⟨"java/util/Arrays", "copyOf", "([DI)[D"⟩ : MethodName) (head1 (Jvm.Cond.code (⟨"java/util/Arrays", "copyOf", "([DI)[D"⟩ : MethodName) jdk_65_method_127_code 3 (some (.array .double)) :: ws) ({ frames := 1, cells := 1, slots := 2, locals := 18 } : Room)) (fun a U => a = #[(.ref a0), (.int (2 : Int32))] ∧ Z.Warmed39 U.vm ∧ U.heap = h0) (fun _ _ _ _ _ => True) (fun _ U o U' => ∃ v L, o = .returned v ∧ own_Qc Z h0 n0 (0 : UInt64) (0 : UInt64) v U'.heap L ∧ FrameEnd U o U' L ({ frames := 1, cells := 1, slots := 2, locals := 18 } : Room).cells ({ frames := 1, cells := 1, slots := 2, locals := 18 } : Room).slots) := by
  refine MetFree.of_bodySF (plainFor_of_name pn_4) hisR ?_
  intro p e s m args below meth c s₁ Bd hml0 hP hK
  obtain ⟨rfl, hZ, hh⟩ := hP
  have hx := Bd.exec
  have hby := Bd.bytes
  have hml : c.maxLocals = 3 := hml0
  have hown : s.vm.findClass "java/util/Arrays" = some m.cls := findClass_of_methodNamed Bd.named
  have hnm := (name_of_methodNamed Bd.named Bd.method).1
  have X0 : Stand p l e ({ frames := 1, cells := 1, slots := 2, locals := 18 } : Room) s m #[(.ref a0), (.int (2 : Int32))] below meth c s₁ [] 0 0 := Stand.of_body Bd
  have e0 : s₁.heap = h0 := by rw [← hh, Bd.state]; rfl
  have N0 := Fr.nil n0
  have D : ∀ {pc : Nat} {r : Except DecodeError (Instr × Nat)}, decode jdk_65_method_127_code pc = r → decode c.code pc = r := fun q => hb hby q
  have pre0 : ∀ t, Steps p.tables e below (s₁.setTop (mkF m 0 #[.val (.ref a0), .val (.int 2), .unset] [])) t → Steps p.tables e below (s₁.setTop (entryFrame m #[(.ref a0), (.int (2 : Int32))] 3)) t := fun t k => castTop (ef_14_v2 m a0) k
  obtain ⟨cl1479, Ar1479, -, S1479, M1479, -, -⟩ := id V_a0
  have ld1479 := X0.arraylength hx (by rw [e0]; exact Ar1479.1) (State.isArrayOf_alike hZ.alike Ar1479.2.1) (g := (mkF m 2 #[.val (.ref a0), .val (.int 2), .unset] [(.ref a0), .int 2])) rfl rfl (D d14_2)
  obtain ⟨T1480, h1480, k1480, X1480, e1480, E1480, A1480, EA1480, st1480⟩ := newPE X0 hx hZ (own_wk hw 9 rfl) e0 (g := (mkF m 15 #[.val (.ref a0), .val (.int 2), .unset] [.int 2])) rfl (D d14_15) rfl (by decide) (cap := 2) (by decide) (by decide) (by decide) (by decide) (ad := "[D") (by decide)
  obtain ⟨b1480, g1480⟩ : ∃ z, z = h0.size := ⟨_, rfl⟩
  have ge_b1480 : n0 ≤ b1480 := Nat.le_trans Z0 (Nat.le_of_eq g1480.symm)
  have gs_b1480 : h0.size ≤ b1480 := Nat.le_trans (Keep.refl h0 []).1 (Nat.le_of_eq g1480.symm)
  rw [← g1480] at A1480 st1480 EA1480
  have kp1481 : Keep h0 h1480 [] := (Keep.refl h0 []).ext E1480
  have V1480 : Arv Z h1480 b1480 k1480 .double (2 : Int32) [(.double (0 : UInt64)), (.double (0 : UInt64))] (.double (0 : UInt64)) := (Arv.new A1480 (by decide)).pad (pad_rep [] (.double (0 : UInt64)) 2)
  obtain ⟨cl1482, Ar1482, -, S1482, M1482, -, -⟩ := id (V_a0.keep kp1481 nin0)
  have ld1482 := X1480.arraylength hx (by rw [e1480]; exact Ar1482.1) (State.isArrayOf_alike hZ.alike Ar1482.2.1) (g := (mkF m 23 #[.val (.ref a0), .val (.int 2), .val (.ref b1480)] [(.ref a0), .int 0, (.ref b1480), .int 0, (.ref a0)])) rfl rfl (D d14_23)
  have cp1483 : ∀ target, own_S p e below T1480 (mkF m 25 #[.val (.ref a0), .val (.int 2), .val (.ref b1480)] [.int 2, .int 16, .int 0, (.ref b1480), .int 0, (.ref a0)]) target → own_S p e below s₁ (mkF m 0 #[.val (.ref a0), .val (.int 2), .unset] []) target := by
    intro target kt
    show own_S p e below s₁ (mkF m 0 #[.val (.ref a0), .val (.int 2), .unset] []) _
    refine XS.iloadN X0.here hx rfl (D d14_0) rfl (XS.aloadN X0.here hx rfl (D d14_1) rfl rfl (ld1479 _ ?_))
    rw [len_of S1479 M1479]
    show own_S p e below s₁ (mkF m 3 #[.val (.ref a0), .val (.int 2), .unset] [.int 16, .int 2]) _
    refine XS.icmpYes X0.here hx rfl (pc0 := 3) (pc' := 14) rfl (D d14_3) rfl (feq (by decide : ¬ ((2 : Int32) = (16 : Int32)))).2 (by decide) (by decide) (XS.iloadN X0.here hx rfl (D d14_14) rfl (st1480 _ (XS.astoreN X1480.here hx rfl (D d14_17) rfl rfl (l' := #[.val (.ref a0), .val (.int 2), .val (.ref b1480)]) rfl (XS.aloadN X1480.here hx rfl (D d14_18) rfl rfl (XS.iconst X1480.here hx rfl (D d14_19) (XS.aloadN X1480.here hx rfl (D d14_20) rfl rfl (XS.iconst X1480.here hx rfl (D d14_21) (XS.aloadN X1480.here hx rfl (D d14_22) rfl rfl (ld1482 _ ?_)))))))))
    rw [len_of S1482 M1482]
    show own_S p e below T1480 (mkF m 24 #[.val (.ref a0), .val (.int 2), .val (.ref b1480)] [.int 16, .int 0, (.ref b1480), .int 0, (.ref a0)]) _
    refine XS.iloadN X1480.here hx rfl (D d14_24) rfl ?_
    exact kt
  obtain ⟨_, _, ⟨T1484, L1484, k1484, n1484⟩, -, X1484, ⟨Lc1484, hQ1484, l1484, y1484, z1484⟩, st1484⟩ := Jvm.LawKit.callS X1480 hx (y := (⟨"java/lang/Math", "min", "(II)I"⟩ : MethodName)) hown (mvT hZ (own_wk hw 127 rfl)) (mvT hZ (own_wk hw 128 rfl)) (mvT hZ (own_wk hw 114 rfl)) (mvT hZ (own_wk hw 129 rfl)) (by decide) (backOf (W := 4) (rm15 l Z ag hw [] (16 : Int32) (2 : Int32)  h1480 n0 (Nat.le_trans Z0 kp1481.1) ) hZ (own_wk hw 129 rfl) (own_wk hw 114 rfl) (by decide) (by decide)) (g := (mkF m 25 #[.val (.ref a0), .val (.int 2), .val (.ref b1480)] [.int 2, .int 16, .int 0, (.ref b1480), .int 0, (.ref a0)])) rfl (by rw [hml]; rfl) (argsL := [(.int (16 : Int32)), (.int (2 : Int32))]) (rest := [(.int (0 : Int32)), (.ref b1480), (.int (0 : Int32)), (.ref a0)]) (lenOf pd_9 rfl) rfl (by show 2 * 0 + _ ≤ _; exact Nat.le_of_eq rfl) (D d14_25) (fun _ _ => ⟨rfl, e1480, (by decide : 1 + 0 ≤ _), (by decide : 2 + 0 ≤ _)⟩)
  dsimp only [Pt.U, Pt.locs, Pt.cells, Pt.slots] at X1484 l1484 y1484 z1484 st1484 hQ1484
  subst l1484 y1484 z1484
  obtain ⟨rfl, N1484q, e1484⟩ := hQ1484
  have N1484 := Fr.app N0 N1484q
  obtain ⟨T1485, h1485, L1485, X1485, e1485, N1485, K1485, V1485, st1485⟩ := cpA X1484 hx hZ hown (own_wk hw 130 rfl) (own_wk hw 133 rfl) (own_wk hw 131 rfl) (own_wk hw 132 rfl) e1484 (V_a0.keep kp1481 nin0) V1480 (Or.inl ⟨rfl, rfl⟩) (sp := (0 : Int32)) (dp := (0 : Int32)) (nn := (2 : Int32)) (by decide) (by decide) (by decide) (by decide) (by decide) (us := [(.double (0 : UInt64)), (.double (0 : UInt64))]) (own_cp hbd0 hbd1) (by decide) N1484 ge_b1480 (g := (mkF m 28 #[.val (.ref a0), .val (.int 2), .val (.ref b1480)] [.int 2, .int 0, (.ref b1480), .int 0, (.ref a0)])) rfl (by rw [hml]; rfl) (rest := []) rfl (D d14_28) (by decide) (W := 0) (by show 2 * 0 + _ ≤ _; exact Nat.le_of_eq rfl) (by decide)
  have V1485 : Arv Z h1485 b1480 k1480 .double (2 : Int32) [(.double (0 : UInt64)), (.double (0 : UInt64))] (.double (0 : UInt64)) := V1485
  have x1486 := EA1480.keep K1485
  have kp1487 : Keep h0 h1485 [] := kp1481.trans K1485 (allS (Or.inr gs_b1480) all0)
  obtain ⟨fs, hr, hrun, hended, hW, hsame⟩ := X1485.leave (v := some (.ref b1480)) (fun h => by rw [Bd.returns] at h; cases h)
  refine ⟨_, _, pre0 _ ?_, hrun, hended, _, _, rfl, ?_, ⟨_, rfl⟩, hW, hsame.mono (by decide) (by decide)⟩
  · show own_S p e below s₁ (mkF m 0 #[.val (.ref a0), .val (.int 2), .unset] []) _
    refine cp1483 _ (st1484 _ ?_)
    show own_S p e below T1484 (mkF m 28 #[.val (.ref a0), .val (.int 2), .val (.ref b1480)] [(.int (own_min (16 : Int32) (2 : Int32))), .int 0, (.ref b1480), .int 0, (.ref a0)]) _
    rw [show (own_min (16 : Int32) (2 : Int32)) = (2 : Int32) from by decide]
    show own_S p e below T1484 (mkF m 28 #[.val (.ref a0), .val (.int 2), .val (.ref b1480)] [.int 2, .int 0, (.ref b1480), .int 0, (.ref a0)]) _
    refine st1485 _ (XS.aloadN X1485.here hx rfl (D d14_31) rfl rfl ?_)
    show own_S p e below T1485 (mkF m 32 #[.val (.ref a0), .val (.int 2), .val (.ref b1480)] [(.ref b1480)]) _
    exact Jvm.RoadKit.retOut X1485 hx Bd.returns rfl (Or.inr (Or.inr (Or.inr (Or.inr ⟨rfl, rfl, rfl⟩)))) (D d14_32) hr
  · show own_Qc Z h0 n0 (0 : UInt64) (0 : UInt64) _ T1485.heap _
    rw [e1485]
    exact ⟨b1480, k1480, rfl, N1485, kp1487, ge_b1480, gs_b1480, x1486, V1485⟩
theorem ef_16 (m : MethodId) (a0 : Addr) (r1 : UInt64) : entryFrame m #[(.ref a0), (.double r1)] 5 = mkF m 0 #[.val (.ref a0), .val (.double r1), .second, .unset, .unset] [] := by first | (simp [entryFrame, mkF, argsToLocals, Value.category]; done) | rfl
abbrev own_d16 (p : Nat) (i : Instr) (n : Nat) : Prop := decode jdk_65_method_113_code p = .ok (i, n)
theorem d16_0 : own_d16 0 (.iconst 0) 1 := by decide +kernel
theorem d16_1 : own_d16 1 (.istore_n 3) 1 := by decide +kernel
theorem d16_2 : own_d16 2 (.aload_n 0) 1 := by decide +kernel
theorem d16_3 : own_d16 3 .arraylength 1 := by decide +kernel
theorem d16_4 : own_d16 4 (.istore 4) 2 := by decide +kernel
theorem d16_6 : own_d16 6 (.iload_n 3) 1 := by decide +kernel
theorem d16_7 : own_d16 7 (.iload 4) 2 := by decide +kernel
theorem d16_9 : own_d16 9 (.if_icmp .ge 13) 3 := by decide +kernel
theorem d16_12 : own_d16 12 (.aload_n 0) 1 := by decide +kernel
theorem d16_13 : own_d16 13 (.iload_n 3) 1 := by decide +kernel
theorem d16_14 : own_d16 14 (.dload_n 1) 1 := by decide +kernel
theorem d16_15 : own_d16 15 .dastore 1 := by decide +kernel
theorem d16_16 : own_d16 16 (.iinc 3 1) 3 := by decide +kernel
theorem d16_19 : own_d16 19 (.goto (-13)) 3 := by decide +kernel
theorem d16_22 : own_d16 22 .return_ 1 := by decide +kernel
def Q16 (Z : State) (a0 : Addr) (r1 : UInt64) (ka0 : ClassId) (y0 : UInt64) (h0 : Heap) (n0 : Nat) (v : Option Value) (h : Heap) (L : List Loc) : Prop := v = none ∧ Fr n0 L ∧ Keep h0 h [a0] ∧ Arv Z h a0 ka0 .double (1 : Int32) [(.double r1)] (.double (0 : UInt64))
set_option maxRecDepth 65536 in
set_option maxHeartbeats 40000000 in
theorem rm16 (l : Launch) (Z : State) (ag : Array Value) (hw : ∀ d ∈ tables_1, d.before ag Z = true) (ws : List Jvm.Cond) (a0 : Addr) (r1 : UInt64) (ka0 : ClassId) (y0 : UInt64) (h0 : Heap) (n0 : Nat) (Z0 : n0 ≤ h0.size) (V_a0 : Arv Z h0 a0 ka0 .double (1 : Int32) [(.double y0)] (.double (0 : UInt64))) (ge_a0 : n0 ≤ a0) :
    MetFree l (⟨"java/util/Arrays", "fill", "([DD)V"⟩ : MethodName) (head1 (Jvm.Cond.code (⟨"java/util/Arrays", "fill", "([DD)V"⟩ : MethodName) jdk_65_method_113_code 5 none :: ws) ({ frames := 0, cells := 0, slots := 0, locals := 0 } : Room)) (fun a U => a = #[(.ref a0), (.double r1)] ∧ Z.Warmed39 U.vm ∧ U.heap = h0) (fun _ _ _ _ _ => True) (fun _ U o U' => ∃ v L, o = .returned v ∧ Q16 Z a0 r1 ka0 y0 h0 n0 v U'.heap L ∧ FrameEnd U o U' L ({ frames := 0, cells := 0, slots := 0, locals := 0 } : Room).cells ({ frames := 0, cells := 0, slots := 0, locals := 0 } : Room).slots) := by
  refine MetFree.of_bodySF (plainFor_of_name pn_4) hisR ?_
  intro p e s m args below meth c s₁ Bd hml0 hP hK
  obtain ⟨rfl, hZ, hh⟩ := hP
  have hx := Bd.exec
  have hby := Bd.bytes
  have hml : c.maxLocals = 5 := hml0
  have hown : s.vm.findClass "java/util/Arrays" = some m.cls := findClass_of_methodNamed Bd.named
  have hnm := (name_of_methodNamed Bd.named Bd.method).1
  have X0 : Stand p l e ({ frames := 0, cells := 0, slots := 0, locals := 0 } : Room) s m #[(.ref a0), (.double r1)] below meth c s₁ [] 0 0 := Stand.of_body Bd
  have e0 : s₁.heap = h0 := by rw [← hh, Bd.state]; rfl
  have N0 := Fr.nil n0
  have D : ∀ {pc : Nat} {r : Except DecodeError (Instr × Nat)}, decode jdk_65_method_113_code pc = r → decode c.code pc = r := fun q => hb hby q
  have pre0 : ∀ t, Steps p.tables e below (s₁.setTop (mkF m 0 #[.val (.ref a0), .val (.double r1), .second, .unset, .unset] [])) t → Steps p.tables e below (s₁.setTop (entryFrame m #[(.ref a0), (.double r1)] 5)) t := fun t k => castTop (ef_16 m a0 r1) k
  obtain ⟨cl1488, Ar1488, -, S1488, M1488, -, -⟩ := id V_a0
  have ld1488 := X0.arraylength hx (by rw [e0]; exact Ar1488.1) (State.isArrayOf_alike hZ.alike Ar1488.2.1) (g := (mkF m 3 #[.val (.ref a0), .val (.double r1), .second, .val (.int 0), .unset] [(.ref a0)])) rfl rfl (D d16_3)
  obtain ⟨T1489, h1489, X1489, e1489, W1489, V1489, st1489⟩ := own_stD X0 hx hZ e0 V_a0 (j := (0 : Int32)) ⟨(by decide), (by decide)⟩ 0 rfl (Nat.le_of_ble_eq_true rfl) (vs' := [(.double r1)]) rfl (g := (mkF m 15 #[.val (.ref a0), .val (.double r1), .second, .val (.int 0), .val (.int 1)] [(.double r1), .int 0, (.ref a0)])) rfl rfl (D d16_15)
  have kp1490 : Keep h0 h1489 [a0] := (Keep.refl h0 [a0]).wr W1489 (Or.inl (List.mem_of_getElem? (i := 0) rfl))
  have N1489 := Fr.snoc X1489 N0 ge_a0
  obtain ⟨fs, hr, hrun, hended, hW, hsame⟩ := X1489.leave (v := none) (fun _ => rfl)
  refine ⟨_, _, pre0 _ ?_, hrun, hended, _, _, rfl, ?_, ⟨_, rfl⟩, hW, hsame.mono (by decide) (by decide)⟩
  · show own_S p e below s₁ (mkF m 0 #[.val (.ref a0), .val (.double r1), .second, .unset, .unset] []) _
    refine XS.iconst X0.here hx rfl (D d16_0) (XS.istoreN X0.here hx rfl (D d16_1) rfl (l' := #[.val (.ref a0), .val (.double r1), .second, .val (.int 0), .unset]) rfl (XS.aloadN X0.here hx rfl (D d16_2) rfl rfl (ld1488 _ ?_)))
    rw [len_of S1488 M1488]
    show own_S p e below s₁ (mkF m 4 #[.val (.ref a0), .val (.double r1), .second, .val (.int 0), .unset] [.int 1]) _
    refine XS.istore X0.here hx rfl (D d16_4) rfl (l' := #[.val (.ref a0), .val (.double r1), .second, .val (.int 0), .val (.int 1)]) rfl (XS.iloadN X0.here hx rfl (D d16_6) rfl (XS.iload X0.here hx rfl (D d16_7) rfl (XS.icmpNo X0.here hx rfl (D d16_9) rfl (tlt (by decide : (0 : Int32) < (1 : Int32))).2.1 (XS.aloadN X0.here hx rfl (D d16_12) rfl rfl (XS.iloadN X0.here hx rfl (D d16_13) rfl (XS.dloadN X0.here hx rfl (D d16_14) rfl (st1489 _ (XS.iinc X1489.here hx rfl (D d16_16) rfl (l' := #[.val (.ref a0), .val (.double r1), .second, .val (.int 1), .val (.int 1)]) rfl (XS.goto X1489.here hx rfl (pc0 := 19) (pc' := 6) rfl (D d16_19) (by decide) (by decide) ?_)))))))))
    refine XS.iloadN X1489.here hx rfl (D d16_6) rfl (XS.iload X1489.here hx rfl (D d16_7) rfl (XS.icmpYes X1489.here hx rfl (pc0 := 9) (pc' := 22) rfl (D d16_9) rfl (flt (by decide : ¬ ((1 : Int32) < (1 : Int32)))).2.1 (by decide) (by decide) ?_))
    show own_S p e below T1489 (mkF m 22 #[.val (.ref a0), .val (.double r1), .second, .val (.int 1), .val (.int 1)] []) _
    exact X1489.returnOut hx Bd.returns (D d16_22) hr
  · show Q16 Z a0 r1 ka0 y0 h0 n0 _ T1489.heap _
    rw [e1489]
    exact ⟨rfl, N1489, kp1490, V1489⟩
def own_bs (x y : UInt64) : Int32 := if (0 : Int32) < (cmpValue (FP.dcmp (x &&& (9223372036854775807 : UInt64)) (y &&& (9223372036854775807 : UInt64))) .l) then (1 : Int32) else (0 : Int32)
def own_sw (bst : Int32) (m00 m01 m10 m11 U r0 r1 s0 s1 : UInt64) : Prop := (bst = 0 ∧ m00 = (4607182418800017408 : UInt64) ∧ m01 = U ∧ m10 = (0 : UInt64) ∧ m11 = (4607182418800017408 : UInt64) ∧ r0 = (4607182418800017408 : UInt64) ∧ r1 = (0 : UInt64) ∧ s0 = (0 : UInt64) ∧ s1 = (4607182418800017408 : UInt64)) ∨ (bst = 1 ∧ m10 = (4607182418800017408 : UInt64) ∧ m11 = U ∧ m00 = (0 : UInt64) ∧ m01 = (4607182418800017408 : UInt64) ∧ r0 = (0 : UInt64) ∧ r1 = (4607182418800017408 : UInt64) ∧ s0 = (4607182418800017408 : UInt64) ∧ s1 = (0 : UInt64))
def own_el (U r s t : UInt64) : Prop := own_w t ∧ (cmpValue (FP.dcmp U (0 : UInt64)) .l = (0 : Int32) → r = t) ∧ (¬ cmpValue (FP.dcmp U (0 : UInt64)) .l = (0 : Int32) → FP.dsub r (FP.dmul U s) = t)
def own_cost (lc : List Value) (v : Int32) : Prop := ∃ x : UInt64, lc.getD (v).toNatClampNeg (.double (0 : UInt64)) = .double x ∧ own_w x
def own_inv (lf le lr lv lg lc lb : List Value) (hd0 hd1 : Int32) (ck n00 n01 n10 n11 : UInt64) : Prop := ∃ (m00 m01 m10 m11 U r0 r1 : UInt64) (bst : Int32), own_col lf le lr lv lg hd0 m00 m01 ∧ own_col lf le lr lv lg hd1 m10 m11 ∧ own_key lf le ∧ own_cost lc hd0 ∧ own_cost lc hd1 ∧ (lc.getD 0 (.double (0 : UInt64)) = .double ck ∧ own_w ck) ∧ (lb.getD 0 (.double (0 : UInt64)) = .double (0 : UInt64) ∧ lb.getD 1 (.double (0 : UInt64)) = .double (0 : UInt64)) ∧ own_bs m10 m00 = bst ∧ own_sw bst m00 m01 m10 m11 U r0 r1 n01 n11 ∧ own_w U ∧ own_el U r0 n01 n00 ∧ own_el U r1 n11 n10
theorem own_sww {bst : Int32} {m00 m01 m10 m11 U r0 r1 s0 s1 : UInt64} (h : own_sw bst m00 m01 m10 m11 U r0 r1 s0 s1) : own_w m00 ∧ own_w m10 ∧ own_w r0 ∧ own_w r1 ∧ own_w s0 ∧ own_w s1 := by
  rcases h with ⟨rfl, rfl, rfl, rfl, rfl, rfl, rfl, rfl, rfl⟩ | ⟨rfl, rfl, rfl, rfl, rfl, rfl, rfl, rfl, rfl⟩
  · exact ⟨own_w1, own_w0, own_w1, own_w0, own_w0, own_w1⟩
  · exact ⟨own_w0, own_w1, own_w0, own_w1, own_w1, own_w0⟩
def own_pq (P Q x0 x1 : Addr) : Prop := (P = x0 ∧ Q = x1) ∨ (P = x1 ∧ Q = x0)
theorem own_pq.ne {y x0 x1 P Q : Addr} (h : own_pq P Q x0 x1) (a : y ≠ x0) (b : y ≠ x1) : y ≠ P ∧ y ≠ Q := by rcases h with ⟨rfl, rfl⟩ | ⟨rfl, rfl⟩; exact ⟨a, b⟩; exact ⟨b, a⟩
theorem own_pq.ne2 {x0 x1 P Q : Addr} (h : own_pq P Q x0 x1) (a : x0 ≠ x1) : P ≠ Q := by rcases h with ⟨rfl, rfl⟩ | ⟨rfl, rfl⟩; exact a; exact Ne.symm a
theorem own_pq.ge {n : Nat} {x0 x1 P Q : Addr} (h : own_pq P Q x0 x1) (a : n ≤ x0) (b : n ≤ x1) : n ≤ P ∧ n ≤ Q := by rcases h with ⟨rfl, rfl⟩ | ⟨rfl, rfl⟩; exact ⟨a, b⟩; exact ⟨b, a⟩
def own_pb (b : Int32) (P Q x0 x1 : Addr) : Prop := (b = 0 ∧ P = x0 ∧ Q = x1) ∨ (b = 1 ∧ P = x1 ∧ Q = x0)
theorem own_pb.pq {b : Int32} {x0 x1 P Q : Addr} (h : own_pb b P Q x0 x1) : own_pq P Q x0 x1 := h.imp And.right And.right
theorem own_pb.idx {b : Int32} {x0 x1 P Q : Addr} (h : own_pb b P Q x0 x1) : ¬ b < 0 ∧ b < (2 : Int32) := by rcases h with ⟨rfl, -⟩ | ⟨rfl, -⟩ <;> exact ⟨by decide, by decide⟩
theorem own_pb.at {b : Int32} {x0 x1 P Q : Addr} (h : own_pb b P Q x0 x1) : [(.ref x0 : Value), .ref x1].getD b.toNatClampNeg .null = .ref P := by rcases h with ⟨rfl, rfl, rfl⟩ | ⟨rfl, rfl, rfl⟩ <;> rfl
theorem own_pb.swp {b : Int32} {x0 x1 P Q : Addr} (h : own_pb b P Q x0 x1) : own_swp 0 b x0 x1 P Q := by rcases h with ⟨a, b, c⟩ | ⟨a, b, c⟩; exact Or.inl ⟨rfl, a, b, c⟩; exact Or.inr (Or.inr ⟨rfl, a, b, c⟩)
theorem own_swp11 {x0 x1 : Addr} : own_swp 1 1 x0 x1 x0 x1 := Or.inr (Or.inl ⟨rfl, rfl, rfl, rfl⟩)
theorem ef_8 (m : MethodId) (a0 : Addr) : entryFrame m #[(.ref a0)] 11 = mkF m 0 #[.val (.ref a0), .unset, .unset, .unset, .unset, .unset, .unset, .unset, .unset, .unset, .unset] [] := by first | (simp [entryFrame, mkF, argsToLocals, Value.category]; done) | rfl
abbrev own_d8 (p : Nat) (i : Instr) (n : Nat) : Prop := decode prog_56_method_33_code p = .ok (i, n)
theorem d8_0 : own_d8 0 (.aload_n 0) 1 := by decide +kernel
theorem d8_1 : own_d8 1 (.getfield 121) 3 := by decide +kernel
theorem d8_4 : own_d8 4 (.anewarray 260) 3 := by decide +kernel
theorem d8_7 : own_d8 7 (.astore_n 1) 1 := by decide +kernel
abbrev own_loc19 (a0 b1492 : Addr) : Array Slot := #[.val (.ref a0), .val (.ref b1492), .unset, .unset, .unset, .unset, .unset, .unset, .unset, .unset, .unset]
theorem d8_8 : own_d8 8 (.iconst 0) 1 := by decide +kernel
theorem d8_9 : own_d8 9 (.istore_n 2) 1 := by decide +kernel
abbrev own_loc20 (a0 b1492 : Addr) : Array Slot := #[.val (.ref a0), .val (.ref b1492), .val (.int 0), .unset, .unset, .unset, .unset, .unset, .unset, .unset, .unset]
theorem d8_10 : own_d8 10 (.iload_n 2) 1 := by decide +kernel
theorem d8_11 : own_d8 11 (.aload_n 0) 1 := by decide +kernel
theorem d8_12 : own_d8 12 (.getfield 121) 3 := by decide +kernel
theorem d8_15 : own_d8 15 (.if_icmp .ge 22) 3 := by decide +kernel
theorem d8_18 : own_d8 18 (.aload_n 1) 1 := by decide +kernel
theorem d8_19 : own_d8 19 (.iload_n 2) 1 := by decide +kernel
theorem d8_20 : own_d8 20 (.aload_n 0) 1 := by decide +kernel
theorem d8_21 : own_d8 21 (.aload_n 0) 1 := by decide +kernel
theorem d8_22 : own_d8 22 (.getfield 47) 3 := by decide +kernel
theorem d8_25 : own_d8 25 (.iload_n 2) 1 := by decide +kernel
theorem d8_26 : own_d8 26 .iaload 1 := by decide +kernel
theorem pd_7 : parseMethodDescriptor "(I)[D" = some ⟨[.int], some (.array .double)⟩ := by decide +kernel
theorem d8_27 : own_d8 27 (.invokevirtual 224) 3 := by decide +kernel
theorem d8_30 : own_d8 30 .aastore 1 := by decide +kernel
theorem d8_31 : own_d8 31 (.iinc 2 1) 3 := by decide +kernel
abbrev own_loc21 (a0 b1492 : Addr) : Array Slot := #[.val (.ref a0), .val (.ref b1492), .val (.int 1), .unset, .unset, .unset, .unset, .unset, .unset, .unset, .unset]
theorem d8_34 : own_d8 34 (.goto (-24)) 3 := by decide +kernel
abbrev own_loc22 (a0 b1492 : Addr) : Array Slot := #[.val (.ref a0), .val (.ref b1492), .val (.int 2), .unset, .unset, .unset, .unset, .unset, .unset, .unset, .unset]
theorem d8_37 : own_d8 37 (.aload_n 0) 1 := by decide +kernel
theorem d8_38 : own_d8 38 (.getfield 121) 3 := by decide +kernel
theorem d8_41 : own_d8 41 (.aload_n 0) 1 := by decide +kernel
theorem d8_42 : own_d8 42 (.getfield 121) 3 := by decide +kernel
theorem d8_45 : own_d8 45 (.multianewarray 50 2) 4 := by decide +kernel
theorem d8_49 : own_d8 49 (.astore_n 2) 1 := by decide +kernel
abbrev own_loc23 (a0 b1492 b1538 : Addr) : Array Slot := #[.val (.ref a0), .val (.ref b1492), .val (.ref b1538), .unset, .unset, .unset, .unset, .unset, .unset, .unset, .unset]
theorem d8_50 : own_d8 50 (.iconst 0) 1 := by decide +kernel
theorem d8_51 : own_d8 51 (.istore_n 3) 1 := by decide +kernel
abbrev own_loc24 (a0 b1492 b1538 : Addr) : Array Slot := #[.val (.ref a0), .val (.ref b1492), .val (.ref b1538), .val (.int 0), .unset, .unset, .unset, .unset, .unset, .unset, .unset]
theorem d8_52 : own_d8 52 (.iload_n 3) 1 := by decide +kernel
theorem d8_53 : own_d8 53 (.aload_n 0) 1 := by decide +kernel
theorem d8_54 : own_d8 54 (.getfield 121) 3 := by decide +kernel
theorem d8_57 : own_d8 57 (.if_icmp .ge 15) 3 := by decide +kernel
theorem d8_60 : own_d8 60 (.aload_n 2) 1 := by decide +kernel
theorem d8_61 : own_d8 61 (.iload_n 3) 1 := by decide +kernel
theorem d8_62 : own_d8 62 .aaload 1 := by decide +kernel
theorem d8_63 : own_d8 63 (.iload_n 3) 1 := by decide +kernel
theorem d8_64 : own_d8 64 (.dconst 1) 1 := by decide +kernel
theorem d8_65 : own_d8 65 .dastore 1 := by decide +kernel
theorem d8_66 : own_d8 66 (.iinc 3 1) 3 := by decide +kernel
abbrev own_loc25 (a0 b1492 b1538 : Addr) : Array Slot := #[.val (.ref a0), .val (.ref b1492), .val (.ref b1538), .val (.int 1), .unset, .unset, .unset, .unset, .unset, .unset, .unset]
theorem d8_69 : own_d8 69 (.goto (-17)) 3 := by decide +kernel
abbrev own_loc26 (a0 b1492 b1538 : Addr) : Array Slot := #[.val (.ref a0), .val (.ref b1492), .val (.ref b1538), .val (.int 2), .unset, .unset, .unset, .unset, .unset, .unset, .unset]
theorem d8_72 : own_d8 72 (.iconst 0) 1 := by decide +kernel
theorem d8_73 : own_d8 73 (.istore_n 3) 1 := by decide +kernel
theorem d8_74 : own_d8 74 (.iload_n 3) 1 := by decide +kernel
theorem d8_75 : own_d8 75 (.aload_n 0) 1 := by decide +kernel
theorem d8_76 : own_d8 76 (.getfield 121) 3 := by decide +kernel
theorem d8_79 : own_d8 79 (.if_icmp .ge 241) 3 := by decide +kernel
theorem d8_82 : own_d8 82 (.iload_n 3) 1 := by decide +kernel
theorem d8_83 : own_d8 83 (.istore 4) 2 := by decide +kernel
abbrev own_loc27 (a0 b1492 b1538 : Addr) : Array Slot := #[.val (.ref a0), .val (.ref b1492), .val (.ref b1538), .val (.int 0), .val (.int 0), .unset, .unset, .unset, .unset, .unset, .unset]
theorem d8_85 : own_d8 85 (.iload_n 3) 1 := by decide +kernel
theorem d8_86 : own_d8 86 (.iconst 1) 1 := by decide +kernel
theorem d8_87 : own_d8 87 .iadd 1 := by decide +kernel
theorem d8_88 : own_d8 88 (.istore 5) 2 := by decide +kernel
abbrev own_loc28 (a0 b1492 b1538 : Addr) : Array Slot := #[.val (.ref a0), .val (.ref b1492), .val (.ref b1538), .val (.int 0), .val (.int 0), .val (.int 1), .unset, .unset, .unset, .unset, .unset]
theorem d8_90 : own_d8 90 (.iload 5) 2 := by decide +kernel
theorem d8_92 : own_d8 92 (.aload_n 0) 1 := by decide +kernel
theorem d8_93 : own_d8 93 (.getfield 121) 3 := by decide +kernel
theorem d8_96 : own_d8 96 (.if_icmp .ge 35) 3 := by decide +kernel
theorem d8_99 : own_d8 99 (.aload_n 1) 1 := by decide +kernel
theorem d8_100 : own_d8 100 (.iload 5) 2 := by decide +kernel
theorem d8_102 : own_d8 102 .aaload 1 := by decide +kernel
theorem d8_103 : own_d8 103 (.iload_n 3) 1 := by decide +kernel
theorem d8_104 : own_d8 104 .daload 1 := by decide +kernel
theorem pd_4 : parseMethodDescriptor "(D)D" = some ⟨[.double], some .double⟩ := by decide +kernel
theorem d8_105 : own_d8 105 (.invokestatic 270) 3 := by decide +kernel
theorem d8_108 : own_d8 108 (.aload_n 1) 1 := by decide +kernel
theorem d8_109 : own_d8 109 (.iload 4) 2 := by decide +kernel
theorem d8_111 : own_d8 111 .aaload 1 := by decide +kernel
theorem d8_112 : own_d8 112 (.iload_n 3) 1 := by decide +kernel
theorem d8_113 : own_d8 113 .daload 1 := by decide +kernel
theorem d8_114 : own_d8 114 (.invokestatic 270) 3 := by decide +kernel
theorem d8_117 : own_d8 117 (.dcmp .l) 1 := by decide +kernel
theorem d8_118 : own_d8 118 (.ifCond .le 7) 3 := by decide +kernel
theorem d8_121 : own_d8 121 (.iload 5) 2 := by decide +kernel
theorem d8_123 : own_d8 123 (.istore 4) 2 := by decide +kernel
abbrev own_loc29 (a0 b1492 b1538 : Addr) : Array Slot := #[.val (.ref a0), .val (.ref b1492), .val (.ref b1538), .val (.int 0), .val (.int 1), .val (.int 1), .unset, .unset, .unset, .unset, .unset]
def own_g118 (m00 : UInt64) (m10 : UInt64) : Int32 := (if (0 : Int32) < (cmpValue (FP.dcmp (m10 &&& (9223372036854775807 : UInt64)) (m00 &&& (9223372036854775807 : UInt64))) .l) then (1 : Int32) else (0 : Int32))
abbrev own_loc30 (a0 b1492 b1538 : Addr) (m00 m10 : UInt64) : Array Slot := #[.val (.ref a0), .val (.ref b1492), .val (.ref b1538), .val (.int 0), .val (.int (own_g118 m00 m10)), .val (.int 1), .unset, .unset, .unset, .unset, .unset]
abbrev own_loc31 (a0 b1492 b1538 : Addr) (bst : Int32) : Array Slot := #[.val (.ref a0), .val (.ref b1492), .val (.ref b1538), .val (.int 0), .val (.int bst), .val (.int 1), .unset, .unset, .unset, .unset, .unset]
theorem d8_125 : own_d8 125 (.iinc 5 1) 3 := by decide +kernel
abbrev own_loc32 (a0 b1492 b1538 : Addr) (bst : Int32) : Array Slot := #[.val (.ref a0), .val (.ref b1492), .val (.ref b1538), .val (.int 0), .val (.int bst), .val (.int 2), .unset, .unset, .unset, .unset, .unset]
theorem d8_128 : own_d8 128 (.goto (-38)) 3 := by decide +kernel
theorem d8_131 : own_d8 131 (.aload_n 1) 1 := by decide +kernel
theorem d8_132 : own_d8 132 (.iload 4) 2 := by decide +kernel
theorem d8_134 : own_d8 134 .aaload 1 := by decide +kernel
theorem d8_135 : own_d8 135 (.iload_n 3) 1 := by decide +kernel
theorem d8_136 : own_d8 136 .daload 1 := by decide +kernel
theorem d8_137 : own_d8 137 (.invokestatic 270) 3 := by decide +kernel
theorem d8_140 : own_d8 140 (.ldc2_w 198) 3 := by decide +kernel
theorem d8_143 : own_d8 143 (.dcmp .g) 1 := by decide +kernel
theorem d8_144 : own_d8 144 (.ifCond .gt 14) 3 := by decide +kernel
theorem d8_158 : own_d8 158 (.aload_n 1) 1 := by decide +kernel
theorem d8_159 : own_d8 159 (.iload_n 3) 1 := by decide +kernel
theorem d8_160 : own_d8 160 (.iload 4) 2 := by decide +kernel
theorem pd_15 : parseMethodDescriptor "([[DII)V" = some ⟨[(.array (.array .double)), .int, .int], none⟩ := by decide +kernel
theorem d8_162 : own_d8 162 (.invokestatic 276) 3 := by decide +kernel
theorem d8_165 : own_d8 165 (.aload_n 2) 1 := by decide +kernel
theorem d8_166 : own_d8 166 (.iload_n 3) 1 := by decide +kernel
theorem d8_167 : own_d8 167 (.iload 4) 2 := by decide +kernel
theorem d8_169 : own_d8 169 (.invokestatic 276) 3 := by decide +kernel
theorem d8_172 : own_d8 172 (.aload_n 1) 1 := by decide +kernel
theorem d8_173 : own_d8 173 (.iload_n 3) 1 := by decide +kernel
theorem d8_174 : own_d8 174 .aaload 1 := by decide +kernel
theorem d8_175 : own_d8 175 (.iload_n 3) 1 := by decide +kernel
theorem d8_176 : own_d8 176 .daload 1 := by decide +kernel
theorem d8_177 : own_d8 177 (.dstore 5) 2 := by decide +kernel
abbrev own_loc33 (a0 b1492 b1538 : Addr) (bst : Int32) : Array Slot := #[.val (.ref a0), .val (.ref b1492), .val (.ref b1538), .val (.int 0), .val (.int bst), .val (.double (4607182418800017408 : UInt64)), .second, .unset, .unset, .unset, .unset]
theorem d8_179 : own_d8 179 (.iconst 0) 1 := by decide +kernel
theorem d8_180 : own_d8 180 (.istore 7) 2 := by decide +kernel
abbrev own_loc34 (a0 b1492 b1538 : Addr) (bst : Int32) : Array Slot := #[.val (.ref a0), .val (.ref b1492), .val (.ref b1538), .val (.int 0), .val (.int bst), .val (.double (4607182418800017408 : UInt64)), .second, .val (.int 0), .unset, .unset, .unset]
theorem d8_182 : own_d8 182 (.iload 7) 2 := by decide +kernel
theorem d8_184 : own_d8 184 (.aload_n 0) 1 := by decide +kernel
theorem d8_185 : own_d8 185 (.getfield 121) 3 := by decide +kernel
theorem d8_188 : own_d8 188 (.if_icmp .ge 31) 3 := by decide +kernel
theorem d8_191 : own_d8 191 (.aload_n 1) 1 := by decide +kernel
theorem d8_192 : own_d8 192 (.iload_n 3) 1 := by decide +kernel
theorem d8_193 : own_d8 193 .aaload 1 := by decide +kernel
theorem d8_194 : own_d8 194 (.iload 7) 2 := by decide +kernel
theorem d8_196 : own_d8 196 .dup2 1 := by decide +kernel
theorem d8_197 : own_d8 197 .daload 1 := by decide +kernel
theorem d8_198 : own_d8 198 (.dload 5) 2 := by decide +kernel
theorem d8_200 : own_d8 200 .ddiv 1 := by decide +kernel
theorem d8_201 : own_d8 201 .dastore 1 := by decide +kernel
theorem d8_202 : own_d8 202 (.aload_n 2) 1 := by decide +kernel
theorem d8_203 : own_d8 203 (.iload_n 3) 1 := by decide +kernel
theorem d8_204 : own_d8 204 .aaload 1 := by decide +kernel
theorem d8_205 : own_d8 205 (.iload 7) 2 := by decide +kernel
theorem d8_207 : own_d8 207 .dup2 1 := by decide +kernel
theorem d8_208 : own_d8 208 .daload 1 := by decide +kernel
theorem d8_209 : own_d8 209 (.dload 5) 2 := by decide +kernel
theorem d8_211 : own_d8 211 .ddiv 1 := by decide +kernel
theorem d8_212 : own_d8 212 .dastore 1 := by decide +kernel
theorem d8_213 : own_d8 213 (.iinc 7 1) 3 := by decide +kernel
abbrev own_loc35 (a0 b1492 b1538 : Addr) (bst : Int32) : Array Slot := #[.val (.ref a0), .val (.ref b1492), .val (.ref b1538), .val (.int 0), .val (.int bst), .val (.double (4607182418800017408 : UInt64)), .second, .val (.int 1), .unset, .unset, .unset]
theorem d8_216 : own_d8 216 (.goto (-34)) 3 := by decide +kernel
abbrev own_loc36 (a0 b1492 b1538 : Addr) (bst : Int32) : Array Slot := #[.val (.ref a0), .val (.ref b1492), .val (.ref b1538), .val (.int 0), .val (.int bst), .val (.double (4607182418800017408 : UInt64)), .second, .val (.int 2), .unset, .unset, .unset]
theorem d8_219 : own_d8 219 (.iconst 0) 1 := by decide +kernel
theorem d8_220 : own_d8 220 (.istore 7) 2 := by decide +kernel
theorem d8_222 : own_d8 222 (.iload 7) 2 := by decide +kernel
theorem d8_224 : own_d8 224 (.aload_n 0) 1 := by decide +kernel
theorem d8_225 : own_d8 225 (.getfield 121) 3 := by decide +kernel
theorem d8_228 : own_d8 228 (.if_icmp .ge 86) 3 := by decide +kernel
theorem d8_231 : own_d8 231 (.aload_n 1) 1 := by decide +kernel
theorem d8_232 : own_d8 232 (.iload 7) 2 := by decide +kernel
theorem d8_234 : own_d8 234 .aaload 1 := by decide +kernel
theorem d8_235 : own_d8 235 (.iload_n 3) 1 := by decide +kernel
theorem d8_236 : own_d8 236 .daload 1 := by decide +kernel
theorem d8_237 : own_d8 237 (.dstore 8) 2 := by decide +kernel
abbrev own_loc37 (a0 b1492 b1538 : Addr) (bst : Int32) : Array Slot := #[.val (.ref a0), .val (.ref b1492), .val (.ref b1538), .val (.int 0), .val (.int bst), .val (.double (4607182418800017408 : UInt64)), .second, .val (.int 0), .val (.double (4607182418800017408 : UInt64)), .second, .unset]
theorem d8_239 : own_d8 239 (.iload 7) 2 := by decide +kernel
theorem d8_241 : own_d8 241 (.iload_n 3) 1 := by decide +kernel
theorem d8_242 : own_d8 242 (.if_icmp .eq 66) 3 := by decide +kernel
theorem d8_308 : own_d8 308 (.iinc 7 1) 3 := by decide +kernel
abbrev own_loc38 (a0 b1492 b1538 : Addr) (bst : Int32) : Array Slot := #[.val (.ref a0), .val (.ref b1492), .val (.ref b1538), .val (.int 0), .val (.int bst), .val (.double (4607182418800017408 : UInt64)), .second, .val (.int 1), .val (.double (4607182418800017408 : UInt64)), .second, .unset]
theorem d8_311 : own_d8 311 (.goto (-89)) 3 := by decide +kernel
abbrev own_loc39 (a0 b1492 b1538 : Addr) (bst : Int32) : Array Slot := #[.val (.ref a0), .val (.ref b1492), .val (.ref b1538), .val (.int 0), .val (.int bst), .val (.double (4607182418800017408 : UInt64)), .second, .val (.int 1), .val (.double (0 : UInt64)), .second, .unset]
theorem d8_245 : own_d8 245 (.dload 8) 2 := by decide +kernel
theorem d8_247 : own_d8 247 (.dconst 0) 1 := by decide +kernel
theorem d8_248 : own_d8 248 (.dcmp .l) 1 := by decide +kernel
theorem d8_249 : own_d8 249 (.ifCond .eq 59) 3 := by decide +kernel
abbrev own_loc40 (a0 b1492 b1538 : Addr) (bst : Int32) : Array Slot := #[.val (.ref a0), .val (.ref b1492), .val (.ref b1538), .val (.int 0), .val (.int bst), .val (.double (4607182418800017408 : UInt64)), .second, .val (.int 2), .val (.double (0 : UInt64)), .second, .unset]
theorem d8_314 : own_d8 314 (.iinc 3 1) 3 := by decide +kernel
abbrev own_loc41 (a0 b1492 b1538 : Addr) (bst : Int32) : Array Slot := #[.val (.ref a0), .val (.ref b1492), .val (.ref b1538), .val (.int 1), .val (.int bst), .val (.double (4607182418800017408 : UInt64)), .second, .val (.int 2), .val (.double (0 : UInt64)), .second, .unset]
theorem d8_317 : own_d8 317 (.goto (-243)) 3 := by decide +kernel
abbrev own_loc42 (a0 b1492 b1538 : Addr) : Array Slot := #[.val (.ref a0), .val (.ref b1492), .val (.ref b1538), .val (.int 1), .val (.int 1), .val (.double (4607182418800017408 : UInt64)), .second, .val (.int 2), .val (.double (0 : UInt64)), .second, .unset]
abbrev own_loc43 (a0 b1492 b1538 : Addr) : Array Slot := #[.val (.ref a0), .val (.ref b1492), .val (.ref b1538), .val (.int 1), .val (.int 1), .val (.int 2), .unset, .val (.int 2), .val (.double (0 : UInt64)), .second, .unset]
abbrev own_loc44 (a0 b1492 b1538 : Addr) : Array Slot := #[.val (.ref a0), .val (.ref b1492), .val (.ref b1538), .val (.int 1), .val (.int 1), .val (.double (4607182418800017408 : UInt64)), .second, .val (.int 0), .val (.double (0 : UInt64)), .second, .unset]
abbrev own_loc45 (a0 b1492 b1538 : Addr) : Array Slot := #[.val (.ref a0), .val (.ref b1492), .val (.ref b1538), .val (.int 1), .val (.int 1), .val (.double (4607182418800017408 : UInt64)), .second, .val (.int 1), .val (.double (0 : UInt64)), .second, .unset]
abbrev own_loc46 (a0 b1492 b1538 : Addr) (U : UInt64) : Array Slot := #[.val (.ref a0), .val (.ref b1492), .val (.ref b1538), .val (.int 1), .val (.int 1), .val (.double (4607182418800017408 : UInt64)), .second, .val (.int 0), .val (.double U), .second, .unset]
theorem d8_252 : own_d8 252 (.iconst 0) 1 := by decide +kernel
theorem d8_253 : own_d8 253 (.istore 10) 2 := by decide +kernel
abbrev own_loc47 (a0 b1492 b1538 : Addr) (U : UInt64) : Array Slot := #[.val (.ref a0), .val (.ref b1492), .val (.ref b1538), .val (.int 1), .val (.int 1), .val (.double (4607182418800017408 : UInt64)), .second, .val (.int 0), .val (.double U), .second, .val (.int 0)]
theorem d8_255 : own_d8 255 (.iload 10) 2 := by decide +kernel
theorem d8_257 : own_d8 257 (.aload_n 0) 1 := by decide +kernel
theorem d8_258 : own_d8 258 (.getfield 121) 3 := by decide +kernel
theorem d8_261 : own_d8 261 (.if_icmp .ge 47) 3 := by decide +kernel
theorem d8_264 : own_d8 264 (.aload_n 1) 1 := by decide +kernel
theorem d8_265 : own_d8 265 (.iload 7) 2 := by decide +kernel
theorem d8_267 : own_d8 267 .aaload 1 := by decide +kernel
theorem d8_268 : own_d8 268 (.iload 10) 2 := by decide +kernel
theorem d8_270 : own_d8 270 .dup2 1 := by decide +kernel
theorem d8_271 : own_d8 271 .daload 1 := by decide +kernel
theorem d8_272 : own_d8 272 (.dload 8) 2 := by decide +kernel
theorem d8_274 : own_d8 274 (.aload_n 1) 1 := by decide +kernel
theorem d8_275 : own_d8 275 (.iload_n 3) 1 := by decide +kernel
theorem d8_276 : own_d8 276 .aaload 1 := by decide +kernel
theorem d8_277 : own_d8 277 (.iload 10) 2 := by decide +kernel
theorem d8_279 : own_d8 279 .daload 1 := by decide +kernel
theorem d8_280 : own_d8 280 .dmul 1 := by decide +kernel
theorem d8_281 : own_d8 281 .dsub 1 := by decide +kernel
theorem d8_282 : own_d8 282 .dastore 1 := by decide +kernel
theorem d8_283 : own_d8 283 (.aload_n 2) 1 := by decide +kernel
theorem d8_284 : own_d8 284 (.iload 7) 2 := by decide +kernel
theorem d8_286 : own_d8 286 .aaload 1 := by decide +kernel
theorem d8_287 : own_d8 287 (.iload 10) 2 := by decide +kernel
theorem d8_289 : own_d8 289 .dup2 1 := by decide +kernel
theorem d8_290 : own_d8 290 .daload 1 := by decide +kernel
theorem d8_291 : own_d8 291 (.dload 8) 2 := by decide +kernel
theorem d8_293 : own_d8 293 (.aload_n 2) 1 := by decide +kernel
theorem d8_294 : own_d8 294 (.iload_n 3) 1 := by decide +kernel
theorem d8_295 : own_d8 295 .aaload 1 := by decide +kernel
theorem d8_296 : own_d8 296 (.iload 10) 2 := by decide +kernel
theorem d8_298 : own_d8 298 .daload 1 := by decide +kernel
theorem d8_299 : own_d8 299 .dmul 1 := by decide +kernel
theorem d8_300 : own_d8 300 .dsub 1 := by decide +kernel
theorem d8_301 : own_d8 301 .dastore 1 := by decide +kernel
theorem d8_302 : own_d8 302 (.iinc 10 1) 3 := by decide +kernel
abbrev own_loc48 (a0 b1492 b1538 : Addr) (U : UInt64) : Array Slot := #[.val (.ref a0), .val (.ref b1492), .val (.ref b1538), .val (.int 1), .val (.int 1), .val (.double (4607182418800017408 : UInt64)), .second, .val (.int 0), .val (.double U), .second, .val (.int 1)]
theorem d8_305 : own_d8 305 (.goto (-50)) 3 := by decide +kernel
abbrev own_loc49 (a0 b1492 b1538 : Addr) (U : UInt64) : Array Slot := #[.val (.ref a0), .val (.ref b1492), .val (.ref b1538), .val (.int 1), .val (.int 1), .val (.double (4607182418800017408 : UInt64)), .second, .val (.int 0), .val (.double U), .second, .val (.int 2)]
abbrev own_loc50 (a0 b1492 b1538 : Addr) (U : UInt64) (sl1890 : Slot) : Array Slot := #[.val (.ref a0), .val (.ref b1492), .val (.ref b1538), .val (.int 1), .val (.int 1), .val (.double (4607182418800017408 : UInt64)), .second, .val (.int 0), .val (.double U), .second, sl1890]
abbrev own_loc51 (a0 b1492 b1538 : Addr) (U : UInt64) (sl1890 : Slot) : Array Slot := #[.val (.ref a0), .val (.ref b1492), .val (.ref b1538), .val (.int 1), .val (.int 1), .val (.double (4607182418800017408 : UInt64)), .second, .val (.int 1), .val (.double U), .second, sl1890]
abbrev own_loc52 (a0 b1492 b1538 : Addr) (sl1890 : Slot) : Array Slot := #[.val (.ref a0), .val (.ref b1492), .val (.ref b1538), .val (.int 1), .val (.int 1), .val (.double (4607182418800017408 : UInt64)), .second, .val (.int 1), .val (.double (4607182418800017408 : UInt64)), .second, sl1890]
abbrev own_loc53 (a0 b1492 b1538 : Addr) (sl1890 : Slot) : Array Slot := #[.val (.ref a0), .val (.ref b1492), .val (.ref b1538), .val (.int 1), .val (.int 1), .val (.double (4607182418800017408 : UInt64)), .second, .val (.int 2), .val (.double (4607182418800017408 : UInt64)), .second, sl1890]
abbrev own_loc54 (a0 b1492 b1538 : Addr) (sl1890 : Slot) : Array Slot := #[.val (.ref a0), .val (.ref b1492), .val (.ref b1538), .val (.int 2), .val (.int 1), .val (.double (4607182418800017408 : UInt64)), .second, .val (.int 2), .val (.double (4607182418800017408 : UInt64)), .second, sl1890]
theorem d8_320 : own_d8 320 (.aload_n 0) 1 := by decide +kernel
theorem d8_321 : own_d8 321 (.getfield 121) 3 := by decide +kernel
theorem d8_324 : own_d8 324 (.aload_n 0) 1 := by decide +kernel
theorem d8_325 : own_d8 325 (.getfield 52) 3 := by decide +kernel
theorem d8_328 : own_d8 328 .arraylength 1 := by decide +kernel
theorem d8_329 : own_d8 329 (.invokestatic 108) 3 := by decide +kernel
theorem d8_332 : own_d8 332 (.istore_n 3) 1 := by decide +kernel
theorem d8_333 : own_d8 333 (.aload_n 0) 1 := by decide +kernel
theorem d8_334 : own_d8 334 (.iload_n 3) 1 := by decide +kernel
theorem d8_335 : own_d8 335 (.iload_n 3) 1 := by decide +kernel
theorem d8_336 : own_d8 336 (.multianewarray 50 2) 4 := by decide +kernel
theorem d8_340 : own_d8 340 (.putfield 52) 3 := by decide +kernel
theorem d8_343 : own_d8 343 (.iconst 0) 1 := by decide +kernel
theorem d8_344 : own_d8 344 (.istore 4) 2 := by decide +kernel
abbrev own_loc55 (a0 b1492 b1538 : Addr) (sl1890 : Slot) : Array Slot := #[.val (.ref a0), .val (.ref b1492), .val (.ref b1538), .val (.int 2), .val (.int 0), .val (.double (4607182418800017408 : UInt64)), .second, .val (.int 2), .val (.double (4607182418800017408 : UInt64)), .second, sl1890]
theorem d8_346 : own_d8 346 (.iload 4) 2 := by decide +kernel
theorem d8_348 : own_d8 348 (.aload_n 0) 1 := by decide +kernel
theorem d8_349 : own_d8 349 (.getfield 121) 3 := by decide +kernel
theorem d8_352 : own_d8 352 (.if_icmp .ge 44) 3 := by decide +kernel
theorem d8_355 : own_d8 355 (.iconst 0) 1 := by decide +kernel
theorem d8_356 : own_d8 356 (.istore 5) 2 := by decide +kernel
abbrev own_loc56 (a0 b1492 b1538 : Addr) (sl1890 : Slot) : Array Slot := #[.val (.ref a0), .val (.ref b1492), .val (.ref b1538), .val (.int 2), .val (.int 0), .val (.int 0), .unset, .val (.int 2), .val (.double (4607182418800017408 : UInt64)), .second, sl1890]
theorem d8_358 : own_d8 358 (.iload 5) 2 := by decide +kernel
theorem d8_360 : own_d8 360 (.aload_n 0) 1 := by decide +kernel
theorem d8_361 : own_d8 361 (.getfield 121) 3 := by decide +kernel
theorem d8_364 : own_d8 364 (.if_icmp .ge 26) 3 := by decide +kernel
theorem d8_367 : own_d8 367 (.aload_n 0) 1 := by decide +kernel
theorem d8_368 : own_d8 368 (.getfield 52) 3 := by decide +kernel
theorem d8_371 : own_d8 371 (.iload 4) 2 := by decide +kernel
theorem d8_373 : own_d8 373 .aaload 1 := by decide +kernel
theorem d8_374 : own_d8 374 (.iload 5) 2 := by decide +kernel
theorem d8_376 : own_d8 376 (.aload_n 2) 1 := by decide +kernel
theorem d8_377 : own_d8 377 (.iload 5) 2 := by decide +kernel
theorem d8_379 : own_d8 379 .aaload 1 := by decide +kernel
theorem d8_380 : own_d8 380 (.iload 4) 2 := by decide +kernel
theorem d8_382 : own_d8 382 .daload 1 := by decide +kernel
theorem d8_383 : own_d8 383 .dastore 1 := by decide +kernel
theorem d8_384 : own_d8 384 (.iinc 5 1) 3 := by decide +kernel
abbrev own_loc57 (a0 b1492 b1538 : Addr) (sl1890 : Slot) : Array Slot := #[.val (.ref a0), .val (.ref b1492), .val (.ref b1538), .val (.int 2), .val (.int 0), .val (.int 1), .unset, .val (.int 2), .val (.double (4607182418800017408 : UInt64)), .second, sl1890]
theorem d8_387 : own_d8 387 (.goto (-29)) 3 := by decide +kernel
abbrev own_loc58 (a0 b1492 b1538 : Addr) (sl1890 : Slot) : Array Slot := #[.val (.ref a0), .val (.ref b1492), .val (.ref b1538), .val (.int 2), .val (.int 0), .val (.int 2), .unset, .val (.int 2), .val (.double (4607182418800017408 : UInt64)), .second, sl1890]
theorem d8_390 : own_d8 390 (.iinc 4 1) 3 := by decide +kernel
abbrev own_loc59 (a0 b1492 b1538 : Addr) (sl1890 : Slot) : Array Slot := #[.val (.ref a0), .val (.ref b1492), .val (.ref b1538), .val (.int 2), .val (.int 1), .val (.int 2), .unset, .val (.int 2), .val (.double (4607182418800017408 : UInt64)), .second, sl1890]
theorem d8_393 : own_d8 393 (.goto (-47)) 3 := by decide +kernel
abbrev own_loc60 (a0 b1492 b1538 : Addr) (sl1890 : Slot) : Array Slot := #[.val (.ref a0), .val (.ref b1492), .val (.ref b1538), .val (.int 2), .val (.int 1), .val (.int 0), .unset, .val (.int 2), .val (.double (4607182418800017408 : UInt64)), .second, sl1890]
abbrev own_loc61 (a0 b1492 b1538 : Addr) (sl1890 : Slot) : Array Slot := #[.val (.ref a0), .val (.ref b1492), .val (.ref b1538), .val (.int 2), .val (.int 1), .val (.int 1), .unset, .val (.int 2), .val (.double (4607182418800017408 : UInt64)), .second, sl1890]
abbrev own_loc62 (a0 b1492 b1538 : Addr) (sl1890 : Slot) : Array Slot := #[.val (.ref a0), .val (.ref b1492), .val (.ref b1538), .val (.int 2), .val (.int 2), .val (.int 2), .unset, .val (.int 2), .val (.double (4607182418800017408 : UInt64)), .second, sl1890]
theorem d8_396 : own_d8 396 (.aload_n 0) 1 := by decide +kernel
theorem d8_397 : own_d8 397 (.getfield 35) 3 := by decide +kernel
theorem d8_400 : own_d8 400 (.aload_n 0) 1 := by decide +kernel
theorem d8_401 : own_d8 401 (.getfield 121) 3 := by decide +kernel
theorem pd_12 : parseMethodDescriptor "([DI)[D" = some ⟨[(.array .double), .int], some (.array .double)⟩ := by decide +kernel
theorem d8_404 : own_d8 404 (.invokestatic 92) 3 := by decide +kernel
theorem d8_407 : own_d8 407 (.astore 4) 2 := by decide +kernel
abbrev own_loc63 (a0 b1492 b1538 r2017 : Addr) (sl1890 : Slot) : Array Slot := #[.val (.ref a0), .val (.ref b1492), .val (.ref b1538), .val (.int 2), .val (.ref r2017), .val (.int 2), .unset, .val (.int 2), .val (.double (4607182418800017408 : UInt64)), .second, sl1890]
theorem d8_409 : own_d8 409 (.iconst 0) 1 := by decide +kernel
theorem d8_410 : own_d8 410 (.istore 5) 2 := by decide +kernel
abbrev own_loc64 (a0 b1492 b1538 r2017 : Addr) (sl1890 : Slot) : Array Slot := #[.val (.ref a0), .val (.ref b1492), .val (.ref b1538), .val (.int 2), .val (.ref r2017), .val (.int 0), .unset, .val (.int 2), .val (.double (4607182418800017408 : UInt64)), .second, sl1890]
theorem d8_412 : own_d8 412 (.iload 5) 2 := by decide +kernel
theorem d8_414 : own_d8 414 (.aload_n 0) 1 := by decide +kernel
theorem d8_415 : own_d8 415 (.getfield 85) 3 := by decide +kernel
theorem d8_418 : own_d8 418 (.if_icmp .ge 25) 3 := by decide +kernel
theorem d8_421 : own_d8 421 (.aload_n 0) 1 := by decide +kernel
theorem d8_422 : own_d8 422 (.aload 4) 2 := by decide +kernel
theorem d8_424 : own_d8 424 (.aload_n 0) 1 := by decide +kernel
theorem d8_425 : own_d8 425 (.getfield 41) 3 := by decide +kernel
theorem d8_428 : own_d8 428 (.iload 5) 2 := by decide +kernel
theorem d8_430 : own_d8 430 .iaload 1 := by decide +kernel
theorem d8_431 : own_d8 431 (.ldc2_w 222) 3 := by decide +kernel
theorem d8_434 : own_d8 434 (.invokevirtual 218) 3 := by decide +kernel
theorem d8_437 : own_d8 437 (.iinc 5 1) 3 := by decide +kernel
abbrev own_loc65 (a0 b1492 b1538 r2017 : Addr) (sl1890 : Slot) : Array Slot := #[.val (.ref a0), .val (.ref b1492), .val (.ref b1538), .val (.int 2), .val (.ref r2017), .val (.int 1), .unset, .val (.int 2), .val (.double (4607182418800017408 : UInt64)), .second, sl1890]
theorem d8_440 : own_d8 440 (.goto (-28)) 3 := by decide +kernel
theorem d8_443 : own_d8 443 (.aload_n 0) 1 := by decide +kernel
theorem d8_444 : own_d8 444 (.aload_n 0) 1 := by decide +kernel
theorem d8_445 : own_d8 445 (.getfield 121) 3 := by decide +kernel
theorem d8_448 : own_d8 448 (.newarray .double) 2 := by decide +kernel
theorem d8_450 : own_d8 450 (.putfield 55) 3 := by decide +kernel
theorem d8_453 : own_d8 453 (.iconst 0) 1 := by decide +kernel
theorem d8_454 : own_d8 454 (.istore 5) 2 := by decide +kernel
theorem d8_456 : own_d8 456 (.iload 5) 2 := by decide +kernel
theorem d8_458 : own_d8 458 (.aload_n 0) 1 := by decide +kernel
theorem d8_459 : own_d8 459 (.getfield 121) 3 := by decide +kernel
theorem d8_462 : own_d8 462 (.if_icmp .ge 60) 3 := by decide +kernel
theorem d8_465 : own_d8 465 (.dconst 0) 1 := by decide +kernel
theorem d8_466 : own_d8 466 (.dstore 6) 2 := by decide +kernel
abbrev own_loc66 (a0 b1492 b1538 r2017 : Addr) (sl1890 : Slot) : Array Slot := #[.val (.ref a0), .val (.ref b1492), .val (.ref b1538), .val (.int 2), .val (.ref r2017), .val (.int 0), .val (.double (0 : UInt64)), .second, .val (.double (4607182418800017408 : UInt64)), .second, sl1890]
theorem d8_468 : own_d8 468 (.iconst 0) 1 := by decide +kernel
theorem d8_469 : own_d8 469 (.istore 8) 2 := by decide +kernel
abbrev own_loc67 (a0 b1492 b1538 r2017 : Addr) (sl1890 : Slot) : Array Slot := #[.val (.ref a0), .val (.ref b1492), .val (.ref b1538), .val (.int 2), .val (.ref r2017), .val (.int 0), .val (.double (0 : UInt64)), .second, .val (.int 0), .unset, sl1890]
theorem d8_471 : own_d8 471 (.iload 8) 2 := by decide +kernel
theorem d8_473 : own_d8 473 (.aload_n 0) 1 := by decide +kernel
theorem d8_474 : own_d8 474 (.getfield 121) 3 := by decide +kernel
theorem d8_477 : own_d8 477 (.if_icmp .ge 30) 3 := by decide +kernel
theorem d8_480 : own_d8 480 (.dload 6) 2 := by decide +kernel
theorem d8_482 : own_d8 482 (.aload_n 0) 1 := by decide +kernel
theorem d8_483 : own_d8 483 (.getfield 52) 3 := by decide +kernel
theorem d8_486 : own_d8 486 (.iload 5) 2 := by decide +kernel
theorem d8_488 : own_d8 488 .aaload 1 := by decide +kernel
theorem d8_489 : own_d8 489 (.iload 8) 2 := by decide +kernel
theorem d8_491 : own_d8 491 .daload 1 := by decide +kernel
theorem d8_492 : own_d8 492 (.aload 4) 2 := by decide +kernel
theorem d8_494 : own_d8 494 (.iload 8) 2 := by decide +kernel
theorem d8_496 : own_d8 496 .daload 1 := by decide +kernel
theorem d8_497 : own_d8 497 .dmul 1 := by decide +kernel
theorem d8_498 : own_d8 498 .dadd 1 := by decide +kernel
theorem d8_499 : own_d8 499 (.dstore 6) 2 := by decide +kernel
theorem d8_501 : own_d8 501 (.iinc 8 1) 3 := by decide +kernel
abbrev own_loc68 (a0 b1492 b1538 r2017 : Addr) (sl1890 : Slot) : Array Slot := #[.val (.ref a0), .val (.ref b1492), .val (.ref b1538), .val (.int 2), .val (.ref r2017), .val (.int 0), .val (.double (0 : UInt64)), .second, .val (.int 1), .unset, sl1890]
theorem d8_504 : own_d8 504 (.goto (-33)) 3 := by decide +kernel
abbrev own_loc69 (a0 b1492 b1538 r2017 : Addr) (sl1890 : Slot) : Array Slot := #[.val (.ref a0), .val (.ref b1492), .val (.ref b1538), .val (.int 2), .val (.ref r2017), .val (.int 0), .val (.double (0 : UInt64)), .second, .val (.int 2), .unset, sl1890]
theorem d8_507 : own_d8 507 (.aload_n 0) 1 := by decide +kernel
theorem d8_508 : own_d8 508 (.getfield 55) 3 := by decide +kernel
theorem d8_511 : own_d8 511 (.iload 5) 2 := by decide +kernel
theorem d8_513 : own_d8 513 (.dload 6) 2 := by decide +kernel
theorem d8_515 : own_d8 515 .dastore 1 := by decide +kernel
theorem d8_516 : own_d8 516 (.iinc 5 1) 3 := by decide +kernel
abbrev own_loc70 (a0 b1492 b1538 r2017 : Addr) (sl1890 : Slot) : Array Slot := #[.val (.ref a0), .val (.ref b1492), .val (.ref b1538), .val (.int 2), .val (.ref r2017), .val (.int 1), .val (.double (0 : UInt64)), .second, .val (.int 2), .unset, sl1890]
theorem d8_519 : own_d8 519 (.goto (-63)) 3 := by decide +kernel
abbrev own_loc71 (a0 b1492 b1538 r2017 : Addr) (sl1890 : Slot) : Array Slot := #[.val (.ref a0), .val (.ref b1492), .val (.ref b1538), .val (.int 2), .val (.ref r2017), .val (.int 1), .val (.double (0 : UInt64)), .second, .val (.int 0), .unset, sl1890]
abbrev own_loc72 (a0 b1492 b1538 r2017 : Addr) (sl1890 : Slot) : Array Slot := #[.val (.ref a0), .val (.ref b1492), .val (.ref b1538), .val (.int 2), .val (.ref r2017), .val (.int 1), .val (.double (0 : UInt64)), .second, .val (.int 1), .unset, sl1890]
abbrev own_loc73 (a0 b1492 b1538 r2017 : Addr) (sl1890 : Slot) : Array Slot := #[.val (.ref a0), .val (.ref b1492), .val (.ref b1538), .val (.int 2), .val (.ref r2017), .val (.int 2), .val (.double (0 : UInt64)), .second, .val (.int 2), .unset, sl1890]
theorem d8_522 : own_d8 522 (.aload_n 0) 1 := by decide +kernel
theorem d8_523 : own_d8 523 (.aload_n 0) 1 := by decide +kernel
theorem d8_524 : own_d8 524 (.getfield 85) 3 := by decide +kernel
theorem d8_527 : own_d8 527 (.newarray .double) 2 := by decide +kernel
theorem d8_529 : own_d8 529 (.putfield 44) 3 := by decide +kernel
theorem d8_532 : own_d8 532 (.aload_n 0) 1 := by decide +kernel
theorem d8_533 : own_d8 533 (.getfield 44) 3 := by decide +kernel
theorem d8_536 : own_d8 536 (.dconst 1) 1 := by decide +kernel
theorem pd_11 : parseMethodDescriptor "([DD)V" = some ⟨[(.array .double), .double], none⟩ := by decide +kernel
theorem d8_537 : own_d8 537 (.invokestatic 261) 3 := by decide +kernel
theorem d8_540 : own_d8 540 (.iconst 0) 1 := by decide +kernel
theorem d8_541 : own_d8 541 (.istore 5) 2 := by decide +kernel
theorem d8_543 : own_d8 543 (.iload 5) 2 := by decide +kernel
theorem d8_545 : own_d8 545 (.aload_n 0) 1 := by decide +kernel
theorem d8_546 : own_d8 546 (.getfield 121) 3 := by decide +kernel
theorem d8_549 : own_d8 549 (.if_icmp .ge 45) 3 := by decide +kernel
theorem d8_552 : own_d8 552 (.aload_n 0) 1 := by decide +kernel
theorem d8_553 : own_d8 553 (.getfield 13) 3 := by decide +kernel
theorem d8_556 : own_d8 556 (.aload_n 0) 1 := by decide +kernel
theorem d8_557 : own_d8 557 (.getfield 47) 3 := by decide +kernel
theorem d8_560 : own_d8 560 (.iload 5) 2 := by decide +kernel
theorem d8_562 : own_d8 562 .iaload 1 := by decide +kernel
theorem d8_563 : own_d8 563 .iaload 1 := by decide +kernel
theorem d8_564 : own_d8 564 (.istore 6) 2 := by decide +kernel
abbrev own_loc74 (a0 b1492 b1538 r2017 : Addr) (g0 : Int32) (sl1890 : Slot) : Array Slot := #[.val (.ref a0), .val (.ref b1492), .val (.ref b1538), .val (.int 2), .val (.ref r2017), .val (.int 0), .val (.int g0), .unset, .val (.int 2), .unset, sl1890]
theorem d8_566 : own_d8 566 (.iload 6) 2 := by decide +kernel
theorem d8_568 : own_d8 568 (.ifCond .lt 20) 3 := by decide +kernel
abbrev own_loc75 (a0 b1492 b1538 r2017 : Addr) (sl1890 : Slot) : Array Slot := #[.val (.ref a0), .val (.ref b1492), .val (.ref b1538), .val (.int 2), .val (.ref r2017), .val (.int 0), .val (.int 0), .unset, .val (.int 2), .unset, sl1890]
theorem d8_571 : own_d8 571 (.aload_n 0) 1 := by decide +kernel
theorem d8_572 : own_d8 572 (.getfield 44) 3 := by decide +kernel
theorem d8_575 : own_d8 575 (.iload 6) 2 := by decide +kernel
theorem d8_577 : own_d8 577 .dup2 1 := by decide +kernel
theorem d8_578 : own_d8 578 .daload 1 := by decide +kernel
theorem d8_579 : own_d8 579 (.aload_n 0) 1 := by decide +kernel
theorem d8_580 : own_d8 580 (.getfield 55) 3 := by decide +kernel
theorem d8_583 : own_d8 583 (.iload 5) 2 := by decide +kernel
theorem d8_585 : own_d8 585 .daload 1 := by decide +kernel
theorem d8_586 : own_d8 586 .dsub 1 := by decide +kernel
theorem d8_587 : own_d8 587 .dastore 1 := by decide +kernel
theorem d8_588 : own_d8 588 (.iinc 5 1) 3 := by decide +kernel
abbrev own_loc76 (a0 b1492 b1538 r2017 : Addr) (g0 : Int32) (sl1890 : Slot) : Array Slot := #[.val (.ref a0), .val (.ref b1492), .val (.ref b1538), .val (.int 2), .val (.ref r2017), .val (.int 1), .val (.int g0), .unset, .val (.int 2), .unset, sl1890]
theorem d8_591 : own_d8 591 (.goto (-48)) 3 := by decide +kernel
abbrev own_loc77 (a0 b1492 b1538 r2017 : Addr) (g1 : Int32) (sl1890 : Slot) : Array Slot := #[.val (.ref a0), .val (.ref b1492), .val (.ref b1538), .val (.int 2), .val (.ref r2017), .val (.int 1), .val (.int g1), .unset, .val (.int 2), .unset, sl1890]
abbrev own_loc78 (a0 b1492 b1538 r2017 : Addr) (sl1890 : Slot) : Array Slot := #[.val (.ref a0), .val (.ref b1492), .val (.ref b1538), .val (.int 2), .val (.ref r2017), .val (.int 1), .val (.int 0), .unset, .val (.int 2), .unset, sl1890]
abbrev own_loc79 (a0 b1492 b1538 r2017 : Addr) (g1 : Int32) (sl1890 : Slot) : Array Slot := #[.val (.ref a0), .val (.ref b1492), .val (.ref b1538), .val (.int 2), .val (.ref r2017), .val (.int 2), .val (.int g1), .unset, .val (.int 2), .unset, sl1890]
theorem d8_594 : own_d8 594 (.aload_n 0) 1 := by decide +kernel
theorem d8_595 : own_d8 595 (.dconst 0) 1 := by decide +kernel
theorem d8_596 : own_d8 596 (.putfield 156) 3 := by decide +kernel
theorem d8_599 : own_d8 599 (.iconst 0) 1 := by decide +kernel
theorem d8_600 : own_d8 600 (.istore 5) 2 := by decide +kernel
abbrev own_loc80 (a0 b1492 b1538 r2017 : Addr) (g1 : Int32) (sl1890 : Slot) : Array Slot := #[.val (.ref a0), .val (.ref b1492), .val (.ref b1538), .val (.int 2), .val (.ref r2017), .val (.int 0), .val (.int g1), .unset, .val (.int 2), .unset, sl1890]
theorem d8_602 : own_d8 602 (.iload 5) 2 := by decide +kernel
theorem d8_604 : own_d8 604 (.aload_n 0) 1 := by decide +kernel
theorem d8_605 : own_d8 605 (.getfield 121) 3 := by decide +kernel
theorem d8_608 : own_d8 608 (.if_icmp .ge 38) 3 := by decide +kernel
theorem d8_611 : own_d8 611 (.aload_n 0) 1 := by decide +kernel
theorem d8_612 : own_d8 612 .dup 1 := by decide +kernel
theorem d8_613 : own_d8 613 (.getfield 156) 3 := by decide +kernel
theorem d8_616 : own_d8 616 (.aload_n 0) 1 := by decide +kernel
theorem d8_617 : own_d8 617 (.getfield 7) 3 := by decide +kernel
theorem d8_620 : own_d8 620 (.aload_n 0) 1 := by decide +kernel
theorem d8_621 : own_d8 621 (.getfield 47) 3 := by decide +kernel
theorem d8_624 : own_d8 624 (.iload 5) 2 := by decide +kernel
theorem d8_626 : own_d8 626 .iaload 1 := by decide +kernel
theorem d8_627 : own_d8 627 .daload 1 := by decide +kernel
theorem d8_628 : own_d8 628 (.aload_n 0) 1 := by decide +kernel
theorem d8_629 : own_d8 629 (.getfield 55) 3 := by decide +kernel
theorem d8_632 : own_d8 632 (.iload 5) 2 := by decide +kernel
theorem d8_634 : own_d8 634 .daload 1 := by decide +kernel
theorem d8_635 : own_d8 635 .dmul 1 := by decide +kernel
theorem d8_636 : own_d8 636 .dadd 1 := by decide +kernel
theorem d8_637 : own_d8 637 (.putfield 156) 3 := by decide +kernel
theorem d8_640 : own_d8 640 (.iinc 5 1) 3 := by decide +kernel
theorem d8_643 : own_d8 643 (.goto (-41)) 3 := by decide +kernel
theorem d8_646 : own_d8 646 (.iconst 0) 1 := by decide +kernel
theorem d8_647 : own_d8 647 (.istore 5) 2 := by decide +kernel
theorem d8_649 : own_d8 649 (.iload 5) 2 := by decide +kernel
theorem d8_651 : own_d8 651 (.aload_n 0) 1 := by decide +kernel
theorem d8_652 : own_d8 652 (.getfield 85) 3 := by decide +kernel
theorem d8_655 : own_d8 655 (.if_icmp .ge 38) 3 := by decide +kernel
theorem d8_658 : own_d8 658 (.aload_n 0) 1 := by decide +kernel
theorem d8_659 : own_d8 659 .dup 1 := by decide +kernel
theorem d8_660 : own_d8 660 (.getfield 156) 3 := by decide +kernel
theorem d8_663 : own_d8 663 (.aload_n 0) 1 := by decide +kernel
theorem d8_664 : own_d8 664 (.getfield 7) 3 := by decide +kernel
theorem d8_667 : own_d8 667 (.aload_n 0) 1 := by decide +kernel
theorem d8_668 : own_d8 668 (.getfield 41) 3 := by decide +kernel
theorem d8_671 : own_d8 671 (.iload 5) 2 := by decide +kernel
theorem d8_673 : own_d8 673 .iaload 1 := by decide +kernel
theorem d8_674 : own_d8 674 .daload 1 := by decide +kernel
theorem d8_675 : own_d8 675 (.aload_n 0) 1 := by decide +kernel
theorem d8_676 : own_d8 676 (.getfield 44) 3 := by decide +kernel
theorem d8_679 : own_d8 679 (.iload 5) 2 := by decide +kernel
theorem d8_681 : own_d8 681 .daload 1 := by decide +kernel
theorem d8_682 : own_d8 682 .dmul 1 := by decide +kernel
theorem d8_683 : own_d8 683 .dadd 1 := by decide +kernel
theorem d8_684 : own_d8 684 (.putfield 156) 3 := by decide +kernel
theorem d8_687 : own_d8 687 (.iinc 5 1) 3 := by decide +kernel
theorem d8_690 : own_d8 690 (.goto (-41)) 3 := by decide +kernel
theorem d8_693 : own_d8 693 (.aload_n 0) 1 := by decide +kernel
theorem d8_694 : own_d8 694 (.iconst 0) 1 := by decide +kernel
theorem d8_695 : own_d8 695 (.putfield 257) 3 := by decide +kernel
theorem d8_698 : own_d8 698 .return_ 1 := by decide +kernel
def Q8 (Z : State) (a0 uc ug : Addr) (w_positionOf : Value) (uf ue : Addr) (w_entryRooms : Value) (ur uv ub : Addr) (w_slacks : Value) (uk : Addr) (w_keyValues : Value) (uh ui : Addr) (w_values w_groupDualPass w_groupDualValues w_rates w_rated w_ratedGroups w_started w_variableCount w_entriesUsed w_objective w_pivotsSinceInversion : Value) (kug : ClassId) (lg : List Value) (kuf : ClassId) (lf : List Value) (kue : ClassId) (le : List Value) (kur : ClassId) (lr : List Value) (kuv : ClassId) (lv : List Value) (kub : ClassId) (lb : List Value) (kuc : ClassId) (lc : List Value) (kuk kuh : ClassId) (hd0 hd1 : Int32) (kui : ClassId) (ck n00 n01 n10 n11 : UInt64) (h0 : Heap) (n0 : Nat) (v : Option Value) (h : Heap) (L : List Loc) : Prop := ∃ (va kv iv i0 i1 : Addr) (kz1 kz2 kz3 kz4 kz5 : ClassId), v = none ∧ Fr n0 L ∧ Keep h0 h [a0] ∧ (h0.size ≤ va ∧ h0.size ≤ kv ∧ h0.size ≤ iv ∧ h0.size ≤ i0 ∧ h0.size ≤ i1) ∧ own_fs own_K own_N Z h a0 [(.ref uc), (.ref ug), w_positionOf, (.ref uf), (.ref ue), w_entryRooms, (.ref ur), (.ref uv), (.ref ub), w_slacks, (.ref uk), (.ref kv), (.ref uh), (.ref iv), (.ref va), w_groupDualPass, w_groupDualValues, w_rates, w_rated, w_ratedGroups, w_started, (.int (1 : Int32)), w_variableCount, w_entriesUsed, (.int (2 : Int32)), (.double ck), (.int (0 : Int32))] ∧ Arv Z h va kz1 .double (2 : Int32) [(.double (0 : UInt64)), (.double (0 : UInt64))] (.double (0 : UInt64)) ∧ Arv Z h kv kz2 .double (1 : Int32) [(.double (4607182418800017408 : UInt64))] (.double (0 : UInt64)) ∧ Arv Z h iv kz3 (.array .double) (2 : Int32) [(.ref i0), (.ref i1)] .null ∧ Arv Z h i0 kz4 .double (2 : Int32) [(.double n00), (.double n01)] (.double (0 : UInt64)) ∧ Arv Z h i1 kz5 .double (2 : Int32) [(.double n10), (.double n11)] (.double (0 : UInt64))
set_option maxRecDepth 65536 in
set_option maxHeartbeats 40000000 in
theorem rm8 (l : Launch) (Z : State) (ag : Array Value) (hw : ∀ d ∈ tables_1, d.before ag Z = true) (ws : List Jvm.Cond) (a0 uc ug : Addr) (w_positionOf : Value) (uf ue : Addr) (w_entryRooms : Value) (ur uv ub : Addr) (w_slacks : Value) (uk : Addr) (w_keyValues : Value) (uh ui : Addr) (w_values w_groupDualPass w_groupDualValues w_rates w_rated w_ratedGroups w_started w_variableCount w_entriesUsed w_objective w_pivotsSinceInversion : Value) (kug : ClassId) (lg : List Value) (kuf : ClassId) (lf : List Value) (kue : ClassId) (le : List Value) (kur : ClassId) (lr : List Value) (kuv : ClassId) (lv : List Value) (kub : ClassId) (lb : List Value) (kuc : ClassId) (lc : List Value) (kuk kuh : ClassId) (hd0 hd1 : Int32) (kui : ClassId) (ck n00 n01 n10 n11 : UInt64) (h0 : Heap) (n0 : Nat) (Z0 : n0 ≤ h0.size) (E_a0 : Exa Z h0 a0 own_K) (Ob_a0 : own_fs own_K own_N Z h0 a0 [(.ref uc), (.ref ug), w_positionOf, (.ref uf), (.ref ue), w_entryRooms, (.ref ur), (.ref uv), (.ref ub), w_slacks, (.ref uk), w_keyValues, (.ref uh), (.ref ui), w_values, w_groupDualPass, w_groupDualValues, w_rates, w_rated, w_ratedGroups, w_started, (.int (1 : Int32)), w_variableCount, w_entriesUsed, (.int (2 : Int32)), w_objective, w_pivotsSinceInversion]) (V_ug : Arv Z h0 ug kug .int (16 : Int32) lg (.int (0 : Int32))) (V_uf : Arv Z h0 uf kuf .int (16 : Int32) lf (.int (0 : Int32))) (V_ue : Arv Z h0 ue kue .int (16 : Int32) le (.int (0 : Int32))) (V_ur : Arv Z h0 ur kur .int (64 : Int32) lr (.int (0 : Int32))) (V_uv : Arv Z h0 uv kuv .double (64 : Int32) lv (.double (0 : UInt64))) (V_ub : Arv Z h0 ub kub .double (16 : Int32) lb (.double (0 : UInt64))) (V_uc : Arv Z h0 uc kuc .double (16 : Int32) lc (.double (0 : UInt64))) (V_uk : Arv Z h0 uk kuk .int (1 : Int32) [(.int (0 : Int32))] (.int (0 : Int32))) (V_uh : Arv Z h0 uh kuh .int (2 : Int32) [(.int hd0), (.int hd1)] (.int (0 : Int32))) (V_ui : Arv Z h0 ui kui (.array .double) (0 : Int32) [] .null) (ge_a0 : n0 ≤ a0) (ne_a0_ug : a0 ≠ ug) (ne_a0_uf : a0 ≠ uf) (ne_a0_ue : a0 ≠ ue) (ne_a0_ur : a0 ≠ ur) (ne_a0_uv : a0 ≠ uv) (ne_a0_ub : a0 ≠ ub) (ne_a0_uc : a0 ≠ uc) (ne_a0_uk : a0 ≠ uk) (ne_a0_uh : a0 ≠ uh) (ne_a0_ui : a0 ≠ ui) (hI : own_inv lf le lr lv lg lc lb hd0 hd1 ck n00 n01 n10 n11) :
    MetFree l (⟨own_K, "invert", "()V"⟩ : MethodName) (head1 (Jvm.Cond.code (⟨own_K, "invert", "()V"⟩ : MethodName) prog_56_method_33_code 11 none :: ws) ({ frames := 2, cells := 12, slots := 23, locals := 35 } : Room)) (fun a U => a = #[(.ref a0)] ∧ Z.Warmed39 U.vm ∧ U.heap = h0) (fun _ _ _ _ _ => True) (fun _ U o U' => ∃ v L, o = .returned v ∧ Q8 Z a0 uc ug w_positionOf uf ue w_entryRooms ur uv ub w_slacks uk w_keyValues uh ui w_values w_groupDualPass w_groupDualValues w_rates w_rated w_ratedGroups w_started w_variableCount w_entriesUsed w_objective w_pivotsSinceInversion kug lg kuf lf kue le kur lr kuv lv kub lb kuc lc kuk kuh hd0 hd1 kui ck n00 n01 n10 n11 h0 n0 v U'.heap L ∧ FrameEnd U o U' L ({ frames := 2, cells := 12, slots := 23, locals := 35 } : Room).cells ({ frames := 2, cells := 12, slots := 23, locals := 35 } : Room).slots) := by
  refine MetFree.of_bodySF (plainFor_of_name pn_0) hisR ?_
  intro p e s m args below meth c s₁ Bd hml0 hP hK
  obtain ⟨rfl, hZ, hh⟩ := hP
  have hx := Bd.exec
  have hby := Bd.bytes
  have hml : c.maxLocals = 11 := hml0
  have hown : s.vm.findClass own_K = some m.cls := findClass_of_methodNamed Bd.named
  have hnm := (name_of_methodNamed Bd.named Bd.method).1
  have X0 : Stand p l e ({ frames := 2, cells := 12, slots := 23, locals := 35 } : Room) s m #[(.ref a0)] below meth c s₁ [] 0 0 := Stand.of_body Bd
  have e0 : s₁.heap = h0 := by rw [← hh, Bd.state]; rfl
  have N0 := Fr.nil n0
  have D : ∀ {pc : Nat} {r : Except DecodeError (Instr × Nat)}, decode prog_56_method_33_code pc = r → decode c.code pc = r := fun q => hb hby q
  have pre0 : ∀ t, Steps p.tables e below (s₁.setTop (mkF m 0 #[.val (.ref a0), .unset, .unset, .unset, .unset, .unset, .unset, .unset, .unset, .unset, .unset] [])) t → Steps p.tables e below (s₁.setTop (entryFrame m #[(.ref a0)] 11)) t := fun t k => castTop (ef_8 m a0) k
  obtain ⟨m00, m01, m10, m11, U, r0, r1, bst, hc0, hc1, hkey, ⟨q0, hq0, hwq0⟩, ⟨q1, hq1, hwq1⟩, ⟨hck, hwk⟩, ⟨hbd0, hbd1⟩, hbst, hsw, hU, ⟨wn00, hz0, he0⟩, ⟨wn10, hz1, he1⟩⟩ := hI
  obtain ⟨hv0, ⟨g0, hg0, hgz0⟩, -⟩ := id hc0
  obtain ⟨hv1, ⟨g1, hg1, hgz1⟩, -⟩ := id hc1
  obtain ⟨wm00, wm10, wr0, wr1, wn01, wn11⟩ := own_sww hsw
  obtain ⟨T1491, X1491, e1491, st1491⟩ := own_gf X0 hx hZ hown (own_wk hw 81 rfl) e0 Ob_a0 24 rfl rfl (g := (mkF m 1 #[.val (.ref a0), .unset, .unset, .unset, .unset, .unset, .unset, .unset, .unset, .unset, .unset] [(.ref a0)])) rfl rfl (D d8_1)
  obtain ⟨T1492, h1492, k1492, X1492, e1492, E1492, A1492, EA1492, O1492, st1492⟩ := newRA X1491 hx hZ hown (ty := .double) (C := "[D") (by decide) (own_wk hw 102 rfl) (own_wk hw 38 rfl) e1491 (g := (mkF m 4 #[.val (.ref a0), .unset, .unset, .unset, .unset, .unset, .unset, .unset, .unset, .unset, .unset] [.int 2])) rfl (D d8_4) rfl (by decide) (cap := 2) (by decide) (by decide) (by decide) (by decide) (ad := "[[D") (by decide)
  obtain ⟨b1492, g1492⟩ : ∃ z, z = h0.size := ⟨_, rfl⟩
  have gq_b1492 : h0.size ≤ b1492 := Nat.le_trans (Keep.refl h0 []).1 (Nat.le_of_eq g1492.symm)
  have ne1493 : a0 ≠ b1492 := Nat.ne_of_lt (Nat.lt_of_lt_of_le (Ob_a0.get 0 rfl rfl).lt (Nat.le_of_eq g1492.symm))
  have ge_b1492 : n0 ≤ b1492 := Nat.le_trans Z0 (Nat.le_of_eq g1492.symm)
  have gs_b1492 : h0.size ≤ b1492 := Nat.le_trans (Keep.refl h0 [a0]).1 (Nat.le_of_eq g1492.symm)
  rw [← g1492] at A1492 st1492 EA1492
  have kq1494 := (Keep.refl h0 []).ext E1492
  have kp1495 : Keep h0 h1492 [a0] := (Keep.refl h0 [a0]).ext E1492
  have V1492 : Arv Z h1492 b1492 k1492 (.array .double) (2 : Int32) [.null, .null] .null := (Arv.new A1492 (by decide)).pad (pad_rep [] .null 2)
  obtain ⟨T1496, X1496, e1496, st1496⟩ := own_gf X1492 hx hZ hown (own_wk hw 81 rfl) e1492 (Ob_a0.keep kq1494 nin0) 24 rfl rfl (g := (mkF m 12 (own_loc20 a0 b1492) [(.ref a0), .int 0])) rfl rfl (D d8_12)
  obtain ⟨T1497, X1497, e1497, st1497⟩ := own_gf X1496 hx hZ hown (own_wk hw 35 rfl) e1496 (Ob_a0.keep kq1494 nin0) 12 rfl rfl (g := (mkF m 22 (own_loc20 a0 b1492) [(.ref a0), (.ref a0), .int 0, (.ref b1492)])) rfl rfl (D d8_22)
  have cp1499 : ∀ target, own_S p e below T1497 (mkF m 27 (own_loc20 a0 b1492) [(.int hd0), (.ref a0), .int 0, (.ref b1492)]) target → own_S p e below s₁ (mkF m 0 #[.val (.ref a0), .unset, .unset, .unset, .unset, .unset, .unset, .unset, .unset, .unset, .unset] []) target := by
    intro target kt
    show own_S p e below s₁ (mkF m 0 #[.val (.ref a0), .unset, .unset, .unset, .unset, .unset, .unset, .unset, .unset, .unset, .unset] []) _
    refine XS.aloadN X0.here hx rfl (D d8_0) rfl rfl (st1491 _ (st1492 _ (XS.astoreN X1492.here hx rfl (D d8_7) rfl rfl (l' := (own_loc19 a0 b1492)) rfl (XS.iconst X1492.here hx rfl (D d8_8) (XS.istoreN X1492.here hx rfl (D d8_9) rfl (l' := (own_loc20 a0 b1492)) rfl (XS.iloadN X1492.here hx rfl (D d8_10) rfl (XS.aloadN X1492.here hx rfl (D d8_11) rfl rfl (st1496 _ (XS.icmpNo X1496.here hx rfl (D d8_15) rfl (tlt (by decide : (0 : Int32) < (2 : Int32))).2.1 ?_)))))))))
    refine XS.aloadN X1496.here hx rfl (D d8_18) rfl rfl (XS.iloadN X1496.here hx rfl (D d8_19) rfl (XS.aloadN X1496.here hx rfl (D d8_20) rfl rfl (XS.aloadN X1496.here hx rfl (D d8_21) rfl rfl (st1497 _ ?_))))
    show own_S p e below T1497 (mkF m 25 (own_loc20 a0 b1492) [(.ref uh), (.ref a0), .int 0, (.ref b1492)]) _
    refine XS.iloadN X1497.here hx rfl (D d8_25) rfl (own_ldI X1497 hx hZ e1497 (V_uh.keep kp1495 (ninS (Ne.symm ne_a0_uh) nin0)) (j := (0 : Int32)) ⟨(by decide), (by decide)⟩ (v := (.int hd0)) rfl rfl rfl (D d8_26) ?_)
    exact kt
  obtain ⟨cq1500, q1500, q1500'⟩ := (E_a0.keep kq1494).cell
  obtain ⟨_, _, ⟨T1500, L1500, k1500, n1500⟩, -, X1500, ⟨Lc1500, hQ1500, l1500, y1500, z1500⟩, st1500⟩ := X1497.privateBack hx (y := (⟨own_K, "workingColumn", "(I)[D"⟩ : MethodName)) hown (mvT hZ (own_wk hw 103 rfl)) (mvT hZ (own_wk hw 104 rfl)) (own_selp (ym := (⟨own_K, "addGroup", "()I"⟩ : MethodName)) (mvT hZ (own_wk hw 57 rfl)) rfl (Cond.privateMethod_at (mvP hZ (own_wk hw 105 rfl) (args := #[]))) (mvT hZ (own_wk hw 104 rfl)) (by decide)) (Cond.privateMethod_at (mvP hZ (own_wk hw 105 rfl) (args := #[]))) (mvT hZ (own_wk hw 106 rfl)) (by decide) (backOf (W := 2) (rm9 l Z ag hw [] a0 hd0 _ _ _ _ _ _ _ _ _ _ _ _ _ _ _ _ _ _ _ _ _ _ _ _ _ _ _ _ _ _ _ _ _ _ _ _ _ m00 m01 h1492 n0 (Nat.le_trans Z0 kp1495.1) (E_a0.keep kq1494) (Ob_a0.keep kq1494 nin0) (V_ug.keep kp1495 (ninS (Ne.symm ne_a0_ug) nin0)) (V_uf.keep kp1495 (ninS (Ne.symm ne_a0_uf) nin0)) (V_ue.keep kp1495 (ninS (Ne.symm ne_a0_ue) nin0)) (V_ur.keep kp1495 (ninS (Ne.symm ne_a0_ur) nin0)) (V_uv.keep kp1495 (ninS (Ne.symm ne_a0_uv) nin0)) (V_uk.keep kp1495 (ninS (Ne.symm ne_a0_uk) nin0)) hc0 hkey) hZ (own_wk hw 106 rfl) (own_wk hw 2 rfl) (by decide) (by decide)) (g := (mkF m 27 (own_loc20 a0 b1492) [(.int hd0), (.ref a0), .int 0, (.ref b1492)])) rfl (by rw [hml]; rfl) (Steps.refl _) (a := a0) (by rw [e1497]; exact q1500) q1500' (argsL := [(.int hd0)]) (rest := [(.int (0 : Int32)), (.ref b1492)]) (lenOf pd_7 rfl) rfl (by show 2 * 0 + _ ≤ _; exact Nat.le_of_eq rfl) (D d8_27) (fun _ _ => ⟨rfl, e1497, (by decide : 1 + 1 ≤ _), (by decide : 2 + 2 ≤ _)⟩)
  dsimp only [Pt.U, Pt.locs, Pt.cells, Pt.slots] at X1500 l1500 y1500 z1500 st1500 hQ1500
  subst l1500 y1500 z1500
  obtain ⟨r1500, kr1500, rfl, N1500q, K1500, ge_r1500, gqq_r1500, EA1500, V1500⟩ := hQ1500
  have N1500 := Fr.app N0 N1500q
  have ne1501 : a0 ≠ r1500 := Nat.ne_of_lt (Nat.lt_of_lt_of_le ((Ob_a0.keep kq1494 nin0).get 0 rfl rfl).lt gqq_r1500)
  have ne1502 : b1492 ≠ r1500 := Nat.ne_of_lt (Nat.lt_of_lt_of_le V1492.lt gqq_r1500)
  have gq_r1500 : h0.size ≤ r1500 := Nat.le_trans kq1494.1 gqq_r1500
  have gs_r1500 : h0.size ≤ r1500 := Nat.le_trans kp1495.1 gqq_r1500
  have kq1503 := kq1494.trans K1500 all0
  have x1504 := V1492.keep K1500 nin0
  have x1505 := EA1492.keep K1500
  have kp1506 : Keep h0 T1500.heap [a0] := kp1495.trans K1500 all0
  obtain ⟨T1507, h1507, X1507, e1507, W1507, V1507, st1507⟩ := own_stA X1500 hx hZ rfl x1504 O1492 EA1500 (j := (0 : Int32)) ⟨(by decide), (by decide)⟩ 0 rfl (Nat.le_of_ble_eq_true rfl) (vs' := [(.ref r1500), .null]) rfl (g := (mkF m 30 (own_loc20 a0 b1492) [(.ref r1500), .int 0, (.ref b1492)])) rfl rfl (D d8_30)
  have kq1508 := kq1503.wr W1507 (Or.inr gq_b1492)
  have x1509 := x1505.wr W1507
  have x1510 := EA1500.wr W1507
  have x1511 := V1500.other W1507 (Ne.symm ne1502)
  have kp1512 : Keep h0 h1507 [a0] := kp1506.wr W1507 (Or.inr gs_b1492)
  have N1507 := Fr.snoc X1507 N1500 ge_b1492
  obtain ⟨T1513, X1513, e1513, st1513⟩ := own_gf X1507 hx hZ hown (own_wk hw 81 rfl) e1507 (Ob_a0.keep kq1508 nin0) 24 rfl rfl (g := (mkF m 12 (own_loc21 a0 b1492) [(.ref a0), .int 1])) rfl rfl (D d8_12)
  obtain ⟨T1514, X1514, e1514, st1514⟩ := own_gf X1513 hx hZ hown (own_wk hw 35 rfl) e1513 (Ob_a0.keep kq1508 nin0) 12 rfl rfl (g := (mkF m 22 (own_loc21 a0 b1492) [(.ref a0), (.ref a0), .int 1, (.ref b1492)])) rfl rfl (D d8_22)
  have cp1516 : ∀ target, own_S p e below T1514 (mkF m 27 (own_loc21 a0 b1492) [(.int hd1), (.ref a0), .int 1, (.ref b1492)]) target → own_S p e below s₁ (mkF m 0 #[.val (.ref a0), .unset, .unset, .unset, .unset, .unset, .unset, .unset, .unset, .unset, .unset] []) target := by
    intro target kt
    show own_S p e below s₁ (mkF m 0 #[.val (.ref a0), .unset, .unset, .unset, .unset, .unset, .unset, .unset, .unset, .unset, .unset] []) _
    refine cp1499 _ (st1500.trans (st1507 _ (XS.iinc X1507.here hx rfl (D d8_31) rfl (l' := (own_loc21 a0 b1492)) rfl (XS.goto X1507.here hx rfl (pc0 := 34) (pc' := 10) rfl (D d8_34) (by decide) (by decide) (XS.iloadN X1507.here hx rfl (D d8_10) rfl (XS.aloadN X1507.here hx rfl (D d8_11) rfl rfl (st1513 _ (XS.icmpNo X1513.here hx rfl (D d8_15) rfl (tlt (by decide : (1 : Int32) < (2 : Int32))).2.1 (XS.aloadN X1513.here hx rfl (D d8_18) rfl rfl ?_)))))))))
    refine XS.iloadN X1513.here hx rfl (D d8_19) rfl (XS.aloadN X1513.here hx rfl (D d8_20) rfl rfl (XS.aloadN X1513.here hx rfl (D d8_21) rfl rfl (st1514 _ ?_)))
    show own_S p e below T1514 (mkF m 25 (own_loc21 a0 b1492) [(.ref uh), (.ref a0), .int 1, (.ref b1492)]) _
    refine XS.iloadN X1514.here hx rfl (D d8_25) rfl (own_ldI X1514 hx hZ e1514 (V_uh.keep kp1512 (ninS (Ne.symm ne_a0_uh) nin0)) (j := (1 : Int32)) ⟨(by decide), (by decide)⟩ (v := (.int hd1)) rfl rfl rfl (D d8_26) ?_)
    exact kt
  obtain ⟨cq1517, q1517, q1517'⟩ := (E_a0.keep kq1508).cell
  obtain ⟨_, _, ⟨T1517, L1517, k1517, n1517⟩, -, X1517, ⟨Lc1517, hQ1517, l1517, y1517, z1517⟩, st1517⟩ := X1514.privateBack hx (y := (⟨own_K, "workingColumn", "(I)[D"⟩ : MethodName)) hown (mvT hZ (own_wk hw 103 rfl)) (mvT hZ (own_wk hw 104 rfl)) (own_selp (ym := (⟨own_K, "addGroup", "()I"⟩ : MethodName)) (mvT hZ (own_wk hw 57 rfl)) rfl (Cond.privateMethod_at (mvP hZ (own_wk hw 105 rfl) (args := #[]))) (mvT hZ (own_wk hw 104 rfl)) (by decide)) (Cond.privateMethod_at (mvP hZ (own_wk hw 105 rfl) (args := #[]))) (mvT hZ (own_wk hw 106 rfl)) (by decide) (backOf (W := 2) (rm9 l Z ag hw [] a0 hd1 _ _ _ _ _ _ _ _ _ _ _ _ _ _ _ _ _ _ _ _ _ _ _ _ _ _ _ _ _ _ _ _ _ _ _ _ _ m10 m11 h1507 n0 (Nat.le_trans Z0 kp1512.1) (E_a0.keep kq1508) (Ob_a0.keep kq1508 nin0) (V_ug.keep kp1512 (ninS (Ne.symm ne_a0_ug) nin0)) (V_uf.keep kp1512 (ninS (Ne.symm ne_a0_uf) nin0)) (V_ue.keep kp1512 (ninS (Ne.symm ne_a0_ue) nin0)) (V_ur.keep kp1512 (ninS (Ne.symm ne_a0_ur) nin0)) (V_uv.keep kp1512 (ninS (Ne.symm ne_a0_uv) nin0)) (V_uk.keep kp1512 (ninS (Ne.symm ne_a0_uk) nin0)) hc1 hkey) hZ (own_wk hw 106 rfl) (own_wk hw 2 rfl) (by decide) (by decide)) (g := (mkF m 27 (own_loc21 a0 b1492) [(.int hd1), (.ref a0), .int 1, (.ref b1492)])) rfl (by rw [hml]; rfl) (Steps.refl _) (a := a0) (by rw [e1514]; exact q1517) q1517' (argsL := [(.int hd1)]) (rest := [(.int (1 : Int32)), (.ref b1492)]) (lenOf pd_7 rfl) rfl (by show 2 * 0 + _ ≤ _; exact Nat.le_of_eq rfl) (D d8_27) (fun _ _ => ⟨rfl, e1514, (by decide : 2 + 1 ≤ _), (by decide : 4 + 2 ≤ _)⟩)
  dsimp only [Pt.U, Pt.locs, Pt.cells, Pt.slots] at X1517 l1517 y1517 z1517 st1517 hQ1517
  subst l1517 y1517 z1517
  obtain ⟨r1517, kr1517, rfl, N1517q, K1517, ge_r1517, gqq_r1517, EA1517, V1517⟩ := hQ1517
  have N1517 := Fr.app N1507 N1517q
  have ne1518 : a0 ≠ r1517 := Nat.ne_of_lt (Nat.lt_of_lt_of_le ((Ob_a0.keep kq1508 nin0).get 0 rfl rfl).lt gqq_r1517)
  have ne1519 : b1492 ≠ r1517 := Nat.ne_of_lt (Nat.lt_of_lt_of_le x1509.lt gqq_r1517)
  have ne1520 : r1500 ≠ r1517 := Nat.ne_of_lt (Nat.lt_of_lt_of_le x1510.lt gqq_r1517)
  have gq_r1517 : h0.size ≤ r1517 := Nat.le_trans kq1508.1 gqq_r1517
  have gs_r1517 : h0.size ≤ r1517 := Nat.le_trans kp1512.1 gqq_r1517
  have kq1521 := kq1508.trans K1517 all0
  have x1522 := x1509.keep K1517
  have x1523 := x1510.keep K1517
  have x1524 := x1511.keep K1517 nin0
  have x1525 := V1507.keep K1517 nin0
  have kp1526 : Keep h0 T1517.heap [a0] := kp1512.trans K1517 all0
  obtain ⟨T1527, h1527, X1527, e1527, W1527, V1527, st1527⟩ := own_stA X1517 hx hZ rfl x1525 O1492 EA1517 (j := (1 : Int32)) ⟨(by decide), (by decide)⟩ 1 rfl (Nat.le_of_ble_eq_true rfl) (vs' := [(.ref r1500), (.ref r1517)]) rfl (g := (mkF m 30 (own_loc21 a0 b1492) [(.ref r1517), .int 1, (.ref b1492)])) rfl rfl (D d8_30)
  have kq1528 := kq1521.wr W1527 (Or.inr gq_b1492)
  have x1529 := x1522.wr W1527
  have x1530 := x1523.wr W1527
  have x1531 := x1524.other W1527 (Ne.symm ne1502)
  have x1532 := EA1517.wr W1527
  have x1533 := V1517.other W1527 (Ne.symm ne1519)
  have kp1534 : Keep h0 h1527 [a0] := kp1526.wr W1527 (Or.inr gs_b1492)
  have N1527 := Fr.snoc X1527 N1517 ge_b1492
  obtain ⟨T1535, X1535, e1535, st1535⟩ := own_gf X1527 hx hZ hown (own_wk hw 81 rfl) e1527 (Ob_a0.keep kq1528 nin0) 24 rfl rfl (g := (mkF m 12 (own_loc22 a0 b1492) [(.ref a0), .int 2])) rfl rfl (D d8_12)
  obtain ⟨T1536, X1536, e1536, st1536⟩ := own_gf X1535 hx hZ hown (own_wk hw 81 rfl) e1535 (Ob_a0.keep kq1528 nin0) 24 rfl rfl (g := (mkF m 38 (own_loc22 a0 b1492) [(.ref a0)])) rfl rfl (D d8_38)
  obtain ⟨T1537, X1537, e1537, st1537⟩ := own_gf X1536 hx hZ hown (own_wk hw 81 rfl) e1536 (Ob_a0.keep kq1528 nin0) 24 rfl rfl (g := (mkF m 42 (own_loc22 a0 b1492) [(.ref a0), .int 2])) rfl rfl (D d8_42)
  obtain ⟨T1538, h1538, k1538, kc1538, X1538, e1538, E1538, V1538, O1538, EA1538, hel1538, st1538⟩ := gridM X1537 hx hZ hown (ty := .double) (C := "[D") (ad := "[[D") (by decide) (by decide) (own_wk hw 37 rfl) (own_wk hw 38 rfl) (own_wk hw 9 rfl) e1537 (g := (mkF m 45 (own_loc22 a0 b1492) [.int 2, .int 2])) rfl (D d8_45) rfl (by decide) (by decide) (xs := [h1527.size + 1 + 0, h1527.size + 1 + 1]) (N := 2) rfl rfl (cap := 2) (by decide) (by decide) (by decide) rfl rfl (by decide) (by decide)
  obtain ⟨Ae1538_0, Ee1538_0⟩ := hel1538 0 _ rfl
  obtain ⟨Ae1538_1, Ee1538_1⟩ := hel1538 1 _ rfl
  obtain ⟨b1538_0, g_b1538_0⟩ : ∃ z, z = h1527.size + 1 + 0 := ⟨_, rfl⟩
  have gb_b1538_0 : h1527.size ≤ b1538_0 := by rw [g_b1538_0]; exact Nat.le_trans (Nat.le_succ _) (Nat.le_add_right _ _)
  have ne1539 : a0 ≠ b1538_0 := Nat.ne_of_lt (Nat.lt_of_lt_of_le ((Ob_a0.keep kq1528 nin0).get 0 rfl rfl).lt gb_b1538_0)
  have ne1540 : b1492 ≠ b1538_0 := Nat.ne_of_lt (Nat.lt_of_lt_of_le x1529.lt gb_b1538_0)
  have ne1541 : r1500 ≠ b1538_0 := Nat.ne_of_lt (Nat.lt_of_lt_of_le x1530.lt gb_b1538_0)
  have ne1542 : r1517 ≠ b1538_0 := Nat.ne_of_lt (Nat.lt_of_lt_of_le x1532.lt gb_b1538_0)
  have ge_b1538_0 : n0 ≤ b1538_0 := Nat.le_trans (Nat.le_trans Z0 kp1534.1) gb_b1538_0
  have gq_b1538_0 : h0.size ≤ b1538_0 := Nat.le_trans kq1528.1 gb_b1538_0
  have gs_b1538_0 : h0.size ≤ b1538_0 := Nat.le_trans kp1534.1 gb_b1538_0
  obtain ⟨b1538_1, g_b1538_1⟩ : ∃ z, z = h1527.size + 1 + 1 := ⟨_, rfl⟩
  have gb_b1538_1 : h1527.size ≤ b1538_1 := by rw [g_b1538_1]; exact Nat.le_trans (Nat.le_succ _) (Nat.le_add_right _ _)
  have ne1543 : a0 ≠ b1538_1 := Nat.ne_of_lt (Nat.lt_of_lt_of_le ((Ob_a0.keep kq1528 nin0).get 0 rfl rfl).lt gb_b1538_1)
  have ne1544 : b1492 ≠ b1538_1 := Nat.ne_of_lt (Nat.lt_of_lt_of_le x1529.lt gb_b1538_1)
  have ne1545 : r1500 ≠ b1538_1 := Nat.ne_of_lt (Nat.lt_of_lt_of_le x1530.lt gb_b1538_1)
  have ne1546 : r1517 ≠ b1538_1 := Nat.ne_of_lt (Nat.lt_of_lt_of_le x1532.lt gb_b1538_1)
  have ge_b1538_1 : n0 ≤ b1538_1 := Nat.le_trans (Nat.le_trans Z0 kp1534.1) gb_b1538_1
  have gq_b1538_1 : h0.size ≤ b1538_1 := Nat.le_trans kq1528.1 gb_b1538_1
  have gs_b1538_1 : h0.size ≤ b1538_1 := Nat.le_trans kp1534.1 gb_b1538_1
  have ne1547 : b1538_0 ≠ b1538_1 := by omega
  obtain ⟨b1538, g1538⟩ : ∃ z, z = h1527.size := ⟨_, rfl⟩
  have gq_b1538 : h0.size ≤ b1538 := Nat.le_trans kq1528.1 (Nat.le_of_eq g1538.symm)
  have ne1548 : a0 ≠ b1538 := Nat.ne_of_lt (Nat.lt_of_lt_of_le ((Ob_a0.keep kq1528 nin0).get 0 rfl rfl).lt (Nat.le_of_eq g1538.symm))
  have ne1549 : b1492 ≠ b1538 := Nat.ne_of_lt (Nat.lt_of_lt_of_le x1529.lt (Nat.le_of_eq g1538.symm))
  have ne1550 : r1500 ≠ b1538 := Nat.ne_of_lt (Nat.lt_of_lt_of_le x1530.lt (Nat.le_of_eq g1538.symm))
  have ne1551 : r1517 ≠ b1538 := Nat.ne_of_lt (Nat.lt_of_lt_of_le x1532.lt (Nat.le_of_eq g1538.symm))
  have ge_b1538 : n0 ≤ b1538 := Nat.le_trans (Nat.le_trans Z0 kp1534.1) (Nat.le_of_eq g1538.symm)
  have gs_b1538 : h0.size ≤ b1538 := Nat.le_trans kp1534.1 (Nat.le_of_eq g1538.symm)
  have ne1552 : b1538 ≠ b1538_0 := by omega
  have ne1553 : b1538 ≠ b1538_1 := by omega
  rw [← g_b1538_1, ← g_b1538_0, ← g1538] at V1538
  rw [← g1538] at EA1538 st1538
  rw [← g_b1538_0] at Ae1538_0 Ee1538_0
  rw [← g_b1538_1] at Ae1538_1 Ee1538_1
  have kq1554 := kq1528.ext E1538
  have x1555 := x1529.ext E1538
  have x1556 := x1530.ext E1538
  have x1557 := x1531.ext E1538
  have x1558 := x1532.ext E1538
  have x1559 := x1533.ext E1538
  have x1560 := V1527.ext E1538
  have kp1561 : Keep h0 h1538 [a0] := kp1534.ext E1538
  have V1538 : Arv Z h1538 b1538 k1538 (.array .double) (2 : Int32) [(.ref b1538_0), (.ref b1538_1)] .null := V1538
  have Ve1538_0 : Arv Z h1538 b1538_0 kc1538 .double (2 : Int32) [(.double (0 : UInt64)), (.double (0 : UInt64))] (.double (0 : UInt64)) := (Arv.new Ae1538_0 (by decide)).pad (pad_rep [] (.double (0 : UInt64)) 2)
  have Ve1538_1 : Arv Z h1538 b1538_1 kc1538 .double (2 : Int32) [(.double (0 : UInt64)), (.double (0 : UInt64))] (.double (0 : UInt64)) := (Arv.new Ae1538_1 (by decide)).pad (pad_rep [] (.double (0 : UInt64)) 2)
  obtain ⟨T1562, X1562, e1562, st1562⟩ := own_gf X1538 hx hZ hown (own_wk hw 81 rfl) e1538 (Ob_a0.keep kq1554 nin0) 24 rfl rfl (g := (mkF m 54 (own_loc24 a0 b1492 b1538) [(.ref a0), .int 0])) rfl rfl (D d8_54)
  obtain ⟨T1564, h1564, X1564, e1564, W1564, V1564, st1564⟩ := own_stD X1562 hx hZ e1562 Ve1538_0 (j := (0 : Int32)) ⟨(by decide), (by decide)⟩ 0 rfl (Nat.le_of_ble_eq_true rfl) (vs' := [(.double (4607182418800017408 : UInt64)), (.double (0 : UInt64))]) rfl (g := (mkF m 65 (own_loc24 a0 b1492 b1538) [(.double (4607182418800017408 : UInt64)), .int 0, (.ref b1538_0)])) rfl rfl (D d8_65)
  have kq1565 := kq1554.wr W1564 (Or.inr gq_b1538_0)
  have x1566 := x1555.wr W1564
  have x1567 := x1556.wr W1564
  have x1568 := x1557.other W1564 ne1541
  have x1569 := x1558.wr W1564
  have x1570 := x1559.other W1564 ne1542
  have x1571 := x1560.other W1564 ne1540
  have x1572 := V1538.other W1564 ne1552
  have x1573 := EA1538.wr W1564
  have x1574 := Ee1538_0.wr W1564
  have x1575 := Ve1538_1.other W1564 (Ne.symm ne1547)
  have x1576 := Ee1538_1.wr W1564
  have kp1577 : Keep h0 h1564 [a0] := kp1561.wr W1564 (Or.inr gs_b1538_0)
  have N1564 := Fr.snoc X1564 N1527 ge_b1538_0
  obtain ⟨T1578, X1578, e1578, st1578⟩ := own_gf X1564 hx hZ hown (own_wk hw 81 rfl) e1564 (Ob_a0.keep kq1565 nin0) 24 rfl rfl (g := (mkF m 54 (own_loc25 a0 b1492 b1538) [(.ref a0), .int 1])) rfl rfl (D d8_54)
  obtain ⟨T1580, h1580, X1580, e1580, W1580, V1580, st1580⟩ := own_stD X1578 hx hZ e1578 x1575 (j := (1 : Int32)) ⟨(by decide), (by decide)⟩ 1 rfl (Nat.le_of_ble_eq_true rfl) (vs' := [(.double (0 : UInt64)), (.double (4607182418800017408 : UInt64))]) rfl (g := (mkF m 65 (own_loc25 a0 b1492 b1538) [(.double (4607182418800017408 : UInt64)), .int 1, (.ref b1538_1)])) rfl rfl (D d8_65)
  have kq1581 := kq1565.wr W1580 (Or.inr gq_b1538_1)
  have x1582 := x1566.wr W1580
  have x1583 := x1567.wr W1580
  have x1584 := x1568.other W1580 ne1545
  have x1585 := x1569.wr W1580
  have x1586 := x1570.other W1580 ne1546
  have x1587 := x1571.other W1580 ne1544
  have x1588 := x1572.other W1580 ne1553
  have x1589 := x1573.wr W1580
  have x1590 := x1574.wr W1580
  have x1591 := x1576.wr W1580
  have x1592 := V1564.other W1580 ne1547
  have kp1593 : Keep h0 h1580 [a0] := kp1577.wr W1580 (Or.inr gs_b1538_1)
  have N1580 := Fr.snoc X1580 N1564 ge_b1538_1
  obtain ⟨T1594, X1594, e1594, st1594⟩ := own_gf X1580 hx hZ hown (own_wk hw 81 rfl) e1580 (Ob_a0.keep kq1581 nin0) 24 rfl rfl (g := (mkF m 54 (own_loc26 a0 b1492 b1538) [(.ref a0), .int 2])) rfl rfl (D d8_54)
  obtain ⟨T1595, X1595, e1595, st1595⟩ := own_gf X1594 hx hZ hown (own_wk hw 81 rfl) e1594 (Ob_a0.keep kq1581 nin0) 24 rfl rfl (g := (mkF m 76 (own_loc24 a0 b1492 b1538) [(.ref a0), .int 0])) rfl rfl (D d8_76)
  obtain ⟨T1596, X1596, e1596, st1596⟩ := own_gf X1595 hx hZ hown (own_wk hw 81 rfl) e1595 (Ob_a0.keep kq1581 nin0) 24 rfl rfl (g := (mkF m 93 (own_loc28 a0 b1492 b1538) [(.ref a0), .int 1])) rfl rfl (D d8_93)
  have cp1599 : ∀ target, own_S p e below T1596 (mkF m 105 (own_loc28 a0 b1492 b1538) [(.double m10)]) target → own_S p e below s₁ (mkF m 0 #[.val (.ref a0), .unset, .unset, .unset, .unset, .unset, .unset, .unset, .unset, .unset, .unset] []) target := by
    intro target kt
    show own_S p e below s₁ (mkF m 0 #[.val (.ref a0), .unset, .unset, .unset, .unset, .unset, .unset, .unset, .unset, .unset, .unset] []) _
    refine cp1516 _ (st1517.trans (st1527 _ (XS.iinc X1527.here hx rfl (D d8_31) rfl (l' := (own_loc22 a0 b1492)) rfl (XS.goto X1527.here hx rfl (pc0 := 34) (pc' := 10) rfl (D d8_34) (by decide) (by decide) (XS.iloadN X1527.here hx rfl (D d8_10) rfl (XS.aloadN X1527.here hx rfl (D d8_11) rfl rfl (st1535 _ (XS.icmpYes X1535.here hx rfl (pc0 := 15) (pc' := 37) rfl (D d8_15) rfl (flt (by decide : ¬ ((2 : Int32) < (2 : Int32)))).2.1 (by decide) (by decide) (XS.aloadN X1535.here hx rfl (D d8_37) rfl rfl ?_)))))))))
    refine st1536 _ (XS.aloadN X1536.here hx rfl (D d8_41) rfl rfl (st1537 _ (st1538 _ ?_)))
    show own_S p e below T1538 (mkF m 49 (own_loc22 a0 b1492) [(.ref b1538)]) _
    refine XS.astoreN X1538.here hx rfl (D d8_49) rfl rfl (l' := (own_loc23 a0 b1492 b1538)) rfl (XS.iconst X1538.here hx rfl (D d8_50) (XS.istoreN X1538.here hx rfl (D d8_51) rfl (l' := (own_loc24 a0 b1492 b1538)) rfl (XS.iloadN X1538.here hx rfl (D d8_52) rfl (XS.aloadN X1538.here hx rfl (D d8_53) rfl rfl (st1562 _ (XS.icmpNo X1562.here hx rfl (D d8_57) rfl (tlt (by decide : (0 : Int32) < (2 : Int32))).2.1 (XS.aloadN X1562.here hx rfl (D d8_60) rfl rfl (XS.iloadN X1562.here hx rfl (D d8_61) rfl (own_ldA X1562 hx hZ e1562 V1538 (j := (0 : Int32)) ⟨(by decide), (by decide)⟩ (v := (.ref b1538_0)) rfl rfl rfl (D d8_62) ?_)))))))))
    refine XS.iloadN X1562.here hx rfl (D d8_63) rfl (XS.dconst1 X1562.here hx rfl (D d8_64) rfl (st1564 _ (XS.iinc X1564.here hx rfl (D d8_66) rfl (l' := (own_loc25 a0 b1492 b1538)) rfl ?_)))
    show own_S p e below T1564 (mkF m 69 (own_loc25 a0 b1492 b1538) []) _
    refine XS.goto X1564.here hx rfl (pc0 := 69) (pc' := 52) rfl (D d8_69) (by decide) (by decide) (XS.iloadN X1564.here hx rfl (D d8_52) rfl (XS.aloadN X1564.here hx rfl (D d8_53) rfl rfl (st1578 _ (XS.icmpNo X1578.here hx rfl (D d8_57) rfl (tlt (by decide : (1 : Int32) < (2 : Int32))).2.1 (XS.aloadN X1578.here hx rfl (D d8_60) rfl rfl (XS.iloadN X1578.here hx rfl (D d8_61) rfl (own_ldA X1578 hx hZ e1578 x1572 (j := (1 : Int32)) ⟨(by decide), (by decide)⟩ (v := (.ref b1538_1)) rfl rfl rfl (D d8_62) (XS.iloadN X1578.here hx rfl (D d8_63) rfl (XS.dconst1 X1578.here hx rfl (D d8_64) rfl ?_)))))))))
    refine st1580 _ (XS.iinc X1580.here hx rfl (D d8_66) rfl (l' := (own_loc26 a0 b1492 b1538)) rfl (XS.goto X1580.here hx rfl (pc0 := 69) (pc' := 52) rfl (D d8_69) (by decide) (by decide) (XS.iloadN X1580.here hx rfl (D d8_52) rfl (XS.aloadN X1580.here hx rfl (D d8_53) rfl rfl (st1594 _ ?_)))))
    show own_S p e below T1594 (mkF m 57 (own_loc26 a0 b1492 b1538) [.int 2, .int 2]) _
    refine XS.icmpYes X1594.here hx rfl (pc0 := 57) (pc' := 72) rfl (D d8_57) rfl (flt (by decide : ¬ ((2 : Int32) < (2 : Int32)))).2.1 (by decide) (by decide) (XS.iconst X1594.here hx rfl (D d8_72) (XS.istoreN X1594.here hx rfl (D d8_73) rfl (l' := (own_loc24 a0 b1492 b1538)) rfl (XS.iloadN X1594.here hx rfl (D d8_74) rfl (XS.aloadN X1594.here hx rfl (D d8_75) rfl rfl (st1595 _ (XS.icmpNo X1595.here hx rfl (D d8_79) rfl (tlt (by decide : (0 : Int32) < (2 : Int32))).2.1 (XS.iloadN X1595.here hx rfl (D d8_82) rfl (XS.istore X1595.here hx rfl (D d8_83) rfl (l' := (own_loc27 a0 b1492 b1538)) rfl (XS.iloadN X1595.here hx rfl (D d8_85) rfl ?_)))))))))
    refine XS.iconst X1595.here hx rfl (D d8_86) (XS.iadd X1595.here hx rfl (D d8_87) rfl ?_)
    show own_S p e below T1595 (mkF m 88 (own_loc27 a0 b1492 b1538) [(.int ((0 : Int32) + (1 : Int32)))]) _
    rw [show ((0 : Int32) + (1 : Int32)) = (1 : Int32) from by decide]
    show own_S p e below T1595 (mkF m 88 (own_loc27 a0 b1492 b1538) [.int 1]) _
    refine XS.istore X1595.here hx rfl (D d8_88) rfl (l' := (own_loc28 a0 b1492 b1538)) rfl (XS.iload X1595.here hx rfl (D d8_90) rfl (XS.aloadN X1595.here hx rfl (D d8_92) rfl rfl (st1596 _ (XS.icmpNo X1596.here hx rfl (D d8_96) rfl (tlt (by decide : (1 : Int32) < (2 : Int32))).2.1 (XS.aloadN X1596.here hx rfl (D d8_99) rfl rfl (XS.iload X1596.here hx rfl (D d8_100) rfl (own_ldA X1596 hx hZ e1596 x1587 (j := (1 : Int32)) ⟨(by decide), (by decide)⟩ (v := (.ref r1517)) rfl rfl rfl (D d8_102) (XS.iloadN X1596.here hx rfl (D d8_103) rfl (own_ldD X1596 hx hZ e1596 x1586 (j := (0 : Int32)) ⟨(by decide), (by decide)⟩ (v := (.double m10)) rfl rfl rfl (D d8_104) ?_)))))))))
    exact kt
  obtain ⟨T1600, X1600, e1600, st1600⟩ := natS X1596 hx hZ hown (own_wk hw 112 rfl) (own_wk hw 113 rfl) (own_wk hw 114 rfl) (own_wk hw 115 rfl) (by decide) e1596 (W := 0) (fun q => Jvm.Free.Fl.Abs.absD_pays m10 q (by decide) (by decide)) (g := (mkF m 105 (own_loc28 a0 b1492 b1538) [(.double m10)])) rfl (by rw [hml]; rfl) (argsL := [(.double m10)]) (rest := []) (lenOf pd_4 rfl) rfl (by show 2 * 0 + _ ≤ _; exact Nat.le_of_eq rfl) (D d8_105) (by decide) (by decide) ⟨rfl, wm10.nn⟩ rfl
  obtain ⟨T1603, X1603, e1603, st1603⟩ := natS X1600 hx hZ hown (own_wk hw 112 rfl) (own_wk hw 113 rfl) (own_wk hw 114 rfl) (own_wk hw 115 rfl) (by decide) e1600 (W := 2) (fun q => Jvm.Free.Fl.Abs.absD_pays m00 q (by decide) (by decide)) (g := (mkF m 114 (own_loc28 a0 b1492 b1538) [(.double m00), (.double (m10 &&& (9223372036854775807 : UInt64)))])) rfl (by rw [hml]; rfl) (argsL := [(.double m00)]) (rest := [(.double (m10 &&& (9223372036854775807 : UInt64)))]) (lenOf pd_4 rfl) rfl (by show 2 * 0 + _ ≤ _; exact Nat.le_of_eq rfl) (D d8_114) (by decide) (by decide) ⟨rfl, wm00.nn⟩ rfl
  have sg1605 : ∀ target, Steps p.tables e below (T1603.setTop (mkF m 125 (own_loc30 a0 b1492 b1538 m00 m10) [])) target → Steps p.tables e below (T1603.setTop (mkF m 118 (own_loc28 a0 b1492 b1538) [(.int (cmpValue (FP.dcmp (m10 &&& (9223372036854775807 : UInt64)) (m00 &&& (9223372036854775807 : UInt64))) .l))])) target := by
    intro target kt
    by_cases hc1604 : (0 : Int32) < (cmpValue (FP.dcmp (m10 &&& (9223372036854775807 : UInt64)) (m00 &&& (9223372036854775807 : UInt64))) .l)
    · show own_S p e below T1603 (mkF m 118 (own_loc28 a0 b1492 b1538) [(.int (cmpValue (FP.dcmp (m10 &&& (9223372036854775807 : UInt64)) (m00 &&& (9223372036854775807 : UInt64))) .l))]) _
      refine XS.ifNo X1603.here hx rfl (D d8_118) rfl ((if0 _ _).trans (tlt hc1604).2.2.2) (XS.iload X1603.here hx rfl (D d8_121) rfl (XS.istore X1603.here hx rfl (D d8_123) rfl (l' := (own_loc29 a0 b1492 b1538)) rfl ?_))
      show own_S p e below T1603 (mkF m 125 (own_loc29 a0 b1492 b1538) []) _
      have kt := own_cast (P := fun z => Steps p.tables e below (T1603.setTop (mkF m 125 #[.val (.ref a0), .val (.ref b1492), .val (.ref b1538), .val (.int 0), .val (.int z), .val (.int 1), .unset, .unset, .unset, .unset, .unset] [])) target) (show (own_g118 m00 m10) = (1 : Int32) from (by unfold own_g118; rw [if_pos hc1604])) kt
      exact kt
    · show own_S p e below T1603 (mkF m 118 (own_loc28 a0 b1492 b1538) [(.int (cmpValue (FP.dcmp (m10 &&& (9223372036854775807 : UInt64)) (m00 &&& (9223372036854775807 : UInt64))) .l))]) _
      refine XS.ifYes X1603.here hx rfl (pc0 := 118) (pc' := 125) rfl (D d8_118) rfl ((if0 _ _).trans (flt hc1604).2.2.2) (by decide) (by decide) ?_
      show own_S p e below T1603 (mkF m 125 (own_loc28 a0 b1492 b1538) []) _
      have kt := own_cast (P := fun z => Steps p.tables e below (T1603.setTop (mkF m 125 #[.val (.ref a0), .val (.ref b1492), .val (.ref b1538), .val (.int 0), .val (.int z), .val (.int 1), .unset, .unset, .unset, .unset, .unset] [])) target) (show (own_g118 m00 m10) = (0 : Int32) from (by unfold own_g118; rw [if_neg hc1604])) kt
      exact kt
  have sg1606 : ∀ target, Steps p.tables e below (T1603.setTop (mkF m 125 (own_loc31 a0 b1492 b1538 bst) [])) target → Steps p.tables e below (T1603.setTop (mkF m 125 (own_loc30 a0 b1492 b1538 m00 m10) [])) target := by subst hbst; exact fun _ k => k
  obtain ⟨T1607, X1607, e1607, st1607⟩ := own_gf X1603 hx hZ hown (own_wk hw 81 rfl) e1603 (Ob_a0.keep kq1581 nin0) 24 rfl rfl (g := (mkF m 93 (own_loc32 a0 b1492 b1538 bst) [(.ref a0), .int 2])) rfl rfl (D d8_93)
  obtain ⟨P, Q, kP, kQ, VP, VQ, EP, EQ, pbM⟩ : ∃ (P Q : Addr) (kP kQ : ClassId), Arv Z h1580 P kP .double (2 : Int32) [(.double (4607182418800017408 : UInt64)), (.double U)] (.double (0 : UInt64)) ∧ Arv Z h1580 Q kQ .double (2 : Int32) [(.double (0 : UInt64)), (.double (4607182418800017408 : UInt64))] (.double (0 : UInt64)) ∧ Exa Z h1580 P "[D" ∧ Exa Z h1580 Q "[D" ∧ own_pb bst P Q r1500 r1517 := by
    rcases hsw with ⟨rfl, rfl, rfl, rfl, rfl, rfl, rfl, h8, h9⟩ | ⟨rfl, rfl, rfl, rfl, rfl, rfl, rfl, h8, h9⟩
    · exact ⟨r1500, r1517, _, _, x1584, x1586, x1583, x1585, Or.inl ⟨rfl, rfl, rfl⟩⟩
    · exact ⟨r1517, r1500, _, _, x1586, x1584, x1585, x1583, Or.inr ⟨rfl, rfl, rfl⟩⟩
  have pqM := pbM.pq
  obtain ⟨ne1608, ne1609⟩ := pqM.ne ne1501 ne1518
  obtain ⟨ne1610, ne1611⟩ := pqM.ne ne1502 ne1519
  obtain ⟨ne1612, ne1613⟩ := pqM.ne (Ne.symm ne1550) (Ne.symm ne1551)
  obtain ⟨ne1614, ne1615⟩ := pqM.ne (Ne.symm ne1541) (Ne.symm ne1542)
  obtain ⟨ne1616, ne1617⟩ := pqM.ne (Ne.symm ne1545) (Ne.symm ne1546)
  have ne1618 := pqM.ne2 ne1520
  obtain ⟨ge_P, ge_Q⟩ := pqM.ge ge_r1500 ge_r1517
  obtain ⟨gs_P, gs_Q⟩ := pqM.ge gs_r1500 gs_r1517
  obtain ⟨gq_P, gq_Q⟩ := pqM.ge gq_r1500 gq_r1517
  obtain ⟨Ra, Rb, kRa, kRb, VRa, VRb, ERa, ERb, pbR⟩ : ∃ (Ra Rb : Addr) (kRa kRb : ClassId), Arv Z h1580 Ra kRa .double (2 : Int32) [(.double r0), (.double r1)] (.double (0 : UInt64)) ∧ Arv Z h1580 Rb kRb .double (2 : Int32) [(.double n01), (.double n11)] (.double (0 : UInt64)) ∧ Exa Z h1580 Ra "[D" ∧ Exa Z h1580 Rb "[D" ∧ own_pb bst Ra Rb b1538_0 b1538_1 := by
    rcases hsw with ⟨rfl, rfl, rfl, rfl, rfl, rfl, rfl, h8, h9⟩ | ⟨rfl, rfl, rfl, rfl, rfl, rfl, rfl, h8, h9⟩
    · rw [h8, h9]; exact ⟨b1538_0, b1538_1, _, _, x1592, V1580, x1590, x1591, Or.inl ⟨rfl, rfl, rfl⟩⟩
    · rw [h8, h9]; exact ⟨b1538_1, b1538_0, _, _, V1580, x1592, x1591, x1590, Or.inr ⟨rfl, rfl, rfl⟩⟩
  have pqR := pbR.pq
  obtain ⟨ne1619, ne1620⟩ := pqR.ne ne1539 ne1543
  obtain ⟨ne1621, ne1622⟩ := pqR.ne ne1540 ne1544
  obtain ⟨ne1623, ne1624⟩ := pqR.ne ne1552 ne1553
  obtain ⟨ne1625, ne1626⟩ := pqR.ne (Ne.symm ne1614) (Ne.symm ne1616)
  obtain ⟨ne1627, ne1628⟩ := pqR.ne (Ne.symm ne1615) (Ne.symm ne1617)
  have ne1629 := pqR.ne2 ne1547
  obtain ⟨ge_Ra, ge_Rb⟩ := pqR.ge ge_b1538_0 ge_b1538_1
  obtain ⟨gs_Ra, gs_Rb⟩ := pqR.ge gs_b1538_0 gs_b1538_1
  obtain ⟨gq_Ra, gq_Rb⟩ := pqR.ge gq_b1538_0 gq_b1538_1
  have cp1632 : ∀ target, own_S p e below T1607 (mkF m 137 (own_loc32 a0 b1492 b1538 bst) [(.double (4607182418800017408 : UInt64))]) target → own_S p e below s₁ (mkF m 0 #[.val (.ref a0), .unset, .unset, .unset, .unset, .unset, .unset, .unset, .unset, .unset, .unset] []) target := by
    intro target kt
    show own_S p e below s₁ (mkF m 0 #[.val (.ref a0), .unset, .unset, .unset, .unset, .unset, .unset, .unset, .unset, .unset, .unset] []) _
    refine cp1599 _ (st1600 _ (XS.aloadN X1600.here hx rfl (D d8_108) rfl rfl (XS.iload X1600.here hx rfl (D d8_109) rfl (own_ldA X1600 hx hZ e1600 x1587 (j := (0 : Int32)) ⟨(by decide), (by decide)⟩ (v := (.ref r1500)) rfl rfl rfl (D d8_111) (XS.iloadN X1600.here hx rfl (D d8_112) rfl (own_ldD X1600 hx hZ e1600 x1584 (j := (0 : Int32)) ⟨(by decide), (by decide)⟩ (v := (.double m00)) rfl rfl rfl (D d8_113) (st1603 _ (XS.dcmpS X1603.here hx rfl (D d8_117) rfl rfl (sg1605 _ ?_)))))))))
    refine sg1606 _ (XS.iinc X1603.here hx rfl (D d8_125) rfl (l' := (own_loc32 a0 b1492 b1538 bst)) rfl (XS.goto X1603.here hx rfl (pc0 := 128) (pc' := 90) rfl (D d8_128) (by decide) (by decide) (XS.iload X1603.here hx rfl (D d8_90) rfl (XS.aloadN X1603.here hx rfl (D d8_92) rfl rfl (st1607 _ ?_)))))
    show own_S p e below T1607 (mkF m 96 (own_loc32 a0 b1492 b1538 bst) [.int 2, .int 2]) _
    refine XS.icmpYes X1607.here hx rfl (pc0 := 96) (pc' := 131) rfl (D d8_96) rfl (flt (by decide : ¬ ((2 : Int32) < (2 : Int32)))).2.1 (by decide) (by decide) (XS.aloadN X1607.here hx rfl (D d8_131) rfl rfl (XS.iload X1607.here hx rfl (D d8_132) rfl (own_ldA X1607 hx hZ e1607 x1587 (j := bst) pbM.idx (v := (.ref P)) pbM.at rfl rfl (D d8_134) (XS.iloadN X1607.here hx rfl (D d8_135) rfl (own_ldD X1607 hx hZ e1607 VP (j := (0 : Int32)) ⟨(by decide), (by decide)⟩ (v := (.double (4607182418800017408 : UInt64))) rfl rfl rfl (D d8_136) ?_)))))
    exact kt
  obtain ⟨T1633, X1633, e1633, st1633⟩ := natS X1607 hx hZ hown (own_wk hw 112 rfl) (own_wk hw 113 rfl) (own_wk hw 114 rfl) (own_wk hw 115 rfl) (by decide) e1607 (W := 0) (fun q => Jvm.Free.Fl.Abs.absD_pays (4607182418800017408 : UInt64) q (by decide) (by decide)) (g := (mkF m 137 (own_loc32 a0 b1492 b1538 bst) [(.double (4607182418800017408 : UInt64))])) rfl (by rw [hml]; rfl) (argsL := [(.double (4607182418800017408 : UInt64))]) (rest := []) (lenOf pd_4 rfl) rfl (by show 2 * 0 + _ ≤ _; exact Nat.le_of_eq rfl) (D d8_137) (by decide) (by decide) ⟨rfl, own_w1.nn⟩ rfl
  obtain ⟨_, _, ⟨T1634, L1634, k1634, n1634⟩, -, X1634, ⟨Lc1634, hQ1634, l1634, y1634, z1634⟩, st1634⟩ := Jvm.LawKit.callS X1633 hx (y := (⟨own_K, "swap", "([[DII)V"⟩ : MethodName)) hown (mvT hZ (own_wk hw 117 rfl)) (mvT hZ (own_wk hw 118 rfl)) (mvT hZ (own_wk hw 2 rfl)) (mvT hZ (own_wk hw 119 rfl)) (by decide) (backOf (W := 0) (rm12 l Z ag hw [] b1492 (0 : Int32) bst _ _ _ P Q h1580 n0 (Nat.le_trans Z0 kp1593.1) x1587 x1583 x1585 ge_b1492 ne1502 ne1519 O1492 pbM.swp) hZ (own_wk hw 119 rfl) (own_wk hw 2 rfl) (by decide) (by decide)) (g := (mkF m 162 (own_loc32 a0 b1492 b1538 bst) [(.int bst), .int 0, (.ref b1492)])) rfl (by rw [hml]; rfl) (argsL := [(.ref b1492), (.int (0 : Int32)), (.int bst)]) (rest := []) (lenOf pd_15 rfl) rfl (by show 2 * 0 + _ ≤ _; exact Nat.le_of_eq rfl) (D d8_162) (fun _ _ => ⟨rfl, e1633, (by decide : 6 + 0 ≤ _), (by decide : 12 + 0 ≤ _)⟩)
  dsimp only [Pt.U, Pt.locs, Pt.cells, Pt.slots] at X1634 l1634 y1634 z1634 st1634 hQ1634
  subst l1634 y1634 z1634
  obtain ⟨rfl, N1634q, K1634, o1634_0⟩ := hQ1634
  have N1634 := Fr.app N1580 N1634q
  have kq1635 := kq1581.trans K1634 (allS (Or.inr gq_b1492) all0)
  have x1636 := x1583.keep K1634
  have x1637 := x1585.keep K1634
  have x1638 := x1588.keep K1634 (ninS (Ne.symm ne1549) nin0)
  have x1639 := x1590.keep K1634
  have x1640 := x1591.keep K1634
  have x1641 := VP.keep K1634 (ninS (Ne.symm ne1610) nin0)
  have x1642 := VQ.keep K1634 (ninS (Ne.symm ne1611) nin0)
  have x1643 := EP.keep K1634
  have x1644 := EQ.keep K1634
  have x1645 := VRa.keep K1634 (ninS (Ne.symm ne1621) nin0)
  have x1646 := VRb.keep K1634 (ninS (Ne.symm ne1622) nin0)
  have x1647 := ERa.keep K1634
  have x1648 := ERb.keep K1634
  have kp1649 : Keep h0 T1634.heap [a0] := kp1593.trans K1634 (allS (Or.inr gs_b1492) all0)
  obtain ⟨_, _, ⟨T1650, L1650, k1650, n1650⟩, -, X1650, ⟨Lc1650, hQ1650, l1650, y1650, z1650⟩, st1650⟩ := Jvm.LawKit.callS X1634 hx (y := (⟨own_K, "swap", "([[DII)V"⟩ : MethodName)) hown (mvT hZ (own_wk hw 117 rfl)) (mvT hZ (own_wk hw 118 rfl)) (mvT hZ (own_wk hw 2 rfl)) (mvT hZ (own_wk hw 119 rfl)) (by decide) (backOf (W := 0) (rm12 l Z ag hw [] b1538 (0 : Int32) bst _ _ _ Ra Rb T1634.heap n0 (Nat.le_trans Z0 kp1649.1) x1638 x1639 x1640 ge_b1538 ne1552 ne1553 O1538 pbR.swp) hZ (own_wk hw 119 rfl) (own_wk hw 2 rfl) (by decide) (by decide)) (g := (mkF m 169 (own_loc32 a0 b1492 b1538 bst) [(.int bst), .int 0, (.ref b1538)])) rfl (by rw [hml]; rfl) (argsL := [(.ref b1538), (.int (0 : Int32)), (.int bst)]) (rest := []) (lenOf pd_15 rfl) rfl (by show 2 * 0 + _ ≤ _; exact Nat.le_of_eq rfl) (D d8_169) (fun _ _ => ⟨rfl, rfl, (by decide : 6 + 0 ≤ _), (by decide : 12 + 0 ≤ _)⟩)
  dsimp only [Pt.U, Pt.locs, Pt.cells, Pt.slots] at X1650 l1650 y1650 z1650 st1650 hQ1650
  subst l1650 y1650 z1650
  obtain ⟨rfl, N1650q, K1650, o1650_0⟩ := hQ1650
  have N1650 := Fr.app N1634 N1650q
  have kq1651 := kq1635.trans K1650 (allS (Or.inr gq_b1538) all0)
  have x1652 := x1636.keep K1650
  have x1653 := x1637.keep K1650
  have x1654 := x1639.keep K1650
  have x1655 := x1640.keep K1650
  have x1656 := x1641.keep K1650 (ninS (Ne.symm ne1612) nin0)
  have x1657 := x1642.keep K1650 (ninS (Ne.symm ne1613) nin0)
  have x1658 := x1643.keep K1650
  have x1659 := x1644.keep K1650
  have x1660 := x1645.keep K1650 (ninS (Ne.symm ne1623) nin0)
  have x1661 := x1646.keep K1650 (ninS (Ne.symm ne1624) nin0)
  have x1662 := x1647.keep K1650
  have x1663 := x1648.keep K1650
  have x1664 := o1634_0.keep K1650 (ninS ne1549 nin0)
  have kp1665 : Keep h0 T1650.heap [a0] := kp1649.trans K1650 (allS (Or.inr gs_b1538) all0)
  obtain ⟨T1668, X1668, e1668, st1668⟩ := own_gf X1650 hx hZ hown (own_wk hw 81 rfl) rfl (Ob_a0.keep kq1651 nin0) 24 rfl rfl (g := (mkF m 185 (own_loc34 a0 b1492 b1538 bst) [(.ref a0), .int 0])) rfl rfl (D d8_185)
  obtain ⟨T1671, h1671, X1671, e1671, W1671, V1671, st1671⟩ := own_stD X1668 hx hZ e1668 x1656 (j := (0 : Int32)) ⟨(by decide), (by decide)⟩ 0 rfl (Nat.le_of_ble_eq_true rfl) (vs' := [(.double (4607182418800017408 : UInt64)), (.double U)]) rfl (g := (mkF m 201 (own_loc34 a0 b1492 b1538 bst) [(.double (4607182418800017408 : UInt64)), .int 0, (.ref P)])) rfl rfl (D d8_201)
  have kq1672 := kq1651.wr W1671 (Or.inr gq_P)
  have x1673 := x1652.wr W1671
  have x1674 := x1653.wr W1671
  have x1675 := x1654.wr W1671
  have x1676 := x1655.wr W1671
  have x1677 := x1657.other W1671 (Ne.symm ne1618)
  have x1678 := x1658.wr W1671
  have x1679 := x1659.wr W1671
  have x1680 := x1660.other W1671 (Ne.symm ne1625)
  have x1681 := x1661.other W1671 (Ne.symm ne1626)
  have x1682 := x1662.wr W1671
  have x1683 := x1663.wr W1671
  have x1684 := x1664.other W1671 ne1610
  have x1685 := o1650_0.other W1671 ne1612
  have kp1686 : Keep h0 h1671 [a0] := kp1665.wr W1671 (Or.inr gs_P)
  have N1671 := Fr.snoc X1671 N1650 ge_P
  obtain ⟨T1689, h1689, X1689, e1689, W1689, V1689, st1689⟩ := own_stD X1671 hx hZ e1671 x1680 (j := (0 : Int32)) ⟨(by decide), (by decide)⟩ 0 rfl (Nat.le_of_ble_eq_true rfl) (vs' := [(.double r0), (.double r1)]) rfl (g := (mkF m 212 (own_loc34 a0 b1492 b1538 bst) [(.double r0), .int 0, (.ref Ra)])) rfl rfl (D d8_212)
  have kq1690 := kq1672.wr W1689 (Or.inr gq_Ra)
  have x1691 := x1673.wr W1689
  have x1692 := x1674.wr W1689
  have x1693 := x1675.wr W1689
  have x1694 := x1676.wr W1689
  have x1695 := x1677.other W1689 ne1627
  have x1696 := x1678.wr W1689
  have x1697 := x1679.wr W1689
  have x1698 := x1681.other W1689 (Ne.symm ne1629)
  have x1699 := x1682.wr W1689
  have x1700 := x1683.wr W1689
  have x1701 := x1684.other W1689 ne1621
  have x1702 := x1685.other W1689 ne1623
  have x1703 := V1671.other W1689 ne1625
  have kp1704 : Keep h0 h1689 [a0] := kp1686.wr W1689 (Or.inr gs_Ra)
  have N1689 := Fr.snoc X1689 N1671 ge_Ra
  obtain ⟨T1705, X1705, e1705, st1705⟩ := own_gf X1689 hx hZ hown (own_wk hw 81 rfl) e1689 (Ob_a0.keep kq1690 nin0) 24 rfl rfl (g := (mkF m 185 (own_loc35 a0 b1492 b1538 bst) [(.ref a0), .int 1])) rfl rfl (D d8_185)
  obtain ⟨T1708, h1708, X1708, e1708, W1708, V1708, st1708⟩ := own_stD X1705 hx hZ e1705 x1703 (j := (1 : Int32)) ⟨(by decide), (by decide)⟩ 1 rfl (Nat.le_of_ble_eq_true rfl) (vs' := [(.double (4607182418800017408 : UInt64)), (.double U)]) rfl (g := (mkF m 201 (own_loc35 a0 b1492 b1538 bst) [(.double U), .int 1, (.ref P)])) rfl rfl (D d8_201)
  have kq1709 := kq1690.wr W1708 (Or.inr gq_P)
  have x1710 := x1691.wr W1708
  have x1711 := x1692.wr W1708
  have x1712 := x1693.wr W1708
  have x1713 := x1694.wr W1708
  have x1714 := x1695.other W1708 (Ne.symm ne1618)
  have x1715 := x1696.wr W1708
  have x1716 := x1697.wr W1708
  have x1717 := x1698.other W1708 (Ne.symm ne1626)
  have x1718 := x1699.wr W1708
  have x1719 := x1700.wr W1708
  have x1720 := x1701.other W1708 ne1610
  have x1721 := x1702.other W1708 ne1612
  have x1722 := V1689.other W1708 (Ne.symm ne1625)
  have kp1723 : Keep h0 h1708 [a0] := kp1704.wr W1708 (Or.inr gs_P)
  have N1708 := Fr.snoc X1708 N1689 ge_P
  obtain ⟨T1726, h1726, X1726, e1726, W1726, V1726, st1726⟩ := own_stD X1708 hx hZ e1708 x1722 (j := (1 : Int32)) ⟨(by decide), (by decide)⟩ 1 rfl (Nat.le_of_ble_eq_true rfl) (vs' := [(.double r0), (.double r1)]) rfl (g := (mkF m 212 (own_loc35 a0 b1492 b1538 bst) [(.double r1), .int 1, (.ref Ra)])) rfl rfl (D d8_212)
  have kq1727 := kq1709.wr W1726 (Or.inr gq_Ra)
  have x1728 := x1710.wr W1726
  have x1729 := x1711.wr W1726
  have x1730 := x1712.wr W1726
  have x1731 := x1713.wr W1726
  have x1732 := x1714.other W1726 ne1627
  have x1733 := x1715.wr W1726
  have x1734 := x1716.wr W1726
  have x1735 := x1717.other W1726 (Ne.symm ne1629)
  have x1736 := x1718.wr W1726
  have x1737 := x1719.wr W1726
  have x1738 := x1720.other W1726 ne1621
  have x1739 := x1721.other W1726 ne1623
  have x1740 := V1708.other W1726 ne1625
  have kp1741 : Keep h0 h1726 [a0] := kp1723.wr W1726 (Or.inr gs_Ra)
  have N1726 := Fr.snoc X1726 N1708 ge_Ra
  obtain ⟨T1742, X1742, e1742, st1742⟩ := own_gf X1726 hx hZ hown (own_wk hw 81 rfl) e1726 (Ob_a0.keep kq1727 nin0) 24 rfl rfl (g := (mkF m 185 (own_loc36 a0 b1492 b1538 bst) [(.ref a0), .int 2])) rfl rfl (D d8_185)
  obtain ⟨T1743, X1743, e1743, st1743⟩ := own_gf X1742 hx hZ hown (own_wk hw 81 rfl) e1742 (Ob_a0.keep kq1727 nin0) 24 rfl rfl (g := (mkF m 225 (own_loc34 a0 b1492 b1538 bst) [(.ref a0), .int 0])) rfl rfl (D d8_225)
  obtain ⟨T1746, X1746, e1746, st1746⟩ := own_gf X1743 hx hZ hown (own_wk hw 81 rfl) e1743 (Ob_a0.keep kq1727 nin0) 24 rfl rfl (g := (mkF m 225 (own_loc38 a0 b1492 b1538 bst) [(.ref a0), .int 1])) rfl rfl (D d8_225)
  obtain ⟨T1749, X1749, e1749, st1749⟩ := own_gf X1746 hx hZ hown (own_wk hw 81 rfl) e1746 (Ob_a0.keep kq1727 nin0) 24 rfl rfl (g := (mkF m 225 (own_loc40 a0 b1492 b1538 bst) [(.ref a0), .int 2])) rfl rfl (D d8_225)
  obtain ⟨T1750, X1750, e1750, st1750⟩ := own_gf X1749 hx hZ hown (own_wk hw 81 rfl) e1749 (Ob_a0.keep kq1727 nin0) 24 rfl rfl (g := (mkF m 76 (own_loc41 a0 b1492 b1538 bst) [(.ref a0), .int 1])) rfl rfl (D d8_76)
  obtain ⟨T1751, X1751, e1751, st1751⟩ := own_gf X1750 hx hZ hown (own_wk hw 81 rfl) e1750 (Ob_a0.keep kq1727 nin0) 24 rfl rfl (g := (mkF m 93 (own_loc43 a0 b1492 b1538) [(.ref a0), .int 2])) rfl rfl (D d8_93)
  have cp1754 : ∀ target, own_S p e below T1751 (mkF m 137 (own_loc43 a0 b1492 b1538) [(.double (4607182418800017408 : UInt64))]) target → own_S p e below s₁ (mkF m 0 #[.val (.ref a0), .unset, .unset, .unset, .unset, .unset, .unset, .unset, .unset, .unset, .unset] []) target := by
    intro target kt
    show own_S p e below s₁ (mkF m 0 #[.val (.ref a0), .unset, .unset, .unset, .unset, .unset, .unset, .unset, .unset, .unset, .unset] []) _
    refine cp1632 _ (st1633 _ (X1633.ldc2DoubleC hx hown (mvT hZ (own_wk hw 116 rfl)) (g := (mkF m 140 (own_loc32 a0 b1492 b1538 bst) [(.double ((4607182418800017408 : UInt64) &&& (9223372036854775807 : UInt64)))])) rfl (D d8_140) _ (XS.dcmpS X1633.here hx rfl (D d8_143) rfl rfl (XS.ifYes X1633.here hx rfl (pc0 := 144) (pc' := 158) rfl (D d8_144) rfl ((if0 _ _).trans (tlt (show (0 : Int32) < (cmpValue (FP.dcmp ((4607182418800017408 : UInt64) &&& (9223372036854775807 : UInt64)) (4472406533629990549 : UInt64)) .g) from by decide +kernel)).2.2.1) (by decide) (by decide) (XS.aloadN X1633.here hx rfl (D d8_158) rfl rfl (XS.iloadN X1633.here hx rfl (D d8_159) rfl (XS.iload X1633.here hx rfl (D d8_160) rfl (st1634 _ (XS.aloadN X1634.here hx rfl (D d8_165) rfl rfl ?_)))))))))
    refine XS.iloadN X1634.here hx rfl (D d8_166) rfl (XS.iload X1634.here hx rfl (D d8_167) rfl (st1650 _ (XS.aloadN X1650.here hx rfl (D d8_172) rfl rfl (XS.iloadN X1650.here hx rfl (D d8_173) rfl (own_ldA X1650 hx hZ rfl x1664 (j := (0 : Int32)) ⟨(by decide), (by decide)⟩ (v := (.ref P)) rfl rfl rfl (D d8_174) (XS.iloadN X1650.here hx rfl (D d8_175) rfl (own_ldD X1650 hx hZ rfl x1656 (j := (0 : Int32)) ⟨(by decide), (by decide)⟩ (v := (.double (4607182418800017408 : UInt64))) rfl rfl rfl (D d8_176) (XS.dstore X1650.here hx rfl (D d8_177) rfl (l' := (own_loc33 a0 b1492 b1538 bst)) rfl ?_))))))))
    show own_S p e below T1650 (mkF m 179 (own_loc33 a0 b1492 b1538 bst) []) _
    refine XS.iconst X1650.here hx rfl (D d8_179) (XS.istore X1650.here hx rfl (D d8_180) rfl (l' := (own_loc34 a0 b1492 b1538 bst)) rfl (XS.iload X1650.here hx rfl (D d8_182) rfl (XS.aloadN X1650.here hx rfl (D d8_184) rfl rfl (st1668 _ (XS.icmpNo X1668.here hx rfl (D d8_188) rfl (tlt (by decide : (0 : Int32) < (2 : Int32))).2.1 (XS.aloadN X1668.here hx rfl (D d8_191) rfl rfl (XS.iloadN X1668.here hx rfl (D d8_192) rfl (own_ldA X1668 hx hZ e1668 x1664 (j := (0 : Int32)) ⟨(by decide), (by decide)⟩ (v := (.ref P)) rfl rfl rfl (D d8_193) (XS.iload X1668.here hx rfl (D d8_194) rfl ?_)))))))))
    refine Jvm.Free.XT.dup2 X1668.here hx rfl (D d8_196) rfl rfl rfl (own_ldD X1668 hx hZ e1668 x1656 (j := (0 : Int32)) ⟨(by decide), (by decide)⟩ (v := (.double (4607182418800017408 : UInt64))) rfl rfl rfl (D d8_197) (XS.dload X1668.here hx rfl (D d8_198) rfl (XS.ddivS X1668.here hx rfl (D d8_200) rfl (own_ndiv own_w1) (own_div1 own_w1) ?_)))
    show own_S p e below T1668 (mkF m 201 (own_loc34 a0 b1492 b1538 bst) [(.double (4607182418800017408 : UInt64)), .int 0, (.ref P)]) _
    refine st1671 _ (XS.aloadN X1671.here hx rfl (D d8_202) rfl rfl (XS.iloadN X1671.here hx rfl (D d8_203) rfl (own_ldA X1671 hx hZ e1671 x1685 (j := (0 : Int32)) ⟨(by decide), (by decide)⟩ (v := (.ref Ra)) rfl rfl rfl (D d8_204) (XS.iload X1671.here hx rfl (D d8_205) rfl (Jvm.Free.XT.dup2 X1671.here hx rfl (D d8_207) rfl rfl rfl (own_ldD X1671 hx hZ e1671 x1680 (j := (0 : Int32)) ⟨(by decide), (by decide)⟩ (v := (.double r0)) rfl rfl rfl (D d8_208) (XS.dload X1671.here hx rfl (D d8_209) rfl (XS.ddivS X1671.here hx rfl (D d8_211) rfl (own_ndiv wr0) (own_div1 wr0) (st1689 _ ?_)))))))))
    refine XS.iinc X1689.here hx rfl (D d8_213) rfl (l' := (own_loc35 a0 b1492 b1538 bst)) rfl (XS.goto X1689.here hx rfl (pc0 := 216) (pc' := 182) rfl (D d8_216) (by decide) (by decide) (XS.iload X1689.here hx rfl (D d8_182) rfl (XS.aloadN X1689.here hx rfl (D d8_184) rfl rfl (st1705 _ ?_))))
    show own_S p e below T1705 (mkF m 188 (own_loc35 a0 b1492 b1538 bst) [.int 2, .int 1]) _
    refine XS.icmpNo X1705.here hx rfl (D d8_188) rfl (tlt (by decide : (1 : Int32) < (2 : Int32))).2.1 (XS.aloadN X1705.here hx rfl (D d8_191) rfl rfl (XS.iloadN X1705.here hx rfl (D d8_192) rfl (own_ldA X1705 hx hZ e1705 x1701 (j := (0 : Int32)) ⟨(by decide), (by decide)⟩ (v := (.ref P)) rfl rfl rfl (D d8_193) (XS.iload X1705.here hx rfl (D d8_194) rfl (Jvm.Free.XT.dup2 X1705.here hx rfl (D d8_196) rfl rfl rfl (own_ldD X1705 hx hZ e1705 x1703 (j := (1 : Int32)) ⟨(by decide), (by decide)⟩ (v := (.double U)) rfl rfl rfl (D d8_197) (XS.dload X1705.here hx rfl (D d8_198) rfl (XS.ddivS X1705.here hx rfl (D d8_200) rfl (own_ndiv hU) (own_div1 hU) (st1708 _ ?_)))))))))
    refine XS.aloadN X1708.here hx rfl (D d8_202) rfl rfl (XS.iloadN X1708.here hx rfl (D d8_203) rfl (own_ldA X1708 hx hZ e1708 x1721 (j := (0 : Int32)) ⟨(by decide), (by decide)⟩ (v := (.ref Ra)) rfl rfl rfl (D d8_204) (XS.iload X1708.here hx rfl (D d8_205) rfl (Jvm.Free.XT.dup2 X1708.here hx rfl (D d8_207) rfl rfl rfl ?_))))
    show own_S p e below T1708 (mkF m 208 (own_loc35 a0 b1492 b1538 bst) [.int 1, (.ref Ra), .int 1, (.ref Ra)]) _
    refine own_ldD X1708 hx hZ e1708 x1722 (j := (1 : Int32)) ⟨(by decide), (by decide)⟩ (v := (.double r1)) rfl rfl rfl (D d8_208) (XS.dload X1708.here hx rfl (D d8_209) rfl (XS.ddivS X1708.here hx rfl (D d8_211) rfl (own_ndiv wr1) (own_div1 wr1) (st1726 _ (XS.iinc X1726.here hx rfl (D d8_213) rfl (l' := (own_loc36 a0 b1492 b1538 bst)) rfl (XS.goto X1726.here hx rfl (pc0 := 216) (pc' := 182) rfl (D d8_216) (by decide) (by decide) (XS.iload X1726.here hx rfl (D d8_182) rfl (XS.aloadN X1726.here hx rfl (D d8_184) rfl rfl (st1742 _ (XS.icmpYes X1742.here hx rfl (pc0 := 188) (pc' := 219) rfl (D d8_188) rfl (flt (by decide : ¬ ((2 : Int32) < (2 : Int32)))).2.1 (by decide) (by decide) ?_)))))))))
    refine XS.iconst X1742.here hx rfl (D d8_219) (XS.istore X1742.here hx rfl (D d8_220) rfl (l' := (own_loc34 a0 b1492 b1538 bst)) rfl (XS.iload X1742.here hx rfl (D d8_222) rfl (XS.aloadN X1742.here hx rfl (D d8_224) rfl rfl (st1743 _ ?_))))
    show own_S p e below T1743 (mkF m 228 (own_loc34 a0 b1492 b1538 bst) [.int 2, .int 0]) _
    refine XS.icmpNo X1743.here hx rfl (D d8_228) rfl (tlt (by decide : (0 : Int32) < (2 : Int32))).2.1 (XS.aloadN X1743.here hx rfl (D d8_231) rfl rfl (XS.iload X1743.here hx rfl (D d8_232) rfl (own_ldA X1743 hx hZ e1743 x1738 (j := (0 : Int32)) ⟨(by decide), (by decide)⟩ (v := (.ref P)) rfl rfl rfl (D d8_234) (XS.iloadN X1743.here hx rfl (D d8_235) rfl (own_ldD X1743 hx hZ e1743 x1740 (j := (0 : Int32)) ⟨(by decide), (by decide)⟩ (v := (.double (4607182418800017408 : UInt64))) rfl rfl rfl (D d8_236) (XS.dstore X1743.here hx rfl (D d8_237) rfl (l' := (own_loc37 a0 b1492 b1538 bst)) rfl (XS.iload X1743.here hx rfl (D d8_239) rfl (XS.iloadN X1743.here hx rfl (D d8_241) rfl (XS.icmpYes X1743.here hx rfl (pc0 := 242) (pc' := 308) rfl (D d8_242) rfl (teq (by decide : (0 : Int32) = (0 : Int32))).1 (by decide) (by decide) ?_)))))))))
    refine XS.iinc X1743.here hx rfl (D d8_308) rfl (l' := (own_loc38 a0 b1492 b1538 bst)) rfl (XS.goto X1743.here hx rfl (pc0 := 311) (pc' := 222) rfl (D d8_311) (by decide) (by decide) (XS.iload X1743.here hx rfl (D d8_222) rfl (XS.aloadN X1743.here hx rfl (D d8_224) rfl rfl (st1746 _ ?_))))
    show own_S p e below T1746 (mkF m 228 (own_loc38 a0 b1492 b1538 bst) [.int 2, .int 1]) _
    refine XS.icmpNo X1746.here hx rfl (D d8_228) rfl (tlt (by decide : (1 : Int32) < (2 : Int32))).2.1 (XS.aloadN X1746.here hx rfl (D d8_231) rfl rfl (XS.iload X1746.here hx rfl (D d8_232) rfl (own_ldA X1746 hx hZ e1746 x1738 (j := (1 : Int32)) ⟨(by decide), (by decide)⟩ (v := (.ref Q)) rfl rfl rfl (D d8_234) (XS.iloadN X1746.here hx rfl (D d8_235) rfl (own_ldD X1746 hx hZ e1746 x1732 (j := (0 : Int32)) ⟨(by decide), (by decide)⟩ (v := (.double (0 : UInt64))) rfl rfl rfl (D d8_236) (XS.dstore X1746.here hx rfl (D d8_237) rfl (l' := (own_loc39 a0 b1492 b1538 bst)) rfl (XS.iload X1746.here hx rfl (D d8_239) rfl (XS.iloadN X1746.here hx rfl (D d8_241) rfl (XS.icmpNo X1746.here hx rfl (D d8_242) rfl (feq (by decide : ¬ ((1 : Int32) = (0 : Int32)))).1 ?_)))))))))
    refine XS.dload X1746.here hx rfl (D d8_245) rfl (XS.dconst0 X1746.here hx rfl (D d8_247) rfl (XS.dcmpS X1746.here hx rfl (D d8_248) rfl rfl (XS.ifYes X1746.here hx rfl (pc0 := 249) (pc' := 308) rfl (D d8_249) rfl ((if0 _ _).trans (teq (show (cmpValue (FP.dcmp (0 : UInt64) (0 : UInt64)) .l) = (0 : Int32) from by decide +kernel)).1) (by decide) (by decide) ?_)))
    show own_S p e below T1746 (mkF m 308 (own_loc39 a0 b1492 b1538 bst) []) _
    refine XS.iinc X1746.here hx rfl (D d8_308) rfl (l' := (own_loc40 a0 b1492 b1538 bst)) rfl (XS.goto X1746.here hx rfl (pc0 := 311) (pc' := 222) rfl (D d8_311) (by decide) (by decide) (XS.iload X1746.here hx rfl (D d8_222) rfl (XS.aloadN X1746.here hx rfl (D d8_224) rfl rfl (st1749 _ (XS.icmpYes X1749.here hx rfl (pc0 := 228) (pc' := 314) rfl (D d8_228) rfl (flt (by decide : ¬ ((2 : Int32) < (2 : Int32)))).2.1 (by decide) (by decide) (XS.iinc X1749.here hx rfl (D d8_314) rfl (l' := (own_loc41 a0 b1492 b1538 bst)) rfl (XS.goto X1749.here hx rfl (pc0 := 317) (pc' := 74) rfl (D d8_317) (by decide) (by decide) (XS.iloadN X1749.here hx rfl (D d8_74) rfl (XS.aloadN X1749.here hx rfl (D d8_75) rfl rfl ?_)))))))))
    refine st1750 _ (XS.icmpNo X1750.here hx rfl (D d8_79) rfl (tlt (by decide : (1 : Int32) < (2 : Int32))).2.1 (XS.iloadN X1750.here hx rfl (D d8_82) rfl (XS.istore X1750.here hx rfl (D d8_83) rfl (l' := (own_loc42 a0 b1492 b1538)) rfl ?_)))
    show own_S p e below T1750 (mkF m 85 (own_loc42 a0 b1492 b1538) []) _
    refine XS.iloadN X1750.here hx rfl (D d8_85) rfl (XS.iconst X1750.here hx rfl (D d8_86) (XS.iadd X1750.here hx rfl (D d8_87) rfl ?_))
    show own_S p e below T1750 (mkF m 88 (own_loc42 a0 b1492 b1538) [(.int ((1 : Int32) + (1 : Int32)))]) _
    rw [show ((1 : Int32) + (1 : Int32)) = (2 : Int32) from by decide]
    show own_S p e below T1750 (mkF m 88 (own_loc42 a0 b1492 b1538) [.int 2]) _
    refine XS.istore X1750.here hx rfl (D d8_88) rfl (l' := (own_loc43 a0 b1492 b1538)) rfl (XS.iload X1750.here hx rfl (D d8_90) rfl (XS.aloadN X1750.here hx rfl (D d8_92) rfl rfl (st1751 _ (XS.icmpYes X1751.here hx rfl (pc0 := 96) (pc' := 131) rfl (D d8_96) rfl (flt (by decide : ¬ ((2 : Int32) < (2 : Int32)))).2.1 (by decide) (by decide) (XS.aloadN X1751.here hx rfl (D d8_131) rfl rfl (XS.iload X1751.here hx rfl (D d8_132) rfl (own_ldA X1751 hx hZ e1751 x1738 (j := (1 : Int32)) ⟨(by decide), (by decide)⟩ (v := (.ref Q)) rfl rfl rfl (D d8_134) (XS.iloadN X1751.here hx rfl (D d8_135) rfl (own_ldD X1751 hx hZ e1751 x1732 (j := (1 : Int32)) ⟨(by decide), (by decide)⟩ (v := (.double (4607182418800017408 : UInt64))) rfl rfl rfl (D d8_136) ?_)))))))))
    exact kt
  obtain ⟨T1755, X1755, e1755, st1755⟩ := natS X1751 hx hZ hown (own_wk hw 112 rfl) (own_wk hw 113 rfl) (own_wk hw 114 rfl) (own_wk hw 115 rfl) (by decide) e1751 (W := 0) (fun q => Jvm.Free.Fl.Abs.absD_pays (4607182418800017408 : UInt64) q (by decide) (by decide)) (g := (mkF m 137 (own_loc43 a0 b1492 b1538) [(.double (4607182418800017408 : UInt64))])) rfl (by rw [hml]; rfl) (argsL := [(.double (4607182418800017408 : UInt64))]) (rest := []) (lenOf pd_4 rfl) rfl (by show 2 * 0 + _ ≤ _; exact Nat.le_of_eq rfl) (D d8_137) (by decide) (by decide) ⟨rfl, own_w1.nn⟩ rfl
  obtain ⟨_, _, ⟨T1756, L1756, k1756, n1756⟩, -, X1756, ⟨Lc1756, hQ1756, l1756, y1756, z1756⟩, st1756⟩ := Jvm.LawKit.callS X1755 hx (y := (⟨own_K, "swap", "([[DII)V"⟩ : MethodName)) hown (mvT hZ (own_wk hw 117 rfl)) (mvT hZ (own_wk hw 118 rfl)) (mvT hZ (own_wk hw 2 rfl)) (mvT hZ (own_wk hw 119 rfl)) (by decide) (backOf (W := 0) (rm12 l Z ag hw [] b1492 (1 : Int32) (1 : Int32) _ P Q P Q h1726 n0 (Nat.le_trans Z0 kp1741.1) x1738 x1733 x1734 ge_b1492 ne1610 ne1611 O1492 own_swp11) hZ (own_wk hw 119 rfl) (own_wk hw 2 rfl) (by decide) (by decide)) (g := (mkF m 162 (own_loc43 a0 b1492 b1538) [.int 1, .int 1, (.ref b1492)])) rfl (by rw [hml]; rfl) (argsL := [(.ref b1492), (.int (1 : Int32)), (.int (1 : Int32))]) (rest := []) (lenOf pd_15 rfl) rfl (by show 2 * 0 + _ ≤ _; exact Nat.le_of_eq rfl) (D d8_162) (fun _ _ => ⟨rfl, e1755, (by decide : 6 + 0 ≤ _), (by decide : 12 + 0 ≤ _)⟩)
  dsimp only [Pt.U, Pt.locs, Pt.cells, Pt.slots] at X1756 l1756 y1756 z1756 st1756 hQ1756
  subst l1756 y1756 z1756
  obtain ⟨rfl, N1756q, K1756, o1756_0⟩ := hQ1756
  have N1756 := Fr.app N1726 N1756q
  have kq1757 := kq1727.trans K1756 (allS (Or.inr gq_b1492) all0)
  have x1758 := x1728.keep K1756
  have x1759 := x1729.keep K1756
  have x1760 := x1730.keep K1756
  have x1761 := x1731.keep K1756
  have x1762 := x1732.keep K1756 (ninS (Ne.symm ne1611) nin0)
  have x1763 := x1733.keep K1756
  have x1764 := x1734.keep K1756
  have x1765 := x1735.keep K1756 (ninS (Ne.symm ne1622) nin0)
  have x1766 := x1736.keep K1756
  have x1767 := x1737.keep K1756
  have x1768 := x1739.keep K1756 (ninS (Ne.symm ne1549) nin0)
  have x1769 := x1740.keep K1756 (ninS (Ne.symm ne1610) nin0)
  have x1770 := V1726.keep K1756 (ninS (Ne.symm ne1621) nin0)
  have kp1771 : Keep h0 T1756.heap [a0] := kp1741.trans K1756 (allS (Or.inr gs_b1492) all0)
  obtain ⟨_, _, ⟨T1772, L1772, k1772, n1772⟩, -, X1772, ⟨Lc1772, hQ1772, l1772, y1772, z1772⟩, st1772⟩ := Jvm.LawKit.callS X1756 hx (y := (⟨own_K, "swap", "([[DII)V"⟩ : MethodName)) hown (mvT hZ (own_wk hw 117 rfl)) (mvT hZ (own_wk hw 118 rfl)) (mvT hZ (own_wk hw 2 rfl)) (mvT hZ (own_wk hw 119 rfl)) (by decide) (backOf (W := 0) (rm12 l Z ag hw [] b1538 (1 : Int32) (1 : Int32) _ _ _ Ra Rb T1756.heap n0 (Nat.le_trans Z0 kp1771.1) x1768 x1766 x1767 ge_b1538 ne1623 ne1624 O1538 own_swp11) hZ (own_wk hw 119 rfl) (own_wk hw 2 rfl) (by decide) (by decide)) (g := (mkF m 169 (own_loc43 a0 b1492 b1538) [.int 1, .int 1, (.ref b1538)])) rfl (by rw [hml]; rfl) (argsL := [(.ref b1538), (.int (1 : Int32)), (.int (1 : Int32))]) (rest := []) (lenOf pd_15 rfl) rfl (by show 2 * 0 + _ ≤ _; exact Nat.le_of_eq rfl) (D d8_169) (fun _ _ => ⟨rfl, rfl, (by decide : 6 + 0 ≤ _), (by decide : 12 + 0 ≤ _)⟩)
  dsimp only [Pt.U, Pt.locs, Pt.cells, Pt.slots] at X1772 l1772 y1772 z1772 st1772 hQ1772
  subst l1772 y1772 z1772
  obtain ⟨rfl, N1772q, K1772, o1772_0⟩ := hQ1772
  have N1772 := Fr.app N1756 N1772q
  have kq1773 := kq1757.trans K1772 (allS (Or.inr gq_b1538) all0)
  have x1774 := x1758.keep K1772
  have x1775 := x1759.keep K1772
  have x1776 := x1760.keep K1772
  have x1777 := x1761.keep K1772
  have x1778 := x1762.keep K1772 (ninS (Ne.symm ne1613) nin0)
  have x1779 := x1763.keep K1772
  have x1780 := x1764.keep K1772
  have x1781 := x1765.keep K1772 (ninS (Ne.symm ne1624) nin0)
  have x1782 := x1766.keep K1772
  have x1783 := x1767.keep K1772
  have x1784 := x1769.keep K1772 (ninS (Ne.symm ne1612) nin0)
  have x1785 := x1770.keep K1772 (ninS (Ne.symm ne1623) nin0)
  have x1786 := o1756_0.keep K1772 (ninS ne1549 nin0)
  have kp1787 : Keep h0 T1772.heap [a0] := kp1771.trans K1772 (allS (Or.inr gs_b1538) all0)
  obtain ⟨T1790, X1790, e1790, st1790⟩ := own_gf X1772 hx hZ hown (own_wk hw 81 rfl) rfl (Ob_a0.keep kq1773 nin0) 24 rfl rfl (g := (mkF m 185 (own_loc44 a0 b1492 b1538) [(.ref a0), .int 0])) rfl rfl (D d8_185)
  obtain ⟨T1793, h1793, X1793, e1793, W1793, V1793, st1793⟩ := own_stD X1790 hx hZ e1790 x1778 (j := (0 : Int32)) ⟨(by decide), (by decide)⟩ 0 rfl (Nat.le_of_ble_eq_true rfl) (vs' := [(.double (0 : UInt64)), (.double (4607182418800017408 : UInt64))]) rfl (g := (mkF m 201 (own_loc44 a0 b1492 b1538) [(.double (0 : UInt64)), .int 0, (.ref Q)])) rfl rfl (D d8_201)
  have kq1794 := kq1773.wr W1793 (Or.inr gq_Q)
  have x1795 := x1781.other W1793 (Ne.symm ne1628)
  have x1796 := x1784.other W1793 ne1618
  have x1797 := x1785.other W1793 (Ne.symm ne1627)
  have x1798 := x1786.other W1793 ne1611
  have x1799 := o1772_0.other W1793 ne1613
  have kp1800 : Keep h0 h1793 [a0] := kp1787.wr W1793 (Or.inr gs_Q)
  have N1793 := Fr.snoc X1793 N1772 ge_Q
  obtain ⟨T1803, h1803, X1803, e1803, W1803, V1803, st1803⟩ := own_stD X1793 hx hZ e1793 x1795 (j := (0 : Int32)) ⟨(by decide), (by decide)⟩ 0 rfl (Nat.le_of_ble_eq_true rfl) (vs' := [(.double n01), (.double n11)]) rfl (g := (mkF m 212 (own_loc44 a0 b1492 b1538) [(.double n01), .int 0, (.ref Rb)])) rfl rfl (D d8_212)
  have kq1804 := kq1794.wr W1803 (Or.inr gq_Rb)
  have x1805 := x1796.other W1803 ne1626
  have x1806 := x1797.other W1803 ne1629
  have x1807 := x1798.other W1803 ne1622
  have x1808 := x1799.other W1803 ne1624
  have x1809 := V1793.other W1803 ne1628
  have kp1810 : Keep h0 h1803 [a0] := kp1800.wr W1803 (Or.inr gs_Rb)
  have N1803 := Fr.snoc X1803 N1793 ge_Rb
  obtain ⟨T1811, X1811, e1811, st1811⟩ := own_gf X1803 hx hZ hown (own_wk hw 81 rfl) e1803 (Ob_a0.keep kq1804 nin0) 24 rfl rfl (g := (mkF m 185 (own_loc45 a0 b1492 b1538) [(.ref a0), .int 1])) rfl rfl (D d8_185)
  obtain ⟨T1814, h1814, X1814, e1814, W1814, V1814, st1814⟩ := own_stD X1811 hx hZ e1811 x1809 (j := (1 : Int32)) ⟨(by decide), (by decide)⟩ 1 rfl (Nat.le_of_ble_eq_true rfl) (vs' := [(.double (0 : UInt64)), (.double (4607182418800017408 : UInt64))]) rfl (g := (mkF m 201 (own_loc45 a0 b1492 b1538) [(.double (4607182418800017408 : UInt64)), .int 1, (.ref Q)])) rfl rfl (D d8_201)
  have kq1815 := kq1804.wr W1814 (Or.inr gq_Q)
  have x1816 := x1805.other W1814 ne1618
  have x1817 := x1806.other W1814 (Ne.symm ne1627)
  have x1818 := x1807.other W1814 ne1611
  have x1819 := x1808.other W1814 ne1613
  have x1820 := V1803.other W1814 (Ne.symm ne1628)
  have kp1821 : Keep h0 h1814 [a0] := kp1810.wr W1814 (Or.inr gs_Q)
  have N1814 := Fr.snoc X1814 N1803 ge_Q
  obtain ⟨T1824, h1824, X1824, e1824, W1824, V1824, st1824⟩ := own_stD X1814 hx hZ e1814 x1820 (j := (1 : Int32)) ⟨(by decide), (by decide)⟩ 1 rfl (Nat.le_of_ble_eq_true rfl) (vs' := [(.double n01), (.double n11)]) rfl (g := (mkF m 212 (own_loc45 a0 b1492 b1538) [(.double n11), .int 1, (.ref Rb)])) rfl rfl (D d8_212)
  have kq1825 := kq1815.wr W1824 (Or.inr gq_Rb)
  have x1826 := x1816.other W1824 ne1626
  have x1827 := x1817.other W1824 ne1629
  have x1828 := x1818.other W1824 ne1622
  have x1829 := x1819.other W1824 ne1624
  have x1830 := V1814.other W1824 ne1628
  have kp1831 : Keep h0 h1824 [a0] := kp1821.wr W1824 (Or.inr gs_Rb)
  have N1824 := Fr.snoc X1824 N1814 ge_Rb
  obtain ⟨T1832, X1832, e1832, st1832⟩ := own_gf X1824 hx hZ hown (own_wk hw 81 rfl) e1824 (Ob_a0.keep kq1825 nin0) 24 rfl rfl (g := (mkF m 185 (own_loc42 a0 b1492 b1538) [(.ref a0), .int 2])) rfl rfl (D d8_185)
  obtain ⟨T1833, X1833, e1833, st1833⟩ := own_gf X1832 hx hZ hown (own_wk hw 81 rfl) e1832 (Ob_a0.keep kq1825 nin0) 24 rfl rfl (g := (mkF m 225 (own_loc44 a0 b1492 b1538) [(.ref a0), .int 0])) rfl rfl (D d8_225)
  obtain ⟨T1836, h1836, L1836, sl1890, X1836, e1836, sz1836, N1836, cs_sl1890, kp1836, x1891, x1892, x1893, x1894, x1895, x1896, x1897, st1836⟩ : ∃ (T1836 : State) (h1836 : Heap) (L1836 : List Loc) (sl1890 : Slot), (Stand p l e ({ frames := 2, cells := 12, slots := 23, locals := 35 } : Room) s m #[(.ref a0)] below meth c T1836 L1836 6 12) ∧ (T1836.heap = h1836) ∧ (n0 ≤ h1836.size) ∧ (Fr n0 L1836) ∧ (own_c1 sl1890) ∧ (Keep h0 h1836 [a0]) ∧ (Exa Z h1836 a0 own_K) ∧ (own_fs own_K own_N Z h1836 a0 [(.ref uc), (.ref ug), w_positionOf, (.ref uf), (.ref ue), w_entryRooms, (.ref ur), (.ref uv), (.ref ub), w_slacks, (.ref uk), w_keyValues, (.ref uh), (.ref ui), w_values, w_groupDualPass, w_groupDualValues, w_rates, w_rated, w_ratedGroups, w_started, (.int (1 : Int32)), w_variableCount, w_entriesUsed, (.int (2 : Int32)), w_objective, w_pivotsSinceInversion]) ∧ (Arv Z h1836 Ra kRa .double (2 : Int32) [(.double n00), (.double n10)] (.double (0 : UInt64))) ∧ (Arv Z h1836 b1492 k1492 (.array .double) (2 : Int32) [(.ref P), (.ref Q)] .null) ∧ (Arv Z h1836 b1538 k1538 (.array .double) (2 : Int32) [(.ref Ra), (.ref Rb)] .null) ∧ (Arv Z h1836 Q kQ .double (2 : Int32) [(.double (0 : UInt64)), (.double (4607182418800017408 : UInt64))] (.double (0 : UInt64))) ∧ (Arv Z h1836 Rb kRb .double (2 : Int32) [(.double n01), (.double n11)] (.double (0 : UInt64))) ∧ (∀ target, Steps p.tables e below (T1836.setTop (mkF m 308 (own_loc50 a0 b1492 b1538 U sl1890) [])) target → Steps p.tables e below (T1833.setTop (mkF m 249 (own_loc46 a0 b1492 b1538 U) [(.int (cmpValue (FP.dcmp U (0 : UInt64)) .l))])) target) := by
    by_cases hc1837 : (cmpValue (FP.dcmp U (0 : UInt64)) .l) = (0 : Int32)
    · have x1838 : Arv Z h1824 Ra kRa .double (2 : Int32) [(.double n00), (.double n10)] (.double (0 : UInt64)) := by rw [← hz0 hc1837, ← hz1 hc1837]; exact x1827
      refine ⟨T1833, h1824, _, .unset, X1833, e1833, (Nat.le_trans Z0 kp1831.1), N1824, Or.inl rfl, kp1831, (E_a0.keep kq1825), (Ob_a0.keep kq1825 nin0), x1838, x1828, x1829, x1830, V1824, fun target kt => ?_⟩
      show own_S p e below T1833 (mkF m 249 (own_loc46 a0 b1492 b1538 U) [(.int (cmpValue (FP.dcmp U (0 : UInt64)) .l))]) _
      refine XS.ifYes X1833.here hx rfl (pc0 := 249) (pc' := 308) rfl (D d8_249) rfl ((if0 _ _).trans (teq hc1837).1) (by decide) (by decide) ?_
      exact kt
    · obtain ⟨T1839, X1839, e1839, st1839⟩ := own_gf X1833 hx hZ hown (own_wk hw 81 rfl) e1833 (Ob_a0.keep kq1825 nin0) 24 rfl rfl (g := (mkF m 258 (own_loc47 a0 b1492 b1538 U) [(.ref a0), .int 0])) rfl rfl (D d8_258)
      obtain ⟨T1844, h1844, X1844, e1844, W1844, V1844, st1844⟩ := own_stD X1839 hx hZ e1839 x1826 (j := (0 : Int32)) ⟨(by decide), (by decide)⟩ 0 rfl (Nat.le_of_ble_eq_true rfl) (vs' := [(.double (4607182418800017408 : UInt64)), (.double U)]) rfl (g := (mkF m 282 (own_loc47 a0 b1492 b1538 U) [(.double (4607182418800017408 : UInt64)), .int 0, (.ref P)])) rfl rfl (D d8_282)
      have kq1845 := kq1825.wr W1844 (Or.inr gq_P)
      have x1846 := x1827.other W1844 (Ne.symm ne1625)
      have x1847 := x1828.other W1844 ne1610
      have x1848 := x1829.other W1844 ne1612
      have x1849 := x1830.other W1844 (Ne.symm ne1618)
      have x1850 := V1824.other W1844 (Ne.symm ne1626)
      have kp1851 : Keep h0 h1844 [a0] := kp1831.wr W1844 (Or.inr gs_P)
      have N1844 := Fr.snoc X1844 N1824 ge_P
      obtain ⟨T1856, h1856, X1856, e1856, W1856, V1856, st1856⟩ := own_stD X1844 hx hZ e1844 x1846 (j := (0 : Int32)) ⟨(by decide), (by decide)⟩ 0 rfl (Nat.le_of_ble_eq_true rfl) (vs' := [(.double n00), (.double r1)]) rfl (g := (mkF m 301 (own_loc47 a0 b1492 b1538 U) [(.double n00), .int 0, (.ref Ra)])) rfl rfl (D d8_301)
      have kq1857 := kq1845.wr W1856 (Or.inr gq_Ra)
      have x1858 := x1847.other W1856 ne1621
      have x1859 := x1848.other W1856 ne1623
      have x1860 := x1849.other W1856 ne1627
      have x1861 := x1850.other W1856 (Ne.symm ne1629)
      have x1862 := V1844.other W1856 ne1625
      have kp1863 : Keep h0 h1856 [a0] := kp1851.wr W1856 (Or.inr gs_Ra)
      have N1856 := Fr.snoc X1856 N1844 ge_Ra
      obtain ⟨T1864, X1864, e1864, st1864⟩ := own_gf X1856 hx hZ hown (own_wk hw 81 rfl) e1856 (Ob_a0.keep kq1857 nin0) 24 rfl rfl (g := (mkF m 258 (own_loc48 a0 b1492 b1538 U) [(.ref a0), .int 1])) rfl rfl (D d8_258)
      obtain ⟨T1869, h1869, X1869, e1869, W1869, V1869, st1869⟩ := own_stD X1864 hx hZ e1864 x1862 (j := (1 : Int32)) ⟨(by decide), (by decide)⟩ 1 rfl (Nat.le_of_ble_eq_true rfl) (vs' := [(.double (4607182418800017408 : UInt64)), (.double (0 : UInt64))]) rfl (g := (mkF m 282 (own_loc48 a0 b1492 b1538 U) [(.double (0 : UInt64)), .int 1, (.ref P)])) rfl rfl (D d8_282)
      have kq1870 := kq1857.wr W1869 (Or.inr gq_P)
      have x1871 := x1858.other W1869 ne1610
      have x1872 := x1859.other W1869 ne1612
      have x1873 := x1860.other W1869 (Ne.symm ne1618)
      have x1874 := x1861.other W1869 (Ne.symm ne1626)
      have x1875 := V1856.other W1869 (Ne.symm ne1625)
      have kp1876 : Keep h0 h1869 [a0] := kp1863.wr W1869 (Or.inr gs_P)
      have N1869 := Fr.snoc X1869 N1856 ge_P
      obtain ⟨T1881, h1881, X1881, e1881, W1881, V1881, st1881⟩ := own_stD X1869 hx hZ e1869 x1875 (j := (1 : Int32)) ⟨(by decide), (by decide)⟩ 1 rfl (Nat.le_of_ble_eq_true rfl) (vs' := [(.double n00), (.double n10)]) rfl (g := (mkF m 301 (own_loc48 a0 b1492 b1538 U) [(.double n10), .int 1, (.ref Ra)])) rfl rfl (D d8_301)
      have kq1882 := kq1870.wr W1881 (Or.inr gq_Ra)
      have x1883 := x1871.other W1881 ne1621
      have x1884 := x1872.other W1881 ne1623
      have x1885 := x1873.other W1881 ne1627
      have x1886 := x1874.other W1881 (Ne.symm ne1629)
      have x1887 := V1869.other W1881 ne1625
      have kp1888 : Keep h0 h1881 [a0] := kp1876.wr W1881 (Or.inr gs_Ra)
      have N1881 := Fr.snoc X1881 N1869 ge_Ra
      obtain ⟨T1889, X1889, e1889, st1889⟩ := own_gf X1881 hx hZ hown (own_wk hw 81 rfl) e1881 (Ob_a0.keep kq1882 nin0) 24 rfl rfl (g := (mkF m 258 (own_loc49 a0 b1492 b1538 U) [(.ref a0), .int 2])) rfl rfl (D d8_258)
      refine ⟨T1889, h1881, _, (.val (.int 2)), X1889, e1889, (Nat.le_trans Z0 kp1888.1), N1881, Or.inr ⟨_, rfl, rfl⟩, kp1888, (E_a0.keep kq1882), (Ob_a0.keep kq1882 nin0), V1881, x1883, x1884, x1885, x1886, fun target kt => ?_⟩
      show own_S p e below T1833 (mkF m 249 (own_loc46 a0 b1492 b1538 U) [(.int (cmpValue (FP.dcmp U (0 : UInt64)) .l))]) _
      refine XS.ifNo X1833.here hx rfl (D d8_249) rfl ((if0 _ _).trans (feq hc1837).1) (XS.iconst X1833.here hx rfl (D d8_252) (XS.istore X1833.here hx rfl (D d8_253) rfl (l' := (own_loc47 a0 b1492 b1538 U)) rfl (XS.iload X1833.here hx rfl (D d8_255) rfl (XS.aloadN X1833.here hx rfl (D d8_257) rfl rfl (st1839 _ (XS.icmpNo X1839.here hx rfl (D d8_261) rfl (tlt (by decide : (0 : Int32) < (2 : Int32))).2.1 (XS.aloadN X1839.here hx rfl (D d8_264) rfl rfl (XS.iload X1839.here hx rfl (D d8_265) rfl (own_ldA X1839 hx hZ e1839 x1828 (j := (0 : Int32)) ⟨(by decide), (by decide)⟩ (v := (.ref P)) rfl rfl rfl (D d8_267) ?_)))))))))
      refine XS.iload X1839.here hx rfl (D d8_268) rfl (Jvm.Free.XT.dup2 X1839.here hx rfl (D d8_270) rfl rfl rfl (own_ldD X1839 hx hZ e1839 x1826 (j := (0 : Int32)) ⟨(by decide), (by decide)⟩ (v := (.double (4607182418800017408 : UInt64))) rfl rfl rfl (D d8_271) (XS.dload X1839.here hx rfl (D d8_272) rfl (XS.aloadN X1839.here hx rfl (D d8_274) rfl rfl (XS.iloadN X1839.here hx rfl (D d8_275) rfl (own_ldA X1839 hx hZ e1839 x1828 (j := (1 : Int32)) ⟨(by decide), (by decide)⟩ (v := (.ref Q)) rfl rfl rfl (D d8_276) (XS.iload X1839.here hx rfl (D d8_277) rfl (own_ldD X1839 hx hZ e1839 x1830 (j := (0 : Int32)) ⟨(by decide), (by decide)⟩ (v := (.double (0 : UInt64))) rfl rfl rfl (D d8_279) ?_))))))))
      show own_S p e below T1839 (mkF m 280 (own_loc47 a0 b1492 b1538 U) [(.double (0 : UInt64)), (.double U), (.double (4607182418800017408 : UInt64)), .int 0, (.ref P)]) _
      refine XS.dmulS X1839.here hx rfl (D d8_280) rfl (own_nmul hU own_w0) rfl (XS.dsubS X1839.here hx rfl (D d8_281) rfl (own_nsub own_w1 (own_nmul hU own_w0)) (own_sub0 own_w1 hU) (st1844 _ (XS.aloadN X1844.here hx rfl (D d8_283) rfl rfl (XS.iload X1844.here hx rfl (D d8_284) rfl (own_ldA X1844 hx hZ e1844 x1848 (j := (0 : Int32)) ⟨(by decide), (by decide)⟩ (v := (.ref Ra)) rfl rfl rfl (D d8_286) (XS.iload X1844.here hx rfl (D d8_287) rfl (Jvm.Free.XT.dup2 X1844.here hx rfl (D d8_289) rfl rfl rfl (own_ldD X1844 hx hZ e1844 x1846 (j := (0 : Int32)) ⟨(by decide), (by decide)⟩ (v := (.double r0)) rfl rfl rfl (D d8_290) (XS.dload X1844.here hx rfl (D d8_291) rfl ?_)))))))))
      refine XS.aloadN X1844.here hx rfl (D d8_293) rfl rfl (XS.iloadN X1844.here hx rfl (D d8_294) rfl (own_ldA X1844 hx hZ e1844 x1848 (j := (1 : Int32)) ⟨(by decide), (by decide)⟩ (v := (.ref Rb)) rfl rfl rfl (D d8_295) (XS.iload X1844.here hx rfl (D d8_296) rfl (own_ldD X1844 hx hZ e1844 x1850 (j := (0 : Int32)) ⟨(by decide), (by decide)⟩ (v := (.double n01)) rfl rfl rfl (D d8_298) ?_))))
      show own_S p e below T1844 (mkF m 299 (own_loc47 a0 b1492 b1538 U) [(.double n01), (.double U), (.double r0), .int 0, (.ref Ra)]) _
      refine XS.dmulS X1844.here hx rfl (D d8_299) rfl (own_nmul hU wn01) rfl (XS.dsubS X1844.here hx rfl (D d8_300) rfl (own_nsub wr0 (own_nmul hU wn01)) (he0 hc1837) (st1856 _ (XS.iinc X1856.here hx rfl (D d8_302) rfl (l' := (own_loc48 a0 b1492 b1538 U)) rfl (XS.goto X1856.here hx rfl (pc0 := 305) (pc' := 255) rfl (D d8_305) (by decide) (by decide) (XS.iload X1856.here hx rfl (D d8_255) rfl (XS.aloadN X1856.here hx rfl (D d8_257) rfl rfl (st1864 _ (XS.icmpNo X1864.here hx rfl (D d8_261) rfl (tlt (by decide : (1 : Int32) < (2 : Int32))).2.1 (XS.aloadN X1864.here hx rfl (D d8_264) rfl rfl ?_)))))))))
      refine XS.iload X1864.here hx rfl (D d8_265) rfl (own_ldA X1864 hx hZ e1864 x1858 (j := (0 : Int32)) ⟨(by decide), (by decide)⟩ (v := (.ref P)) rfl rfl rfl (D d8_267) (XS.iload X1864.here hx rfl (D d8_268) rfl (Jvm.Free.XT.dup2 X1864.here hx rfl (D d8_270) rfl rfl rfl ?_)))
      show own_S p e below T1864 (mkF m 271 (own_loc48 a0 b1492 b1538 U) [.int 1, (.ref P), .int 1, (.ref P)]) _
      refine own_ldD X1864 hx hZ e1864 x1862 (j := (1 : Int32)) ⟨(by decide), (by decide)⟩ (v := (.double U)) rfl rfl rfl (D d8_271) (XS.dload X1864.here hx rfl (D d8_272) rfl (XS.aloadN X1864.here hx rfl (D d8_274) rfl rfl (XS.iloadN X1864.here hx rfl (D d8_275) rfl (own_ldA X1864 hx hZ e1864 x1858 (j := (1 : Int32)) ⟨(by decide), (by decide)⟩ (v := (.ref Q)) rfl rfl rfl (D d8_276) (XS.iload X1864.here hx rfl (D d8_277) rfl (own_ldD X1864 hx hZ e1864 x1860 (j := (1 : Int32)) ⟨(by decide), (by decide)⟩ (v := (.double (4607182418800017408 : UInt64))) rfl rfl rfl (D d8_279) (XS.dmulS X1864.here hx rfl (D d8_280) rfl (own_nmul hU own_w1) rfl (XS.dsubS X1864.here hx rfl (D d8_281) rfl (own_nsub hU (own_nmul hU own_w1)) (own_subs hU) (st1869 _ ?_)))))))))
      refine XS.aloadN X1869.here hx rfl (D d8_283) rfl rfl (XS.iload X1869.here hx rfl (D d8_284) rfl (own_ldA X1869 hx hZ e1869 x1872 (j := (0 : Int32)) ⟨(by decide), (by decide)⟩ (v := (.ref Ra)) rfl rfl rfl (D d8_286) (XS.iload X1869.here hx rfl (D d8_287) rfl (Jvm.Free.XT.dup2 X1869.here hx rfl (D d8_289) rfl rfl rfl ?_))))
      show own_S p e below T1869 (mkF m 290 (own_loc48 a0 b1492 b1538 U) [.int 1, (.ref Ra), .int 1, (.ref Ra)]) _
      refine own_ldD X1869 hx hZ e1869 x1875 (j := (1 : Int32)) ⟨(by decide), (by decide)⟩ (v := (.double r1)) rfl rfl rfl (D d8_290) (XS.dload X1869.here hx rfl (D d8_291) rfl (XS.aloadN X1869.here hx rfl (D d8_293) rfl rfl (XS.iloadN X1869.here hx rfl (D d8_294) rfl (own_ldA X1869 hx hZ e1869 x1872 (j := (1 : Int32)) ⟨(by decide), (by decide)⟩ (v := (.ref Rb)) rfl rfl rfl (D d8_295) (XS.iload X1869.here hx rfl (D d8_296) rfl (own_ldD X1869 hx hZ e1869 x1874 (j := (1 : Int32)) ⟨(by decide), (by decide)⟩ (v := (.double n11)) rfl rfl rfl (D d8_298) (XS.dmulS X1869.here hx rfl (D d8_299) rfl (own_nmul hU wn11) rfl (XS.dsubS X1869.here hx rfl (D d8_300) rfl (own_nsub wr1 (own_nmul hU wn11)) (he1 hc1837) (st1881 _ ?_)))))))))
      refine XS.iinc X1881.here hx rfl (D d8_302) rfl (l' := (own_loc49 a0 b1492 b1538 U)) rfl (XS.goto X1881.here hx rfl (pc0 := 305) (pc' := 255) rfl (D d8_305) (by decide) (by decide) (XS.iload X1881.here hx rfl (D d8_255) rfl (XS.aloadN X1881.here hx rfl (D d8_257) rfl rfl (st1889 _ ?_))))
      show own_S p e below T1889 (mkF m 261 (own_loc49 a0 b1492 b1538 U) [.int 2, .int 2]) _
      refine XS.icmpYes X1889.here hx rfl (pc0 := 261) (pc' := 308) rfl (D d8_261) rfl (flt (by decide : ¬ ((2 : Int32) < (2 : Int32)))).2.1 (by decide) (by decide) ?_
      exact kt
  obtain ⟨T1898, X1898, e1898, st1898⟩ := own_gf X1836 hx hZ hown (own_wk hw 81 rfl) e1836 x1892 24 rfl rfl (g := (mkF m 225 (own_loc51 a0 b1492 b1538 U sl1890) [(.ref a0), .int 1])) rfl rfl (D d8_225)
  obtain ⟨T1901, X1901, e1901, st1901⟩ := own_gf X1898 hx hZ hown (own_wk hw 81 rfl) e1898 x1892 24 rfl rfl (g := (mkF m 225 (own_loc53 a0 b1492 b1538 sl1890) [(.ref a0), .int 2])) rfl rfl (D d8_225)
  obtain ⟨T1902, X1902, e1902, st1902⟩ := own_gf X1901 hx hZ hown (own_wk hw 81 rfl) e1901 x1892 24 rfl rfl (g := (mkF m 76 (own_loc54 a0 b1492 b1538 sl1890) [(.ref a0), .int 2])) rfl rfl (D d8_76)
  obtain ⟨T1903, X1903, e1903, st1903⟩ := own_gf X1902 hx hZ hown (own_wk hw 81 rfl) e1902 x1892 24 rfl rfl (g := (mkF m 321 (own_loc54 a0 b1492 b1538 sl1890) [(.ref a0)])) rfl rfl (D d8_321)
  obtain ⟨T1904, X1904, e1904, st1904⟩ := own_gf X1903 hx hZ hown (own_wk hw 39 rfl) e1903 x1892 13 rfl rfl (g := (mkF m 325 (own_loc54 a0 b1492 b1538 sl1890) [(.ref a0), .int 2])) rfl rfl (D d8_325)
  obtain ⟨cl1905, Ar1905, -, S1905, M1905, -, -⟩ := id (V_ui.keep kp1836 (ninS (Ne.symm ne_a0_ui) nin0))
  have ld1905 := X1904.arraylength hx (by rw [e1904]; exact Ar1905.1) (State.isArrayOf_alike hZ.alike Ar1905.2.1) (g := (mkF m 328 (own_loc54 a0 b1492 b1538 sl1890) [(.ref ui), .int 2])) rfl rfl (D d8_328)
  have cp1906 : ∀ target, own_S p e below T1904 (mkF m 329 (own_loc54 a0 b1492 b1538 sl1890) [.int 0, .int 2]) target → own_S p e below s₁ (mkF m 0 #[.val (.ref a0), .unset, .unset, .unset, .unset, .unset, .unset, .unset, .unset, .unset, .unset] []) target := by
    intro target kt
    show own_S p e below s₁ (mkF m 0 #[.val (.ref a0), .unset, .unset, .unset, .unset, .unset, .unset, .unset, .unset, .unset, .unset] []) _
    refine cp1754 _ (st1755 _ (X1755.ldc2DoubleC hx hown (mvT hZ (own_wk hw 116 rfl)) (g := (mkF m 140 (own_loc43 a0 b1492 b1538) [(.double ((4607182418800017408 : UInt64) &&& (9223372036854775807 : UInt64)))])) rfl (D d8_140) _ (XS.dcmpS X1755.here hx rfl (D d8_143) rfl rfl (XS.ifYes X1755.here hx rfl (pc0 := 144) (pc' := 158) rfl (D d8_144) rfl ((if0 _ _).trans (tlt (show (0 : Int32) < (cmpValue (FP.dcmp ((4607182418800017408 : UInt64) &&& (9223372036854775807 : UInt64)) (4472406533629990549 : UInt64)) .g) from by decide +kernel)).2.2.1) (by decide) (by decide) (XS.aloadN X1755.here hx rfl (D d8_158) rfl rfl (XS.iloadN X1755.here hx rfl (D d8_159) rfl (XS.iload X1755.here hx rfl (D d8_160) rfl (st1756 _ (XS.aloadN X1756.here hx rfl (D d8_165) rfl rfl ?_)))))))))
    refine XS.iloadN X1756.here hx rfl (D d8_166) rfl (XS.iload X1756.here hx rfl (D d8_167) rfl (st1772 _ (XS.aloadN X1772.here hx rfl (D d8_172) rfl rfl (XS.iloadN X1772.here hx rfl (D d8_173) rfl (own_ldA X1772 hx hZ rfl x1786 (j := (1 : Int32)) ⟨(by decide), (by decide)⟩ (v := (.ref Q)) rfl rfl rfl (D d8_174) (XS.iloadN X1772.here hx rfl (D d8_175) rfl (own_ldD X1772 hx hZ rfl x1778 (j := (1 : Int32)) ⟨(by decide), (by decide)⟩ (v := (.double (4607182418800017408 : UInt64))) rfl rfl rfl (D d8_176) (XS.dstore X1772.here hx rfl (D d8_177) rfl (l' := (own_loc42 a0 b1492 b1538)) rfl ?_))))))))
    show own_S p e below T1772 (mkF m 179 (own_loc42 a0 b1492 b1538) []) _
    refine XS.iconst X1772.here hx rfl (D d8_179) (XS.istore X1772.here hx rfl (D d8_180) rfl (l' := (own_loc44 a0 b1492 b1538)) rfl (XS.iload X1772.here hx rfl (D d8_182) rfl (XS.aloadN X1772.here hx rfl (D d8_184) rfl rfl (st1790 _ (XS.icmpNo X1790.here hx rfl (D d8_188) rfl (tlt (by decide : (0 : Int32) < (2 : Int32))).2.1 (XS.aloadN X1790.here hx rfl (D d8_191) rfl rfl (XS.iloadN X1790.here hx rfl (D d8_192) rfl (own_ldA X1790 hx hZ e1790 x1786 (j := (1 : Int32)) ⟨(by decide), (by decide)⟩ (v := (.ref Q)) rfl rfl rfl (D d8_193) (XS.iload X1790.here hx rfl (D d8_194) rfl ?_)))))))))
    refine Jvm.Free.XT.dup2 X1790.here hx rfl (D d8_196) rfl rfl rfl (own_ldD X1790 hx hZ e1790 x1778 (j := (0 : Int32)) ⟨(by decide), (by decide)⟩ (v := (.double (0 : UInt64))) rfl rfl rfl (D d8_197) (XS.dload X1790.here hx rfl (D d8_198) rfl (XS.ddivS X1790.here hx rfl (D d8_200) rfl (own_ndiv own_w0) (own_div1 own_w0) ?_)))
    show own_S p e below T1790 (mkF m 201 (own_loc44 a0 b1492 b1538) [(.double (0 : UInt64)), .int 0, (.ref Q)]) _
    refine st1793 _ (XS.aloadN X1793.here hx rfl (D d8_202) rfl rfl (XS.iloadN X1793.here hx rfl (D d8_203) rfl (own_ldA X1793 hx hZ e1793 x1799 (j := (1 : Int32)) ⟨(by decide), (by decide)⟩ (v := (.ref Rb)) rfl rfl rfl (D d8_204) (XS.iload X1793.here hx rfl (D d8_205) rfl (Jvm.Free.XT.dup2 X1793.here hx rfl (D d8_207) rfl rfl rfl (own_ldD X1793 hx hZ e1793 x1795 (j := (0 : Int32)) ⟨(by decide), (by decide)⟩ (v := (.double n01)) rfl rfl rfl (D d8_208) (XS.dload X1793.here hx rfl (D d8_209) rfl (XS.ddivS X1793.here hx rfl (D d8_211) rfl (own_ndiv wn01) (own_div1 wn01) (st1803 _ ?_)))))))))
    refine XS.iinc X1803.here hx rfl (D d8_213) rfl (l' := (own_loc45 a0 b1492 b1538)) rfl (XS.goto X1803.here hx rfl (pc0 := 216) (pc' := 182) rfl (D d8_216) (by decide) (by decide) (XS.iload X1803.here hx rfl (D d8_182) rfl (XS.aloadN X1803.here hx rfl (D d8_184) rfl rfl (st1811 _ ?_))))
    show own_S p e below T1811 (mkF m 188 (own_loc45 a0 b1492 b1538) [.int 2, .int 1]) _
    refine XS.icmpNo X1811.here hx rfl (D d8_188) rfl (tlt (by decide : (1 : Int32) < (2 : Int32))).2.1 (XS.aloadN X1811.here hx rfl (D d8_191) rfl rfl (XS.iloadN X1811.here hx rfl (D d8_192) rfl (own_ldA X1811 hx hZ e1811 x1807 (j := (1 : Int32)) ⟨(by decide), (by decide)⟩ (v := (.ref Q)) rfl rfl rfl (D d8_193) (XS.iload X1811.here hx rfl (D d8_194) rfl (Jvm.Free.XT.dup2 X1811.here hx rfl (D d8_196) rfl rfl rfl (own_ldD X1811 hx hZ e1811 x1809 (j := (1 : Int32)) ⟨(by decide), (by decide)⟩ (v := (.double (4607182418800017408 : UInt64))) rfl rfl rfl (D d8_197) (XS.dload X1811.here hx rfl (D d8_198) rfl (XS.ddivS X1811.here hx rfl (D d8_200) rfl (own_ndiv own_w1) (own_div1 own_w1) (st1814 _ ?_)))))))))
    refine XS.aloadN X1814.here hx rfl (D d8_202) rfl rfl (XS.iloadN X1814.here hx rfl (D d8_203) rfl (own_ldA X1814 hx hZ e1814 x1819 (j := (1 : Int32)) ⟨(by decide), (by decide)⟩ (v := (.ref Rb)) rfl rfl rfl (D d8_204) (XS.iload X1814.here hx rfl (D d8_205) rfl (Jvm.Free.XT.dup2 X1814.here hx rfl (D d8_207) rfl rfl rfl ?_))))
    show own_S p e below T1814 (mkF m 208 (own_loc45 a0 b1492 b1538) [.int 1, (.ref Rb), .int 1, (.ref Rb)]) _
    refine own_ldD X1814 hx hZ e1814 x1820 (j := (1 : Int32)) ⟨(by decide), (by decide)⟩ (v := (.double n11)) rfl rfl rfl (D d8_208) (XS.dload X1814.here hx rfl (D d8_209) rfl (XS.ddivS X1814.here hx rfl (D d8_211) rfl (own_ndiv wn11) (own_div1 wn11) (st1824 _ (XS.iinc X1824.here hx rfl (D d8_213) rfl (l' := (own_loc42 a0 b1492 b1538)) rfl (XS.goto X1824.here hx rfl (pc0 := 216) (pc' := 182) rfl (D d8_216) (by decide) (by decide) (XS.iload X1824.here hx rfl (D d8_182) rfl (XS.aloadN X1824.here hx rfl (D d8_184) rfl rfl (st1832 _ (XS.icmpYes X1832.here hx rfl (pc0 := 188) (pc' := 219) rfl (D d8_188) rfl (flt (by decide : ¬ ((2 : Int32) < (2 : Int32)))).2.1 (by decide) (by decide) ?_)))))))))
    refine XS.iconst X1832.here hx rfl (D d8_219) (XS.istore X1832.here hx rfl (D d8_220) rfl (l' := (own_loc44 a0 b1492 b1538)) rfl (XS.iload X1832.here hx rfl (D d8_222) rfl (XS.aloadN X1832.here hx rfl (D d8_224) rfl rfl (st1833 _ ?_))))
    show own_S p e below T1833 (mkF m 228 (own_loc44 a0 b1492 b1538) [.int 2, .int 0]) _
    refine XS.icmpNo X1833.here hx rfl (D d8_228) rfl (tlt (by decide : (0 : Int32) < (2 : Int32))).2.1 (XS.aloadN X1833.here hx rfl (D d8_231) rfl rfl (XS.iload X1833.here hx rfl (D d8_232) rfl (own_ldA X1833 hx hZ e1833 x1828 (j := (0 : Int32)) ⟨(by decide), (by decide)⟩ (v := (.ref P)) rfl rfl rfl (D d8_234) (XS.iloadN X1833.here hx rfl (D d8_235) rfl (own_ldD X1833 hx hZ e1833 x1826 (j := (1 : Int32)) ⟨(by decide), (by decide)⟩ (v := (.double U)) rfl rfl rfl (D d8_236) (XS.dstore X1833.here hx rfl (D d8_237) rfl (l' := (own_loc46 a0 b1492 b1538 U)) rfl (XS.iload X1833.here hx rfl (D d8_239) rfl (XS.iloadN X1833.here hx rfl (D d8_241) rfl (XS.icmpNo X1833.here hx rfl (D d8_242) rfl (feq (by decide : ¬ ((0 : Int32) = (1 : Int32)))).1 ?_)))))))))
    refine XS.dload X1833.here hx rfl (D d8_245) rfl (XS.dconst0 X1833.here hx rfl (D d8_247) rfl (XS.dcmpS X1833.here hx rfl (D d8_248) rfl rfl (st1836 _ ?_)))
    show own_S p e below T1836 (mkF m 308 (own_loc50 a0 b1492 b1538 U sl1890) []) _
    refine XS.iinc X1836.here hx rfl (D d8_308) rfl (l' := (own_loc51 a0 b1492 b1538 U sl1890)) rfl (XS.goto X1836.here hx rfl (pc0 := 311) (pc' := 222) rfl (D d8_311) (by decide) (by decide) (XS.iload X1836.here hx rfl (D d8_222) rfl (XS.aloadN X1836.here hx rfl (D d8_224) rfl rfl (st1898 _ (XS.icmpNo X1898.here hx rfl (D d8_228) rfl (tlt (by decide : (1 : Int32) < (2 : Int32))).2.1 (XS.aloadN X1898.here hx rfl (D d8_231) rfl rfl (XS.iload X1898.here hx rfl (D d8_232) rfl (own_ldA X1898 hx hZ e1898 x1894 (j := (1 : Int32)) ⟨(by decide), (by decide)⟩ (v := (.ref Q)) rfl rfl rfl (D d8_234) (XS.iloadN X1898.here hx rfl (D d8_235) rfl ?_)))))))))
    refine own_ldD X1898 hx hZ e1898 x1896 (j := (1 : Int32)) ⟨(by decide), (by decide)⟩ (v := (.double (4607182418800017408 : UInt64))) rfl rfl rfl (D d8_236) (XS.dstore X1898.here hx rfl (D d8_237) rfl (l' := (own_loc52 a0 b1492 b1538 sl1890)) rfl (XS.iload X1898.here hx rfl (D d8_239) rfl (XS.iloadN X1898.here hx rfl (D d8_241) rfl (XS.icmpYes X1898.here hx rfl (pc0 := 242) (pc' := 308) rfl (D d8_242) rfl (teq (by decide : (1 : Int32) = (1 : Int32))).1 (by decide) (by decide) ?_))))
    show own_S p e below T1898 (mkF m 308 (own_loc52 a0 b1492 b1538 sl1890) []) _
    refine XS.iinc X1898.here hx rfl (D d8_308) rfl (l' := (own_loc53 a0 b1492 b1538 sl1890)) rfl (XS.goto X1898.here hx rfl (pc0 := 311) (pc' := 222) rfl (D d8_311) (by decide) (by decide) (XS.iload X1898.here hx rfl (D d8_222) rfl (XS.aloadN X1898.here hx rfl (D d8_224) rfl rfl (st1901 _ (XS.icmpYes X1901.here hx rfl (pc0 := 228) (pc' := 314) rfl (D d8_228) rfl (flt (by decide : ¬ ((2 : Int32) < (2 : Int32)))).2.1 (by decide) (by decide) (XS.iinc X1901.here hx rfl (D d8_314) rfl (l' := (own_loc54 a0 b1492 b1538 sl1890)) rfl (XS.goto X1901.here hx rfl (pc0 := 317) (pc' := 74) rfl (D d8_317) (by decide) (by decide) (XS.iloadN X1901.here hx rfl (D d8_74) rfl (XS.aloadN X1901.here hx rfl (D d8_75) rfl rfl ?_)))))))))
    refine st1902 _ (XS.icmpYes X1902.here hx rfl (pc0 := 79) (pc' := 320) rfl (D d8_79) rfl (flt (by decide : ¬ ((2 : Int32) < (2 : Int32)))).2.1 (by decide) (by decide) (XS.aloadN X1902.here hx rfl (D d8_320) rfl rfl (st1903 _ ?_)))
    show own_S p e below T1903 (mkF m 324 (own_loc54 a0 b1492 b1538 sl1890) [.int 2]) _
    refine XS.aloadN X1903.here hx rfl (D d8_324) rfl rfl (st1904 _ (ld1905 _ ?_))
    rw [len_of S1905 M1905]
    exact kt
  obtain ⟨_, _, ⟨T1907, L1907, k1907, n1907⟩, -, X1907, ⟨Lc1907, hQ1907, l1907, y1907, z1907⟩, st1907⟩ := Jvm.LawKit.callS X1904 hx (y := (⟨"java/lang/Math", "max", "(II)I"⟩ : MethodName)) hown (mvT hZ (own_wk hw 120 rfl)) (mvT hZ (own_wk hw 121 rfl)) (mvT hZ (own_wk hw 114 rfl)) (mvT hZ (own_wk hw 122 rfl)) (by decide) (backOf (W := 0) (rm13 l Z ag hw [] (2 : Int32) (0 : Int32)  h1836 n0 sz1836 ) hZ (own_wk hw 122 rfl) (own_wk hw 114 rfl) (by decide) (by decide)) (g := (mkF m 329 (own_loc54 a0 b1492 b1538 sl1890) [.int 0, .int 2])) rfl (by rw [hml]; rfl) (argsL := [(.int (2 : Int32)), (.int (0 : Int32))]) (rest := []) (lenOf pd_9 rfl) rfl (by show 2 * 0 + _ ≤ _; exact Nat.le_of_eq rfl) (D d8_329) (fun _ _ => ⟨rfl, e1904, (by decide : 6 + 0 ≤ _), (by decide : 12 + 0 ≤ _)⟩)
  dsimp only [Pt.U, Pt.locs, Pt.cells, Pt.slots] at X1907 l1907 y1907 z1907 st1907 hQ1907
  subst l1907 y1907 z1907
  obtain ⟨rfl, N1907q, e1907⟩ := hQ1907
  have N1907 := Fr.app N1836 N1907q
  obtain ⟨T1908, h1908, k1908, kc1908, X1908, e1908, E1908, V1908, O1908, EA1908, hel1908, st1908⟩ := gridM X1907 hx hZ hown (ty := .double) (C := "[D") (ad := "[[D") (by decide) (by decide) (own_wk hw 37 rfl) (own_wk hw 38 rfl) (own_wk hw 9 rfl) e1907 (g := (mkF m 336 (own_loc54 a0 b1492 b1538 sl1890) [.int 2, .int 2, (.ref a0)])) rfl (D d8_336) rfl (by decide) (by decide) (xs := [h1836.size + 1 + 0, h1836.size + 1 + 1]) (N := 2) rfl rfl (cap := 2) (by decide) (by decide) (by decide) rfl rfl (by decide) (by decide)
  obtain ⟨Ae1908_0, Ee1908_0⟩ := hel1908 0 _ rfl
  obtain ⟨Ae1908_1, Ee1908_1⟩ := hel1908 1 _ rfl
  obtain ⟨b1908_0, g_b1908_0⟩ : ∃ z, z = h1836.size + 1 + 0 := ⟨_, rfl⟩
  have gb_b1908_0 : h1836.size ≤ b1908_0 := by rw [g_b1908_0]; exact Nat.le_trans (Nat.le_succ _) (Nat.le_add_right _ _)
  have ne1909 : a0 ≠ b1908_0 := Nat.ne_of_lt (Nat.lt_of_lt_of_le (x1892.get 0 rfl rfl).lt gb_b1908_0)
  have ne1910 : b1538 ≠ b1908_0 := Nat.ne_of_lt (Nat.lt_of_lt_of_le x1895.lt gb_b1908_0)
  have ne1911 : Ra ≠ b1908_0 := Nat.ne_of_lt (Nat.lt_of_lt_of_le x1893.lt gb_b1908_0)
  have ne1912 : Rb ≠ b1908_0 := Nat.ne_of_lt (Nat.lt_of_lt_of_le x1897.lt gb_b1908_0)
  have ge_b1908_0 : n0 ≤ b1908_0 := Nat.le_trans sz1836 gb_b1908_0
  have gq_b1908_0 : h1836.size ≤ b1908_0 := Nat.le_trans (Keep.refl h1836 []).1 gb_b1908_0
  have gs_b1908_0 : h0.size ≤ b1908_0 := Nat.le_trans kp1836.1 gb_b1908_0
  obtain ⟨b1908_1, g_b1908_1⟩ : ∃ z, z = h1836.size + 1 + 1 := ⟨_, rfl⟩
  have gb_b1908_1 : h1836.size ≤ b1908_1 := by rw [g_b1908_1]; exact Nat.le_trans (Nat.le_succ _) (Nat.le_add_right _ _)
  have ne1913 : a0 ≠ b1908_1 := Nat.ne_of_lt (Nat.lt_of_lt_of_le (x1892.get 0 rfl rfl).lt gb_b1908_1)
  have ne1914 : b1538 ≠ b1908_1 := Nat.ne_of_lt (Nat.lt_of_lt_of_le x1895.lt gb_b1908_1)
  have ne1915 : Ra ≠ b1908_1 := Nat.ne_of_lt (Nat.lt_of_lt_of_le x1893.lt gb_b1908_1)
  have ne1916 : Rb ≠ b1908_1 := Nat.ne_of_lt (Nat.lt_of_lt_of_le x1897.lt gb_b1908_1)
  have ge_b1908_1 : n0 ≤ b1908_1 := Nat.le_trans sz1836 gb_b1908_1
  have gq_b1908_1 : h1836.size ≤ b1908_1 := Nat.le_trans (Keep.refl h1836 []).1 gb_b1908_1
  have gs_b1908_1 : h0.size ≤ b1908_1 := Nat.le_trans kp1836.1 gb_b1908_1
  have ne1917 : b1908_0 ≠ b1908_1 := by omega
  obtain ⟨b1908, g1908⟩ : ∃ z, z = h1836.size := ⟨_, rfl⟩
  have gq_b1908 : h1836.size ≤ b1908 := Nat.le_trans (Keep.refl h1836 []).1 (Nat.le_of_eq g1908.symm)
  have ne1918 : a0 ≠ b1908 := Nat.ne_of_lt (Nat.lt_of_lt_of_le (x1892.get 0 rfl rfl).lt (Nat.le_of_eq g1908.symm))
  have ne1919 : b1538 ≠ b1908 := Nat.ne_of_lt (Nat.lt_of_lt_of_le x1895.lt (Nat.le_of_eq g1908.symm))
  have ne1920 : Ra ≠ b1908 := Nat.ne_of_lt (Nat.lt_of_lt_of_le x1893.lt (Nat.le_of_eq g1908.symm))
  have ne1921 : Rb ≠ b1908 := Nat.ne_of_lt (Nat.lt_of_lt_of_le x1897.lt (Nat.le_of_eq g1908.symm))
  have ge_b1908 : n0 ≤ b1908 := Nat.le_trans sz1836 (Nat.le_of_eq g1908.symm)
  have gs_b1908 : h0.size ≤ b1908 := Nat.le_trans kp1836.1 (Nat.le_of_eq g1908.symm)
  have ne1922 : b1908 ≠ b1908_0 := by omega
  have ne1923 : b1908 ≠ b1908_1 := by omega
  rw [← g_b1908_1, ← g_b1908_0, ← g1908] at V1908
  rw [← g1908] at EA1908 st1908
  rw [← g_b1908_0] at Ae1908_0 Ee1908_0
  rw [← g_b1908_1] at Ae1908_1 Ee1908_1
  have kq1924 := (Keep.refl h1836 []).ext E1908
  have x1925 := x1893.ext E1908
  have x1926 := x1895.ext E1908
  have x1927 := x1897.ext E1908
  have kp1928 : Keep h0 h1908 [a0] := kp1836.ext E1908
  have V1908 : Arv Z h1908 b1908 k1908 (.array .double) (2 : Int32) [(.ref b1908_0), (.ref b1908_1)] .null := V1908
  have Ve1908_0 : Arv Z h1908 b1908_0 kc1908 .double (2 : Int32) [(.double (0 : UInt64)), (.double (0 : UInt64))] (.double (0 : UInt64)) := (Arv.new Ae1908_0 (by decide)).pad (pad_rep [] (.double (0 : UInt64)) 2)
  have Ve1908_1 : Arv Z h1908 b1908_1 kc1908 .double (2 : Int32) [(.double (0 : UInt64)), (.double (0 : UInt64))] (.double (0 : UInt64)) := (Arv.new Ae1908_1 (by decide)).pad (pad_rep [] (.double (0 : UInt64)) 2)
  obtain ⟨T1929, h1929, X1929, e1929, W1929, st1929⟩ := putF X1908 hx hZ hown (host := "") (Or.inl (own_wk hw 39 rfl)) Via.refl e1908 ((x1892.keep kq1924 nin0).get 13 rfl rfl : Fld Z h1908 a0 own_K "inverse" "[[D" (.ref ui)) (x1891.keep kq1924) (Or.inl (own_wk hw 40 rfl)) (own_wk hw 1 rfl) (ty := (.array (.array .double))) (by decide) rfl rfl (g := (mkF m 340 (own_loc54 a0 b1492 b1538 sl1890) [(.ref b1908), (.ref a0)])) rfl rfl (D d8_340)
  have Ob1929 := (x1892.keep kq1924 nin0).put (own_layw hw) 13 rfl W1929
  have x1930 := (x1891.keep kq1924).wr W1929
  have x1931 := x1925.other W1929 (Ne.symm ne1619)
  have x1932 := x1926.other W1929 (Ne.symm ne1548)
  have x1933 := x1927.other W1929 (Ne.symm ne1620)
  have x1934 := V1908.other W1929 (Ne.symm ne1918)
  have x1935 := EA1908.wr W1929
  have x1936 := Ve1908_0.other W1929 (Ne.symm ne1909)
  have x1937 := Ee1908_0.wr W1929
  have x1938 := Ve1908_1.other W1929 (Ne.symm ne1913)
  have x1939 := Ee1908_1.wr W1929
  have kp1940 : Keep h0 h1929 [a0] := kp1928.wr W1929 (Or.inl (List.mem_of_getElem? (i := 0) rfl))
  have N1929 := Fr.snoc X1929 N1907 ge_a0
  obtain ⟨T1941, X1941, e1941, st1941⟩ := own_gf X1929 hx hZ hown (own_wk hw 81 rfl) e1929 Ob1929 24 rfl rfl (g := (mkF m 349 (own_loc55 a0 b1492 b1538 sl1890) [(.ref a0), .int 0])) rfl rfl (D d8_349)
  obtain ⟨T1942, X1942, e1942, st1942⟩ := own_gf X1941 hx hZ hown (own_wk hw 81 rfl) e1941 Ob1929 24 rfl rfl (g := (mkF m 361 (own_loc56 a0 b1492 b1538 sl1890) [(.ref a0), .int 0])) rfl rfl (D d8_361)
  obtain ⟨T1943, X1943, e1943, st1943⟩ := own_gf X1942 hx hZ hown (own_wk hw 39 rfl) e1942 Ob1929 13 rfl rfl (g := (mkF m 368 (own_loc56 a0 b1492 b1538 sl1890) [(.ref a0)])) rfl rfl (D d8_368)
  obtain ⟨T1947, h1947, X1947, e1947, W1947, V1947, st1947⟩ := own_stD X1943 hx hZ e1943 x1936 (j := (0 : Int32)) ⟨(by decide), (by decide)⟩ 0 rfl (Nat.le_of_ble_eq_true rfl) (vs' := [(.double n00), (.double (0 : UInt64))]) rfl (g := (mkF m 383 (own_loc56 a0 b1492 b1538 sl1890) [(.double n00), .int 0, (.ref b1908_0)])) rfl rfl (D d8_383)
  have x1948 := x1930.wr W1947
  have x1949 := x1931.other W1947 ne1911
  have x1950 := x1932.other W1947 ne1910
  have x1951 := x1933.other W1947 ne1912
  have x1952 := x1934.other W1947 ne1922
  have x1953 := x1935.wr W1947
  have x1954 := x1937.wr W1947
  have x1955 := x1938.other W1947 (Ne.symm ne1917)
  have x1956 := x1939.wr W1947
  have x1957 := Ob1929.other W1947 ne1909
  have kp1958 : Keep h0 h1947 [a0] := kp1940.wr W1947 (Or.inr gs_b1908_0)
  have N1947 := Fr.snoc X1947 N1929 ge_b1908_0
  obtain ⟨T1959, X1959, e1959, st1959⟩ := own_gf X1947 hx hZ hown (own_wk hw 81 rfl) e1947 x1957 24 rfl rfl (g := (mkF m 361 (own_loc57 a0 b1492 b1538 sl1890) [(.ref a0), .int 1])) rfl rfl (D d8_361)
  obtain ⟨T1960, X1960, e1960, st1960⟩ := own_gf X1959 hx hZ hown (own_wk hw 39 rfl) e1959 x1957 13 rfl rfl (g := (mkF m 368 (own_loc57 a0 b1492 b1538 sl1890) [(.ref a0)])) rfl rfl (D d8_368)
  obtain ⟨T1964, h1964, X1964, e1964, W1964, V1964, st1964⟩ := own_stD X1960 hx hZ e1960 V1947 (j := (1 : Int32)) ⟨(by decide), (by decide)⟩ 1 rfl (Nat.le_of_ble_eq_true rfl) (vs' := [(.double n00), (.double n01)]) rfl (g := (mkF m 383 (own_loc57 a0 b1492 b1538 sl1890) [(.double n01), .int 1, (.ref b1908_0)])) rfl rfl (D d8_383)
  have x1965 := x1948.wr W1964
  have x1966 := x1949.other W1964 ne1911
  have x1967 := x1950.other W1964 ne1910
  have x1968 := x1951.other W1964 ne1912
  have x1969 := x1952.other W1964 ne1922
  have x1970 := x1953.wr W1964
  have x1971 := x1954.wr W1964
  have x1972 := x1955.other W1964 (Ne.symm ne1917)
  have x1973 := x1956.wr W1964
  have x1974 := x1957.other W1964 ne1909
  have kp1975 : Keep h0 h1964 [a0] := kp1958.wr W1964 (Or.inr gs_b1908_0)
  have N1964 := Fr.snoc X1964 N1947 ge_b1908_0
  obtain ⟨T1976, X1976, e1976, st1976⟩ := own_gf X1964 hx hZ hown (own_wk hw 81 rfl) e1964 x1974 24 rfl rfl (g := (mkF m 361 (own_loc58 a0 b1492 b1538 sl1890) [(.ref a0), .int 2])) rfl rfl (D d8_361)
  obtain ⟨T1977, X1977, e1977, st1977⟩ := own_gf X1976 hx hZ hown (own_wk hw 81 rfl) e1976 x1974 24 rfl rfl (g := (mkF m 349 (own_loc59 a0 b1492 b1538 sl1890) [(.ref a0), .int 1])) rfl rfl (D d8_349)
  obtain ⟨T1978, X1978, e1978, st1978⟩ := own_gf X1977 hx hZ hown (own_wk hw 81 rfl) e1977 x1974 24 rfl rfl (g := (mkF m 361 (own_loc60 a0 b1492 b1538 sl1890) [(.ref a0), .int 0])) rfl rfl (D d8_361)
  obtain ⟨T1979, X1979, e1979, st1979⟩ := own_gf X1978 hx hZ hown (own_wk hw 39 rfl) e1978 x1974 13 rfl rfl (g := (mkF m 368 (own_loc60 a0 b1492 b1538 sl1890) [(.ref a0)])) rfl rfl (D d8_368)
  obtain ⟨T1983, h1983, X1983, e1983, W1983, V1983, st1983⟩ := own_stD X1979 hx hZ e1979 x1972 (j := (0 : Int32)) ⟨(by decide), (by decide)⟩ 0 rfl (Nat.le_of_ble_eq_true rfl) (vs' := [(.double n10), (.double (0 : UInt64))]) rfl (g := (mkF m 383 (own_loc60 a0 b1492 b1538 sl1890) [(.double n10), .int 0, (.ref b1908_1)])) rfl rfl (D d8_383)
  have x1984 := x1965.wr W1983
  have x1985 := x1966.other W1983 ne1915
  have x1986 := x1967.other W1983 ne1914
  have x1987 := x1968.other W1983 ne1916
  have x1988 := x1969.other W1983 ne1923
  have x1989 := x1970.wr W1983
  have x1990 := x1971.wr W1983
  have x1991 := x1973.wr W1983
  have x1992 := x1974.other W1983 ne1913
  have x1993 := V1964.other W1983 ne1917
  have kp1994 : Keep h0 h1983 [a0] := kp1975.wr W1983 (Or.inr gs_b1908_1)
  have N1983 := Fr.snoc X1983 N1964 ge_b1908_1
  obtain ⟨T1995, X1995, e1995, st1995⟩ := own_gf X1983 hx hZ hown (own_wk hw 81 rfl) e1983 x1992 24 rfl rfl (g := (mkF m 361 (own_loc61 a0 b1492 b1538 sl1890) [(.ref a0), .int 1])) rfl rfl (D d8_361)
  obtain ⟨T1996, X1996, e1996, st1996⟩ := own_gf X1995 hx hZ hown (own_wk hw 39 rfl) e1995 x1992 13 rfl rfl (g := (mkF m 368 (own_loc61 a0 b1492 b1538 sl1890) [(.ref a0)])) rfl rfl (D d8_368)
  obtain ⟨T2000, h2000, X2000, e2000, W2000, V2000, st2000⟩ := own_stD X1996 hx hZ e1996 V1983 (j := (1 : Int32)) ⟨(by decide), (by decide)⟩ 1 rfl (Nat.le_of_ble_eq_true rfl) (vs' := [(.double n10), (.double n11)]) rfl (g := (mkF m 383 (own_loc61 a0 b1492 b1538 sl1890) [(.double n11), .int 1, (.ref b1908_1)])) rfl rfl (D d8_383)
  have x2001 := x1984.wr W2000
  have x2002 := x1985.other W2000 ne1915
  have x2003 := x1986.other W2000 ne1914
  have x2004 := x1987.other W2000 ne1916
  have x2005 := x1988.other W2000 ne1923
  have x2006 := x1989.wr W2000
  have x2007 := x1990.wr W2000
  have x2008 := x1991.wr W2000
  have x2009 := x1992.other W2000 ne1913
  have x2010 := x1993.other W2000 ne1917
  have kp2011 : Keep h0 h2000 [a0] := kp1994.wr W2000 (Or.inr gs_b1908_1)
  have N2000 := Fr.snoc X2000 N1983 ge_b1908_1
  obtain ⟨T2012, X2012, e2012, st2012⟩ := own_gf X2000 hx hZ hown (own_wk hw 81 rfl) e2000 x2009 24 rfl rfl (g := (mkF m 361 (own_loc59 a0 b1492 b1538 sl1890) [(.ref a0), .int 2])) rfl rfl (D d8_361)
  obtain ⟨T2013, X2013, e2013, st2013⟩ := own_gf X2012 hx hZ hown (own_wk hw 81 rfl) e2012 x2009 24 rfl rfl (g := (mkF m 349 (own_loc62 a0 b1492 b1538 sl1890) [(.ref a0), .int 2])) rfl rfl (D d8_349)
  obtain ⟨T2014, X2014, e2014, st2014⟩ := own_gf X2013 hx hZ hown (own_wk hw 27 rfl) e2013 x2009 8 rfl rfl (g := (mkF m 397 (own_loc62 a0 b1492 b1538 sl1890) [(.ref a0)])) rfl rfl (D d8_397)
  obtain ⟨T2015, X2015, e2015, st2015⟩ := own_gf X2014 hx hZ hown (own_wk hw 81 rfl) e2014 x2009 24 rfl rfl (g := (mkF m 401 (own_loc62 a0 b1492 b1538 sl1890) [(.ref a0), (.ref ub)])) rfl rfl (D d8_401)
  have cp2016 : ∀ target, own_S p e below T2015 (mkF m 404 (own_loc62 a0 b1492 b1538 sl1890) [.int 2, (.ref ub)]) target → own_S p e below s₁ (mkF m 0 #[.val (.ref a0), .unset, .unset, .unset, .unset, .unset, .unset, .unset, .unset, .unset, .unset] []) target := by
    intro target kt
    show own_S p e below s₁ (mkF m 0 #[.val (.ref a0), .unset, .unset, .unset, .unset, .unset, .unset, .unset, .unset, .unset, .unset] []) _
    refine cp1906 _ (st1907 _ ?_)
    show own_S p e below T1907 (mkF m 332 (own_loc54 a0 b1492 b1538 sl1890) [(.int (own_max (2 : Int32) (0 : Int32)))]) _
    rw [show (own_max (2 : Int32) (0 : Int32)) = (2 : Int32) from by decide]
    show own_S p e below T1907 (mkF m 332 (own_loc54 a0 b1492 b1538 sl1890) [.int 2]) _
    refine XS.istoreN X1907.here hx rfl (D d8_332) rfl (l' := (own_loc54 a0 b1492 b1538 sl1890)) rfl (XS.aloadN X1907.here hx rfl (D d8_333) rfl rfl (XS.iloadN X1907.here hx rfl (D d8_334) rfl (XS.iloadN X1907.here hx rfl (D d8_335) rfl (st1908 _ (st1929 _ (XS.iconst X1929.here hx rfl (D d8_343) (XS.istore X1929.here hx rfl (D d8_344) rfl (l' := (own_loc55 a0 b1492 b1538 sl1890)) rfl (XS.iload X1929.here hx rfl (D d8_346) rfl (XS.aloadN X1929.here hx rfl (D d8_348) rfl rfl ?_)))))))))
    refine st1941 _ (XS.icmpNo X1941.here hx rfl (D d8_352) rfl (tlt (by decide : (0 : Int32) < (2 : Int32))).2.1 (XS.iconst X1941.here hx rfl (D d8_355) (XS.istore X1941.here hx rfl (D d8_356) rfl (l' := (own_loc56 a0 b1492 b1538 sl1890)) rfl ?_)))
    show own_S p e below T1941 (mkF m 358 (own_loc56 a0 b1492 b1538 sl1890) []) _
    refine XS.iload X1941.here hx rfl (D d8_358) rfl (XS.aloadN X1941.here hx rfl (D d8_360) rfl rfl (st1942 _ (XS.icmpNo X1942.here hx rfl (D d8_364) rfl (tlt (by decide : (0 : Int32) < (2 : Int32))).2.1 (XS.aloadN X1942.here hx rfl (D d8_367) rfl rfl (st1943 _ (XS.iload X1943.here hx rfl (D d8_371) rfl (own_ldA X1943 hx hZ e1943 x1934 (j := (0 : Int32)) ⟨(by decide), (by decide)⟩ (v := (.ref b1908_0)) rfl rfl rfl (D d8_373) (XS.iload X1943.here hx rfl (D d8_374) rfl (XS.aloadN X1943.here hx rfl (D d8_376) rfl rfl ?_)))))))))
    refine XS.iload X1943.here hx rfl (D d8_377) rfl (own_ldA X1943 hx hZ e1943 x1932 (j := (0 : Int32)) ⟨(by decide), (by decide)⟩ (v := (.ref Ra)) rfl rfl rfl (D d8_379) (XS.iload X1943.here hx rfl (D d8_380) rfl (own_ldD X1943 hx hZ e1943 x1931 (j := (0 : Int32)) ⟨(by decide), (by decide)⟩ (v := (.double n00)) rfl rfl rfl (D d8_382) (st1947 _ ?_))))
    show own_S p e below T1947 (mkF m 384 (own_loc56 a0 b1492 b1538 sl1890) []) _
    refine XS.iinc X1947.here hx rfl (D d8_384) rfl (l' := (own_loc57 a0 b1492 b1538 sl1890)) rfl (XS.goto X1947.here hx rfl (pc0 := 387) (pc' := 358) rfl (D d8_387) (by decide) (by decide) (XS.iload X1947.here hx rfl (D d8_358) rfl (XS.aloadN X1947.here hx rfl (D d8_360) rfl rfl (st1959 _ (XS.icmpNo X1959.here hx rfl (D d8_364) rfl (tlt (by decide : (1 : Int32) < (2 : Int32))).2.1 (XS.aloadN X1959.here hx rfl (D d8_367) rfl rfl (st1960 _ (XS.iload X1960.here hx rfl (D d8_371) rfl (own_ldA X1960 hx hZ e1960 x1952 (j := (0 : Int32)) ⟨(by decide), (by decide)⟩ (v := (.ref b1908_0)) rfl rfl rfl (D d8_373) ?_)))))))))
    refine XS.iload X1960.here hx rfl (D d8_374) rfl (XS.aloadN X1960.here hx rfl (D d8_376) rfl rfl (XS.iload X1960.here hx rfl (D d8_377) rfl (own_ldA X1960 hx hZ e1960 x1950 (j := (1 : Int32)) ⟨(by decide), (by decide)⟩ (v := (.ref Rb)) rfl rfl rfl (D d8_379) (XS.iload X1960.here hx rfl (D d8_380) rfl ?_))))
    show own_S p e below T1960 (mkF m 382 (own_loc57 a0 b1492 b1538 sl1890) [.int 0, (.ref Rb), .int 1, (.ref b1908_0)]) _
    refine own_ldD X1960 hx hZ e1960 x1951 (j := (0 : Int32)) ⟨(by decide), (by decide)⟩ (v := (.double n01)) rfl rfl rfl (D d8_382) (st1964 _ (XS.iinc X1964.here hx rfl (D d8_384) rfl (l' := (own_loc58 a0 b1492 b1538 sl1890)) rfl (XS.goto X1964.here hx rfl (pc0 := 387) (pc' := 358) rfl (D d8_387) (by decide) (by decide) (XS.iload X1964.here hx rfl (D d8_358) rfl (XS.aloadN X1964.here hx rfl (D d8_360) rfl rfl (st1976 _ (XS.icmpYes X1976.here hx rfl (pc0 := 364) (pc' := 390) rfl (D d8_364) rfl (flt (by decide : ¬ ((2 : Int32) < (2 : Int32)))).2.1 (by decide) (by decide) (XS.iinc X1976.here hx rfl (D d8_390) rfl (l' := (own_loc59 a0 b1492 b1538 sl1890)) rfl (XS.goto X1976.here hx rfl (pc0 := 393) (pc' := 346) rfl (D d8_393) (by decide) (by decide) ?_)))))))))
    refine XS.iload X1976.here hx rfl (D d8_346) rfl (XS.aloadN X1976.here hx rfl (D d8_348) rfl rfl (st1977 _ (XS.icmpNo X1977.here hx rfl (D d8_352) rfl (tlt (by decide : (1 : Int32) < (2 : Int32))).2.1 ?_)))
    show own_S p e below T1977 (mkF m 355 (own_loc59 a0 b1492 b1538 sl1890) []) _
    refine XS.iconst X1977.here hx rfl (D d8_355) (XS.istore X1977.here hx rfl (D d8_356) rfl (l' := (own_loc60 a0 b1492 b1538 sl1890)) rfl (XS.iload X1977.here hx rfl (D d8_358) rfl (XS.aloadN X1977.here hx rfl (D d8_360) rfl rfl (st1978 _ (XS.icmpNo X1978.here hx rfl (D d8_364) rfl (tlt (by decide : (0 : Int32) < (2 : Int32))).2.1 (XS.aloadN X1978.here hx rfl (D d8_367) rfl rfl (st1979 _ (XS.iload X1979.here hx rfl (D d8_371) rfl (own_ldA X1979 hx hZ e1979 x1969 (j := (1 : Int32)) ⟨(by decide), (by decide)⟩ (v := (.ref b1908_1)) rfl rfl rfl (D d8_373) ?_)))))))))
    refine XS.iload X1979.here hx rfl (D d8_374) rfl (XS.aloadN X1979.here hx rfl (D d8_376) rfl rfl (XS.iload X1979.here hx rfl (D d8_377) rfl (own_ldA X1979 hx hZ e1979 x1967 (j := (0 : Int32)) ⟨(by decide), (by decide)⟩ (v := (.ref Ra)) rfl rfl rfl (D d8_379) (XS.iload X1979.here hx rfl (D d8_380) rfl ?_))))
    show own_S p e below T1979 (mkF m 382 (own_loc60 a0 b1492 b1538 sl1890) [.int 1, (.ref Ra), .int 0, (.ref b1908_1)]) _
    refine own_ldD X1979 hx hZ e1979 x1966 (j := (1 : Int32)) ⟨(by decide), (by decide)⟩ (v := (.double n10)) rfl rfl rfl (D d8_382) (st1983 _ (XS.iinc X1983.here hx rfl (D d8_384) rfl (l' := (own_loc61 a0 b1492 b1538 sl1890)) rfl (XS.goto X1983.here hx rfl (pc0 := 387) (pc' := 358) rfl (D d8_387) (by decide) (by decide) (XS.iload X1983.here hx rfl (D d8_358) rfl (XS.aloadN X1983.here hx rfl (D d8_360) rfl rfl (st1995 _ (XS.icmpNo X1995.here hx rfl (D d8_364) rfl (tlt (by decide : (1 : Int32) < (2 : Int32))).2.1 (XS.aloadN X1995.here hx rfl (D d8_367) rfl rfl (st1996 _ ?_)))))))))
    refine XS.iload X1996.here hx rfl (D d8_371) rfl (own_ldA X1996 hx hZ e1996 x1988 (j := (1 : Int32)) ⟨(by decide), (by decide)⟩ (v := (.ref b1908_1)) rfl rfl rfl (D d8_373) (XS.iload X1996.here hx rfl (D d8_374) rfl (XS.aloadN X1996.here hx rfl (D d8_376) rfl rfl (XS.iload X1996.here hx rfl (D d8_377) rfl (own_ldA X1996 hx hZ e1996 x1986 (j := (1 : Int32)) ⟨(by decide), (by decide)⟩ (v := (.ref Rb)) rfl rfl rfl (D d8_379) (XS.iload X1996.here hx rfl (D d8_380) rfl ?_))))))
    show own_S p e below T1996 (mkF m 382 (own_loc61 a0 b1492 b1538 sl1890) [.int 1, (.ref Rb), .int 1, (.ref b1908_1)]) _
    refine own_ldD X1996 hx hZ e1996 x1987 (j := (1 : Int32)) ⟨(by decide), (by decide)⟩ (v := (.double n11)) rfl rfl rfl (D d8_382) (st2000 _ (XS.iinc X2000.here hx rfl (D d8_384) rfl (l' := (own_loc59 a0 b1492 b1538 sl1890)) rfl (XS.goto X2000.here hx rfl (pc0 := 387) (pc' := 358) rfl (D d8_387) (by decide) (by decide) (XS.iload X2000.here hx rfl (D d8_358) rfl (XS.aloadN X2000.here hx rfl (D d8_360) rfl rfl (st2012 _ (XS.icmpYes X2012.here hx rfl (pc0 := 364) (pc' := 390) rfl (D d8_364) rfl (flt (by decide : ¬ ((2 : Int32) < (2 : Int32)))).2.1 (by decide) (by decide) (XS.iinc X2012.here hx rfl (D d8_390) rfl (l' := (own_loc62 a0 b1492 b1538 sl1890)) rfl (XS.goto X2012.here hx rfl (pc0 := 393) (pc' := 346) rfl (D d8_393) (by decide) (by decide) ?_)))))))))
    refine XS.iload X2012.here hx rfl (D d8_346) rfl (XS.aloadN X2012.here hx rfl (D d8_348) rfl rfl (st2013 _ (XS.icmpYes X2013.here hx rfl (pc0 := 352) (pc' := 396) rfl (D d8_352) rfl (flt (by decide : ¬ ((2 : Int32) < (2 : Int32)))).2.1 (by decide) (by decide) ?_)))
    show own_S p e below T2013 (mkF m 396 (own_loc62 a0 b1492 b1538 sl1890) []) _
    refine XS.aloadN X2013.here hx rfl (D d8_396) rfl rfl (st2014 _ (XS.aloadN X2014.here hx rfl (D d8_400) rfl rfl (st2015 _ ?_)))
    exact kt
  obtain ⟨_, _, ⟨T2017, L2017, k2017, n2017⟩, -, X2017, ⟨Lc2017, hQ2017, l2017, y2017, z2017⟩, st2017⟩ := Jvm.LawKit.callS X2015 hx (y := (⟨"java/util/Arrays", "copyOf", "([DI)[D"⟩ : MethodName)) hown (mvT hZ (own_wk hw 123 rfl)) (mvT hZ (own_wk hw 124 rfl)) (mvT hZ (own_wk hw 125 rfl)) (mvT hZ (own_wk hw 126 rfl)) (by decide) (backOf (W := 0) (rm14 l Z ag hw [] ub _ _ h2000 n0 (Nat.le_trans Z0 kp2011.1) (V_ub.keep kp2011 (ninS (Ne.symm ne_a0_ub) nin0)) hbd0 hbd1) hZ (own_wk hw 126 rfl) (own_wk hw 125 rfl) (by decide) (by decide)) (g := (mkF m 404 (own_loc62 a0 b1492 b1538 sl1890) [.int 2, (.ref ub)])) rfl (by rw [hml]; rfl) (argsL := [(.ref ub), (.int (2 : Int32))]) (rest := []) (lenOf pd_12 rfl) rfl (by show 2 * 0 + _ ≤ _; exact Nat.le_of_eq rfl) (D d8_404) (fun _ _ => ⟨rfl, e2015, (by decide : 9 + 1 ≤ _), (by decide : 18 + 2 ≤ _)⟩)
  dsimp only [Pt.U, Pt.locs, Pt.cells, Pt.slots] at X2017 l2017 y2017 z2017 st2017 hQ2017
  subst l2017 y2017 z2017
  obtain ⟨r2017, kr2017, rfl, N2017q, K2017, ge_r2017, gqq_r2017, EA2017, V2017⟩ := hQ2017
  have N2017 := Fr.app N2000 N2017q
  have ne2018 : a0 ≠ r2017 := Nat.ne_of_lt (Nat.lt_of_lt_of_le (x2009.get 0 rfl rfl).lt gqq_r2017)
  have ne2019 : b1908 ≠ r2017 := Nat.ne_of_lt (Nat.lt_of_lt_of_le x2005.lt gqq_r2017)
  have ne2020 : b1908_0 ≠ r2017 := Nat.ne_of_lt (Nat.lt_of_lt_of_le x2007.lt gqq_r2017)
  have ne2021 : b1908_1 ≠ r2017 := Nat.ne_of_lt (Nat.lt_of_lt_of_le x2008.lt gqq_r2017)
  have gs_r2017 : h0.size ≤ r2017 := Nat.le_trans kp2011.1 gqq_r2017
  have x2022 := x2001.keep K2017
  have x2023 := x2005.keep K2017 nin0
  have x2024 := x2006.keep K2017
  have x2025 := x2007.keep K2017
  have x2026 := x2008.keep K2017
  have x2027 := x2009.keep K2017 nin0
  have x2028 := x2010.keep K2017 nin0
  have x2029 := V2000.keep K2017 nin0
  have kp2030 : Keep h0 T2017.heap [a0] := kp2011.trans K2017 all0
  obtain ⟨fk_, hfk, hlk, hek⟩ := hkey
  obtain ⟨T2031, X2031, e2031, st2031⟩ := own_gf X2017 hx hZ hown (own_wk hw 61 rfl) rfl x2027 21 rfl rfl (g := (mkF m 415 (own_loc64 a0 b1492 b1538 r2017 sl1890) [(.ref a0), .int 0])) rfl rfl (D d8_415)
  obtain ⟨T2032, X2032, e2032, st2032⟩ := own_gf X2031 hx hZ hown (own_wk hw 31 rfl) e2031 x2027 10 rfl rfl (g := (mkF m 425 (own_loc64 a0 b1492 b1538 r2017 sl1890) [(.ref a0), (.ref r2017), (.ref a0)])) rfl rfl (D d8_425)
  obtain ⟨cq2034, q2034, q2034'⟩ := x2022.cell
  obtain ⟨_, _, ⟨T2034, L2034, k2034, n2034⟩, -, X2034, ⟨Lc2034, hQ2034, l2034, y2034, z2034⟩, st2034⟩ := X2032.privateBack hx (y := (⟨own_K, "addColumn", "([DID)V"⟩ : MethodName)) hown (mvT hZ (own_wk hw 107 rfl)) (mvT hZ (own_wk hw 108 rfl)) (own_selp (ym := (⟨own_K, "addGroup", "()I"⟩ : MethodName)) (mvT hZ (own_wk hw 57 rfl)) rfl (Cond.privateMethod_at (mvP hZ (own_wk hw 109 rfl) (args := #[]))) (mvT hZ (own_wk hw 108 rfl)) (by decide)) (Cond.privateMethod_at (mvP hZ (own_wk hw 109 rfl) (args := #[]))) (mvT hZ (own_wk hw 110 rfl)) (by decide) (backOf (W := 0) (rm10_n l Z ag hw [] a0 r2017 (0 : Int32) (13830554455654793216 : UInt64) _ _ _ _ _ _ _ _ _ _ _ _ _ _ _ _ _ _ _ _ _ _ _ _ _ _ _ _ _ _ _ _ _ _ _ _ _ _ fk_ T2017.heap n0 (Nat.le_trans Z0 kp2030.1) x2022 x2027 (V_uf.keep kp2030 (ninS (Ne.symm ne_a0_uf) nin0)) (V_ue.keep kp2030 (ninS (Ne.symm ne_a0_ue) nin0)) (V_ur.keep kp2030 (ninS (Ne.symm ne_a0_ur) nin0)) (V_uv.keep kp2030 (ninS (Ne.symm ne_a0_uv) nin0)) V2017 ge_r2017 (Ne.symm ne2018) (Nat.ne_of_gt (Nat.lt_of_lt_of_le V_uf.lt gs_r2017)) (Nat.ne_of_gt (Nat.lt_of_lt_of_le V_ue.lt gs_r2017)) (Nat.ne_of_gt (Nat.lt_of_lt_of_le V_ur.lt gs_r2017)) (Nat.ne_of_gt (Nat.lt_of_lt_of_le V_uv.lt gs_r2017)) ⟨(by decide), (by decide)⟩ hfk hlk hek) hZ (own_wk hw 110 rfl) (own_wk hw 2 rfl) (by decide) (by decide)) (g := (mkF m 434 (own_loc64 a0 b1492 b1538 r2017 sl1890) [(.double (13830554455654793216 : UInt64)), .int 0, (.ref r2017), (.ref a0)])) rfl (by rw [hml]; rfl) (Steps.refl _) (a := a0) (by rw [e2032]; exact q2034) q2034' (argsL := [(.ref r2017), (.int (0 : Int32)), (.double (13830554455654793216 : UInt64))]) (rest := []) (lenOf pd_13 rfl) rfl (by show 2 * 0 + _ ≤ _; exact Nat.le_of_eq rfl) (D d8_434) (fun _ _ => ⟨rfl, e2032, (by decide : 10 + 0 ≤ _), (by decide : 20 + 0 ≤ _)⟩)
  dsimp only [Pt.U, Pt.locs, Pt.cells, Pt.slots] at X2034 l2034 y2034 z2034 st2034 hQ2034
  subst l2034 y2034 z2034
  obtain ⟨rfl, N2034q, K2034, o2034_0⟩ := hQ2034
  have N2034 := Fr.app N2017 N2034q
  have x2035 := x2022.keep K2034
  have x2036 := x2023.keep K2034 (ninS ne2019 nin0)
  have x2037 := x2024.keep K2034
  have x2038 := x2025.keep K2034
  have x2039 := x2026.keep K2034
  have x2040 := x2027.keep K2034 (ninS ne2018 nin0)
  have x2041 := x2028.keep K2034 (ninS ne2020 nin0)
  have x2042 := x2029.keep K2034 (ninS ne2021 nin0)
  have x2043 := EA2017.keep K2034
  have kp2044 : Keep h0 T2034.heap [a0] := kp2030.trans K2034 (allS (Or.inr gs_r2017) all0)
  obtain ⟨T2045, X2045, e2045, st2045⟩ := own_gf X2034 hx hZ hown (own_wk hw 61 rfl) rfl x2040 21 rfl rfl (g := (mkF m 415 (own_loc65 a0 b1492 b1538 r2017 sl1890) [(.ref a0), .int 1])) rfl rfl (D d8_415)
  obtain ⟨T2046, X2046, e2046, st2046⟩ := own_gf X2045 hx hZ hown (own_wk hw 81 rfl) e2045 x2040 24 rfl rfl (g := (mkF m 445 (own_loc65 a0 b1492 b1538 r2017 sl1890) [(.ref a0), (.ref a0)])) rfl rfl (D d8_445)
  obtain ⟨T2047, h2047, k2047, X2047, e2047, E2047, A2047, EA2047, st2047⟩ := newPE X2046 hx hZ (own_wk hw 9 rfl) e2046 (g := (mkF m 448 (own_loc65 a0 b1492 b1538 r2017 sl1890) [.int 2, (.ref a0)])) rfl (D d8_448) rfl (by decide) (cap := 2) (by decide) (by decide) (by decide) (by decide) (ad := "[D") (by decide)
  obtain ⟨b2047, g2047⟩ : ∃ z, z = T2034.heap.size := ⟨_, rfl⟩
  have ne2048 : a0 ≠ b2047 := Nat.ne_of_lt (Nat.lt_of_lt_of_le (x2040.get 0 rfl rfl).lt (Nat.le_of_eq g2047.symm))
  have ne2049 : b1908 ≠ b2047 := Nat.ne_of_lt (Nat.lt_of_lt_of_le x2036.lt (Nat.le_of_eq g2047.symm))
  have ne2050 : b1908_0 ≠ b2047 := Nat.ne_of_lt (Nat.lt_of_lt_of_le x2038.lt (Nat.le_of_eq g2047.symm))
  have ne2051 : b1908_1 ≠ b2047 := Nat.ne_of_lt (Nat.lt_of_lt_of_le x2039.lt (Nat.le_of_eq g2047.symm))
  have ne2052 : r2017 ≠ b2047 := Nat.ne_of_lt (Nat.lt_of_lt_of_le x2043.lt (Nat.le_of_eq g2047.symm))
  have ge_b2047 : n0 ≤ b2047 := Nat.le_trans (Nat.le_trans Z0 kp2044.1) (Nat.le_of_eq g2047.symm)
  have gs_b2047 : h0.size ≤ b2047 := Nat.le_trans kp2044.1 (Nat.le_of_eq g2047.symm)
  rw [← g2047] at A2047 st2047 EA2047
  have x2053 := x2035.ext E2047
  have x2054 := x2036.ext E2047
  have x2055 := x2037.ext E2047
  have x2056 := x2038.ext E2047
  have x2057 := x2039.ext E2047
  have x2058 := x2040.ext E2047
  have x2059 := x2041.ext E2047
  have x2060 := x2042.ext E2047
  have x2061 := x2043.ext E2047
  have x2062 := o2034_0.ext E2047
  have kp2063 : Keep h0 h2047 [a0] := kp2044.ext E2047
  have V2047 : Arv Z h2047 b2047 k2047 .double (2 : Int32) [(.double (0 : UInt64)), (.double (0 : UInt64))] (.double (0 : UInt64)) := (Arv.new A2047 (by decide)).pad (pad_rep [] (.double (0 : UInt64)) 2)
  obtain ⟨T2064, h2064, X2064, e2064, W2064, st2064⟩ := putF X2047 hx hZ hown (host := "") (Or.inl (own_wk hw 41 rfl)) Via.refl e2047 (x2058.get 14 rfl rfl : Fld Z h2047 a0 own_K "values" "[D" w_values) x2053 (Or.inl (own_wk hw 42 rfl)) (own_wk hw 1 rfl) (ty := (.array .double)) (by decide) rfl rfl (g := (mkF m 450 (own_loc65 a0 b1492 b1538 r2017 sl1890) [(.ref b2047), (.ref a0)])) rfl rfl (D d8_450)
  have Ob2064 := x2058.put (own_layw hw) 14 rfl W2064
  have x2065 := x2053.wr W2064
  have x2066 := x2054.other W2064 (Ne.symm ne1918)
  have x2067 := x2055.wr W2064
  have x2068 := x2056.wr W2064
  have x2069 := x2057.wr W2064
  have x2070 := x2059.other W2064 (Ne.symm ne1909)
  have x2071 := x2060.other W2064 (Ne.symm ne1913)
  have x2072 := x2061.wr W2064
  have x2073 := x2062.other W2064 (Ne.symm ne2018)
  have x2074 := EA2047.wr W2064
  have x2075 := V2047.other W2064 (Ne.symm ne2048)
  have kp2076 : Keep h0 h2064 [a0] := kp2063.wr W2064 (Or.inl (List.mem_of_getElem? (i := 0) rfl))
  have N2064 := Fr.snoc X2064 N2034 ge_a0
  obtain ⟨T2077, X2077, e2077, st2077⟩ := own_gf X2064 hx hZ hown (own_wk hw 81 rfl) e2064 Ob2064 24 rfl rfl (g := (mkF m 459 (own_loc64 a0 b1492 b1538 r2017 sl1890) [(.ref a0), .int 0])) rfl rfl (D d8_459)
  obtain ⟨T2078, X2078, e2078, st2078⟩ := own_gf X2077 hx hZ hown (own_wk hw 81 rfl) e2077 Ob2064 24 rfl rfl (g := (mkF m 474 (own_loc67 a0 b1492 b1538 r2017 sl1890) [(.ref a0), .int 0])) rfl rfl (D d8_474)
  obtain ⟨T2079, X2079, e2079, st2079⟩ := own_gf X2078 hx hZ hown (own_wk hw 39 rfl) e2078 Ob2064 13 rfl rfl (g := (mkF m 483 (own_loc67 a0 b1492 b1538 r2017 sl1890) [(.ref a0), (.double (0 : UInt64))])) rfl rfl (D d8_483)
  obtain ⟨T2083, X2083, e2083, st2083⟩ := own_gf X2079 hx hZ hown (own_wk hw 81 rfl) e2079 Ob2064 24 rfl rfl (g := (mkF m 474 (own_loc68 a0 b1492 b1538 r2017 sl1890) [(.ref a0), .int 1])) rfl rfl (D d8_474)
  obtain ⟨T2084, X2084, e2084, st2084⟩ := own_gf X2083 hx hZ hown (own_wk hw 39 rfl) e2083 Ob2064 13 rfl rfl (g := (mkF m 483 (own_loc68 a0 b1492 b1538 r2017 sl1890) [(.ref a0), (.double (0 : UInt64))])) rfl rfl (D d8_483)
  obtain ⟨T2088, X2088, e2088, st2088⟩ := own_gf X2084 hx hZ hown (own_wk hw 81 rfl) e2084 Ob2064 24 rfl rfl (g := (mkF m 474 (own_loc69 a0 b1492 b1538 r2017 sl1890) [(.ref a0), .int 2])) rfl rfl (D d8_474)
  obtain ⟨T2089, X2089, e2089, st2089⟩ := own_gf X2088 hx hZ hown (own_wk hw 41 rfl) e2088 Ob2064 14 rfl rfl (g := (mkF m 508 (own_loc69 a0 b1492 b1538 r2017 sl1890) [(.ref a0)])) rfl rfl (D d8_508)
  obtain ⟨T2090, h2090, X2090, e2090, W2090, V2090, st2090⟩ := own_stD X2089 hx hZ e2089 x2075 (j := (0 : Int32)) ⟨(by decide), (by decide)⟩ 0 rfl (Nat.le_of_ble_eq_true rfl) (vs' := [(.double (0 : UInt64)), (.double (0 : UInt64))]) rfl (g := (mkF m 515 (own_loc69 a0 b1492 b1538 r2017 sl1890) [(.double (0 : UInt64)), .int 0, (.ref b2047)])) rfl rfl (D d8_515)
  have x2091 := x2065.wr W2090
  have x2092 := x2066.other W2090 ne2049
  have x2093 := x2067.wr W2090
  have x2094 := x2068.wr W2090
  have x2095 := x2069.wr W2090
  have x2096 := x2070.other W2090 ne2050
  have x2097 := x2071.other W2090 ne2051
  have x2098 := x2072.wr W2090
  have x2099 := x2073.other W2090 ne2052
  have x2100 := x2074.wr W2090
  have x2101 := Ob2064.other W2090 ne2048
  have kp2102 : Keep h0 h2090 [a0] := kp2076.wr W2090 (Or.inr gs_b2047)
  have N2090 := Fr.snoc X2090 N2064 ge_b2047
  obtain ⟨T2103, X2103, e2103, st2103⟩ := own_gf X2090 hx hZ hown (own_wk hw 81 rfl) e2090 x2101 24 rfl rfl (g := (mkF m 459 (own_loc70 a0 b1492 b1538 r2017 sl1890) [(.ref a0), .int 1])) rfl rfl (D d8_459)
  obtain ⟨T2104, X2104, e2104, st2104⟩ := own_gf X2103 hx hZ hown (own_wk hw 81 rfl) e2103 x2101 24 rfl rfl (g := (mkF m 474 (own_loc71 a0 b1492 b1538 r2017 sl1890) [(.ref a0), .int 0])) rfl rfl (D d8_474)
  obtain ⟨T2105, X2105, e2105, st2105⟩ := own_gf X2104 hx hZ hown (own_wk hw 39 rfl) e2104 x2101 13 rfl rfl (g := (mkF m 483 (own_loc71 a0 b1492 b1538 r2017 sl1890) [(.ref a0), (.double (0 : UInt64))])) rfl rfl (D d8_483)
  obtain ⟨T2109, X2109, e2109, st2109⟩ := own_gf X2105 hx hZ hown (own_wk hw 81 rfl) e2105 x2101 24 rfl rfl (g := (mkF m 474 (own_loc72 a0 b1492 b1538 r2017 sl1890) [(.ref a0), .int 1])) rfl rfl (D d8_474)
  obtain ⟨T2110, X2110, e2110, st2110⟩ := own_gf X2109 hx hZ hown (own_wk hw 39 rfl) e2109 x2101 13 rfl rfl (g := (mkF m 483 (own_loc72 a0 b1492 b1538 r2017 sl1890) [(.ref a0), (.double (0 : UInt64))])) rfl rfl (D d8_483)
  obtain ⟨T2114, X2114, e2114, st2114⟩ := own_gf X2110 hx hZ hown (own_wk hw 81 rfl) e2110 x2101 24 rfl rfl (g := (mkF m 474 (own_loc70 a0 b1492 b1538 r2017 sl1890) [(.ref a0), .int 2])) rfl rfl (D d8_474)
  obtain ⟨T2115, X2115, e2115, st2115⟩ := own_gf X2114 hx hZ hown (own_wk hw 41 rfl) e2114 x2101 14 rfl rfl (g := (mkF m 508 (own_loc70 a0 b1492 b1538 r2017 sl1890) [(.ref a0)])) rfl rfl (D d8_508)
  obtain ⟨T2116, h2116, X2116, e2116, W2116, V2116, st2116⟩ := own_stD X2115 hx hZ e2115 V2090 (j := (1 : Int32)) ⟨(by decide), (by decide)⟩ 1 rfl (Nat.le_of_ble_eq_true rfl) (vs' := [(.double (0 : UInt64)), (.double (0 : UInt64))]) rfl (g := (mkF m 515 (own_loc70 a0 b1492 b1538 r2017 sl1890) [(.double (0 : UInt64)), .int 1, (.ref b2047)])) rfl rfl (D d8_515)
  have x2117 := x2091.wr W2116
  have x2118 := x2092.other W2116 ne2049
  have x2119 := x2093.wr W2116
  have x2120 := x2094.wr W2116
  have x2121 := x2095.wr W2116
  have x2122 := x2096.other W2116 ne2050
  have x2123 := x2097.other W2116 ne2051
  have x2124 := x2098.wr W2116
  have x2125 := x2099.other W2116 ne2052
  have x2126 := x2100.wr W2116
  have x2127 := x2101.other W2116 ne2048
  have kp2128 : Keep h0 h2116 [a0] := kp2102.wr W2116 (Or.inr gs_b2047)
  have N2116 := Fr.snoc X2116 N2090 ge_b2047
  obtain ⟨T2129, X2129, e2129, st2129⟩ := own_gf X2116 hx hZ hown (own_wk hw 81 rfl) e2116 x2127 24 rfl rfl (g := (mkF m 459 (own_loc73 a0 b1492 b1538 r2017 sl1890) [(.ref a0), .int 2])) rfl rfl (D d8_459)
  obtain ⟨T2130, X2130, e2130, st2130⟩ := own_gf X2129 hx hZ hown (own_wk hw 61 rfl) e2129 x2127 21 rfl rfl (g := (mkF m 524 (own_loc73 a0 b1492 b1538 r2017 sl1890) [(.ref a0), (.ref a0)])) rfl rfl (D d8_524)
  obtain ⟨T2131, h2131, k2131, X2131, e2131, E2131, A2131, EA2131, st2131⟩ := newPE X2130 hx hZ (own_wk hw 9 rfl) e2130 (g := (mkF m 527 (own_loc73 a0 b1492 b1538 r2017 sl1890) [.int 1, (.ref a0)])) rfl (D d8_527) rfl (by decide) (cap := 1) (by decide) (by decide) (by decide) (by decide) (ad := "[D") (by decide)
  obtain ⟨b2131, g2131⟩ : ∃ z, z = h2116.size := ⟨_, rfl⟩
  have ne2132 : a0 ≠ b2131 := Nat.ne_of_lt (Nat.lt_of_lt_of_le (x2127.get 0 rfl rfl).lt (Nat.le_of_eq g2131.symm))
  have ne2133 : b1908 ≠ b2131 := Nat.ne_of_lt (Nat.lt_of_lt_of_le x2118.lt (Nat.le_of_eq g2131.symm))
  have ne2134 : b1908_0 ≠ b2131 := Nat.ne_of_lt (Nat.lt_of_lt_of_le x2122.lt (Nat.le_of_eq g2131.symm))
  have ne2135 : b1908_1 ≠ b2131 := Nat.ne_of_lt (Nat.lt_of_lt_of_le x2123.lt (Nat.le_of_eq g2131.symm))
  have ne2136 : b2047 ≠ b2131 := Nat.ne_of_lt (Nat.lt_of_lt_of_le V2116.lt (Nat.le_of_eq g2131.symm))
  have ge_b2131 : n0 ≤ b2131 := Nat.le_trans (Nat.le_trans Z0 kp2128.1) (Nat.le_of_eq g2131.symm)
  have gs_b2131 : h0.size ≤ b2131 := Nat.le_trans kp2128.1 (Nat.le_of_eq g2131.symm)
  rw [← g2131] at A2131 st2131 EA2131
  have x2137 := x2117.ext E2131
  have x2138 := x2118.ext E2131
  have x2139 := x2122.ext E2131
  have x2140 := x2123.ext E2131
  have x2141 := x2127.ext E2131
  have x2142 := V2116.ext E2131
  have kp2143 : Keep h0 h2131 [a0] := kp2128.ext E2131
  have V2131 : Arv Z h2131 b2131 k2131 .double (1 : Int32) [(.double (0 : UInt64))] (.double (0 : UInt64)) := (Arv.new A2131 (by decide)).pad (pad_rep [] (.double (0 : UInt64)) 1)
  obtain ⟨T2144, h2144, X2144, e2144, W2144, st2144⟩ := putF X2131 hx hZ hown (host := "") (Or.inl (own_wk hw 33 rfl)) Via.refl e2131 (x2141.get 11 rfl rfl : Fld Z h2131 a0 own_K "keyValues" "[D" w_keyValues) x2137 (Or.inl (own_wk hw 34 rfl)) (own_wk hw 1 rfl) (ty := (.array .double)) (by decide) rfl rfl (g := (mkF m 529 (own_loc73 a0 b1492 b1538 r2017 sl1890) [(.ref b2131), (.ref a0)])) rfl rfl (D d8_529)
  have Ob2144 := x2141.put (own_layw hw) 11 rfl W2144
  have x2145 := x2137.wr W2144
  have x2146 := x2138.other W2144 (Ne.symm ne1918)
  have x2147 := x2139.other W2144 (Ne.symm ne1909)
  have x2148 := x2140.other W2144 (Ne.symm ne1913)
  have x2149 := x2142.other W2144 (Ne.symm ne2048)
  have x2150 := EA2131.wr W2144
  have x2151 := V2131.other W2144 (Ne.symm ne2132)
  have kp2152 : Keep h0 h2144 [a0] := kp2143.wr W2144 (Or.inl (List.mem_of_getElem? (i := 0) rfl))
  have N2144 := Fr.snoc X2144 N2116 ge_a0
  obtain ⟨T2153, X2153, e2153, st2153⟩ := own_gf X2144 hx hZ hown (own_wk hw 33 rfl) e2144 Ob2144 11 rfl rfl (g := (mkF m 533 (own_loc73 a0 b1492 b1538 r2017 sl1890) [(.ref a0)])) rfl rfl (D d8_533)
  have cp2154 : ∀ target, own_S p e below T2153 (mkF m 537 (own_loc73 a0 b1492 b1538 r2017 sl1890) [(.double (4607182418800017408 : UInt64)), (.ref b2131)]) target → own_S p e below s₁ (mkF m 0 #[.val (.ref a0), .unset, .unset, .unset, .unset, .unset, .unset, .unset, .unset, .unset, .unset] []) target := by
    intro target kt
    show own_S p e below s₁ (mkF m 0 #[.val (.ref a0), .unset, .unset, .unset, .unset, .unset, .unset, .unset, .unset, .unset, .unset] []) _
    refine cp2016 _ (st2017 _ (XS.astore X2017.here hx rfl (D d8_407) rfl rfl (l' := (own_loc63 a0 b1492 b1538 r2017 sl1890)) rfl (XS.iconst X2017.here hx rfl (D d8_409) (XS.istore X2017.here hx rfl (D d8_410) rfl (l' := (own_loc64 a0 b1492 b1538 r2017 sl1890)) rfl (XS.iload X2017.here hx rfl (D d8_412) rfl (XS.aloadN X2017.here hx rfl (D d8_414) rfl rfl (st2031 _ (XS.icmpNo X2031.here hx rfl (D d8_418) rfl (tlt (by decide : (0 : Int32) < (1 : Int32))).2.1 (XS.aloadN X2031.here hx rfl (D d8_421) rfl rfl ?_)))))))))
    refine XS.aload X2031.here hx rfl (D d8_422) rfl rfl (XS.aloadN X2031.here hx rfl (D d8_424) rfl rfl (st2032 _ (XS.iload X2032.here hx rfl (D d8_428) rfl (own_ldI X2032 hx hZ e2032 (V_uk.keep kp2030 (ninS (Ne.symm ne_a0_uk) nin0)) (j := (0 : Int32)) ⟨(by decide), (by decide)⟩ (v := (.int (0 : Int32))) rfl rfl rfl (D d8_430) (X2032.ldc2DoubleC hx hown (mvT hZ (own_wk hw 134 rfl)) (g := (mkF m 431 (own_loc64 a0 b1492 b1538 r2017 sl1890) [.int 0, (.ref r2017), (.ref a0)])) rfl (D d8_431) _ ?_)))))
    show own_S p e below T2032 (mkF m 434 (own_loc64 a0 b1492 b1538 r2017 sl1890) [(.double (13830554455654793216 : UInt64)), .int 0, (.ref r2017), (.ref a0)]) _
    refine st2034.trans (XS.iinc X2034.here hx rfl (D d8_437) rfl (l' := (own_loc65 a0 b1492 b1538 r2017 sl1890)) rfl (XS.goto X2034.here hx rfl (pc0 := 440) (pc' := 412) rfl (D d8_440) (by decide) (by decide) (XS.iload X2034.here hx rfl (D d8_412) rfl (XS.aloadN X2034.here hx rfl (D d8_414) rfl rfl (st2045 _ (XS.icmpYes X2045.here hx rfl (pc0 := 418) (pc' := 443) rfl (D d8_418) rfl (flt (by decide : ¬ ((1 : Int32) < (1 : Int32)))).2.1 (by decide) (by decide) (XS.aloadN X2045.here hx rfl (D d8_443) rfl rfl (XS.aloadN X2045.here hx rfl (D d8_444) rfl rfl (st2046 _ ?_)))))))))
    refine st2047 _ (st2064 _ (XS.iconst X2064.here hx rfl (D d8_453) (XS.istore X2064.here hx rfl (D d8_454) rfl (l' := (own_loc64 a0 b1492 b1538 r2017 sl1890)) rfl ?_)))
    show own_S p e below T2064 (mkF m 456 (own_loc64 a0 b1492 b1538 r2017 sl1890) []) _
    refine XS.iload X2064.here hx rfl (D d8_456) rfl (XS.aloadN X2064.here hx rfl (D d8_458) rfl rfl (st2077 _ (XS.icmpNo X2077.here hx rfl (D d8_462) rfl (tlt (by decide : (0 : Int32) < (2 : Int32))).2.1 (XS.dconst0 X2077.here hx rfl (D d8_465) rfl (XS.dstore X2077.here hx rfl (D d8_466) rfl (l' := (own_loc66 a0 b1492 b1538 r2017 sl1890)) rfl (XS.iconst X2077.here hx rfl (D d8_468) (XS.istore X2077.here hx rfl (D d8_469) rfl (l' := (own_loc67 a0 b1492 b1538 r2017 sl1890)) rfl (XS.iload X2077.here hx rfl (D d8_471) rfl (XS.aloadN X2077.here hx rfl (D d8_473) rfl rfl ?_)))))))))
    refine st2078 _ (XS.icmpNo X2078.here hx rfl (D d8_477) rfl (tlt (by decide : (0 : Int32) < (2 : Int32))).2.1 (XS.dload X2078.here hx rfl (D d8_480) rfl (XS.aloadN X2078.here hx rfl (D d8_482) rfl rfl (st2079 _ ?_))))
    show own_S p e below T2079 (mkF m 486 (own_loc67 a0 b1492 b1538 r2017 sl1890) [(.ref b1908), (.double (0 : UInt64))]) _
    refine XS.iload X2079.here hx rfl (D d8_486) rfl (own_ldA X2079 hx hZ e2079 x2066 (j := (0 : Int32)) ⟨(by decide), (by decide)⟩ (v := (.ref b1908_0)) rfl rfl rfl (D d8_488) (XS.iload X2079.here hx rfl (D d8_489) rfl (own_ldD X2079 hx hZ e2079 x2070 (j := (0 : Int32)) ⟨(by decide), (by decide)⟩ (v := (.double n00)) rfl rfl rfl (D d8_491) (XS.aload X2079.here hx rfl (D d8_492) rfl rfl (XS.iload X2079.here hx rfl (D d8_494) rfl (own_ldD X2079 hx hZ e2079 x2073 (j := (0 : Int32)) ⟨(by decide), (by decide)⟩ (v := (.double (0 : UInt64))) rfl rfl rfl (D d8_496) (XS.dmulS X2079.here hx rfl (D d8_497) rfl (own_nmul wn00 own_w0) rfl (XS.daddS X2079.here hx rfl (D d8_498) rfl (own_nadd own_w0 (own_nmul wn00 own_w0)) (own_az wn00) (XS.dstore X2079.here hx rfl (D d8_499) rfl (l' := (own_loc67 a0 b1492 b1538 r2017 sl1890)) rfl ?_)))))))))
    refine XS.iinc X2079.here hx rfl (D d8_501) rfl (l' := (own_loc68 a0 b1492 b1538 r2017 sl1890)) rfl (XS.goto X2079.here hx rfl (pc0 := 504) (pc' := 471) rfl (D d8_504) (by decide) (by decide) (XS.iload X2079.here hx rfl (D d8_471) rfl (XS.aloadN X2079.here hx rfl (D d8_473) rfl rfl (st2083 _ ?_))))
    show own_S p e below T2083 (mkF m 477 (own_loc68 a0 b1492 b1538 r2017 sl1890) [.int 2, .int 1]) _
    refine XS.icmpNo X2083.here hx rfl (D d8_477) rfl (tlt (by decide : (1 : Int32) < (2 : Int32))).2.1 (XS.dload X2083.here hx rfl (D d8_480) rfl (XS.aloadN X2083.here hx rfl (D d8_482) rfl rfl (st2084 _ (XS.iload X2084.here hx rfl (D d8_486) rfl (own_ldA X2084 hx hZ e2084 x2066 (j := (0 : Int32)) ⟨(by decide), (by decide)⟩ (v := (.ref b1908_0)) rfl rfl rfl (D d8_488) (XS.iload X2084.here hx rfl (D d8_489) rfl (own_ldD X2084 hx hZ e2084 x2070 (j := (1 : Int32)) ⟨(by decide), (by decide)⟩ (v := (.double n01)) rfl rfl rfl (D d8_491) (XS.aload X2084.here hx rfl (D d8_492) rfl rfl (XS.iload X2084.here hx rfl (D d8_494) rfl ?_)))))))))
    refine own_ldD X2084 hx hZ e2084 x2073 (j := (1 : Int32)) ⟨(by decide), (by decide)⟩ (v := (.double (0 : UInt64))) rfl rfl rfl (D d8_496) (XS.dmulS X2084.here hx rfl (D d8_497) rfl (own_nmul wn01 own_w0) rfl (XS.daddS X2084.here hx rfl (D d8_498) rfl (own_nadd own_w0 (own_nmul wn01 own_w0)) (own_az wn01) (XS.dstore X2084.here hx rfl (D d8_499) rfl (l' := (own_loc68 a0 b1492 b1538 r2017 sl1890)) rfl ?_)))
    show own_S p e below T2084 (mkF m 501 (own_loc68 a0 b1492 b1538 r2017 sl1890) []) _
    refine XS.iinc X2084.here hx rfl (D d8_501) rfl (l' := (own_loc69 a0 b1492 b1538 r2017 sl1890)) rfl (XS.goto X2084.here hx rfl (pc0 := 504) (pc' := 471) rfl (D d8_504) (by decide) (by decide) (XS.iload X2084.here hx rfl (D d8_471) rfl (XS.aloadN X2084.here hx rfl (D d8_473) rfl rfl (st2088 _ (XS.icmpYes X2088.here hx rfl (pc0 := 477) (pc' := 507) rfl (D d8_477) rfl (flt (by decide : ¬ ((2 : Int32) < (2 : Int32)))).2.1 (by decide) (by decide) (XS.aloadN X2088.here hx rfl (D d8_507) rfl rfl (st2089 _ (XS.iload X2089.here hx rfl (D d8_511) rfl (XS.dload X2089.here hx rfl (D d8_513) rfl ?_)))))))))
    refine st2090 _ (XS.iinc X2090.here hx rfl (D d8_516) rfl (l' := (own_loc70 a0 b1492 b1538 r2017 sl1890)) rfl (XS.goto X2090.here hx rfl (pc0 := 519) (pc' := 456) rfl (D d8_519) (by decide) (by decide) (XS.iload X2090.here hx rfl (D d8_456) rfl (XS.aloadN X2090.here hx rfl (D d8_458) rfl rfl (st2103 _ ?_)))))
    show own_S p e below T2103 (mkF m 462 (own_loc70 a0 b1492 b1538 r2017 sl1890) [.int 2, .int 1]) _
    refine XS.icmpNo X2103.here hx rfl (D d8_462) rfl (tlt (by decide : (1 : Int32) < (2 : Int32))).2.1 (XS.dconst0 X2103.here hx rfl (D d8_465) rfl (XS.dstore X2103.here hx rfl (D d8_466) rfl (l' := (own_loc70 a0 b1492 b1538 r2017 sl1890)) rfl (XS.iconst X2103.here hx rfl (D d8_468) (XS.istore X2103.here hx rfl (D d8_469) rfl (l' := (own_loc71 a0 b1492 b1538 r2017 sl1890)) rfl (XS.iload X2103.here hx rfl (D d8_471) rfl (XS.aloadN X2103.here hx rfl (D d8_473) rfl rfl (st2104 _ (XS.icmpNo X2104.here hx rfl (D d8_477) rfl (tlt (by decide : (0 : Int32) < (2 : Int32))).2.1 (XS.dload X2104.here hx rfl (D d8_480) rfl ?_)))))))))
    refine XS.aloadN X2104.here hx rfl (D d8_482) rfl rfl (st2105 _ (XS.iload X2105.here hx rfl (D d8_486) rfl (own_ldA X2105 hx hZ e2105 x2092 (j := (1 : Int32)) ⟨(by decide), (by decide)⟩ (v := (.ref b1908_1)) rfl rfl rfl (D d8_488) (XS.iload X2105.here hx rfl (D d8_489) rfl (own_ldD X2105 hx hZ e2105 x2097 (j := (0 : Int32)) ⟨(by decide), (by decide)⟩ (v := (.double n10)) rfl rfl rfl (D d8_491) (XS.aload X2105.here hx rfl (D d8_492) rfl rfl (XS.iload X2105.here hx rfl (D d8_494) rfl (own_ldD X2105 hx hZ e2105 x2099 (j := (0 : Int32)) ⟨(by decide), (by decide)⟩ (v := (.double (0 : UInt64))) rfl rfl rfl (D d8_496) ?_))))))))
    show own_S p e below T2105 (mkF m 497 (own_loc71 a0 b1492 b1538 r2017 sl1890) [(.double (0 : UInt64)), (.double n10), (.double (0 : UInt64))]) _
    refine XS.dmulS X2105.here hx rfl (D d8_497) rfl (own_nmul wn10 own_w0) rfl (XS.daddS X2105.here hx rfl (D d8_498) rfl (own_nadd own_w0 (own_nmul wn10 own_w0)) (own_az wn10) (XS.dstore X2105.here hx rfl (D d8_499) rfl (l' := (own_loc71 a0 b1492 b1538 r2017 sl1890)) rfl (XS.iinc X2105.here hx rfl (D d8_501) rfl (l' := (own_loc72 a0 b1492 b1538 r2017 sl1890)) rfl (XS.goto X2105.here hx rfl (pc0 := 504) (pc' := 471) rfl (D d8_504) (by decide) (by decide) (XS.iload X2105.here hx rfl (D d8_471) rfl (XS.aloadN X2105.here hx rfl (D d8_473) rfl rfl (st2109 _ (XS.icmpNo X2109.here hx rfl (D d8_477) rfl (tlt (by decide : (1 : Int32) < (2 : Int32))).2.1 (XS.dload X2109.here hx rfl (D d8_480) rfl ?_)))))))))
    refine XS.aloadN X2109.here hx rfl (D d8_482) rfl rfl (st2110 _ (XS.iload X2110.here hx rfl (D d8_486) rfl (own_ldA X2110 hx hZ e2110 x2092 (j := (1 : Int32)) ⟨(by decide), (by decide)⟩ (v := (.ref b1908_1)) rfl rfl rfl (D d8_488) (XS.iload X2110.here hx rfl (D d8_489) rfl (own_ldD X2110 hx hZ e2110 x2097 (j := (1 : Int32)) ⟨(by decide), (by decide)⟩ (v := (.double n11)) rfl rfl rfl (D d8_491) (XS.aload X2110.here hx rfl (D d8_492) rfl rfl (XS.iload X2110.here hx rfl (D d8_494) rfl (own_ldD X2110 hx hZ e2110 x2099 (j := (1 : Int32)) ⟨(by decide), (by decide)⟩ (v := (.double (0 : UInt64))) rfl rfl rfl (D d8_496) ?_))))))))
    show own_S p e below T2110 (mkF m 497 (own_loc72 a0 b1492 b1538 r2017 sl1890) [(.double (0 : UInt64)), (.double n11), (.double (0 : UInt64))]) _
    refine XS.dmulS X2110.here hx rfl (D d8_497) rfl (own_nmul wn11 own_w0) rfl (XS.daddS X2110.here hx rfl (D d8_498) rfl (own_nadd own_w0 (own_nmul wn11 own_w0)) (own_az wn11) (XS.dstore X2110.here hx rfl (D d8_499) rfl (l' := (own_loc72 a0 b1492 b1538 r2017 sl1890)) rfl (XS.iinc X2110.here hx rfl (D d8_501) rfl (l' := (own_loc70 a0 b1492 b1538 r2017 sl1890)) rfl (XS.goto X2110.here hx rfl (pc0 := 504) (pc' := 471) rfl (D d8_504) (by decide) (by decide) (XS.iload X2110.here hx rfl (D d8_471) rfl (XS.aloadN X2110.here hx rfl (D d8_473) rfl rfl (st2114 _ (XS.icmpYes X2114.here hx rfl (pc0 := 477) (pc' := 507) rfl (D d8_477) rfl (flt (by decide : ¬ ((2 : Int32) < (2 : Int32)))).2.1 (by decide) (by decide) (XS.aloadN X2114.here hx rfl (D d8_507) rfl rfl ?_)))))))))
    refine st2115 _ (XS.iload X2115.here hx rfl (D d8_511) rfl (XS.dload X2115.here hx rfl (D d8_513) rfl (st2116 _ ?_)))
    show own_S p e below T2116 (mkF m 516 (own_loc70 a0 b1492 b1538 r2017 sl1890) []) _
    refine XS.iinc X2116.here hx rfl (D d8_516) rfl (l' := (own_loc73 a0 b1492 b1538 r2017 sl1890)) rfl (XS.goto X2116.here hx rfl (pc0 := 519) (pc' := 456) rfl (D d8_519) (by decide) (by decide) (XS.iload X2116.here hx rfl (D d8_456) rfl (XS.aloadN X2116.here hx rfl (D d8_458) rfl rfl (st2129 _ (XS.icmpYes X2129.here hx rfl (pc0 := 462) (pc' := 522) rfl (D d8_462) rfl (flt (by decide : ¬ ((2 : Int32) < (2 : Int32)))).2.1 (by decide) (by decide) (XS.aloadN X2129.here hx rfl (D d8_522) rfl rfl (XS.aloadN X2129.here hx rfl (D d8_523) rfl rfl (st2130 _ (st2131 _ ?_)))))))))
    refine st2144 _ (XS.aloadN X2144.here hx rfl (D d8_532) rfl rfl (st2153 _ (XS.dconst1 X2153.here hx rfl (D d8_536) rfl ?_)))
    exact kt
  obtain ⟨_, _, ⟨T2155, L2155, k2155, n2155⟩, -, X2155, ⟨Lc2155, hQ2155, l2155, y2155, z2155⟩, st2155⟩ := Jvm.LawKit.callS X2153 hx (y := (⟨"java/util/Arrays", "fill", "([DD)V"⟩ : MethodName)) hown (mvT hZ (own_wk hw 135 rfl)) (mvT hZ (own_wk hw 136 rfl)) (mvT hZ (own_wk hw 125 rfl)) (mvT hZ (own_wk hw 137 rfl)) (by decide) (backOf (W := 0) (rm16 l Z ag hw [] b2131 (4607182418800017408 : UInt64) _ _ h2144 n0 (Nat.le_trans Z0 kp2152.1) x2151 ge_b2131) hZ (own_wk hw 137 rfl) (own_wk hw 125 rfl) (by decide) (by decide)) (g := (mkF m 537 (own_loc73 a0 b1492 b1538 r2017 sl1890) [(.double (4607182418800017408 : UInt64)), (.ref b2131)])) rfl (by rw [hml]; rfl) (argsL := [(.ref b2131), (.double (4607182418800017408 : UInt64))]) (rest := []) (lenOf pd_11 rfl) rfl (by show 2 * 0 + _ ≤ _; exact Nat.le_of_eq rfl) (D d8_537) (fun _ _ => ⟨rfl, e2153, (by decide : 12 + 0 ≤ _), (by decide : 23 + 0 ≤ _)⟩)
  dsimp only [Pt.U, Pt.locs, Pt.cells, Pt.slots] at X2155 l2155 y2155 z2155 st2155 hQ2155
  subst l2155 y2155 z2155
  obtain ⟨rfl, N2155q, K2155, o2155_0⟩ := hQ2155
  have N2155 := Fr.app N2144 N2155q
  have x2156 := x2145.keep K2155
  have x2157 := x2146.keep K2155 (ninS ne2133 nin0)
  have x2158 := x2147.keep K2155 (ninS ne2134 nin0)
  have x2159 := x2148.keep K2155 (ninS ne2135 nin0)
  have x2160 := x2149.keep K2155 (ninS ne2136 nin0)
  have x2161 := x2150.keep K2155
  have x2162 := Ob2144.keep K2155 (ninS ne2132 nin0)
  have kp2163 : Keep h0 T2155.heap [a0] := kp2152.trans K2155 (allS (Or.inr gs_b2131) all0)
  obtain ⟨T2164, X2164, e2164, st2164⟩ := own_gf X2155 hx hZ hown (own_wk hw 81 rfl) rfl x2162 24 rfl rfl (g := (mkF m 546 (own_loc69 a0 b1492 b1538 r2017 sl1890) [(.ref a0), .int 0])) rfl rfl (D d8_546)
  obtain ⟨T2165, X2165, e2165, st2165⟩ := own_gf X2164 hx hZ hown (own_wk hw 13 rfl) e2164 x2162 1 rfl rfl (g := (mkF m 553 (own_loc69 a0 b1492 b1538 r2017 sl1890) [(.ref a0)])) rfl rfl (D d8_553)
  obtain ⟨T2166, X2166, e2166, st2166⟩ := own_gf X2165 hx hZ hown (own_wk hw 35 rfl) e2165 x2162 12 rfl rfl (g := (mkF m 557 (own_loc69 a0 b1492 b1538 r2017 sl1890) [(.ref a0), (.ref ug)])) rfl rfl (D d8_557)
  obtain ⟨T2169, h2169, L2169, X2169, e2169, sz2169, N2169, kp2169, x2186, x2187, x2188, x2189, x2190, x2191, x2192, x2193, st2169⟩ : ∃ (T2169 : State) (h2169 : Heap) (L2169 : List Loc), (Stand p l e ({ frames := 2, cells := 12, slots := 23, locals := 35 } : Room) s m #[(.ref a0)] below meth c T2169 L2169 12 23) ∧ (T2169.heap = h2169) ∧ (n0 ≤ h2169.size) ∧ (Fr n0 L2169) ∧ (Keep h0 h2169 [a0]) ∧ (Exa Z h2169 a0 own_K) ∧ (Arv Z h2169 b1908 k1908 (.array .double) (2 : Int32) [(.ref b1908_0), (.ref b1908_1)] .null) ∧ (Arv Z h2169 b1908_0 kc1908 .double (2 : Int32) [(.double n00), (.double n01)] (.double (0 : UInt64))) ∧ (Arv Z h2169 b1908_1 kc1908 .double (2 : Int32) [(.double n10), (.double n11)] (.double (0 : UInt64))) ∧ (Arv Z h2169 b2047 k2047 .double (2 : Int32) [(.double (0 : UInt64)), (.double (0 : UInt64))] (.double (0 : UInt64))) ∧ (Exa Z h2169 b2131 "[D") ∧ (own_fs own_K own_N Z h2169 a0 [(.ref uc), (.ref ug), w_positionOf, (.ref uf), (.ref ue), w_entryRooms, (.ref ur), (.ref uv), (.ref ub), w_slacks, (.ref uk), (.ref b2131), (.ref uh), (.ref b1908), (.ref b2047), w_groupDualPass, w_groupDualValues, w_rates, w_rated, w_ratedGroups, w_started, (.int (1 : Int32)), w_variableCount, w_entriesUsed, (.int (2 : Int32)), w_objective, w_pivotsSinceInversion]) ∧ (Arv Z h2169 b2131 k2131 .double (1 : Int32) [(.double (4607182418800017408 : UInt64))] (.double (0 : UInt64))) ∧ (∀ target, Steps p.tables e below (T2169.setTop (mkF m 588 (own_loc74 a0 b1492 b1538 r2017 g0 sl1890) [])) target → Steps p.tables e below (T2166.setTop (mkF m 568 (own_loc74 a0 b1492 b1538 r2017 g0 sl1890) [(.int g0)])) target) := by
    by_cases hc2170 : g0 < (0 : Int32)
    · refine ⟨T2166, T2155.heap, _, X2166, e2166, (Nat.le_trans Z0 kp2163.1), N2155, kp2163, x2156, x2157, x2158, x2159, x2160, x2161, x2162, o2155_0, fun target kt => ?_⟩
      show own_S p e below T2166 (mkF m 568 (own_loc74 a0 b1492 b1538 r2017 g0 sl1890) [(.int g0)]) _
      refine XS.ifYes X2166.here hx rfl (pc0 := 568) (pc' := 588) rfl (D d8_568) rfl ((if0 _ _).trans (tlt hc2170).1) (by decide) (by decide) ?_
      exact kt
    · have sg2171 : ∀ target, Steps p.tables e below (T2166.setTop (mkF m 571 (own_loc75 a0 b1492 b1538 r2017 sl1890) [])) target → Steps p.tables e below (T2166.setTop (mkF m 571 (own_loc74 a0 b1492 b1538 r2017 g0 sl1890) [])) target := by rw [hgz0 hc2170]; exact fun _ k => k
      obtain ⟨T2172, X2172, e2172, st2172⟩ := own_gf X2166 hx hZ hown (own_wk hw 33 rfl) e2166 x2162 11 rfl rfl (g := (mkF m 572 (own_loc75 a0 b1492 b1538 r2017 sl1890) [(.ref a0)])) rfl rfl (D d8_572)
      obtain ⟨T2174, X2174, e2174, st2174⟩ := own_gf X2172 hx hZ hown (own_wk hw 41 rfl) e2172 x2162 14 rfl rfl (g := (mkF m 580 (own_loc75 a0 b1492 b1538 r2017 sl1890) [(.ref a0), (.double (4607182418800017408 : UInt64)), .int 0, (.ref b2131)])) rfl rfl (D d8_580)
      obtain ⟨T2176, h2176, X2176, e2176, W2176, V2176, st2176⟩ := own_stD X2174 hx hZ e2174 o2155_0 (j := (0 : Int32)) ⟨(by decide), (by decide)⟩ 0 rfl (Nat.le_of_ble_eq_true rfl) (vs' := [(.double (4607182418800017408 : UInt64))]) rfl (g := (mkF m 587 (own_loc75 a0 b1492 b1538 r2017 sl1890) [(.double (4607182418800017408 : UInt64)), .int 0, (.ref b2131)])) rfl rfl (D d8_587)
      have x2177 := x2156.wr W2176
      have x2178 := x2157.other W2176 ne2133
      have x2179 := x2158.other W2176 ne2134
      have x2180 := x2159.other W2176 ne2135
      have x2181 := x2160.other W2176 ne2136
      have x2182 := x2161.wr W2176
      have x2183 := x2162.other W2176 ne2132
      have kp2184 : Keep h0 h2176 [a0] := kp2163.wr W2176 (Or.inr gs_b2131)
      have N2176 := Fr.snoc X2176 N2155 ge_b2131
      have sg2185 : ∀ target, Steps p.tables e below (T2176.setTop (mkF m 588 (own_loc74 a0 b1492 b1538 r2017 g0 sl1890) [])) target → Steps p.tables e below (T2176.setTop (mkF m 588 (own_loc75 a0 b1492 b1538 r2017 sl1890) [])) target := by rw [hgz0 hc2170]; exact fun _ k => k
      refine ⟨T2176, h2176, _, X2176, e2176, (Nat.le_trans Z0 kp2184.1), N2176, kp2184, x2177, x2178, x2179, x2180, x2181, x2182, x2183, V2176, fun target kt => ?_⟩
      show own_S p e below T2166 (mkF m 568 (own_loc74 a0 b1492 b1538 r2017 g0 sl1890) [(.int g0)]) _
      refine XS.ifNo X2166.here hx rfl (D d8_568) rfl ((if0 _ _).trans (flt hc2170).1) (sg2171 _ (XS.aloadN X2166.here hx rfl (D d8_571) rfl rfl (st2172 _ (XS.iload X2172.here hx rfl (D d8_575) rfl (Jvm.Free.XT.dup2 X2172.here hx rfl (D d8_577) rfl rfl rfl (own_ldD X2172 hx hZ e2172 o2155_0 (j := (0 : Int32)) ⟨(by decide), (by decide)⟩ (v := (.double (4607182418800017408 : UInt64))) rfl rfl rfl (D d8_578) (XS.aloadN X2172.here hx rfl (D d8_579) rfl rfl (st2174 _ (XS.iload X2174.here hx rfl (D d8_583) rfl ?_)))))))))
      refine own_ldD X2174 hx hZ e2174 x2160 (j := (0 : Int32)) ⟨(by decide), (by decide)⟩ (v := (.double (0 : UInt64))) rfl rfl rfl (D d8_585) (XS.dsubS X2174.here hx rfl (D d8_586) rfl (own_nsub own_w1 own_w0.nn) (own_subz own_w1 own_dz0) (st2176 _ (sg2185 _ ?_)))
      exact kt
  obtain ⟨T2194, X2194, e2194, st2194⟩ := own_gf X2169 hx hZ hown (own_wk hw 81 rfl) e2169 x2192 24 rfl rfl (g := (mkF m 546 (own_loc76 a0 b1492 b1538 r2017 g0 sl1890) [(.ref a0), .int 1])) rfl rfl (D d8_546)
  obtain ⟨T2195, X2195, e2195, st2195⟩ := own_gf X2194 hx hZ hown (own_wk hw 13 rfl) e2194 x2192 1 rfl rfl (g := (mkF m 553 (own_loc76 a0 b1492 b1538 r2017 g0 sl1890) [(.ref a0)])) rfl rfl (D d8_553)
  obtain ⟨T2196, X2196, e2196, st2196⟩ := own_gf X2195 hx hZ hown (own_wk hw 35 rfl) e2195 x2192 12 rfl rfl (g := (mkF m 557 (own_loc76 a0 b1492 b1538 r2017 g0 sl1890) [(.ref a0), (.ref ug)])) rfl rfl (D d8_557)
  obtain ⟨T2199, h2199, L2199, X2199, e2199, sz2199, N2199, kp2199, x2216, x2217, x2218, x2219, x2220, x2221, x2222, x2223, st2199⟩ : ∃ (T2199 : State) (h2199 : Heap) (L2199 : List Loc), (Stand p l e ({ frames := 2, cells := 12, slots := 23, locals := 35 } : Room) s m #[(.ref a0)] below meth c T2199 L2199 12 23) ∧ (T2199.heap = h2199) ∧ (n0 ≤ h2199.size) ∧ (Fr n0 L2199) ∧ (Keep h0 h2199 [a0]) ∧ (Exa Z h2199 a0 own_K) ∧ (Arv Z h2199 b1908 k1908 (.array .double) (2 : Int32) [(.ref b1908_0), (.ref b1908_1)] .null) ∧ (Arv Z h2199 b1908_0 kc1908 .double (2 : Int32) [(.double n00), (.double n01)] (.double (0 : UInt64))) ∧ (Arv Z h2199 b1908_1 kc1908 .double (2 : Int32) [(.double n10), (.double n11)] (.double (0 : UInt64))) ∧ (Arv Z h2199 b2047 k2047 .double (2 : Int32) [(.double (0 : UInt64)), (.double (0 : UInt64))] (.double (0 : UInt64))) ∧ (Exa Z h2199 b2131 "[D") ∧ (own_fs own_K own_N Z h2199 a0 [(.ref uc), (.ref ug), w_positionOf, (.ref uf), (.ref ue), w_entryRooms, (.ref ur), (.ref uv), (.ref ub), w_slacks, (.ref uk), (.ref b2131), (.ref uh), (.ref b1908), (.ref b2047), w_groupDualPass, w_groupDualValues, w_rates, w_rated, w_ratedGroups, w_started, (.int (1 : Int32)), w_variableCount, w_entriesUsed, (.int (2 : Int32)), w_objective, w_pivotsSinceInversion]) ∧ (Arv Z h2199 b2131 k2131 .double (1 : Int32) [(.double (4607182418800017408 : UInt64))] (.double (0 : UInt64))) ∧ (∀ target, Steps p.tables e below (T2199.setTop (mkF m 588 (own_loc77 a0 b1492 b1538 r2017 g1 sl1890) [])) target → Steps p.tables e below (T2196.setTop (mkF m 568 (own_loc77 a0 b1492 b1538 r2017 g1 sl1890) [(.int g1)])) target) := by
    by_cases hc2200 : g1 < (0 : Int32)
    · refine ⟨T2196, h2169, _, X2196, e2196, sz2169, N2169, kp2169, x2186, x2187, x2188, x2189, x2190, x2191, x2192, x2193, fun target kt => ?_⟩
      show own_S p e below T2196 (mkF m 568 (own_loc77 a0 b1492 b1538 r2017 g1 sl1890) [(.int g1)]) _
      refine XS.ifYes X2196.here hx rfl (pc0 := 568) (pc' := 588) rfl (D d8_568) rfl ((if0 _ _).trans (tlt hc2200).1) (by decide) (by decide) ?_
      exact kt
    · have sg2201 : ∀ target, Steps p.tables e below (T2196.setTop (mkF m 571 (own_loc78 a0 b1492 b1538 r2017 sl1890) [])) target → Steps p.tables e below (T2196.setTop (mkF m 571 (own_loc77 a0 b1492 b1538 r2017 g1 sl1890) [])) target := by rw [hgz1 hc2200]; exact fun _ k => k
      obtain ⟨T2202, X2202, e2202, st2202⟩ := own_gf X2196 hx hZ hown (own_wk hw 33 rfl) e2196 x2192 11 rfl rfl (g := (mkF m 572 (own_loc78 a0 b1492 b1538 r2017 sl1890) [(.ref a0)])) rfl rfl (D d8_572)
      obtain ⟨T2204, X2204, e2204, st2204⟩ := own_gf X2202 hx hZ hown (own_wk hw 41 rfl) e2202 x2192 14 rfl rfl (g := (mkF m 580 (own_loc78 a0 b1492 b1538 r2017 sl1890) [(.ref a0), (.double (4607182418800017408 : UInt64)), .int 0, (.ref b2131)])) rfl rfl (D d8_580)
      obtain ⟨T2206, h2206, X2206, e2206, W2206, V2206, st2206⟩ := own_stD X2204 hx hZ e2204 x2193 (j := (0 : Int32)) ⟨(by decide), (by decide)⟩ 0 rfl (Nat.le_of_ble_eq_true rfl) (vs' := [(.double (4607182418800017408 : UInt64))]) rfl (g := (mkF m 587 (own_loc78 a0 b1492 b1538 r2017 sl1890) [(.double (4607182418800017408 : UInt64)), .int 0, (.ref b2131)])) rfl rfl (D d8_587)
      have x2207 := x2186.wr W2206
      have x2208 := x2187.other W2206 ne2133
      have x2209 := x2188.other W2206 ne2134
      have x2210 := x2189.other W2206 ne2135
      have x2211 := x2190.other W2206 ne2136
      have x2212 := x2191.wr W2206
      have x2213 := x2192.other W2206 ne2132
      have kp2214 : Keep h0 h2206 [a0] := kp2169.wr W2206 (Or.inr gs_b2131)
      have N2206 := Fr.snoc X2206 N2169 ge_b2131
      have sg2215 : ∀ target, Steps p.tables e below (T2206.setTop (mkF m 588 (own_loc77 a0 b1492 b1538 r2017 g1 sl1890) [])) target → Steps p.tables e below (T2206.setTop (mkF m 588 (own_loc78 a0 b1492 b1538 r2017 sl1890) [])) target := by rw [hgz1 hc2200]; exact fun _ k => k
      refine ⟨T2206, h2206, _, X2206, e2206, (Nat.le_trans Z0 kp2214.1), N2206, kp2214, x2207, x2208, x2209, x2210, x2211, x2212, x2213, V2206, fun target kt => ?_⟩
      show own_S p e below T2196 (mkF m 568 (own_loc77 a0 b1492 b1538 r2017 g1 sl1890) [(.int g1)]) _
      refine XS.ifNo X2196.here hx rfl (D d8_568) rfl ((if0 _ _).trans (flt hc2200).1) (sg2201 _ (XS.aloadN X2196.here hx rfl (D d8_571) rfl rfl (st2202 _ (XS.iload X2202.here hx rfl (D d8_575) rfl (Jvm.Free.XT.dup2 X2202.here hx rfl (D d8_577) rfl rfl rfl (own_ldD X2202 hx hZ e2202 x2193 (j := (0 : Int32)) ⟨(by decide), (by decide)⟩ (v := (.double (4607182418800017408 : UInt64))) rfl rfl rfl (D d8_578) (XS.aloadN X2202.here hx rfl (D d8_579) rfl rfl (st2204 _ (XS.iload X2204.here hx rfl (D d8_583) rfl ?_)))))))))
      refine own_ldD X2204 hx hZ e2204 x2190 (j := (1 : Int32)) ⟨(by decide), (by decide)⟩ (v := (.double (0 : UInt64))) rfl rfl rfl (D d8_585) (XS.dsubS X2204.here hx rfl (D d8_586) rfl (own_nsub own_w1 own_w0.nn) (own_subz own_w1 own_dz0) (st2206 _ (sg2215 _ ?_)))
      exact kt
  obtain ⟨T2224, X2224, e2224, st2224⟩ := own_gf X2199 hx hZ hown (own_wk hw 81 rfl) e2199 x2222 24 rfl rfl (g := (mkF m 546 (own_loc79 a0 b1492 b1538 r2017 g1 sl1890) [(.ref a0), .int 2])) rfl rfl (D d8_546)
  obtain ⟨T2225, h2225, X2225, e2225, W2225, st2225⟩ := putF X2224 hx hZ hown (host := "") (Or.inl (own_wk hw 138 rfl)) Via.refl e2224 (x2222.get 25 rfl rfl : Fld Z h2199 a0 own_K "objective" "D" w_objective) x2216 (Or.inl (own_wk hw 139 rfl)) (own_wk hw 1 rfl) (ty := .double) (by decide) rfl rfl (g := (mkF m 596 (own_loc79 a0 b1492 b1538 r2017 g1 sl1890) [(.double (0 : UInt64)), (.ref a0)])) rfl rfl (D d8_596)
  have Ob2225 := x2222.put (own_layw hw) 25 rfl W2225
  have x2226 := x2216.wr W2225
  have x2227 := x2217.other W2225 (Ne.symm ne1918)
  have x2228 := x2218.other W2225 (Ne.symm ne1909)
  have x2229 := x2219.other W2225 (Ne.symm ne1913)
  have x2230 := x2220.other W2225 (Ne.symm ne2048)
  have x2231 := x2221.wr W2225
  have x2232 := x2223.other W2225 (Ne.symm ne2132)
  have kp2233 : Keep h0 h2225 [a0] := kp2199.wr W2225 (Or.inl (List.mem_of_getElem? (i := 0) rfl))
  have N2225 := Fr.snoc X2225 N2199 ge_a0
  obtain ⟨T2234, X2234, e2234, st2234⟩ := own_gf X2225 hx hZ hown (own_wk hw 81 rfl) e2225 Ob2225 24 rfl rfl (g := (mkF m 605 (own_loc80 a0 b1492 b1538 r2017 g1 sl1890) [(.ref a0), .int 0])) rfl rfl (D d8_605)
  obtain ⟨T2235, X2235, e2235, st2235⟩ := own_gf X2234 hx hZ hown (own_wk hw 138 rfl) e2234 Ob2225 25 rfl rfl (g := (mkF m 613 (own_loc80 a0 b1492 b1538 r2017 g1 sl1890) [(.ref a0), (.ref a0)])) rfl rfl (D d8_613)
  obtain ⟨T2236, X2236, e2236, st2236⟩ := own_gf X2235 hx hZ hown (own_wk hw 10 rfl) e2235 Ob2225 0 rfl rfl (g := (mkF m 617 (own_loc80 a0 b1492 b1538 r2017 g1 sl1890) [(.ref a0), (.double (0 : UInt64)), (.ref a0)])) rfl rfl (D d8_617)
  obtain ⟨T2237, X2237, e2237, st2237⟩ := own_gf X2236 hx hZ hown (own_wk hw 35 rfl) e2236 Ob2225 12 rfl rfl (g := (mkF m 621 (own_loc80 a0 b1492 b1538 r2017 g1 sl1890) [(.ref a0), (.ref uc), (.double (0 : UInt64)), (.ref a0)])) rfl rfl (D d8_621)
  obtain ⟨T2240, X2240, e2240, st2240⟩ := own_gf X2237 hx hZ hown (own_wk hw 41 rfl) e2237 Ob2225 14 rfl rfl (g := (mkF m 629 (own_loc80 a0 b1492 b1538 r2017 g1 sl1890) [(.ref a0), (.double q0), (.double (0 : UInt64)), (.ref a0)])) rfl rfl (D d8_629)
  obtain ⟨T2242, h2242, X2242, e2242, W2242, st2242⟩ := putF X2240 hx hZ hown (host := "") (Or.inl (own_wk hw 138 rfl)) Via.refl e2240 (Ob2225.get 25 rfl rfl : Fld Z h2225 a0 own_K "objective" "D" (.double (0 : UInt64))) x2226 (Or.inl (own_wk hw 139 rfl)) (own_wk hw 1 rfl) (ty := .double) (by decide) rfl rfl (g := (mkF m 637 (own_loc80 a0 b1492 b1538 r2017 g1 sl1890) [(.double (0 : UInt64)), (.ref a0)])) rfl rfl (D d8_637)
  have Ob2242 : own_fs own_K own_N Z h2242 a0 [(.ref uc), (.ref ug), w_positionOf, (.ref uf), (.ref ue), w_entryRooms, (.ref ur), (.ref uv), (.ref ub), w_slacks, (.ref uk), (.ref b2131), (.ref uh), (.ref b1908), (.ref b2047), w_groupDualPass, w_groupDualValues, w_rates, w_rated, w_ratedGroups, w_started, (.int (1 : Int32)), w_variableCount, w_entriesUsed, (.int (2 : Int32)), (.double (0 : UInt64)), w_pivotsSinceInversion] := Ob2225.put (own_layw hw) 25 rfl W2242
  have x2243 := x2226.wr W2242
  have x2244 := x2227.other W2242 (Ne.symm ne1918)
  have x2245 := x2228.other W2242 (Ne.symm ne1909)
  have x2246 := x2229.other W2242 (Ne.symm ne1913)
  have x2247 := x2230.other W2242 (Ne.symm ne2048)
  have x2248 := x2231.wr W2242
  have x2249 := x2232.other W2242 (Ne.symm ne2132)
  have kp2250 : Keep h0 h2242 [a0] := kp2233.wr W2242 (Or.inl (List.mem_of_getElem? (i := 0) rfl))
  have N2242 := Fr.snoc X2242 N2225 ge_a0
  obtain ⟨T2251, X2251, e2251, st2251⟩ := own_gf X2242 hx hZ hown (own_wk hw 81 rfl) e2242 Ob2242 24 rfl rfl (g := (mkF m 605 (own_loc77 a0 b1492 b1538 r2017 g1 sl1890) [(.ref a0), .int 1])) rfl rfl (D d8_605)
  obtain ⟨T2252, X2252, e2252, st2252⟩ := own_gf X2251 hx hZ hown (own_wk hw 138 rfl) e2251 Ob2242 25 rfl rfl (g := (mkF m 613 (own_loc77 a0 b1492 b1538 r2017 g1 sl1890) [(.ref a0), (.ref a0)])) rfl rfl (D d8_613)
  obtain ⟨T2253, X2253, e2253, st2253⟩ := own_gf X2252 hx hZ hown (own_wk hw 10 rfl) e2252 Ob2242 0 rfl rfl (g := (mkF m 617 (own_loc77 a0 b1492 b1538 r2017 g1 sl1890) [(.ref a0), (.double (0 : UInt64)), (.ref a0)])) rfl rfl (D d8_617)
  obtain ⟨T2254, X2254, e2254, st2254⟩ := own_gf X2253 hx hZ hown (own_wk hw 35 rfl) e2253 Ob2242 12 rfl rfl (g := (mkF m 621 (own_loc77 a0 b1492 b1538 r2017 g1 sl1890) [(.ref a0), (.ref uc), (.double (0 : UInt64)), (.ref a0)])) rfl rfl (D d8_621)
  obtain ⟨T2257, X2257, e2257, st2257⟩ := own_gf X2254 hx hZ hown (own_wk hw 41 rfl) e2254 Ob2242 14 rfl rfl (g := (mkF m 629 (own_loc77 a0 b1492 b1538 r2017 g1 sl1890) [(.ref a0), (.double q1), (.double (0 : UInt64)), (.ref a0)])) rfl rfl (D d8_629)
  obtain ⟨T2259, h2259, X2259, e2259, W2259, st2259⟩ := putF X2257 hx hZ hown (host := "") (Or.inl (own_wk hw 138 rfl)) Via.refl e2257 (Ob2242.get 25 rfl rfl : Fld Z h2242 a0 own_K "objective" "D" (.double (0 : UInt64))) x2243 (Or.inl (own_wk hw 139 rfl)) (own_wk hw 1 rfl) (ty := .double) (by decide) rfl rfl (g := (mkF m 637 (own_loc77 a0 b1492 b1538 r2017 g1 sl1890) [(.double (0 : UInt64)), (.ref a0)])) rfl rfl (D d8_637)
  have Ob2259 := Ob2242.put (own_layw hw) 25 rfl W2259
  have x2260 := x2243.wr W2259
  have x2261 := x2244.other W2259 (Ne.symm ne1918)
  have x2262 := x2245.other W2259 (Ne.symm ne1909)
  have x2263 := x2246.other W2259 (Ne.symm ne1913)
  have x2264 := x2247.other W2259 (Ne.symm ne2048)
  have x2265 := x2248.wr W2259
  have x2266 := x2249.other W2259 (Ne.symm ne2132)
  have kp2267 : Keep h0 h2259 [a0] := kp2250.wr W2259 (Or.inl (List.mem_of_getElem? (i := 0) rfl))
  have N2259 := Fr.snoc X2259 N2242 ge_a0
  obtain ⟨T2268, X2268, e2268, st2268⟩ := own_gf X2259 hx hZ hown (own_wk hw 81 rfl) e2259 Ob2259 24 rfl rfl (g := (mkF m 605 (own_loc79 a0 b1492 b1538 r2017 g1 sl1890) [(.ref a0), .int 2])) rfl rfl (D d8_605)
  obtain ⟨T2269, X2269, e2269, st2269⟩ := own_gf X2268 hx hZ hown (own_wk hw 61 rfl) e2268 Ob2259 21 rfl rfl (g := (mkF m 652 (own_loc80 a0 b1492 b1538 r2017 g1 sl1890) [(.ref a0), .int 0])) rfl rfl (D d8_652)
  obtain ⟨T2270, X2270, e2270, st2270⟩ := own_gf X2269 hx hZ hown (own_wk hw 138 rfl) e2269 Ob2259 25 rfl rfl (g := (mkF m 660 (own_loc80 a0 b1492 b1538 r2017 g1 sl1890) [(.ref a0), (.ref a0)])) rfl rfl (D d8_660)
  obtain ⟨T2271, X2271, e2271, st2271⟩ := own_gf X2270 hx hZ hown (own_wk hw 10 rfl) e2270 Ob2259 0 rfl rfl (g := (mkF m 664 (own_loc80 a0 b1492 b1538 r2017 g1 sl1890) [(.ref a0), (.double (0 : UInt64)), (.ref a0)])) rfl rfl (D d8_664)
  obtain ⟨T2272, X2272, e2272, st2272⟩ := own_gf X2271 hx hZ hown (own_wk hw 31 rfl) e2271 Ob2259 10 rfl rfl (g := (mkF m 668 (own_loc80 a0 b1492 b1538 r2017 g1 sl1890) [(.ref a0), (.ref uc), (.double (0 : UInt64)), (.ref a0)])) rfl rfl (D d8_668)
  obtain ⟨T2275, X2275, e2275, st2275⟩ := own_gf X2272 hx hZ hown (own_wk hw 33 rfl) e2272 Ob2259 11 rfl rfl (g := (mkF m 676 (own_loc80 a0 b1492 b1538 r2017 g1 sl1890) [(.ref a0), (.double ck), (.double (0 : UInt64)), (.ref a0)])) rfl rfl (D d8_676)
  obtain ⟨T2277, h2277, X2277, e2277, W2277, st2277⟩ := putF X2275 hx hZ hown (host := "") (Or.inl (own_wk hw 138 rfl)) Via.refl e2275 (Ob2259.get 25 rfl rfl : Fld Z h2259 a0 own_K "objective" "D" (.double (0 : UInt64))) x2260 (Or.inl (own_wk hw 139 rfl)) (own_wk hw 1 rfl) (ty := .double) (by decide) rfl rfl (g := (mkF m 684 (own_loc80 a0 b1492 b1538 r2017 g1 sl1890) [(.double ck), (.ref a0)])) rfl rfl (D d8_684)
  have Ob2277 := Ob2259.put (own_layw hw) 25 rfl W2277
  have x2278 := x2260.wr W2277
  have x2279 := x2261.other W2277 (Ne.symm ne1918)
  have x2280 := x2262.other W2277 (Ne.symm ne1909)
  have x2281 := x2263.other W2277 (Ne.symm ne1913)
  have x2282 := x2264.other W2277 (Ne.symm ne2048)
  have x2283 := x2265.wr W2277
  have x2284 := x2266.other W2277 (Ne.symm ne2132)
  have kp2285 : Keep h0 h2277 [a0] := kp2267.wr W2277 (Or.inl (List.mem_of_getElem? (i := 0) rfl))
  have N2277 := Fr.snoc X2277 N2259 ge_a0
  obtain ⟨T2286, X2286, e2286, st2286⟩ := own_gf X2277 hx hZ hown (own_wk hw 61 rfl) e2277 Ob2277 21 rfl rfl (g := (mkF m 652 (own_loc77 a0 b1492 b1538 r2017 g1 sl1890) [(.ref a0), .int 1])) rfl rfl (D d8_652)
  obtain ⟨T2287, h2287, X2287, e2287, W2287, st2287⟩ := putF X2286 hx hZ hown (host := "") (Or.inl (own_wk hw 140 rfl)) Via.refl e2286 (Ob2277.get 26 rfl rfl : Fld Z h2277 a0 own_K "pivotsSinceInversion" "I" w_pivotsSinceInversion) x2278 (Or.inl (own_wk hw 141 rfl)) (own_wk hw 1 rfl) (ty := .int) (by decide) rfl rfl (g := (mkF m 695 (own_loc77 a0 b1492 b1538 r2017 g1 sl1890) [.int 0, (.ref a0)])) rfl rfl (D d8_695)
  have Ob2287 := Ob2277.put (own_layw hw) 26 rfl W2287
  have x2288 := x2278.wr W2287
  have x2289 := x2279.other W2287 (Ne.symm ne1918)
  have x2290 := x2280.other W2287 (Ne.symm ne1909)
  have x2291 := x2281.other W2287 (Ne.symm ne1913)
  have x2292 := x2282.other W2287 (Ne.symm ne2048)
  have x2293 := x2283.wr W2287
  have x2294 := x2284.other W2287 (Ne.symm ne2132)
  have kp2295 : Keep h0 h2287 [a0] := kp2285.wr W2287 (Or.inl (List.mem_of_getElem? (i := 0) rfl))
  have N2287 := Fr.snoc X2287 N2277 ge_a0
  obtain ⟨fs, hr, hrun, hended, hW, hsame⟩ := X2287.leave (v := none) (fun _ => rfl)
  refine ⟨_, _, pre0 _ ?_, hrun, hended, _, _, rfl, ?_, ⟨_, rfl⟩, hW, hsame.mono (by decide) (by decide)⟩
  · show own_S p e below s₁ (mkF m 0 #[.val (.ref a0), .unset, .unset, .unset, .unset, .unset, .unset, .unset, .unset, .unset, .unset] []) _
    refine cp2154 _ (st2155 _ (XS.iconst X2155.here hx rfl (D d8_540) (XS.istore X2155.here hx rfl (D d8_541) rfl (l' := (own_loc69 a0 b1492 b1538 r2017 sl1890)) rfl (XS.iload X2155.here hx rfl (D d8_543) rfl (XS.aloadN X2155.here hx rfl (D d8_545) rfl rfl (st2164 _ (XS.icmpNo X2164.here hx rfl (D d8_549) rfl (tlt (by decide : (0 : Int32) < (2 : Int32))).2.1 (XS.aloadN X2164.here hx rfl (D d8_552) rfl rfl (st2165 _ ?_)))))))))
    refine XS.aloadN X2165.here hx rfl (D d8_556) rfl rfl (st2166 _ (XS.iload X2166.here hx rfl (D d8_560) rfl (own_ldI X2166 hx hZ e2166 (V_uh.keep kp2163 (ninS (Ne.symm ne_a0_uh) nin0)) (j := (0 : Int32)) ⟨(by decide), (by decide)⟩ (v := (.int hd0)) rfl rfl rfl (D d8_562) (own_ldI X2166 hx hZ e2166 (V_ug.keep kp2163 (ninS (Ne.symm ne_a0_ug) nin0)) (j := hd0) hv0 (v := (.int g0)) hg0 rfl rfl (D d8_563) (XS.istore X2166.here hx rfl (D d8_564) rfl (l' := (own_loc74 a0 b1492 b1538 r2017 g0 sl1890)) rfl ?_)))))
    show own_S p e below T2166 (mkF m 566 (own_loc74 a0 b1492 b1538 r2017 g0 sl1890) []) _
    refine XS.iload X2166.here hx rfl (D d8_566) rfl (st2169 _ (XS.iinc X2169.here hx rfl (D d8_588) rfl (l' := (own_loc76 a0 b1492 b1538 r2017 g0 sl1890)) rfl (XS.goto X2169.here hx rfl (pc0 := 591) (pc' := 543) rfl (D d8_591) (by decide) (by decide) (XS.iload X2169.here hx rfl (D d8_543) rfl (XS.aloadN X2169.here hx rfl (D d8_545) rfl rfl (st2194 _ (XS.icmpNo X2194.here hx rfl (D d8_549) rfl (tlt (by decide : (1 : Int32) < (2 : Int32))).2.1 (XS.aloadN X2194.here hx rfl (D d8_552) rfl rfl (st2195 _ ?_)))))))))
    refine XS.aloadN X2195.here hx rfl (D d8_556) rfl rfl (st2196 _ (XS.iload X2196.here hx rfl (D d8_560) rfl (own_ldI X2196 hx hZ e2196 (V_uh.keep kp2169 (ninS (Ne.symm ne_a0_uh) nin0)) (j := (1 : Int32)) ⟨(by decide), (by decide)⟩ (v := (.int hd1)) rfl rfl rfl (D d8_562) (own_ldI X2196 hx hZ e2196 (V_ug.keep kp2169 (ninS (Ne.symm ne_a0_ug) nin0)) (j := hd1) hv1 (v := (.int g1)) hg1 rfl rfl (D d8_563) (XS.istore X2196.here hx rfl (D d8_564) rfl (l' := (own_loc77 a0 b1492 b1538 r2017 g1 sl1890)) rfl ?_)))))
    show own_S p e below T2196 (mkF m 566 (own_loc77 a0 b1492 b1538 r2017 g1 sl1890) []) _
    refine XS.iload X2196.here hx rfl (D d8_566) rfl (st2199 _ (XS.iinc X2199.here hx rfl (D d8_588) rfl (l' := (own_loc79 a0 b1492 b1538 r2017 g1 sl1890)) rfl (XS.goto X2199.here hx rfl (pc0 := 591) (pc' := 543) rfl (D d8_591) (by decide) (by decide) (XS.iload X2199.here hx rfl (D d8_543) rfl (XS.aloadN X2199.here hx rfl (D d8_545) rfl rfl (st2224 _ (XS.icmpYes X2224.here hx rfl (pc0 := 549) (pc' := 594) rfl (D d8_549) rfl (flt (by decide : ¬ ((2 : Int32) < (2 : Int32)))).2.1 (by decide) (by decide) (XS.aloadN X2224.here hx rfl (D d8_594) rfl rfl (XS.dconst0 X2224.here hx rfl (D d8_595) rfl ?_)))))))))
    refine st2225 _ (XS.iconst X2225.here hx rfl (D d8_599) (XS.istore X2225.here hx rfl (D d8_600) rfl (l' := (own_loc80 a0 b1492 b1538 r2017 g1 sl1890)) rfl (XS.iload X2225.here hx rfl (D d8_602) rfl (XS.aloadN X2225.here hx rfl (D d8_604) rfl rfl (st2234 _ ?_)))))
    show own_S p e below T2234 (mkF m 608 (own_loc80 a0 b1492 b1538 r2017 g1 sl1890) [.int 2, .int 0]) _
    refine XS.icmpNo X2234.here hx rfl (D d8_608) rfl (tlt (by decide : (0 : Int32) < (2 : Int32))).2.1 (XS.aloadN X2234.here hx rfl (D d8_611) rfl rfl (XS.dup X2234.here hx rfl (D d8_612) rfl rfl (st2235 _ (XS.aloadN X2235.here hx rfl (D d8_616) rfl rfl (st2236 _ (XS.aloadN X2236.here hx rfl (D d8_620) rfl rfl (st2237 _ (XS.iload X2237.here hx rfl (D d8_624) rfl (own_ldI X2237 hx hZ e2237 (V_uh.keep kp2233 (ninS (Ne.symm ne_a0_uh) nin0)) (j := (0 : Int32)) ⟨(by decide), (by decide)⟩ (v := (.int hd0)) rfl rfl rfl (D d8_626) ?_)))))))))
    refine own_ldD X2237 hx hZ e2237 (V_uc.keep kp2233 (ninS (Ne.symm ne_a0_uc) nin0)) (j := hd0) hv0 (v := (.double q0)) hq0 rfl rfl (D d8_627) (XS.aloadN X2237.here hx rfl (D d8_628) rfl rfl (st2240 _ (XS.iload X2240.here hx rfl (D d8_632) rfl (own_ldD X2240 hx hZ e2240 x2230 (j := (0 : Int32)) ⟨(by decide), (by decide)⟩ (v := (.double (0 : UInt64))) rfl rfl rfl (D d8_634) (XS.dmulS X2240.here hx rfl (D d8_635) rfl (own_nmul hwq0 own_w0) rfl ?_)))))
    show own_S p e below T2240 (mkF m 636 (own_loc80 a0 b1492 b1538 r2017 g1 sl1890) [(.double (FP.dmul q0 (0 : UInt64))), (.double (0 : UInt64)), (.ref a0)]) _
    refine XS.daddS X2240.here hx rfl (D d8_636) rfl (own_nadd own_w0 (own_nmul hwq0 own_w0)) (own_az hwq0) (st2242 _ (XS.iinc X2242.here hx rfl (D d8_640) rfl (l' := (own_loc77 a0 b1492 b1538 r2017 g1 sl1890)) rfl (XS.goto X2242.here hx rfl (pc0 := 643) (pc' := 602) rfl (D d8_643) (by decide) (by decide) (XS.iload X2242.here hx rfl (D d8_602) rfl (XS.aloadN X2242.here hx rfl (D d8_604) rfl rfl (st2251 _ (XS.icmpNo X2251.here hx rfl (D d8_608) rfl (tlt (by decide : (1 : Int32) < (2 : Int32))).2.1 (XS.aloadN X2251.here hx rfl (D d8_611) rfl rfl (XS.dup X2251.here hx rfl (D d8_612) rfl rfl ?_)))))))))
    refine st2252 _ (XS.aloadN X2252.here hx rfl (D d8_616) rfl rfl (st2253 _ (XS.aloadN X2253.here hx rfl (D d8_620) rfl rfl (st2254 _ ?_))))
    show own_S p e below T2254 (mkF m 624 (own_loc77 a0 b1492 b1538 r2017 g1 sl1890) [(.ref uh), (.ref uc), (.double (0 : UInt64)), (.ref a0)]) _
    refine XS.iload X2254.here hx rfl (D d8_624) rfl (own_ldI X2254 hx hZ e2254 (V_uh.keep kp2250 (ninS (Ne.symm ne_a0_uh) nin0)) (j := (1 : Int32)) ⟨(by decide), (by decide)⟩ (v := (.int hd1)) rfl rfl rfl (D d8_626) (own_ldD X2254 hx hZ e2254 (V_uc.keep kp2250 (ninS (Ne.symm ne_a0_uc) nin0)) (j := hd1) hv1 (v := (.double q1)) hq1 rfl rfl (D d8_627) (XS.aloadN X2254.here hx rfl (D d8_628) rfl rfl (st2257 _ (XS.iload X2257.here hx rfl (D d8_632) rfl (own_ldD X2257 hx hZ e2257 x2247 (j := (1 : Int32)) ⟨(by decide), (by decide)⟩ (v := (.double (0 : UInt64))) rfl rfl rfl (D d8_634) (XS.dmulS X2257.here hx rfl (D d8_635) rfl (own_nmul hwq1 own_w0) rfl (XS.daddS X2257.here hx rfl (D d8_636) rfl (own_nadd own_w0 (own_nmul hwq1 own_w0)) (own_az hwq1) (st2259 _ ?_)))))))))
    refine XS.iinc X2259.here hx rfl (D d8_640) rfl (l' := (own_loc79 a0 b1492 b1538 r2017 g1 sl1890)) rfl (XS.goto X2259.here hx rfl (pc0 := 643) (pc' := 602) rfl (D d8_643) (by decide) (by decide) (XS.iload X2259.here hx rfl (D d8_602) rfl (XS.aloadN X2259.here hx rfl (D d8_604) rfl rfl (st2268 _ ?_))))
    show own_S p e below T2268 (mkF m 608 (own_loc79 a0 b1492 b1538 r2017 g1 sl1890) [.int 2, .int 2]) _
    refine XS.icmpYes X2268.here hx rfl (pc0 := 608) (pc' := 646) rfl (D d8_608) rfl (flt (by decide : ¬ ((2 : Int32) < (2 : Int32)))).2.1 (by decide) (by decide) (XS.iconst X2268.here hx rfl (D d8_646) (XS.istore X2268.here hx rfl (D d8_647) rfl (l' := (own_loc80 a0 b1492 b1538 r2017 g1 sl1890)) rfl (XS.iload X2268.here hx rfl (D d8_649) rfl (XS.aloadN X2268.here hx rfl (D d8_651) rfl rfl (st2269 _ (XS.icmpNo X2269.here hx rfl (D d8_655) rfl (tlt (by decide : (0 : Int32) < (1 : Int32))).2.1 (XS.aloadN X2269.here hx rfl (D d8_658) rfl rfl (XS.dup X2269.here hx rfl (D d8_659) rfl rfl (st2270 _ ?_)))))))))
    refine XS.aloadN X2270.here hx rfl (D d8_663) rfl rfl (st2271 _ (XS.aloadN X2271.here hx rfl (D d8_667) rfl rfl (st2272 _ ?_)))
    show own_S p e below T2272 (mkF m 671 (own_loc80 a0 b1492 b1538 r2017 g1 sl1890) [(.ref uk), (.ref uc), (.double (0 : UInt64)), (.ref a0)]) _
    refine XS.iload X2272.here hx rfl (D d8_671) rfl (own_ldI X2272 hx hZ e2272 (V_uk.keep kp2267 (ninS (Ne.symm ne_a0_uk) nin0)) (j := (0 : Int32)) ⟨(by decide), (by decide)⟩ (v := (.int (0 : Int32))) rfl rfl rfl (D d8_673) (own_ldD X2272 hx hZ e2272 (V_uc.keep kp2267 (ninS (Ne.symm ne_a0_uc) nin0)) (j := (0 : Int32)) ⟨(by decide), (by decide)⟩ (v := (.double ck)) hck rfl rfl (D d8_674) (XS.aloadN X2272.here hx rfl (D d8_675) rfl rfl (st2275 _ (XS.iload X2275.here hx rfl (D d8_679) rfl (own_ldD X2275 hx hZ e2275 x2266 (j := (0 : Int32)) ⟨(by decide), (by decide)⟩ (v := (.double (4607182418800017408 : UInt64))) rfl rfl rfl (D d8_681) (XS.dmulS X2275.here hx rfl (D d8_682) rfl (own_nmul hwk own_w1) (own_mul1 hwk) (XS.daddS X2275.here hx rfl (D d8_683) rfl (own_nadd own_w0 hwk.nn) (own_0add hwk) (st2277 _ ?_)))))))))
    refine XS.iinc X2277.here hx rfl (D d8_687) rfl (l' := (own_loc77 a0 b1492 b1538 r2017 g1 sl1890)) rfl (XS.goto X2277.here hx rfl (pc0 := 690) (pc' := 649) rfl (D d8_690) (by decide) (by decide) (XS.iload X2277.here hx rfl (D d8_649) rfl (XS.aloadN X2277.here hx rfl (D d8_651) rfl rfl (st2286 _ ?_))))
    show own_S p e below T2286 (mkF m 655 (own_loc77 a0 b1492 b1538 r2017 g1 sl1890) [.int 1, .int 1]) _
    refine XS.icmpYes X2286.here hx rfl (pc0 := 655) (pc' := 693) rfl (D d8_655) rfl (flt (by decide : ¬ ((1 : Int32) < (1 : Int32)))).2.1 (by decide) (by decide) (XS.aloadN X2286.here hx rfl (D d8_693) rfl rfl (XS.iconst X2286.here hx rfl (D d8_694) (st2287 _ ?_)))
    show own_S p e below T2287 (mkF m 698 (own_loc77 a0 b1492 b1538 r2017 g1 sl1890) []) _
    exact X2287.returnOut hx Bd.returns (D d8_698) hr
  · show Q8 Z a0 uc ug w_positionOf uf ue w_entryRooms ur uv ub w_slacks uk w_keyValues uh ui w_values w_groupDualPass w_groupDualValues w_rates w_rated w_ratedGroups w_started w_variableCount w_entriesUsed w_objective w_pivotsSinceInversion kug lg kuf lf kue le kur lr kuv lv kub lb kuc lc kuk kuh hd0 hd1 kui ck n00 n01 n10 n11 h0 n0 _ T2287.heap _
    rw [e2287]
    exact ⟨b2047, b2131, b1908, b1908_0, b1908_1, k2047, k2131, k1908, kc1908, kc1908, rfl, N2287, kp2295, ⟨gs_b2047, gs_b2131, gs_b1908, gs_b1908_0, gs_b1908_1⟩, Ob2287, x2292, x2294, x2289, x2290, x2291⟩
theorem own_l16 {v : Int32} {l : List Value} (h : ¬ v < 0 ∧ v < (16 : Int32)) (q : l.length = 16) : v.toNatClampNeg < l.length := by
  rw [q]
  have h1 := h.1
  have h2 := h.2
  rw [Int32.lt_iff_toInt_lt] at h1 h2
  have e0 : (0 : Int32).toInt = 0 := rfl
  have e1 : (16 : Int32).toInt = 16 := rfl
  have e2 : v.toNatClampNeg = v.toInt.toNat := rfl
  omega
theorem ef_7 (m : MethodId) (a0 : Addr) (a1 : Addr) (a2 : Addr) : entryFrame m #[(.ref a0), (.ref a1), (.ref a2)] 8 = mkF m 0 #[.val (.ref a0), .val (.ref a1), .val (.ref a2), .unset, .unset, .unset, .unset, .unset] [] := by first | (simp [entryFrame, mkF, argsToLocals, Value.category]; done) | rfl
abbrev own_d7 (p : Nat) (i : Instr) (n : Nat) : Prop := decode prog_56_method_9_code p = .ok (i, n)
theorem d7_0 : own_d7 0 (.aload_n 1) 1 := by decide +kernel
theorem d7_1 : own_d7 1 .arraylength 1 := by decide +kernel
theorem d7_2 : own_d7 2 (.aload_n 0) 1 := by decide +kernel
theorem d7_3 : own_d7 3 (.getfield 85) 3 := by decide +kernel
theorem d7_6 : own_d7 6 (.if_icmp .ne 12) 3 := by decide +kernel
theorem d7_9 : own_d7 9 (.aload_n 2) 1 := by decide +kernel
theorem d7_10 : own_d7 10 .arraylength 1 := by decide +kernel
theorem d7_11 : own_d7 11 (.aload_n 0) 1 := by decide +kernel
theorem d7_12 : own_d7 12 (.getfield 121) 3 := by decide +kernel
theorem d7_15 : own_d7 15 (.if_icmp .eq 28) 3 := by decide +kernel
theorem d7_43 : own_d7 43 (.iconst 0) 1 := by decide +kernel
theorem d7_44 : own_d7 44 (.istore_n 3) 1 := by decide +kernel
theorem d7_45 : own_d7 45 (.iload_n 3) 1 := by decide +kernel
theorem d7_46 : own_d7 46 (.aload_n 0) 1 := by decide +kernel
theorem d7_47 : own_d7 47 (.getfield 85) 3 := by decide +kernel
theorem d7_50 : own_d7 50 (.if_icmp .ge 38) 3 := by decide +kernel
theorem d7_53 : own_d7 53 (.aload_n 0) 1 := by decide +kernel
theorem d7_54 : own_d7 54 (.getfield 13) 3 := by decide +kernel
theorem d7_57 : own_d7 57 (.aload_n 1) 1 := by decide +kernel
theorem d7_58 : own_d7 58 (.iload_n 3) 1 := by decide +kernel
theorem d7_59 : own_d7 59 .iaload 1 := by decide +kernel
theorem d7_60 : own_d7 60 .iaload 1 := by decide +kernel
theorem d7_61 : own_d7 61 (.iload_n 3) 1 := by decide +kernel
theorem d7_62 : own_d7 62 (.if_icmp .eq 20) 3 := by decide +kernel
theorem d7_82 : own_d7 82 (.iinc 3 1) 3 := by decide +kernel
theorem d7_85 : own_d7 85 (.goto (-40)) 3 := by decide +kernel
theorem d7_88 : own_d7 88 (.aload_n 0) 1 := by decide +kernel
theorem d7_89 : own_d7 89 (.aload_n 1) 1 := by decide +kernel
theorem d7_90 : own_d7 90 (.invokevirtual 142) 3 := by decide +kernel
theorem d7_93 : own_d7 93 (.checkcast 143) 3 := by decide +kernel
theorem d7_96 : own_d7 96 (.putfield 41) 3 := by decide +kernel
theorem d7_99 : own_d7 99 (.aload_n 0) 1 := by decide +kernel
theorem d7_100 : own_d7 100 (.aload_n 2) 1 := by decide +kernel
theorem d7_101 : own_d7 101 (.invokevirtual 142) 3 := by decide +kernel
theorem d7_104 : own_d7 104 (.checkcast 143) 3 := by decide +kernel
theorem d7_107 : own_d7 107 (.putfield 47) 3 := by decide +kernel
theorem d7_110 : own_d7 110 (.iconst 0) 1 := by decide +kernel
theorem d7_111 : own_d7 111 (.istore_n 3) 1 := by decide +kernel
theorem d7_112 : own_d7 112 (.iload_n 3) 1 := by decide +kernel
theorem d7_113 : own_d7 113 (.aload_n 0) 1 := by decide +kernel
theorem d7_114 : own_d7 114 (.getfield 47) 3 := by decide +kernel
theorem d7_117 : own_d7 117 .arraylength 1 := by decide +kernel
theorem d7_118 : own_d7 118 (.if_icmp .ge 21) 3 := by decide +kernel
theorem d7_121 : own_d7 121 (.aload_n 0) 1 := by decide +kernel
theorem d7_122 : own_d7 122 (.getfield 17) 3 := by decide +kernel
theorem d7_125 : own_d7 125 (.aload_n 0) 1 := by decide +kernel
theorem d7_126 : own_d7 126 (.getfield 47) 3 := by decide +kernel
theorem d7_129 : own_d7 129 (.iload_n 3) 1 := by decide +kernel
theorem d7_130 : own_d7 130 .iaload 1 := by decide +kernel
theorem d7_131 : own_d7 131 (.iload_n 3) 1 := by decide +kernel
theorem d7_132 : own_d7 132 .iastore 1 := by decide +kernel
theorem d7_133 : own_d7 133 (.iinc 3 1) 3 := by decide +kernel
theorem d7_136 : own_d7 136 (.goto (-24)) 3 := by decide +kernel
theorem d7_139 : own_d7 139 (.aload_n 0) 1 := by decide +kernel
theorem d7_140 : own_d7 140 (.aload_n 0) 1 := by decide +kernel
theorem d7_141 : own_d7 141 (.getfield 85) 3 := by decide +kernel
theorem d7_144 : own_d7 144 (.newarray .int) 2 := by decide +kernel
theorem d7_146 : own_d7 146 (.putfield 58) 3 := by decide +kernel
theorem d7_149 : own_d7 149 (.aload_n 0) 1 := by decide +kernel
theorem d7_150 : own_d7 150 (.aload_n 0) 1 := by decide +kernel
theorem d7_151 : own_d7 151 (.getfield 85) 3 := by decide +kernel
theorem d7_154 : own_d7 154 (.newarray .double) 2 := by decide +kernel
theorem d7_156 : own_d7 156 (.putfield 61) 3 := by decide +kernel
theorem d7_159 : own_d7 159 (.aload_n 0) 1 := by decide +kernel
theorem d7_160 : own_d7 160 (.aload_n 0) 1 := by decide +kernel
theorem d7_161 : own_d7 161 (.getfield 85) 3 := by decide +kernel
theorem d7_164 : own_d7 164 (.newarray .double) 2 := by decide +kernel
theorem d7_166 : own_d7 166 (.putfield 64) 3 := by decide +kernel
theorem d7_169 : own_d7 169 (.aload_n 0) 1 := by decide +kernel
theorem d7_170 : own_d7 170 (.aload_n 0) 1 := by decide +kernel
theorem d7_171 : own_d7 171 (.getfield 85) 3 := by decide +kernel
theorem d7_174 : own_d7 174 (.newarray .boolean) 2 := by decide +kernel
theorem d7_176 : own_d7 176 (.putfield 67) 3 := by decide +kernel
theorem d7_179 : own_d7 179 (.aload_n 0) 1 := by decide +kernel
theorem d7_180 : own_d7 180 (.aload_n 0) 1 := by decide +kernel
theorem d7_181 : own_d7 181 (.getfield 85) 3 := by decide +kernel
theorem d7_184 : own_d7 184 (.newarray .int) 2 := by decide +kernel
theorem d7_186 : own_d7 186 (.putfield 71) 3 := by decide +kernel
theorem d7_189 : own_d7 189 (.aload_n 0) 1 := by decide +kernel
theorem pd_2 : parseMethodDescriptor "()V" = some ⟨[], none⟩ := by decide +kernel
theorem d7_190 : own_d7 190 (.invokevirtual 147) 3 := by decide +kernel
theorem d7_193 : own_d7 193 (.aload_n 0) 1 := by decide +kernel
theorem d7_194 : own_d7 194 (.getfield 55) 3 := by decide +kernel
theorem d7_197 : own_d7 197 (.astore_n 3) 1 := by decide +kernel
abbrev own_loc81 (a0 a1 a2 va2467 : Addr) : Array Slot := #[.val (.ref a0), .val (.ref a1), .val (.ref a2), .val (.ref va2467), .unset, .unset, .unset, .unset]
theorem d7_198 : own_d7 198 (.aload_n 3) 1 := by decide +kernel
theorem d7_199 : own_d7 199 .arraylength 1 := by decide +kernel
theorem d7_200 : own_d7 200 (.istore 4) 2 := by decide +kernel
abbrev own_loc82 (a0 a1 a2 va2467 : Addr) : Array Slot := #[.val (.ref a0), .val (.ref a1), .val (.ref a2), .val (.ref va2467), .val (.int 2), .unset, .unset, .unset]
theorem d7_202 : own_d7 202 (.iconst 0) 1 := by decide +kernel
theorem d7_203 : own_d7 203 (.istore 5) 2 := by decide +kernel
abbrev own_loc83 (a0 a1 a2 va2467 : Addr) : Array Slot := #[.val (.ref a0), .val (.ref a1), .val (.ref a2), .val (.ref va2467), .val (.int 2), .val (.int 0), .unset, .unset]
theorem d7_205 : own_d7 205 (.iload 5) 2 := by decide +kernel
theorem d7_207 : own_d7 207 (.iload 4) 2 := by decide +kernel
theorem d7_209 : own_d7 209 (.if_icmp .ge 34) 3 := by decide +kernel
theorem d7_212 : own_d7 212 (.aload_n 3) 1 := by decide +kernel
theorem d7_213 : own_d7 213 (.iload 5) 2 := by decide +kernel
theorem d7_215 : own_d7 215 .daload 1 := by decide +kernel
theorem d7_216 : own_d7 216 (.dstore 6) 2 := by decide +kernel
abbrev own_loc84 (a0 a1 a2 va2467 : Addr) : Array Slot := #[.val (.ref a0), .val (.ref a1), .val (.ref a2), .val (.ref va2467), .val (.int 2), .val (.int 0), .val (.double (0 : UInt64)), .second]
theorem d7_218 : own_d7 218 (.dload 6) 2 := by decide +kernel
theorem d7_220 : own_d7 220 (.ldc2_w 150) 3 := by decide +kernel
theorem d7_223 : own_d7 223 (.dcmp .g) 1 := by decide +kernel
theorem d7_224 : own_d7 224 (.ifCond .ge 13) 3 := by decide +kernel
theorem d7_237 : own_d7 237 (.iinc 5 1) 3 := by decide +kernel
abbrev own_loc85 (a0 a1 a2 va2467 : Addr) : Array Slot := #[.val (.ref a0), .val (.ref a1), .val (.ref a2), .val (.ref va2467), .val (.int 2), .val (.int 1), .val (.double (0 : UInt64)), .second]
theorem d7_240 : own_d7 240 (.goto (-35)) 3 := by decide +kernel
abbrev own_loc86 (a0 a1 a2 va2467 : Addr) : Array Slot := #[.val (.ref a0), .val (.ref a1), .val (.ref a2), .val (.ref va2467), .val (.int 2), .val (.int 2), .val (.double (0 : UInt64)), .second]
theorem d7_243 : own_d7 243 (.aload_n 0) 1 := by decide +kernel
theorem d7_244 : own_d7 244 (.getfield 44) 3 := by decide +kernel
theorem d7_247 : own_d7 247 (.astore_n 3) 1 := by decide +kernel
abbrev own_loc87 (a0 a1 a2 kv2467 : Addr) : Array Slot := #[.val (.ref a0), .val (.ref a1), .val (.ref a2), .val (.ref kv2467), .val (.int 2), .val (.int 2), .val (.double (0 : UInt64)), .second]
theorem d7_248 : own_d7 248 (.aload_n 3) 1 := by decide +kernel
theorem d7_249 : own_d7 249 .arraylength 1 := by decide +kernel
theorem d7_250 : own_d7 250 (.istore 4) 2 := by decide +kernel
abbrev own_loc88 (a0 a1 a2 kv2467 : Addr) : Array Slot := #[.val (.ref a0), .val (.ref a1), .val (.ref a2), .val (.ref kv2467), .val (.int 1), .val (.int 2), .val (.double (0 : UInt64)), .second]
theorem d7_252 : own_d7 252 (.iconst 0) 1 := by decide +kernel
theorem d7_253 : own_d7 253 (.istore 5) 2 := by decide +kernel
abbrev own_loc89 (a0 a1 a2 kv2467 : Addr) : Array Slot := #[.val (.ref a0), .val (.ref a1), .val (.ref a2), .val (.ref kv2467), .val (.int 1), .val (.int 0), .val (.double (0 : UInt64)), .second]
theorem d7_255 : own_d7 255 (.iload 5) 2 := by decide +kernel
theorem d7_257 : own_d7 257 (.iload 4) 2 := by decide +kernel
theorem d7_259 : own_d7 259 (.if_icmp .ge 34) 3 := by decide +kernel
theorem d7_262 : own_d7 262 (.aload_n 3) 1 := by decide +kernel
theorem d7_263 : own_d7 263 (.iload 5) 2 := by decide +kernel
theorem d7_265 : own_d7 265 .daload 1 := by decide +kernel
theorem d7_266 : own_d7 266 (.dstore 6) 2 := by decide +kernel
abbrev own_loc90 (a0 a1 a2 kv2467 : Addr) : Array Slot := #[.val (.ref a0), .val (.ref a1), .val (.ref a2), .val (.ref kv2467), .val (.int 1), .val (.int 0), .val (.double (4607182418800017408 : UInt64)), .second]
theorem d7_268 : own_d7 268 (.dload 6) 2 := by decide +kernel
theorem d7_270 : own_d7 270 (.ldc2_w 150) 3 := by decide +kernel
theorem d7_273 : own_d7 273 (.dcmp .g) 1 := by decide +kernel
theorem d7_274 : own_d7 274 (.ifCond .ge 13) 3 := by decide +kernel
theorem d7_287 : own_d7 287 (.iinc 5 1) 3 := by decide +kernel
abbrev own_loc91 (a0 a1 a2 kv2467 : Addr) : Array Slot := #[.val (.ref a0), .val (.ref a1), .val (.ref a2), .val (.ref kv2467), .val (.int 1), .val (.int 1), .val (.double (4607182418800017408 : UInt64)), .second]
theorem d7_290 : own_d7 290 (.goto (-35)) 3 := by decide +kernel
theorem d7_293 : own_d7 293 (.aload_n 0) 1 := by decide +kernel
theorem d7_294 : own_d7 294 (.iconst 1) 1 := by decide +kernel
theorem d7_295 : own_d7 295 (.putfield 74) 3 := by decide +kernel
theorem d7_298 : own_d7 298 .return_ 1 := by decide +kernel
def Q7 (Z : State) (a0 a1 a2 uc ug up uf ue : Addr) (w_entryRooms : Value) (ur uv ub : Addr) (w_slacks w_keys w_keyValues w_head : Value) (ui : Addr) (w_values w_groupDualPass w_groupDualValues w_rates w_rated w_ratedGroups w_started w_variableCount w_entriesUsed w_objective w_pivotsSinceInversion : Value) (kug : ClassId) (lg : List Value) (kuf : ClassId) (lf : List Value) (kue : ClassId) (le : List Value) (kur : ClassId) (lr : List Value) (kuv : ClassId) (lv : List Value) (kub : ClassId) (lb : List Value) (kuc : ClassId) (lc : List Value) (kup : ClassId) (lp : List Value) (kui ka1 ka2 : ClassId) (hd0 hd1 : Int32) (ck n00 n01 n10 n11 : UInt64) (h0 : Heap) (n0 : Nat) (v : Option Value) (h : Heap) (L : List Loc) : Prop := ∃ (ky hh iv i0 i1 va kv xa xb xc xd xe : Addr) (kz1 kz2 kz3 kz4 kz5 : ClassId), v = none ∧ Fr n0 L ∧ Keep h0 h [a0, up] ∧ own_fs own_K own_N Z h a0 [(.ref uc), (.ref ug), (.ref up), (.ref uf), (.ref ue), w_entryRooms, (.ref ur), (.ref uv), (.ref ub), w_slacks, (.ref ky), (.ref kv), (.ref hh), (.ref iv), (.ref va), (.ref xa), (.ref xb), (.ref xc), (.ref xd), (.ref xe), (.int (1 : Int32)), (.int (1 : Int32)), w_variableCount, w_entriesUsed, (.int (2 : Int32)), (.double ck), (.int (0 : Int32))] ∧ Arv Z h ky kz1 .int (1 : Int32) [(.int (0 : Int32))] (.int (0 : Int32)) ∧ Arv Z h hh kz2 .int (2 : Int32) [(.int hd0), (.int hd1)] (.int (0 : Int32)) ∧ Arv Z h iv kz3 (.array .double) (2 : Int32) [(.ref i0), (.ref i1)] .null ∧ Arv Z h i0 kz4 .double (2 : Int32) [(.double n00), (.double n01)] (.double (0 : UInt64)) ∧ Arv Z h i1 kz5 .double (2 : Int32) [(.double n10), (.double n11)] (.double (0 : UInt64))
set_option maxRecDepth 65536 in
set_option maxHeartbeats 40000000 in
theorem rm7 (l : Launch) (Z : State) (ag : Array Value) (hw : ∀ d ∈ tables_1, d.before ag Z = true) (ws : List Jvm.Cond) (a0 a1 a2 uc ug up uf ue : Addr) (w_entryRooms : Value) (ur uv ub : Addr) (w_slacks w_keys w_keyValues w_head : Value) (ui : Addr) (w_values w_groupDualPass w_groupDualValues w_rates w_rated w_ratedGroups w_started w_variableCount w_entriesUsed w_objective w_pivotsSinceInversion : Value) (kug : ClassId) (lg : List Value) (kuf : ClassId) (lf : List Value) (kue : ClassId) (le : List Value) (kur : ClassId) (lr : List Value) (kuv : ClassId) (lv : List Value) (kub : ClassId) (lb : List Value) (kuc : ClassId) (lc : List Value) (kup : ClassId) (lp : List Value) (kui ka1 ka2 : ClassId) (hd0 hd1 : Int32) (ck n00 n01 n10 n11 : UInt64) (h0 : Heap) (n0 : Nat) (Z0 : n0 ≤ h0.size) (E_a0 : Exa Z h0 a0 own_K) (Ob_a0 : own_fs own_K own_N Z h0 a0 [(.ref uc), (.ref ug), (.ref up), (.ref uf), (.ref ue), w_entryRooms, (.ref ur), (.ref uv), (.ref ub), w_slacks, w_keys, w_keyValues, w_head, (.ref ui), w_values, w_groupDualPass, w_groupDualValues, w_rates, w_rated, w_ratedGroups, w_started, (.int (1 : Int32)), w_variableCount, w_entriesUsed, (.int (2 : Int32)), w_objective, w_pivotsSinceInversion]) (V_ug : Arv Z h0 ug kug .int (16 : Int32) lg (.int (0 : Int32))) (V_uf : Arv Z h0 uf kuf .int (16 : Int32) lf (.int (0 : Int32))) (V_ue : Arv Z h0 ue kue .int (16 : Int32) le (.int (0 : Int32))) (V_ur : Arv Z h0 ur kur .int (64 : Int32) lr (.int (0 : Int32))) (V_uv : Arv Z h0 uv kuv .double (64 : Int32) lv (.double (0 : UInt64))) (V_ub : Arv Z h0 ub kub .double (16 : Int32) lb (.double (0 : UInt64))) (V_uc : Arv Z h0 uc kuc .double (16 : Int32) lc (.double (0 : UInt64))) (V_up : Arv Z h0 up kup .int (16 : Int32) lp (.int (0 : Int32))) (V_ui : Arv Z h0 ui kui (.array .double) (0 : Int32) [] .null) (E_a1 : Exa Z h0 a1 "[I") (V_a1 : Arv Z h0 a1 ka1 .int (1 : Int32) [(.int (0 : Int32))] (.int (0 : Int32))) (E_a2 : Exa Z h0 a2 "[I") (V_a2 : Arv Z h0 a2 ka2 .int (2 : Int32) [(.int hd0), (.int hd1)] (.int (0 : Int32))) (ge_a0 : n0 ≤ a0) (ge_up : n0 ≤ up) (ne_a0_ug : a0 ≠ ug) (ne_a0_uf : a0 ≠ uf) (ne_a0_ue : a0 ≠ ue) (ne_a0_ur : a0 ≠ ur) (ne_a0_uv : a0 ≠ uv) (ne_a0_ub : a0 ≠ ub) (ne_a0_uc : a0 ≠ uc) (ne_a0_up : a0 ≠ up) (ne_a0_ui : a0 ≠ ui) (ne_a0_a1 : a0 ≠ a1) (ne_a0_a2 : a0 ≠ a2) (ne_up_ug : up ≠ ug) (ne_up_uf : up ≠ uf) (ne_up_ue : up ≠ ue) (ne_up_ur : up ≠ ur) (ne_up_uv : up ≠ uv) (ne_up_ub : up ≠ ub) (ne_up_uc : up ≠ uc) (ne_up_ui : up ≠ ui) (ne_up_a1 : up ≠ a1) (ne_up_a2 : up ≠ a2) (hI : own_inv lf le lr lv lg lc lb hd0 hd1 ck n00 n01 n10 n11) (hg00 : lg.getD 0 (.int (0 : Int32)) = .int (0 : Int32)) (hlp : lp.length = 16) :
    MetFree l (⟨own_K, "start", "([I[I)V"⟩ : MethodName) (head1 (Jvm.Cond.code (⟨own_K, "start", "([I[I)V"⟩ : MethodName) prog_56_method_9_code 8 none :: ws) ({ frames := 3, cells := 19, slots := 31, locals := 57 } : Room)) (fun a U => a = #[(.ref a0), (.ref a1), (.ref a2)] ∧ Z.Warmed39 U.vm ∧ U.heap = h0) (fun _ _ _ _ _ => True) (fun _ U o U' => ∃ v L, o = .returned v ∧ Q7 Z a0 a1 a2 uc ug up uf ue w_entryRooms ur uv ub w_slacks w_keys w_keyValues w_head ui w_values w_groupDualPass w_groupDualValues w_rates w_rated w_ratedGroups w_started w_variableCount w_entriesUsed w_objective w_pivotsSinceInversion kug lg kuf lf kue le kur lr kuv lv kub lb kuc lc kup lp kui ka1 ka2 hd0 hd1 ck n00 n01 n10 n11 h0 n0 v U'.heap L ∧ FrameEnd U o U' L ({ frames := 3, cells := 19, slots := 31, locals := 57 } : Room).cells ({ frames := 3, cells := 19, slots := 31, locals := 57 } : Room).slots) := by
  refine MetFree.of_bodySF (plainFor_of_name pn_0) hisR ?_
  intro p e s m args below meth c s₁ Bd hml0 hP hK
  obtain ⟨rfl, hZ, hh⟩ := hP
  have hx := Bd.exec
  have hby := Bd.bytes
  have hml : c.maxLocals = 8 := hml0
  have hown : s.vm.findClass own_K = some m.cls := findClass_of_methodNamed Bd.named
  have hnm := (name_of_methodNamed Bd.named Bd.method).1
  have X0 : Stand p l e ({ frames := 3, cells := 19, slots := 31, locals := 57 } : Room) s m #[(.ref a0), (.ref a1), (.ref a2)] below meth c s₁ [] 0 0 := Stand.of_body Bd
  have e0 : s₁.heap = h0 := by rw [← hh, Bd.state]; rfl
  have N0 := Fr.nil n0
  have D : ∀ {pc : Nat} {r : Except DecodeError (Instr × Nat)}, decode prog_56_method_9_code pc = r → decode c.code pc = r := fun q => hb hby q
  have pre0 : ∀ t, Steps p.tables e below (s₁.setTop (mkF m 0 #[.val (.ref a0), .val (.ref a1), .val (.ref a2), .unset, .unset, .unset, .unset, .unset] [])) t → Steps p.tables e below (s₁.setTop (entryFrame m #[(.ref a0), (.ref a1), (.ref a2)] 8)) t := fun t k => castTop (ef_7 m a0 a1 a2) k
  obtain ⟨hv0, hv1⟩ : (¬ hd0 < 0 ∧ hd0 < (16 : Int32)) ∧ (¬ hd1 < 0 ∧ hd1 < (16 : Int32)) := by obtain ⟨_, _, _, _, _, _, _, _, hc0, hc1, -⟩ := hI; exact ⟨hc0.1, hc1.1⟩
  obtain ⟨cl2296, Ar2296, -, S2296, M2296, -, -⟩ := id V_a1
  have ld2296 := X0.arraylength hx (by rw [e0]; exact Ar2296.1) (State.isArrayOf_alike hZ.alike Ar2296.2.1) (g := (mkF m 1 #[.val (.ref a0), .val (.ref a1), .val (.ref a2), .unset, .unset, .unset, .unset, .unset] [(.ref a1)])) rfl rfl (D d7_1)
  obtain ⟨T2297, X2297, e2297, st2297⟩ := own_gf X0 hx hZ hown (own_wk hw 61 rfl) e0 Ob_a0 21 rfl rfl (g := (mkF m 3 #[.val (.ref a0), .val (.ref a1), .val (.ref a2), .unset, .unset, .unset, .unset, .unset] [(.ref a0), .int 1])) rfl rfl (D d7_3)
  obtain ⟨cl2298, Ar2298, -, S2298, M2298, -, -⟩ := id V_a2
  have ld2298 := X2297.arraylength hx (by rw [e2297]; exact Ar2298.1) (State.isArrayOf_alike hZ.alike Ar2298.2.1) (g := (mkF m 10 #[.val (.ref a0), .val (.ref a1), .val (.ref a2), .unset, .unset, .unset, .unset, .unset] [(.ref a2)])) rfl rfl (D d7_10)
  obtain ⟨T2299, X2299, e2299, st2299⟩ := own_gf X2297 hx hZ hown (own_wk hw 81 rfl) e2297 Ob_a0 24 rfl rfl (g := (mkF m 12 #[.val (.ref a0), .val (.ref a1), .val (.ref a2), .unset, .unset, .unset, .unset, .unset] [(.ref a0), .int 2])) rfl rfl (D d7_12)
  obtain ⟨T2300, X2300, e2300, st2300⟩ := own_gf X2299 hx hZ hown (own_wk hw 61 rfl) e2299 Ob_a0 21 rfl rfl (g := (mkF m 47 #[.val (.ref a0), .val (.ref a1), .val (.ref a2), .val (.int 0), .unset, .unset, .unset, .unset] [(.ref a0), .int 0])) rfl rfl (D d7_47)
  obtain ⟨T2301, X2301, e2301, st2301⟩ := own_gf X2300 hx hZ hown (own_wk hw 13 rfl) e2300 Ob_a0 1 rfl rfl (g := (mkF m 54 #[.val (.ref a0), .val (.ref a1), .val (.ref a2), .val (.int 0), .unset, .unset, .unset, .unset] [(.ref a0)])) rfl rfl (D d7_54)
  obtain ⟨T2304, X2304, e2304, st2304⟩ := own_gf X2301 hx hZ hown (own_wk hw 61 rfl) e2301 Ob_a0 21 rfl rfl (g := (mkF m 47 #[.val (.ref a0), .val (.ref a1), .val (.ref a2), .val (.int 1), .unset, .unset, .unset, .unset] [(.ref a0), .int 1])) rfl rfl (D d7_47)
  have cp2305 : ∀ target, own_S p e below T2304 (mkF m 90 #[.val (.ref a0), .val (.ref a1), .val (.ref a2), .val (.int 1), .unset, .unset, .unset, .unset] [(.ref a1), (.ref a0)]) target → own_S p e below s₁ (mkF m 0 #[.val (.ref a0), .val (.ref a1), .val (.ref a2), .unset, .unset, .unset, .unset, .unset] []) target := by
    intro target kt
    show own_S p e below s₁ (mkF m 0 #[.val (.ref a0), .val (.ref a1), .val (.ref a2), .unset, .unset, .unset, .unset, .unset] []) _
    refine XS.aloadN X0.here hx rfl (D d7_0) rfl rfl (ld2296 _ ?_)
    rw [len_of S2296 M2296]
    show own_S p e below s₁ (mkF m 2 #[.val (.ref a0), .val (.ref a1), .val (.ref a2), .unset, .unset, .unset, .unset, .unset] [.int 1]) _
    refine XS.aloadN X0.here hx rfl (D d7_2) rfl rfl (st2297 _ (XS.icmpNo X2297.here hx rfl (D d7_6) rfl (teq (by decide : (1 : Int32) = (1 : Int32))).2 (XS.aloadN X2297.here hx rfl (D d7_9) rfl rfl (ld2298 _ ?_))))
    rw [len_of S2298 M2298]
    show own_S p e below T2297 (mkF m 11 #[.val (.ref a0), .val (.ref a1), .val (.ref a2), .unset, .unset, .unset, .unset, .unset] [.int 2]) _
    refine XS.aloadN X2297.here hx rfl (D d7_11) rfl rfl (st2299 _ (XS.icmpYes X2299.here hx rfl (pc0 := 15) (pc' := 43) rfl (D d7_15) rfl (teq (by decide : (2 : Int32) = (2 : Int32))).1 (by decide) (by decide) (XS.iconst X2299.here hx rfl (D d7_43) (XS.istoreN X2299.here hx rfl (D d7_44) rfl (l' := #[.val (.ref a0), .val (.ref a1), .val (.ref a2), .val (.int 0), .unset, .unset, .unset, .unset]) rfl (XS.iloadN X2299.here hx rfl (D d7_45) rfl (XS.aloadN X2299.here hx rfl (D d7_46) rfl rfl (st2300 _ (XS.icmpNo X2300.here hx rfl (D d7_50) rfl (tlt (by decide : (0 : Int32) < (1 : Int32))).2.1 (XS.aloadN X2300.here hx rfl (D d7_53) rfl rfl ?_)))))))))
    refine st2301 _ (XS.aloadN X2301.here hx rfl (D d7_57) rfl rfl (XS.iloadN X2301.here hx rfl (D d7_58) rfl (own_ldI X2301 hx hZ e2301 V_a1 (j := (0 : Int32)) ⟨(by decide), (by decide)⟩ (v := (.int (0 : Int32))) rfl rfl rfl (D d7_59) (own_ldI X2301 hx hZ e2301 V_ug (j := (0 : Int32)) ⟨(by decide), (by decide)⟩ (v := (.int (0 : Int32))) hg00 rfl rfl (D d7_60) (XS.iloadN X2301.here hx rfl (D d7_61) rfl (XS.icmpYes X2301.here hx rfl (pc0 := 62) (pc' := 82) rfl (D d7_62) rfl (teq (by decide : (0 : Int32) = (0 : Int32))).1 (by decide) (by decide) ?_))))))
    show own_S p e below T2301 (mkF m 82 #[.val (.ref a0), .val (.ref a1), .val (.ref a2), .val (.int 0), .unset, .unset, .unset, .unset] []) _
    refine XS.iinc X2301.here hx rfl (D d7_82) rfl (l' := #[.val (.ref a0), .val (.ref a1), .val (.ref a2), .val (.int 1), .unset, .unset, .unset, .unset]) rfl (XS.goto X2301.here hx rfl (pc0 := 85) (pc' := 45) rfl (D d7_85) (by decide) (by decide) (XS.iloadN X2301.here hx rfl (D d7_45) rfl (XS.aloadN X2301.here hx rfl (D d7_46) rfl rfl (st2304 _ (XS.icmpYes X2304.here hx rfl (pc0 := 50) (pc' := 88) rfl (D d7_50) rfl (flt (by decide : ¬ ((1 : Int32) < (1 : Int32)))).2.1 (by decide) (by decide) (XS.aloadN X2304.here hx rfl (D d7_88) rfl rfl (XS.aloadN X2304.here hx rfl (D d7_89) rfl rfl ?_)))))))
    exact kt
  obtain ⟨T2306, h2306, X2306, e2306, E2306, A2306, EA2306, st2306⟩ := cloneH X2304 hx hZ hown (own_wk hw 89 rfl) (own_wk hw 90 rfl) (own_wk hw 94 rfl) (own_wk hw 92 rfl) (own_wk hw 93 rfl) (own_wk hw 95 rfl) e2304 (Arv.arh V_a1) E_a1 (g := (mkF m 90 #[.val (.ref a0), .val (.ref a1), .val (.ref a2), .val (.int 1), .unset, .unset, .unset, .unset] [(.ref a1), (.ref a0)])) rfl (by rw [hml]; rfl) (rest := [(.ref a0)]) rfl (D d7_90) (by decide) (W := 1) (cap := 1) (by show 2 * 0 + _ ≤ _; exact Nat.le_of_eq rfl) (by decide) (by decide) (by decide) (by decide)
  obtain ⟨b2306, g2306⟩ : ∃ z, z = h0.size := ⟨_, rfl⟩
  have ne2307 : a0 ≠ b2306 := Nat.ne_of_lt (Nat.lt_of_lt_of_le (Ob_a0.get 0 rfl rfl).lt (Nat.le_of_eq g2306.symm))
  have ne2308 : up ≠ b2306 := Nat.ne_of_lt (Nat.lt_of_lt_of_le V_up.lt (Nat.le_of_eq g2306.symm))
  have ge_b2306 : n0 ≤ b2306 := Nat.le_trans Z0 (Nat.le_of_eq g2306.symm)
  have gs_b2306 : h0.size ≤ b2306 := Nat.le_trans (Keep.refl h0 [a0, up]).1 (Nat.le_of_eq g2306.symm)
  rw [← g2306] at A2306 EA2306 st2306
  have V2306 : Arv Z h2306 b2306 ka1 .int (1 : Int32) [(.int (0 : Int32))] (.int (0 : Int32)) := A2306
  have x2309 := E_a0.ext E2306
  have x2310 := Ob_a0.ext E2306
  have x2311 := V_up.ext E2306
  have kp2312 : Keep h0 h2306 [a0, up] := (Keep.refl h0 [a0, up]).ext E2306
  obtain ⟨T2313, X2313, e2313, st2313⟩ := castY X2306 hx hZ hown (own_wk hw 96 rfl) e2306 (Ins.self EA2306) (g := (mkF m 93 #[.val (.ref a0), .val (.ref a1), .val (.ref a2), .val (.int 1), .unset, .unset, .unset, .unset] [(.ref b2306), (.ref a0)])) rfl rfl (D d7_93)
  obtain ⟨T2314, h2314, X2314, e2314, W2314, st2314⟩ := putF X2313 hx hZ hown (host := "") (Or.inl (own_wk hw 31 rfl)) Via.refl e2313 (x2310.get 10 rfl rfl : Fld Z h2306 a0 own_K "keys" "[I" w_keys) x2309 (Or.inl (own_wk hw 32 rfl)) (own_wk hw 1 rfl) (ty := (.array .int)) (by decide) rfl rfl (g := (mkF m 96 #[.val (.ref a0), .val (.ref a1), .val (.ref a2), .val (.int 1), .unset, .unset, .unset, .unset] [(.ref b2306), (.ref a0)])) rfl rfl (D d7_96)
  have Ob2314 := x2310.put (own_layw hw) 10 rfl W2314
  have x2315 := x2309.wr W2314
  have x2316 := x2311.other W2314 (Ne.symm ne_a0_up)
  have x2317 := EA2306.wr W2314
  have x2318 := V2306.other W2314 (Ne.symm ne2307)
  have kp2319 : Keep h0 h2314 [a0, up] := kp2312.wr W2314 (Or.inl (List.mem_of_getElem? (i := 0) rfl))
  have N2314 := Fr.snoc X2314 N0 ge_a0
  obtain ⟨T2320, h2320, X2320, e2320, E2320, A2320, EA2320, st2320⟩ := cloneH X2314 hx hZ hown (own_wk hw 89 rfl) (own_wk hw 90 rfl) (own_wk hw 94 rfl) (own_wk hw 92 rfl) (own_wk hw 93 rfl) (own_wk hw 95 rfl) e2314 (Arv.arh (V_a2.keep kp2319 (ninS (Ne.symm ne_a0_a2) (ninS (Ne.symm ne_up_a2) nin0)))) (E_a2.keep kp2319) (g := (mkF m 101 #[.val (.ref a0), .val (.ref a1), .val (.ref a2), .val (.int 1), .unset, .unset, .unset, .unset] [(.ref a2), (.ref a0)])) rfl (by rw [hml]; rfl) (rest := [(.ref a0)]) rfl (D d7_101) (by decide) (W := 1) (cap := 2) (by show 2 * 0 + _ ≤ _; exact Nat.le_of_eq rfl) (by decide) (by decide) (by decide) (by decide)
  obtain ⟨b2320, g2320⟩ : ∃ z, z = h2314.size := ⟨_, rfl⟩
  have ne2321 : a0 ≠ b2320 := Nat.ne_of_lt (Nat.lt_of_lt_of_le (Ob2314.get 0 rfl rfl).lt (Nat.le_of_eq g2320.symm))
  have ne2322 : up ≠ b2320 := Nat.ne_of_lt (Nat.lt_of_lt_of_le x2316.lt (Nat.le_of_eq g2320.symm))
  have ne2323 : b2306 ≠ b2320 := Nat.ne_of_lt (Nat.lt_of_lt_of_le x2317.lt (Nat.le_of_eq g2320.symm))
  have ge_b2320 : n0 ≤ b2320 := Nat.le_trans (Nat.le_trans Z0 kp2319.1) (Nat.le_of_eq g2320.symm)
  have gs_b2320 : h0.size ≤ b2320 := Nat.le_trans kp2319.1 (Nat.le_of_eq g2320.symm)
  rw [← g2320] at A2320 EA2320 st2320
  have V2320 : Arv Z h2320 b2320 ka2 .int (2 : Int32) [(.int hd0), (.int hd1)] (.int (0 : Int32)) := A2320
  have x2324 := x2315.ext E2320
  have x2325 := x2316.ext E2320
  have x2326 := x2317.ext E2320
  have x2327 := x2318.ext E2320
  have x2328 := Ob2314.ext E2320
  have kp2329 : Keep h0 h2320 [a0, up] := kp2319.ext E2320
  obtain ⟨T2330, X2330, e2330, st2330⟩ := castY X2320 hx hZ hown (own_wk hw 96 rfl) e2320 (Ins.self EA2320) (g := (mkF m 104 #[.val (.ref a0), .val (.ref a1), .val (.ref a2), .val (.int 1), .unset, .unset, .unset, .unset] [(.ref b2320), (.ref a0)])) rfl rfl (D d7_104)
  obtain ⟨T2331, h2331, X2331, e2331, W2331, st2331⟩ := putF X2330 hx hZ hown (host := "") (Or.inl (own_wk hw 35 rfl)) Via.refl e2330 (x2328.get 12 rfl rfl : Fld Z h2320 a0 own_K "head" "[I" w_head) x2324 (Or.inl (own_wk hw 36 rfl)) (own_wk hw 1 rfl) (ty := (.array .int)) (by decide) rfl rfl (g := (mkF m 107 #[.val (.ref a0), .val (.ref a1), .val (.ref a2), .val (.int 1), .unset, .unset, .unset, .unset] [(.ref b2320), (.ref a0)])) rfl rfl (D d7_107)
  have Ob2331 := x2328.put (own_layw hw) 12 rfl W2331
  have x2332 := x2324.wr W2331
  have x2333 := x2325.other W2331 (Ne.symm ne_a0_up)
  have x2334 := x2326.wr W2331
  have x2335 := x2327.other W2331 (Ne.symm ne2307)
  have x2336 := EA2320.wr W2331
  have x2337 := V2320.other W2331 (Ne.symm ne2321)
  have kp2338 : Keep h0 h2331 [a0, up] := kp2329.wr W2331 (Or.inl (List.mem_of_getElem? (i := 0) rfl))
  have N2331 := Fr.snoc X2331 N2314 ge_a0
  obtain ⟨T2339, X2339, e2339, st2339⟩ := own_gf X2331 hx hZ hown (own_wk hw 35 rfl) e2331 Ob2331 12 rfl rfl (g := (mkF m 114 #[.val (.ref a0), .val (.ref a1), .val (.ref a2), .val (.int 0), .unset, .unset, .unset, .unset] [(.ref a0), .int 0])) rfl rfl (D d7_114)
  obtain ⟨cl2340, Ar2340, -, S2340, M2340, -, -⟩ := id x2337
  have ld2340 := X2339.arraylength hx (by rw [e2339]; exact Ar2340.1) (State.isArrayOf_alike hZ.alike Ar2340.2.1) (g := (mkF m 117 #[.val (.ref a0), .val (.ref a1), .val (.ref a2), .val (.int 0), .unset, .unset, .unset, .unset] [(.ref b2320), .int 0])) rfl rfl (D d7_117)
  obtain ⟨T2341, X2341, e2341, st2341⟩ := own_gf X2339 hx hZ hown (own_wk hw 15 rfl) e2339 Ob2331 2 rfl rfl (g := (mkF m 122 #[.val (.ref a0), .val (.ref a1), .val (.ref a2), .val (.int 0), .unset, .unset, .unset, .unset] [(.ref a0)])) rfl rfl (D d7_122)
  obtain ⟨T2342, X2342, e2342, st2342⟩ := own_gf X2341 hx hZ hown (own_wk hw 35 rfl) e2341 Ob2331 12 rfl rfl (g := (mkF m 126 #[.val (.ref a0), .val (.ref a1), .val (.ref a2), .val (.int 0), .unset, .unset, .unset, .unset] [(.ref a0), (.ref up)])) rfl rfl (D d7_126)
  obtain ⟨T2344, h2344, X2344, e2344, W2344, V2344, st2344⟩ := own_stI X2342 hx hZ e2342 x2333 (j := hd0) hv0 (hd0).toNatClampNeg rfl (own_l16 hv0 hlp) (vs' := (lp.set (hd0).toNatClampNeg (.int (0 : Int32)))) rfl (g := (mkF m 132 #[.val (.ref a0), .val (.ref a1), .val (.ref a2), .val (.int 0), .unset, .unset, .unset, .unset] [.int 0, (.int hd0), (.ref up)])) rfl rfl (D d7_132)
  have x2345 := x2332.wr W2344
  have x2346 := x2334.wr W2344
  have x2347 := x2335.other W2344 (Ne.symm ne2308)
  have x2348 := x2336.wr W2344
  have x2349 := x2337.other W2344 (Ne.symm ne2322)
  have x2350 := Ob2331.other W2344 ne_a0_up
  have kp2351 : Keep h0 h2344 [a0, up] := kp2338.wr W2344 (Or.inl (List.mem_of_getElem? (i := 1) rfl))
  have N2344 := Fr.snoc X2344 N2331 ge_up
  obtain ⟨T2352, X2352, e2352, st2352⟩ := own_gf X2344 hx hZ hown (own_wk hw 35 rfl) e2344 x2350 12 rfl rfl (g := (mkF m 114 #[.val (.ref a0), .val (.ref a1), .val (.ref a2), .val (.int 1), .unset, .unset, .unset, .unset] [(.ref a0), .int 1])) rfl rfl (D d7_114)
  obtain ⟨cl2353, Ar2353, -, S2353, M2353, -, -⟩ := id x2349
  have ld2353 := X2352.arraylength hx (by rw [e2352]; exact Ar2353.1) (State.isArrayOf_alike hZ.alike Ar2353.2.1) (g := (mkF m 117 #[.val (.ref a0), .val (.ref a1), .val (.ref a2), .val (.int 1), .unset, .unset, .unset, .unset] [(.ref b2320), .int 1])) rfl rfl (D d7_117)
  obtain ⟨T2354, X2354, e2354, st2354⟩ := own_gf X2352 hx hZ hown (own_wk hw 15 rfl) e2352 x2350 2 rfl rfl (g := (mkF m 122 #[.val (.ref a0), .val (.ref a1), .val (.ref a2), .val (.int 1), .unset, .unset, .unset, .unset] [(.ref a0)])) rfl rfl (D d7_122)
  obtain ⟨T2355, X2355, e2355, st2355⟩ := own_gf X2354 hx hZ hown (own_wk hw 35 rfl) e2354 x2350 12 rfl rfl (g := (mkF m 126 #[.val (.ref a0), .val (.ref a1), .val (.ref a2), .val (.int 1), .unset, .unset, .unset, .unset] [(.ref a0), (.ref up)])) rfl rfl (D d7_126)
  obtain ⟨T2357, h2357, X2357, e2357, W2357, V2357, st2357⟩ := own_stI X2355 hx hZ e2355 V2344 (j := hd1) hv1 (hd1).toNatClampNeg rfl (own_l16 hv1 (by rw [List.length_set]; exact hlp)) (vs' := ((lp.set (hd0).toNatClampNeg (.int (0 : Int32))).set (hd1).toNatClampNeg (.int (1 : Int32)))) rfl (g := (mkF m 132 #[.val (.ref a0), .val (.ref a1), .val (.ref a2), .val (.int 1), .unset, .unset, .unset, .unset] [.int 1, (.int hd1), (.ref up)])) rfl rfl (D d7_132)
  have x2358 := x2345.wr W2357
  have x2359 := x2346.wr W2357
  have x2360 := x2347.other W2357 (Ne.symm ne2308)
  have x2361 := x2348.wr W2357
  have x2362 := x2349.other W2357 (Ne.symm ne2322)
  have x2363 := x2350.other W2357 ne_a0_up
  have kp2364 : Keep h0 h2357 [a0, up] := kp2351.wr W2357 (Or.inl (List.mem_of_getElem? (i := 1) rfl))
  have N2357 := Fr.snoc X2357 N2344 ge_up
  obtain ⟨T2365, X2365, e2365, st2365⟩ := own_gf X2357 hx hZ hown (own_wk hw 35 rfl) e2357 x2363 12 rfl rfl (g := (mkF m 114 #[.val (.ref a0), .val (.ref a1), .val (.ref a2), .val (.int 2), .unset, .unset, .unset, .unset] [(.ref a0), .int 2])) rfl rfl (D d7_114)
  obtain ⟨cl2366, Ar2366, -, S2366, M2366, -, -⟩ := id x2362
  have ld2366 := X2365.arraylength hx (by rw [e2365]; exact Ar2366.1) (State.isArrayOf_alike hZ.alike Ar2366.2.1) (g := (mkF m 117 #[.val (.ref a0), .val (.ref a1), .val (.ref a2), .val (.int 2), .unset, .unset, .unset, .unset] [(.ref b2320), .int 2])) rfl rfl (D d7_117)
  obtain ⟨T2367, X2367, e2367, st2367⟩ := own_gf X2365 hx hZ hown (own_wk hw 61 rfl) e2365 x2363 21 rfl rfl (g := (mkF m 141 #[.val (.ref a0), .val (.ref a1), .val (.ref a2), .val (.int 2), .unset, .unset, .unset, .unset] [(.ref a0), (.ref a0)])) rfl rfl (D d7_141)
  obtain ⟨T2368, h2368, k2368, X2368, e2368, E2368, A2368, st2368⟩ := newP X2367 hx hZ (own_wk hw 12 rfl) e2367 (g := (mkF m 144 #[.val (.ref a0), .val (.ref a1), .val (.ref a2), .val (.int 2), .unset, .unset, .unset, .unset] [.int 1, (.ref a0)])) rfl (D d7_144) rfl (by decide) (cap := 1) (by decide) (by decide) (by decide) (by decide)
  obtain ⟨b2368, g2368⟩ : ∃ z, z = h2357.size := ⟨_, rfl⟩
  have ne2369 : a0 ≠ b2368 := Nat.ne_of_lt (Nat.lt_of_lt_of_le (x2363.get 0 rfl rfl).lt (Nat.le_of_eq g2368.symm))
  have ne2370 : up ≠ b2368 := Nat.ne_of_lt (Nat.lt_of_lt_of_le V2357.lt (Nat.le_of_eq g2368.symm))
  have ne2371 : b2306 ≠ b2368 := Nat.ne_of_lt (Nat.lt_of_lt_of_le x2359.lt (Nat.le_of_eq g2368.symm))
  have ne2372 : b2320 ≠ b2368 := Nat.ne_of_lt (Nat.lt_of_lt_of_le x2361.lt (Nat.le_of_eq g2368.symm))
  have ge_b2368 : n0 ≤ b2368 := Nat.le_trans (Nat.le_trans Z0 kp2364.1) (Nat.le_of_eq g2368.symm)
  have gs_b2368 : h0.size ≤ b2368 := Nat.le_trans kp2364.1 (Nat.le_of_eq g2368.symm)
  rw [← g2368] at A2368 st2368
  have x2373 := x2358.ext E2368
  have x2374 := x2359.ext E2368
  have x2375 := x2360.ext E2368
  have x2376 := x2361.ext E2368
  have x2377 := x2362.ext E2368
  have x2378 := x2363.ext E2368
  have x2379 := V2357.ext E2368
  have kp2380 : Keep h0 h2368 [a0, up] := kp2364.ext E2368
  have V2368 : Arv Z h2368 b2368 k2368 .int (1 : Int32) [(.int (0 : Int32))] (.int (0 : Int32)) := (Arv.new A2368 (by decide)).pad (pad_rep [] (.int (0 : Int32)) 1)
  obtain ⟨T2381, h2381, X2381, e2381, W2381, st2381⟩ := putF X2368 hx hZ hown (host := "") (Or.inl (own_wk hw 43 rfl)) Via.refl e2368 (x2378.get 15 rfl rfl : Fld Z h2368 a0 own_K "groupDualPass" "[I" w_groupDualPass) x2373 (Or.inl (own_wk hw 44 rfl)) (own_wk hw 1 rfl) (ty := (.array .int)) (by decide) rfl rfl (g := (mkF m 146 #[.val (.ref a0), .val (.ref a1), .val (.ref a2), .val (.int 2), .unset, .unset, .unset, .unset] [(.ref b2368), (.ref a0)])) rfl rfl (D d7_146)
  have Ob2381 := x2378.put (own_layw hw) 15 rfl W2381
  have x2382 := x2373.wr W2381
  have x2383 := x2374.wr W2381
  have x2384 := x2375.other W2381 (Ne.symm ne2307)
  have x2385 := x2376.wr W2381
  have x2386 := x2377.other W2381 (Ne.symm ne2321)
  have x2387 := x2379.other W2381 (Ne.symm ne_a0_up)
  have x2388 := V2368.other W2381 (Ne.symm ne2369)
  have kp2389 : Keep h0 h2381 [a0, up] := kp2380.wr W2381 (Or.inl (List.mem_of_getElem? (i := 0) rfl))
  have N2381 := Fr.snoc X2381 N2357 ge_a0
  obtain ⟨T2390, X2390, e2390, st2390⟩ := own_gf X2381 hx hZ hown (own_wk hw 61 rfl) e2381 Ob2381 21 rfl rfl (g := (mkF m 151 #[.val (.ref a0), .val (.ref a1), .val (.ref a2), .val (.int 2), .unset, .unset, .unset, .unset] [(.ref a0), (.ref a0)])) rfl rfl (D d7_151)
  obtain ⟨T2391, h2391, k2391, X2391, e2391, E2391, A2391, st2391⟩ := newP X2390 hx hZ (own_wk hw 9 rfl) e2390 (g := (mkF m 154 #[.val (.ref a0), .val (.ref a1), .val (.ref a2), .val (.int 2), .unset, .unset, .unset, .unset] [.int 1, (.ref a0)])) rfl (D d7_154) rfl (by decide) (cap := 1) (by decide) (by decide) (by decide) (by decide)
  obtain ⟨b2391, g2391⟩ : ∃ z, z = h2381.size := ⟨_, rfl⟩
  have ne2392 : a0 ≠ b2391 := Nat.ne_of_lt (Nat.lt_of_lt_of_le (Ob2381.get 0 rfl rfl).lt (Nat.le_of_eq g2391.symm))
  have ne2393 : up ≠ b2391 := Nat.ne_of_lt (Nat.lt_of_lt_of_le x2387.lt (Nat.le_of_eq g2391.symm))
  have ne2394 : b2306 ≠ b2391 := Nat.ne_of_lt (Nat.lt_of_lt_of_le x2384.lt (Nat.le_of_eq g2391.symm))
  have ne2395 : b2320 ≠ b2391 := Nat.ne_of_lt (Nat.lt_of_lt_of_le x2386.lt (Nat.le_of_eq g2391.symm))
  have ge_b2391 : n0 ≤ b2391 := Nat.le_trans (Nat.le_trans Z0 kp2389.1) (Nat.le_of_eq g2391.symm)
  have gs_b2391 : h0.size ≤ b2391 := Nat.le_trans kp2389.1 (Nat.le_of_eq g2391.symm)
  rw [← g2391] at A2391 st2391
  have x2396 := x2382.ext E2391
  have x2397 := x2384.ext E2391
  have x2398 := x2386.ext E2391
  have x2399 := x2387.ext E2391
  have x2400 := Ob2381.ext E2391
  have kp2401 : Keep h0 h2391 [a0, up] := kp2389.ext E2391
  have V2391 : Arv Z h2391 b2391 k2391 .double (1 : Int32) [(.double (0 : UInt64))] (.double (0 : UInt64)) := (Arv.new A2391 (by decide)).pad (pad_rep [] (.double (0 : UInt64)) 1)
  obtain ⟨T2402, h2402, X2402, e2402, W2402, st2402⟩ := putF X2391 hx hZ hown (host := "") (Or.inl (own_wk hw 45 rfl)) Via.refl e2391 (x2400.get 16 rfl rfl : Fld Z h2391 a0 own_K "groupDualValues" "[D" w_groupDualValues) x2396 (Or.inl (own_wk hw 46 rfl)) (own_wk hw 1 rfl) (ty := (.array .double)) (by decide) rfl rfl (g := (mkF m 156 #[.val (.ref a0), .val (.ref a1), .val (.ref a2), .val (.int 2), .unset, .unset, .unset, .unset] [(.ref b2391), (.ref a0)])) rfl rfl (D d7_156)
  have Ob2402 := x2400.put (own_layw hw) 16 rfl W2402
  have x2403 := x2396.wr W2402
  have x2404 := x2397.other W2402 (Ne.symm ne2307)
  have x2405 := x2398.other W2402 (Ne.symm ne2321)
  have x2406 := x2399.other W2402 (Ne.symm ne_a0_up)
  have x2407 := V2391.other W2402 (Ne.symm ne2392)
  have kp2408 : Keep h0 h2402 [a0, up] := kp2401.wr W2402 (Or.inl (List.mem_of_getElem? (i := 0) rfl))
  have N2402 := Fr.snoc X2402 N2381 ge_a0
  obtain ⟨T2409, X2409, e2409, st2409⟩ := own_gf X2402 hx hZ hown (own_wk hw 61 rfl) e2402 Ob2402 21 rfl rfl (g := (mkF m 161 #[.val (.ref a0), .val (.ref a1), .val (.ref a2), .val (.int 2), .unset, .unset, .unset, .unset] [(.ref a0), (.ref a0)])) rfl rfl (D d7_161)
  obtain ⟨T2410, h2410, k2410, X2410, e2410, E2410, A2410, st2410⟩ := newP X2409 hx hZ (own_wk hw 9 rfl) e2409 (g := (mkF m 164 #[.val (.ref a0), .val (.ref a1), .val (.ref a2), .val (.int 2), .unset, .unset, .unset, .unset] [.int 1, (.ref a0)])) rfl (D d7_164) rfl (by decide) (cap := 1) (by decide) (by decide) (by decide) (by decide)
  obtain ⟨b2410, g2410⟩ : ∃ z, z = h2402.size := ⟨_, rfl⟩
  have ne2411 : a0 ≠ b2410 := Nat.ne_of_lt (Nat.lt_of_lt_of_le (Ob2402.get 0 rfl rfl).lt (Nat.le_of_eq g2410.symm))
  have ne2412 : up ≠ b2410 := Nat.ne_of_lt (Nat.lt_of_lt_of_le x2406.lt (Nat.le_of_eq g2410.symm))
  have ne2413 : b2306 ≠ b2410 := Nat.ne_of_lt (Nat.lt_of_lt_of_le x2404.lt (Nat.le_of_eq g2410.symm))
  have ne2414 : b2320 ≠ b2410 := Nat.ne_of_lt (Nat.lt_of_lt_of_le x2405.lt (Nat.le_of_eq g2410.symm))
  have ge_b2410 : n0 ≤ b2410 := Nat.le_trans (Nat.le_trans Z0 kp2408.1) (Nat.le_of_eq g2410.symm)
  have gs_b2410 : h0.size ≤ b2410 := Nat.le_trans kp2408.1 (Nat.le_of_eq g2410.symm)
  rw [← g2410] at A2410 st2410
  have x2415 := x2403.ext E2410
  have x2416 := x2404.ext E2410
  have x2417 := x2405.ext E2410
  have x2418 := x2406.ext E2410
  have x2419 := Ob2402.ext E2410
  have kp2420 : Keep h0 h2410 [a0, up] := kp2408.ext E2410
  have V2410 : Arv Z h2410 b2410 k2410 .double (1 : Int32) [(.double (0 : UInt64))] (.double (0 : UInt64)) := (Arv.new A2410 (by decide)).pad (pad_rep [] (.double (0 : UInt64)) 1)
  obtain ⟨T2421, h2421, X2421, e2421, W2421, st2421⟩ := putF X2410 hx hZ hown (host := "") (Or.inl (own_wk hw 47 rfl)) Via.refl e2410 (x2419.get 17 rfl rfl : Fld Z h2410 a0 own_K "rates" "[D" w_rates) x2415 (Or.inl (own_wk hw 48 rfl)) (own_wk hw 1 rfl) (ty := (.array .double)) (by decide) rfl rfl (g := (mkF m 166 #[.val (.ref a0), .val (.ref a1), .val (.ref a2), .val (.int 2), .unset, .unset, .unset, .unset] [(.ref b2410), (.ref a0)])) rfl rfl (D d7_166)
  have Ob2421 : own_fs own_K own_N Z h2421 a0 [(.ref uc), (.ref ug), (.ref up), (.ref uf), (.ref ue), w_entryRooms, (.ref ur), (.ref uv), (.ref ub), w_slacks, (.ref b2306), w_keyValues, (.ref b2320), (.ref ui), w_values, (.ref b2368), (.ref b2391), (.ref b2410), w_rated, w_ratedGroups, w_started, (.int (1 : Int32)), w_variableCount, w_entriesUsed, (.int (2 : Int32)), w_objective, w_pivotsSinceInversion] := x2419.put (own_layw hw) 17 rfl W2421
  have x2422 := x2415.wr W2421
  have x2423 := x2416.other W2421 (Ne.symm ne2307)
  have x2424 := x2417.other W2421 (Ne.symm ne2321)
  have x2425 := x2418.other W2421 (Ne.symm ne_a0_up)
  have x2426 := V2410.other W2421 (Ne.symm ne2411)
  have kp2427 : Keep h0 h2421 [a0, up] := kp2420.wr W2421 (Or.inl (List.mem_of_getElem? (i := 0) rfl))
  have N2421 := Fr.snoc X2421 N2402 ge_a0
  obtain ⟨T2428, X2428, e2428, st2428⟩ := own_gf X2421 hx hZ hown (own_wk hw 61 rfl) e2421 Ob2421 21 rfl rfl (g := (mkF m 171 #[.val (.ref a0), .val (.ref a1), .val (.ref a2), .val (.int 2), .unset, .unset, .unset, .unset] [(.ref a0), (.ref a0)])) rfl rfl (D d7_171)
  obtain ⟨T2429, h2429, k2429, X2429, e2429, E2429, A2429, st2429⟩ := newP X2428 hx hZ (own_wk hw 49 rfl) e2428 (g := (mkF m 174 #[.val (.ref a0), .val (.ref a1), .val (.ref a2), .val (.int 2), .unset, .unset, .unset, .unset] [.int 1, (.ref a0)])) rfl (D d7_174) rfl (by decide) (cap := 1) (by decide) (by decide) (by decide) (by decide)
  obtain ⟨b2429, g2429⟩ : ∃ z, z = h2421.size := ⟨_, rfl⟩
  have ne2430 : a0 ≠ b2429 := Nat.ne_of_lt (Nat.lt_of_lt_of_le (Ob2421.get 0 rfl rfl).lt (Nat.le_of_eq g2429.symm))
  have ne2431 : up ≠ b2429 := Nat.ne_of_lt (Nat.lt_of_lt_of_le x2425.lt (Nat.le_of_eq g2429.symm))
  have ne2432 : b2306 ≠ b2429 := Nat.ne_of_lt (Nat.lt_of_lt_of_le x2423.lt (Nat.le_of_eq g2429.symm))
  have ne2433 : b2320 ≠ b2429 := Nat.ne_of_lt (Nat.lt_of_lt_of_le x2424.lt (Nat.le_of_eq g2429.symm))
  have ge_b2429 : n0 ≤ b2429 := Nat.le_trans (Nat.le_trans Z0 kp2427.1) (Nat.le_of_eq g2429.symm)
  have gs_b2429 : h0.size ≤ b2429 := Nat.le_trans kp2427.1 (Nat.le_of_eq g2429.symm)
  rw [← g2429] at A2429 st2429
  have x2434 := x2422.ext E2429
  have x2435 := x2423.ext E2429
  have x2436 := x2424.ext E2429
  have x2437 := x2425.ext E2429
  have x2438 := Ob2421.ext E2429
  have kp2439 : Keep h0 h2429 [a0, up] := kp2427.ext E2429
  have V2429 : Arv Z h2429 b2429 k2429 .boolean (1 : Int32) [(.int (0 : Int32))] (.int (0 : Int32)) := (Arv.new A2429 (by decide)).pad (pad_rep [] (.int (0 : Int32)) 1)
  obtain ⟨T2440, h2440, X2440, e2440, W2440, st2440⟩ := putF X2429 hx hZ hown (host := "") (Or.inl (own_wk hw 50 rfl)) Via.refl e2429 (x2438.get 18 rfl rfl : Fld Z h2429 a0 own_K "rated" "[Z" w_rated) x2434 (Or.inl (own_wk hw 51 rfl)) (own_wk hw 1 rfl) (ty := (.array .boolean)) (by decide) rfl rfl (g := (mkF m 176 #[.val (.ref a0), .val (.ref a1), .val (.ref a2), .val (.int 2), .unset, .unset, .unset, .unset] [(.ref b2429), (.ref a0)])) rfl rfl (D d7_176)
  have Ob2440 := x2438.put (own_layw hw) 18 rfl W2440
  have x2441 := x2434.wr W2440
  have x2442 := x2435.other W2440 (Ne.symm ne2307)
  have x2443 := x2436.other W2440 (Ne.symm ne2321)
  have x2444 := x2437.other W2440 (Ne.symm ne_a0_up)
  have x2445 := V2429.other W2440 (Ne.symm ne2430)
  have kp2446 : Keep h0 h2440 [a0, up] := kp2439.wr W2440 (Or.inl (List.mem_of_getElem? (i := 0) rfl))
  have N2440 := Fr.snoc X2440 N2421 ge_a0
  obtain ⟨T2447, X2447, e2447, st2447⟩ := own_gf X2440 hx hZ hown (own_wk hw 61 rfl) e2440 Ob2440 21 rfl rfl (g := (mkF m 181 #[.val (.ref a0), .val (.ref a1), .val (.ref a2), .val (.int 2), .unset, .unset, .unset, .unset] [(.ref a0), (.ref a0)])) rfl rfl (D d7_181)
  obtain ⟨T2448, h2448, k2448, X2448, e2448, E2448, A2448, st2448⟩ := newP X2447 hx hZ (own_wk hw 12 rfl) e2447 (g := (mkF m 184 #[.val (.ref a0), .val (.ref a1), .val (.ref a2), .val (.int 2), .unset, .unset, .unset, .unset] [.int 1, (.ref a0)])) rfl (D d7_184) rfl (by decide) (cap := 1) (by decide) (by decide) (by decide) (by decide)
  obtain ⟨b2448, g2448⟩ : ∃ z, z = h2440.size := ⟨_, rfl⟩
  have ne2449 : a0 ≠ b2448 := Nat.ne_of_lt (Nat.lt_of_lt_of_le (Ob2440.get 0 rfl rfl).lt (Nat.le_of_eq g2448.symm))
  have ne2450 : up ≠ b2448 := Nat.ne_of_lt (Nat.lt_of_lt_of_le x2444.lt (Nat.le_of_eq g2448.symm))
  have ne2451 : b2306 ≠ b2448 := Nat.ne_of_lt (Nat.lt_of_lt_of_le x2442.lt (Nat.le_of_eq g2448.symm))
  have ne2452 : b2320 ≠ b2448 := Nat.ne_of_lt (Nat.lt_of_lt_of_le x2443.lt (Nat.le_of_eq g2448.symm))
  have ge_b2448 : n0 ≤ b2448 := Nat.le_trans (Nat.le_trans Z0 kp2446.1) (Nat.le_of_eq g2448.symm)
  have gs_b2448 : h0.size ≤ b2448 := Nat.le_trans kp2446.1 (Nat.le_of_eq g2448.symm)
  rw [← g2448] at A2448 st2448
  have x2453 := x2441.ext E2448
  have x2454 := x2442.ext E2448
  have x2455 := x2443.ext E2448
  have x2456 := x2444.ext E2448
  have x2457 := Ob2440.ext E2448
  have kp2458 : Keep h0 h2448 [a0, up] := kp2446.ext E2448
  have V2448 : Arv Z h2448 b2448 k2448 .int (1 : Int32) [(.int (0 : Int32))] (.int (0 : Int32)) := (Arv.new A2448 (by decide)).pad (pad_rep [] (.int (0 : Int32)) 1)
  obtain ⟨T2459, h2459, X2459, e2459, W2459, st2459⟩ := putF X2448 hx hZ hown (host := "") (Or.inl (own_wk hw 52 rfl)) Via.refl e2448 (x2457.get 19 rfl rfl : Fld Z h2448 a0 own_K "ratedGroups" "[I" w_ratedGroups) x2453 (Or.inl (own_wk hw 53 rfl)) (own_wk hw 1 rfl) (ty := (.array .int)) (by decide) rfl rfl (g := (mkF m 186 #[.val (.ref a0), .val (.ref a1), .val (.ref a2), .val (.int 2), .unset, .unset, .unset, .unset] [(.ref b2448), (.ref a0)])) rfl rfl (D d7_186)
  have Ob2459 := x2457.put (own_layw hw) 19 rfl W2459
  have x2460 := x2453.wr W2459
  have x2461 := x2454.other W2459 (Ne.symm ne2307)
  have x2462 := x2455.other W2459 (Ne.symm ne2321)
  have x2463 := x2456.other W2459 (Ne.symm ne_a0_up)
  have x2464 := V2448.other W2459 (Ne.symm ne2449)
  have kp2465 : Keep h0 h2459 [a0, up] := kp2458.wr W2459 (Or.inl (List.mem_of_getElem? (i := 0) rfl))
  have N2459 := Fr.snoc X2459 N2440 ge_a0
  have cp2466 : ∀ target, own_S p e below T2459 (mkF m 190 #[.val (.ref a0), .val (.ref a1), .val (.ref a2), .val (.int 2), .unset, .unset, .unset, .unset] [(.ref a0)]) target → own_S p e below s₁ (mkF m 0 #[.val (.ref a0), .val (.ref a1), .val (.ref a2), .unset, .unset, .unset, .unset, .unset] []) target := by
    intro target kt
    show own_S p e below s₁ (mkF m 0 #[.val (.ref a0), .val (.ref a1), .val (.ref a2), .unset, .unset, .unset, .unset, .unset] []) _
    refine cp2305 _ (st2306 _ (st2313 _ (st2314 _ (XS.aloadN X2314.here hx rfl (D d7_99) rfl rfl (XS.aloadN X2314.here hx rfl (D d7_100) rfl rfl (st2320 _ (st2330 _ (st2331 _ (XS.iconst X2331.here hx rfl (D d7_110) ?_)))))))))
    refine XS.istoreN X2331.here hx rfl (D d7_111) rfl (l' := #[.val (.ref a0), .val (.ref a1), .val (.ref a2), .val (.int 0), .unset, .unset, .unset, .unset]) rfl (XS.iloadN X2331.here hx rfl (D d7_112) rfl (XS.aloadN X2331.here hx rfl (D d7_113) rfl rfl (st2339 _ ?_)))
    show own_S p e below T2339 (mkF m 117 #[.val (.ref a0), .val (.ref a1), .val (.ref a2), .val (.int 0), .unset, .unset, .unset, .unset] [(.ref b2320), .int 0]) _
    refine ld2340 _ ?_
    rw [len_of S2340 M2340]
    show own_S p e below T2339 (mkF m 118 #[.val (.ref a0), .val (.ref a1), .val (.ref a2), .val (.int 0), .unset, .unset, .unset, .unset] [.int 2, .int 0]) _
    refine XS.icmpNo X2339.here hx rfl (D d7_118) rfl (tlt (by decide : (0 : Int32) < (2 : Int32))).2.1 (XS.aloadN X2339.here hx rfl (D d7_121) rfl rfl (st2341 _ (XS.aloadN X2341.here hx rfl (D d7_125) rfl rfl (st2342 _ (XS.iloadN X2342.here hx rfl (D d7_129) rfl (own_ldI X2342 hx hZ e2342 x2337 (j := (0 : Int32)) ⟨(by decide), (by decide)⟩ (v := (.int hd0)) rfl rfl rfl (D d7_130) (XS.iloadN X2342.here hx rfl (D d7_131) rfl (st2344 _ (XS.iinc X2344.here hx rfl (D d7_133) rfl (l' := #[.val (.ref a0), .val (.ref a1), .val (.ref a2), .val (.int 1), .unset, .unset, .unset, .unset]) rfl ?_)))))))))
    refine XS.goto X2344.here hx rfl (pc0 := 136) (pc' := 112) rfl (D d7_136) (by decide) (by decide) (XS.iloadN X2344.here hx rfl (D d7_112) rfl (XS.aloadN X2344.here hx rfl (D d7_113) rfl rfl (st2352 _ ?_)))
    show own_S p e below T2352 (mkF m 117 #[.val (.ref a0), .val (.ref a1), .val (.ref a2), .val (.int 1), .unset, .unset, .unset, .unset] [(.ref b2320), .int 1]) _
    refine ld2353 _ ?_
    rw [len_of S2353 M2353]
    show own_S p e below T2352 (mkF m 118 #[.val (.ref a0), .val (.ref a1), .val (.ref a2), .val (.int 1), .unset, .unset, .unset, .unset] [.int 2, .int 1]) _
    refine XS.icmpNo X2352.here hx rfl (D d7_118) rfl (tlt (by decide : (1 : Int32) < (2 : Int32))).2.1 (XS.aloadN X2352.here hx rfl (D d7_121) rfl rfl (st2354 _ (XS.aloadN X2354.here hx rfl (D d7_125) rfl rfl (st2355 _ (XS.iloadN X2355.here hx rfl (D d7_129) rfl (own_ldI X2355 hx hZ e2355 x2349 (j := (1 : Int32)) ⟨(by decide), (by decide)⟩ (v := (.int hd1)) rfl rfl rfl (D d7_130) (XS.iloadN X2355.here hx rfl (D d7_131) rfl (st2357 _ (XS.iinc X2357.here hx rfl (D d7_133) rfl (l' := #[.val (.ref a0), .val (.ref a1), .val (.ref a2), .val (.int 2), .unset, .unset, .unset, .unset]) rfl ?_)))))))))
    refine XS.goto X2357.here hx rfl (pc0 := 136) (pc' := 112) rfl (D d7_136) (by decide) (by decide) (XS.iloadN X2357.here hx rfl (D d7_112) rfl (XS.aloadN X2357.here hx rfl (D d7_113) rfl rfl (st2365 _ ?_)))
    show own_S p e below T2365 (mkF m 117 #[.val (.ref a0), .val (.ref a1), .val (.ref a2), .val (.int 2), .unset, .unset, .unset, .unset] [(.ref b2320), .int 2]) _
    refine ld2366 _ ?_
    rw [len_of S2366 M2366]
    show own_S p e below T2365 (mkF m 118 #[.val (.ref a0), .val (.ref a1), .val (.ref a2), .val (.int 2), .unset, .unset, .unset, .unset] [.int 2, .int 2]) _
    refine XS.icmpYes X2365.here hx rfl (pc0 := 118) (pc' := 139) rfl (D d7_118) rfl (flt (by decide : ¬ ((2 : Int32) < (2 : Int32)))).2.1 (by decide) (by decide) (XS.aloadN X2365.here hx rfl (D d7_139) rfl rfl (XS.aloadN X2365.here hx rfl (D d7_140) rfl rfl (st2367 _ (st2368 _ (st2381 _ (XS.aloadN X2381.here hx rfl (D d7_149) rfl rfl (XS.aloadN X2381.here hx rfl (D d7_150) rfl rfl (st2390 _ (st2391 _ ?_)))))))))
    refine st2402 _ (XS.aloadN X2402.here hx rfl (D d7_159) rfl rfl (XS.aloadN X2402.here hx rfl (D d7_160) rfl rfl (st2409 _ ?_)))
    show own_S p e below T2409 (mkF m 164 #[.val (.ref a0), .val (.ref a1), .val (.ref a2), .val (.int 2), .unset, .unset, .unset, .unset] [.int 1, (.ref a0)]) _
    refine st2410 _ (st2421 _ (XS.aloadN X2421.here hx rfl (D d7_169) rfl rfl (XS.aloadN X2421.here hx rfl (D d7_170) rfl rfl (st2428 _ (st2429 _ (st2440 _ (XS.aloadN X2440.here hx rfl (D d7_179) rfl rfl (XS.aloadN X2440.here hx rfl (D d7_180) rfl rfl (st2447 _ ?_)))))))))
    refine st2448 _ (st2459 _ (XS.aloadN X2459.here hx rfl (D d7_189) rfl rfl ?_))
    exact kt
  obtain ⟨cq2467, q2467, q2467'⟩ := x2460.cell
  obtain ⟨_, _, ⟨T2467, L2467, k2467, n2467⟩, -, X2467, ⟨Lc2467, hQ2467, l2467, y2467, z2467⟩, st2467⟩ := X2459.privateBack hx (y := (⟨own_K, "invert", "()V"⟩ : MethodName)) hown (mvT hZ (own_wk hw 98 rfl)) (mvT hZ (own_wk hw 99 rfl)) (own_selp (ym := (⟨own_K, "addGroup", "()I"⟩ : MethodName)) (mvT hZ (own_wk hw 57 rfl)) rfl (Cond.privateMethod_at (mvP hZ (own_wk hw 100 rfl) (args := #[]))) (mvT hZ (own_wk hw 99 rfl)) (by decide)) (Cond.privateMethod_at (mvP hZ (own_wk hw 100 rfl) (args := #[]))) (mvT hZ (own_wk hw 101 rfl)) (by decide) (backOf (W := 0) (rm8 l Z ag hw [] a0 _ _ _ _ _ _ _ _ _ _ _ _ _ _ _ _ _ _ _ _ _ _ _ _ _ _ _ _ _ _ _ _ _ _ _ _ _ _ _ _ _ _ _ _ ck n00 n01 n10 n11 h2459 n0 (Nat.le_trans Z0 kp2465.1) x2460 Ob2459 (V_ug.keep kp2465 (ninS (Ne.symm ne_a0_ug) (ninS (Ne.symm ne_up_ug) nin0))) (V_uf.keep kp2465 (ninS (Ne.symm ne_a0_uf) (ninS (Ne.symm ne_up_uf) nin0))) (V_ue.keep kp2465 (ninS (Ne.symm ne_a0_ue) (ninS (Ne.symm ne_up_ue) nin0))) (V_ur.keep kp2465 (ninS (Ne.symm ne_a0_ur) (ninS (Ne.symm ne_up_ur) nin0))) (V_uv.keep kp2465 (ninS (Ne.symm ne_a0_uv) (ninS (Ne.symm ne_up_uv) nin0))) (V_ub.keep kp2465 (ninS (Ne.symm ne_a0_ub) (ninS (Ne.symm ne_up_ub) nin0))) (V_uc.keep kp2465 (ninS (Ne.symm ne_a0_uc) (ninS (Ne.symm ne_up_uc) nin0))) x2461 x2462 (V_ui.keep kp2465 (ninS (Ne.symm ne_a0_ui) (ninS (Ne.symm ne_up_ui) nin0))) ge_a0 ne_a0_ug ne_a0_uf ne_a0_ue ne_a0_ur ne_a0_uv ne_a0_ub ne_a0_uc ne2307 ne2321 ne_a0_ui hI) hZ (own_wk hw 101 rfl) (own_wk hw 2 rfl) (by decide) (by decide)) (g := (mkF m 190 #[.val (.ref a0), .val (.ref a1), .val (.ref a2), .val (.int 2), .unset, .unset, .unset, .unset] [(.ref a0)])) rfl (by rw [hml]; rfl) (Steps.refl _) (a := a0) (by rw [e2459]; exact q2467) q2467' (argsL := []) (rest := []) (lenOf pd_2 rfl) rfl (by show 2 * 0 + _ ≤ _; exact Nat.le_of_eq rfl) (D d7_190) (fun _ _ => ⟨rfl, e2459, (by decide : 7 + 12 ≤ _), (by decide : 8 + 23 ≤ _)⟩)
  dsimp only [Pt.U, Pt.locs, Pt.cells, Pt.slots] at X2467 l2467 y2467 z2467 st2467 hQ2467
  subst l2467 y2467 z2467
  obtain ⟨va2467, kv2467, iv2467, i02467, i12467, kz0_2467, kz1_2467, kz2_2467, kz3_2467, kz4_2467, rfl, N2467q, K2467, ⟨gq_va2467, gq_kv2467, gq_iv2467, gq_i02467, gq_i12467⟩, Ob2467, Vva2467, Vkv2467, Viv2467, Vi02467, Vi12467⟩ := hQ2467
  have N2467 := Fr.app N2459 N2467q
  have ne2468 : a0 ≠ va2467 := Nat.ne_of_lt (Nat.lt_of_lt_of_le (Ob2459.get 0 rfl rfl).lt gq_va2467)
  have gs_va2467 : h0.size ≤ va2467 := Nat.le_trans kp2465.1 gq_va2467
  have ne2469 : a0 ≠ kv2467 := Nat.ne_of_lt (Nat.lt_of_lt_of_le (Ob2459.get 0 rfl rfl).lt gq_kv2467)
  have gs_kv2467 : h0.size ≤ kv2467 := Nat.le_trans kp2465.1 gq_kv2467
  have ne2470 : a0 ≠ iv2467 := Nat.ne_of_lt (Nat.lt_of_lt_of_le (Ob2459.get 0 rfl rfl).lt gq_iv2467)
  have gs_iv2467 : h0.size ≤ iv2467 := Nat.le_trans kp2465.1 gq_iv2467
  have ne2471 : a0 ≠ i02467 := Nat.ne_of_lt (Nat.lt_of_lt_of_le (Ob2459.get 0 rfl rfl).lt gq_i02467)
  have gs_i02467 : h0.size ≤ i02467 := Nat.le_trans kp2465.1 gq_i02467
  have ne2472 : a0 ≠ i12467 := Nat.ne_of_lt (Nat.lt_of_lt_of_le (Ob2459.get 0 rfl rfl).lt gq_i12467)
  have gs_i12467 : h0.size ≤ i12467 := Nat.le_trans kp2465.1 gq_i12467
  have x2473 := x2460.keep K2467
  have x2474 := x2461.keep K2467 (ninS (Ne.symm ne2307) nin0)
  have x2475 := x2462.keep K2467 (ninS (Ne.symm ne2321) nin0)
  have kp2476 : Keep h0 T2467.heap [a0, up] := kp2465.trans K2467 (allS (Or.inl (List.mem_of_getElem? (i := 0) rfl)) all0)
  obtain ⟨T2477, X2477, e2477, st2477⟩ := own_gf X2467 hx hZ hown (own_wk hw 41 rfl) rfl Ob2467 14 rfl rfl (g := (mkF m 194 #[.val (.ref a0), .val (.ref a1), .val (.ref a2), .val (.int 2), .unset, .unset, .unset, .unset] [(.ref a0)])) rfl rfl (D d7_194)
  obtain ⟨cl2478, Ar2478, -, S2478, M2478, -, -⟩ := id Vva2467
  have ld2478 := X2477.arraylength hx (by rw [e2477]; exact Ar2478.1) (State.isArrayOf_alike hZ.alike Ar2478.2.1) (g := (mkF m 199 (own_loc81 a0 a1 a2 va2467) [(.ref va2467)])) rfl rfl (D d7_199)
  obtain ⟨T2481, X2481, e2481, st2481⟩ := own_gf X2477 hx hZ hown (own_wk hw 33 rfl) e2477 Ob2467 11 rfl rfl (g := (mkF m 244 (own_loc86 a0 a1 a2 va2467) [(.ref a0)])) rfl rfl (D d7_244)
  obtain ⟨cl2482, Ar2482, -, S2482, M2482, -, -⟩ := id Vkv2467
  have ld2482 := X2481.arraylength hx (by rw [e2481]; exact Ar2482.1) (State.isArrayOf_alike hZ.alike Ar2482.2.1) (g := (mkF m 249 (own_loc87 a0 a1 a2 kv2467) [(.ref kv2467)])) rfl rfl (D d7_249)
  obtain ⟨T2484, h2484, X2484, e2484, W2484, st2484⟩ := putFN X2481 hx hZ hown (own_wk hw 59 rfl) Via.refl e2481 (Ob2467.get 20 rfl rfl : Fld Z T2467.heap a0 own_K "started" "Z" w_started) x2473 (Or.inl (own_wk hw 60 rfl)) (own_wk hw 1 rfl) (ty := .boolean) (v' := (.int (1 : Int32))) (by decide) rfl (fits_nar_bool (1 : Int32)) (g := (mkF m 295 (own_loc91 a0 a1 a2 kv2467) [.int 1, (.ref a0)])) rfl rfl (D d7_295)
  have Ob2484 := Ob2467.put (own_layw hw) 20 rfl W2484
  have x2485 := x2473.wr W2484
  have x2486 := x2474.other W2484 (Ne.symm ne2307)
  have x2487 := x2475.other W2484 (Ne.symm ne2321)
  have x2488 := Vva2467.other W2484 (Ne.symm ne2468)
  have x2489 := Vkv2467.other W2484 (Ne.symm ne2469)
  have x2490 := Viv2467.other W2484 (Ne.symm ne2470)
  have x2491 := Vi02467.other W2484 (Ne.symm ne2471)
  have x2492 := Vi12467.other W2484 (Ne.symm ne2472)
  have kp2493 : Keep h0 h2484 [a0, up] := kp2476.wr W2484 (Or.inl (List.mem_of_getElem? (i := 0) rfl))
  have N2484 := Fr.snoc X2484 N2467 ge_a0
  obtain ⟨fs, hr, hrun, hended, hW, hsame⟩ := X2484.leave (v := none) (fun _ => rfl)
  refine ⟨_, _, pre0 _ ?_, hrun, hended, _, _, rfl, ?_, ⟨_, rfl⟩, hW, hsame.mono (by decide) (by decide)⟩
  · show own_S p e below s₁ (mkF m 0 #[.val (.ref a0), .val (.ref a1), .val (.ref a2), .unset, .unset, .unset, .unset, .unset] []) _
    refine cp2466 _ (st2467.trans (XS.aloadN X2467.here hx rfl (D d7_193) rfl rfl (st2477 _ (XS.astoreN X2477.here hx rfl (D d7_197) rfl rfl (l' := (own_loc81 a0 a1 a2 va2467)) rfl (XS.aloadN X2477.here hx rfl (D d7_198) rfl rfl (ld2478 _ ?_))))))
    rw [len_of S2478 M2478]
    show own_S p e below T2477 (mkF m 200 (own_loc81 a0 a1 a2 va2467) [.int 2]) _
    refine XS.istore X2477.here hx rfl (D d7_200) rfl (l' := (own_loc82 a0 a1 a2 va2467)) rfl (XS.iconst X2477.here hx rfl (D d7_202) (XS.istore X2477.here hx rfl (D d7_203) rfl (l' := (own_loc83 a0 a1 a2 va2467)) rfl (XS.iload X2477.here hx rfl (D d7_205) rfl (XS.iload X2477.here hx rfl (D d7_207) rfl (XS.icmpNo X2477.here hx rfl (D d7_209) rfl (tlt (by decide : (0 : Int32) < (2 : Int32))).2.1 (XS.aloadN X2477.here hx rfl (D d7_212) rfl rfl (XS.iload X2477.here hx rfl (D d7_213) rfl (own_ldD X2477 hx hZ e2477 Vva2467 (j := (0 : Int32)) ⟨(by decide), (by decide)⟩ (v := (.double (0 : UInt64))) rfl rfl rfl (D d7_215) (XS.dstore X2477.here hx rfl (D d7_216) rfl (l' := (own_loc84 a0 a1 a2 va2467)) rfl ?_)))))))))
    refine XS.dload X2477.here hx rfl (D d7_218) rfl (X2477.ldc2DoubleC hx hown (mvT hZ (own_wk hw 142 rfl)) (g := (mkF m 220 (own_loc84 a0 a1 a2 va2467) [(.double (0 : UInt64))])) rfl (D d7_220) _ (XS.dcmpS X2477.here hx rfl (D d7_223) rfl rfl (XS.ifYes X2477.here hx rfl (pc0 := 224) (pc' := 237) rfl (D d7_224) rfl ((if0 _ _).trans (flt (show ¬ ((cmpValue (FP.dcmp (0 : UInt64) (13695778570484766357 : UInt64)) .g) < (0 : Int32)) from by decide +kernel)).2.1) (by decide) (by decide) ?_)))
    show own_S p e below T2477 (mkF m 237 (own_loc84 a0 a1 a2 va2467) []) _
    refine XS.iinc X2477.here hx rfl (D d7_237) rfl (l' := (own_loc85 a0 a1 a2 va2467)) rfl (XS.goto X2477.here hx rfl (pc0 := 240) (pc' := 205) rfl (D d7_240) (by decide) (by decide) (XS.iload X2477.here hx rfl (D d7_205) rfl (XS.iload X2477.here hx rfl (D d7_207) rfl (XS.icmpNo X2477.here hx rfl (D d7_209) rfl (tlt (by decide : (1 : Int32) < (2 : Int32))).2.1 (XS.aloadN X2477.here hx rfl (D d7_212) rfl rfl (XS.iload X2477.here hx rfl (D d7_213) rfl (own_ldD X2477 hx hZ e2477 Vva2467 (j := (1 : Int32)) ⟨(by decide), (by decide)⟩ (v := (.double (0 : UInt64))) rfl rfl rfl (D d7_215) (XS.dstore X2477.here hx rfl (D d7_216) rfl (l' := (own_loc85 a0 a1 a2 va2467)) rfl (XS.dload X2477.here hx rfl (D d7_218) rfl ?_)))))))))
    refine X2477.ldc2DoubleC hx hown (mvT hZ (own_wk hw 142 rfl)) (g := (mkF m 220 (own_loc85 a0 a1 a2 va2467) [(.double (0 : UInt64))])) rfl (D d7_220) _ (XS.dcmpS X2477.here hx rfl (D d7_223) rfl rfl (XS.ifYes X2477.here hx rfl (pc0 := 224) (pc' := 237) rfl (D d7_224) rfl ((if0 _ _).trans (flt (show ¬ ((cmpValue (FP.dcmp (0 : UInt64) (13695778570484766357 : UInt64)) .g) < (0 : Int32)) from by decide +kernel)).2.1) (by decide) (by decide) (XS.iinc X2477.here hx rfl (D d7_237) rfl (l' := (own_loc86 a0 a1 a2 va2467)) rfl ?_)))
    show own_S p e below T2477 (mkF m 240 (own_loc86 a0 a1 a2 va2467) []) _
    refine XS.goto X2477.here hx rfl (pc0 := 240) (pc' := 205) rfl (D d7_240) (by decide) (by decide) (XS.iload X2477.here hx rfl (D d7_205) rfl (XS.iload X2477.here hx rfl (D d7_207) rfl (XS.icmpYes X2477.here hx rfl (pc0 := 209) (pc' := 243) rfl (D d7_209) rfl (flt (by decide : ¬ ((2 : Int32) < (2 : Int32)))).2.1 (by decide) (by decide) (XS.aloadN X2477.here hx rfl (D d7_243) rfl rfl (st2481 _ (XS.astoreN X2481.here hx rfl (D d7_247) rfl rfl (l' := (own_loc87 a0 a1 a2 kv2467)) rfl (XS.aloadN X2481.here hx rfl (D d7_248) rfl rfl (ld2482 _ ?_))))))))
    rw [len_of S2482 M2482]
    show own_S p e below T2481 (mkF m 250 (own_loc87 a0 a1 a2 kv2467) [.int 1]) _
    refine XS.istore X2481.here hx rfl (D d7_250) rfl (l' := (own_loc88 a0 a1 a2 kv2467)) rfl (XS.iconst X2481.here hx rfl (D d7_252) (XS.istore X2481.here hx rfl (D d7_253) rfl (l' := (own_loc89 a0 a1 a2 kv2467)) rfl (XS.iload X2481.here hx rfl (D d7_255) rfl (XS.iload X2481.here hx rfl (D d7_257) rfl (XS.icmpNo X2481.here hx rfl (D d7_259) rfl (tlt (by decide : (0 : Int32) < (1 : Int32))).2.1 (XS.aloadN X2481.here hx rfl (D d7_262) rfl rfl (XS.iload X2481.here hx rfl (D d7_263) rfl (own_ldD X2481 hx hZ e2481 Vkv2467 (j := (0 : Int32)) ⟨(by decide), (by decide)⟩ (v := (.double (4607182418800017408 : UInt64))) rfl rfl rfl (D d7_265) (XS.dstore X2481.here hx rfl (D d7_266) rfl (l' := (own_loc90 a0 a1 a2 kv2467)) rfl ?_)))))))))
    refine XS.dload X2481.here hx rfl (D d7_268) rfl (X2481.ldc2DoubleC hx hown (mvT hZ (own_wk hw 142 rfl)) (g := (mkF m 270 (own_loc90 a0 a1 a2 kv2467) [(.double (4607182418800017408 : UInt64))])) rfl (D d7_270) _ (XS.dcmpS X2481.here hx rfl (D d7_273) rfl rfl (XS.ifYes X2481.here hx rfl (pc0 := 274) (pc' := 287) rfl (D d7_274) rfl ((if0 _ _).trans (flt (show ¬ ((cmpValue (FP.dcmp (4607182418800017408 : UInt64) (13695778570484766357 : UInt64)) .g) < (0 : Int32)) from by decide +kernel)).2.1) (by decide) (by decide) ?_)))
    show own_S p e below T2481 (mkF m 287 (own_loc90 a0 a1 a2 kv2467) []) _
    refine XS.iinc X2481.here hx rfl (D d7_287) rfl (l' := (own_loc91 a0 a1 a2 kv2467)) rfl (XS.goto X2481.here hx rfl (pc0 := 290) (pc' := 255) rfl (D d7_290) (by decide) (by decide) (XS.iload X2481.here hx rfl (D d7_255) rfl (XS.iload X2481.here hx rfl (D d7_257) rfl (XS.icmpYes X2481.here hx rfl (pc0 := 259) (pc' := 293) rfl (D d7_259) rfl (flt (by decide : ¬ ((1 : Int32) < (1 : Int32)))).2.1 (by decide) (by decide) (XS.aloadN X2481.here hx rfl (D d7_293) rfl rfl (XS.iconst X2481.here hx rfl (D d7_294) (st2484 _ ?_)))))))
    show own_S p e below T2484 (mkF m 298 (own_loc91 a0 a1 a2 kv2467) []) _
    exact X2484.returnOut hx Bd.returns (D d7_298) hr
  · show Q7 Z a0 a1 a2 uc ug up uf ue w_entryRooms ur uv ub w_slacks w_keys w_keyValues w_head ui w_values w_groupDualPass w_groupDualValues w_rates w_rated w_ratedGroups w_started w_variableCount w_entriesUsed w_objective w_pivotsSinceInversion kug lg kuf lf kue le kur lr kuv lv kub lb kuc lc kup lp kui ka1 ka2 hd0 hd1 ck n00 n01 n10 n11 h0 n0 _ T2484.heap _
    rw [e2484]
    exact ⟨b2306, b2320, iv2467, i02467, i12467, va2467, kv2467, b2368, b2391, b2410, b2429, b2448, ka1, ka2, kz2_2467, kz3_2467, kz4_2467, rfl, N2484, kp2493, Ob2484, x2486, x2487, x2490, x2491, x2492⟩
theorem ef_17 (m : MethodId) (a0 : Addr) : entryFrame m #[(.ref a0)] 9 = mkF m 0 #[.val (.ref a0), .unset, .unset, .unset, .unset, .unset, .unset, .unset, .unset] [] := by first | (simp [entryFrame, mkF, argsToLocals, Value.category]; done) | rfl
abbrev own_d17 (p : Nat) (i : Instr) (n : Nat) : Prop := decode prog_56_method_13_code p = .ok (i, n)
theorem d17_0 : own_d17 0 (.aload_n 0) 1 := by decide +kernel
theorem d17_1 : own_d17 1 (.getfield 121) 3 := by decide +kernel
theorem d17_4 : own_d17 4 (.newarray .double) 2 := by decide +kernel
theorem d17_6 : own_d17 6 (.astore_n 1) 1 := by decide +kernel
theorem d17_7 : own_d17 7 (.iconst 0) 1 := by decide +kernel
theorem d17_8 : own_d17 8 (.istore_n 2) 1 := by decide +kernel
theorem d17_9 : own_d17 9 (.iload_n 2) 1 := by decide +kernel
theorem d17_10 : own_d17 10 (.aload_n 0) 1 := by decide +kernel
theorem d17_11 : own_d17 11 (.getfield 121) 3 := by decide +kernel
theorem d17_14 : own_d17 14 (.if_icmp .ge 102) 3 := by decide +kernel
theorem d17_17 : own_d17 17 (.aload_n 0) 1 := by decide +kernel
theorem d17_18 : own_d17 18 (.getfield 47) 3 := by decide +kernel
theorem d17_21 : own_d17 21 (.iload_n 2) 1 := by decide +kernel
theorem d17_22 : own_d17 22 .iaload 1 := by decide +kernel
theorem d17_23 : own_d17 23 (.istore_n 3) 1 := by decide +kernel
abbrev own_loc92 (a0 b2495 : Addr) (hd0 : Int32) : Array Slot := #[.val (.ref a0), .val (.ref b2495), .val (.int 0), .val (.int hd0), .unset, .unset, .unset, .unset, .unset]
theorem d17_24 : own_d17 24 (.aload_n 0) 1 := by decide +kernel
theorem d17_25 : own_d17 25 (.getfield 7) 3 := by decide +kernel
theorem d17_28 : own_d17 28 (.iload_n 3) 1 := by decide +kernel
theorem d17_29 : own_d17 29 .daload 1 := by decide +kernel
theorem d17_30 : own_d17 30 (.dstore 4) 2 := by decide +kernel
abbrev own_loc93 (a0 b2495 : Addr) (hd0 : Int32) (c0 : UInt64) : Array Slot := #[.val (.ref a0), .val (.ref b2495), .val (.int 0), .val (.int hd0), .val (.double c0), .second, .unset, .unset, .unset]
theorem d17_32 : own_d17 32 (.aload_n 0) 1 := by decide +kernel
theorem d17_33 : own_d17 33 (.getfield 13) 3 := by decide +kernel
theorem d17_36 : own_d17 36 (.iload_n 3) 1 := by decide +kernel
theorem d17_37 : own_d17 37 .iaload 1 := by decide +kernel
theorem d17_38 : own_d17 38 (.istore 6) 2 := by decide +kernel
abbrev own_loc94 (a0 b2495 : Addr) (hd0 : Int32) (c0 : UInt64) (g0 : Int32) : Array Slot := #[.val (.ref a0), .val (.ref b2495), .val (.int 0), .val (.int hd0), .val (.double c0), .second, .val (.int g0), .unset, .unset]
theorem d17_40 : own_d17 40 (.iload 6) 2 := by decide +kernel
theorem d17_42 : own_d17 42 (.ifCond .lt 20) 3 := by decide +kernel
abbrev own_loc95 (a0 b2495 : Addr) (hd0 : Int32) (x0 : UInt64) (g0 : Int32) : Array Slot := #[.val (.ref a0), .val (.ref b2495), .val (.int 0), .val (.int hd0), .val (.double x0), .second, .val (.int g0), .unset, .unset]
theorem d17_45 : own_d17 45 (.dload 4) 2 := by decide +kernel
theorem d17_47 : own_d17 47 (.aload_n 0) 1 := by decide +kernel
theorem d17_48 : own_d17 48 (.getfield 7) 3 := by decide +kernel
theorem d17_51 : own_d17 51 (.aload_n 0) 1 := by decide +kernel
theorem d17_52 : own_d17 52 (.getfield 41) 3 := by decide +kernel
theorem d17_55 : own_d17 55 (.iload 6) 2 := by decide +kernel
theorem d17_57 : own_d17 57 .iaload 1 := by decide +kernel
theorem d17_58 : own_d17 58 .daload 1 := by decide +kernel
theorem d17_59 : own_d17 59 .dsub 1 := by decide +kernel
theorem d17_60 : own_d17 60 (.dstore 4) 2 := by decide +kernel
theorem d17_62 : own_d17 62 (.dload 4) 2 := by decide +kernel
theorem d17_64 : own_d17 64 (.dconst 0) 1 := by decide +kernel
theorem d17_65 : own_d17 65 (.dcmp .l) 1 := by decide +kernel
theorem d17_66 : own_d17 66 (.ifCond .eq 44) 3 := by decide +kernel
theorem d17_69 : own_d17 69 (.aload_n 0) 1 := by decide +kernel
theorem d17_70 : own_d17 70 (.getfield 52) 3 := by decide +kernel
theorem d17_73 : own_d17 73 (.iload_n 2) 1 := by decide +kernel
theorem d17_74 : own_d17 74 .aaload 1 := by decide +kernel
theorem d17_75 : own_d17 75 (.astore 7) 2 := by decide +kernel
abbrev own_loc96 (a0 b2495 : Addr) (hd0 : Int32) (x0 : UInt64) (g0 : Int32) (i0 : Addr) : Array Slot := #[.val (.ref a0), .val (.ref b2495), .val (.int 0), .val (.int hd0), .val (.double x0), .second, .val (.int g0), .val (.ref i0), .unset]
theorem d17_77 : own_d17 77 (.iconst 0) 1 := by decide +kernel
theorem d17_78 : own_d17 78 (.istore 8) 2 := by decide +kernel
abbrev own_loc97 (a0 b2495 : Addr) (hd0 : Int32) (x0 : UInt64) (g0 : Int32) (i0 : Addr) : Array Slot := #[.val (.ref a0), .val (.ref b2495), .val (.int 0), .val (.int hd0), .val (.double x0), .second, .val (.int g0), .val (.ref i0), .val (.int 0)]
theorem d17_80 : own_d17 80 (.iload 8) 2 := by decide +kernel
theorem d17_82 : own_d17 82 (.aload_n 0) 1 := by decide +kernel
theorem d17_83 : own_d17 83 (.getfield 121) 3 := by decide +kernel
theorem d17_86 : own_d17 86 (.if_icmp .ge 24) 3 := by decide +kernel
theorem d17_89 : own_d17 89 (.aload_n 1) 1 := by decide +kernel
theorem d17_90 : own_d17 90 (.iload 8) 2 := by decide +kernel
theorem d17_92 : own_d17 92 .dup2 1 := by decide +kernel
theorem d17_93 : own_d17 93 .daload 1 := by decide +kernel
theorem d17_94 : own_d17 94 (.dload 4) 2 := by decide +kernel
theorem d17_96 : own_d17 96 (.aload 7) 2 := by decide +kernel
theorem d17_98 : own_d17 98 (.iload 8) 2 := by decide +kernel
theorem d17_100 : own_d17 100 .daload 1 := by decide +kernel
theorem d17_101 : own_d17 101 .dmul 1 := by decide +kernel
theorem d17_102 : own_d17 102 .dadd 1 := by decide +kernel
theorem d17_103 : own_d17 103 .dastore 1 := by decide +kernel
theorem d17_104 : own_d17 104 (.iinc 8 1) 3 := by decide +kernel
abbrev own_loc98 (a0 b2495 : Addr) (hd0 : Int32) (x0 : UInt64) (g0 : Int32) (i0 : Addr) : Array Slot := #[.val (.ref a0), .val (.ref b2495), .val (.int 0), .val (.int hd0), .val (.double x0), .second, .val (.int g0), .val (.ref i0), .val (.int 1)]
theorem d17_107 : own_d17 107 (.goto (-27)) 3 := by decide +kernel
abbrev own_loc99 (a0 b2495 : Addr) (hd0 : Int32) (x0 : UInt64) (g0 : Int32) (i0 : Addr) : Array Slot := #[.val (.ref a0), .val (.ref b2495), .val (.int 0), .val (.int hd0), .val (.double x0), .second, .val (.int g0), .val (.ref i0), .val (.int 2)]
abbrev own_loc100 (a0 b2495 : Addr) (hd0 : Int32) (x0 : UInt64) (g0 : Int32) (sl2531 sl2532 : Slot) : Array Slot := #[.val (.ref a0), .val (.ref b2495), .val (.int 0), .val (.int hd0), .val (.double x0), .second, .val (.int g0), sl2531, sl2532]
theorem d17_110 : own_d17 110 (.iinc 2 1) 3 := by decide +kernel
abbrev own_loc101 (a0 b2495 : Addr) (hd0 : Int32) (x0 : UInt64) (g0 : Int32) (sl2531 sl2532 : Slot) : Array Slot := #[.val (.ref a0), .val (.ref b2495), .val (.int 1), .val (.int hd0), .val (.double x0), .second, .val (.int g0), sl2531, sl2532]
theorem d17_113 : own_d17 113 (.goto (-104)) 3 := by decide +kernel
abbrev own_loc102 (a0 b2495 : Addr) (hd1 : Int32) (x0 : UInt64) (g0 : Int32) (sl2531 sl2532 : Slot) : Array Slot := #[.val (.ref a0), .val (.ref b2495), .val (.int 1), .val (.int hd1), .val (.double x0), .second, .val (.int g0), sl2531, sl2532]
abbrev own_loc103 (a0 b2495 : Addr) (hd1 : Int32) (c1 : UInt64) (g0 : Int32) (sl2531 sl2532 : Slot) : Array Slot := #[.val (.ref a0), .val (.ref b2495), .val (.int 1), .val (.int hd1), .val (.double c1), .second, .val (.int g0), sl2531, sl2532]
abbrev own_loc104 (a0 b2495 : Addr) (hd1 : Int32) (c1 : UInt64) (g1 : Int32) (sl2531 sl2532 : Slot) : Array Slot := #[.val (.ref a0), .val (.ref b2495), .val (.int 1), .val (.int hd1), .val (.double c1), .second, .val (.int g1), sl2531, sl2532]
abbrev own_loc105 (a0 b2495 : Addr) (hd1 : Int32) (x1 : UInt64) (g1 : Int32) (sl2531 sl2532 : Slot) : Array Slot := #[.val (.ref a0), .val (.ref b2495), .val (.int 1), .val (.int hd1), .val (.double x1), .second, .val (.int g1), sl2531, sl2532]
abbrev own_loc106 (a0 b2495 : Addr) (hd1 : Int32) (x1 : UInt64) (g1 : Int32) (i1 : Addr) (sl2532 : Slot) : Array Slot := #[.val (.ref a0), .val (.ref b2495), .val (.int 1), .val (.int hd1), .val (.double x1), .second, .val (.int g1), .val (.ref i1), sl2532]
abbrev own_loc107 (a0 b2495 : Addr) (hd1 : Int32) (x1 : UInt64) (g1 : Int32) (i1 : Addr) : Array Slot := #[.val (.ref a0), .val (.ref b2495), .val (.int 1), .val (.int hd1), .val (.double x1), .second, .val (.int g1), .val (.ref i1), .val (.int 0)]
abbrev own_loc108 (a0 b2495 : Addr) (hd1 : Int32) (x1 : UInt64) (g1 : Int32) (i1 : Addr) : Array Slot := #[.val (.ref a0), .val (.ref b2495), .val (.int 1), .val (.int hd1), .val (.double x1), .second, .val (.int g1), .val (.ref i1), .val (.int 1)]
abbrev own_loc109 (a0 b2495 : Addr) (hd1 : Int32) (x1 : UInt64) (g1 : Int32) (i1 : Addr) : Array Slot := #[.val (.ref a0), .val (.ref b2495), .val (.int 1), .val (.int hd1), .val (.double x1), .second, .val (.int g1), .val (.ref i1), .val (.int 2)]
abbrev own_loc110 (a0 b2495 : Addr) (hd1 : Int32) (x1 : UInt64) (g1 : Int32) (sl2569 sl2570 : Slot) : Array Slot := #[.val (.ref a0), .val (.ref b2495), .val (.int 1), .val (.int hd1), .val (.double x1), .second, .val (.int g1), sl2569, sl2570]
abbrev own_loc111 (a0 b2495 : Addr) (hd1 : Int32) (x1 : UInt64) (g1 : Int32) (sl2569 sl2570 : Slot) : Array Slot := #[.val (.ref a0), .val (.ref b2495), .val (.int 2), .val (.int hd1), .val (.double x1), .second, .val (.int g1), sl2569, sl2570]
theorem d17_116 : own_d17 116 (.aload_n 1) 1 := by decide +kernel
theorem d17_117 : own_d17 117 .areturn 1 := by decide +kernel
set_option maxRecDepth 65536 in
set_option maxHeartbeats 40000000 in
theorem rm17 (l : Launch) (Z : State) (ag : Array Value) (hw : ∀ d ∈ tables_1, d.before ag Z = true) (ws : List Jvm.Cond) (a0 uc ug : Addr) (w_positionOf w_firstEntry w_entryCounts w_entryRooms w_entryRows w_entryValues w_bounds w_slacks : Value) (uk : Addr) (w_keyValues : Value) (uh ui : Addr) (w_values w_groupDualPass w_groupDualValues w_rates w_rated w_ratedGroups w_started w_groupCount w_variableCount w_entriesUsed w_objective w_pivotsSinceInversion : Value) (kuh : ClassId) (hd0 hd1 : Int32) (kuc : ClassId) (lc : List Value) (kug : ClassId) (lg : List Value) (kuk kui : ClassId) (i0 i1 : Addr) (ki0 : ClassId) (n00 n01 : UInt64) (ki1 : ClassId) (n10 n11 ck : UInt64) (g0 g1 : Int32) (c0 x0 c1 x1 : UInt64) (h0 : Heap) (n0 : Nat) (Z0 : n0 ≤ h0.size) (E_a0 : Exa Z h0 a0 own_K) (Ob_a0 : own_fs own_K own_N Z h0 a0 [(.ref uc), (.ref ug), w_positionOf, w_firstEntry, w_entryCounts, w_entryRooms, w_entryRows, w_entryValues, w_bounds, w_slacks, (.ref uk), w_keyValues, (.ref uh), (.ref ui), w_values, w_groupDualPass, w_groupDualValues, w_rates, w_rated, w_ratedGroups, w_started, w_groupCount, w_variableCount, w_entriesUsed, (.int (2 : Int32)), w_objective, w_pivotsSinceInversion]) (V_uh : Arv Z h0 uh kuh .int (2 : Int32) [(.int hd0), (.int hd1)] (.int (0 : Int32))) (V_uc : Arv Z h0 uc kuc .double (16 : Int32) lc (.double (0 : UInt64))) (V_ug : Arv Z h0 ug kug .int (16 : Int32) lg (.int (0 : Int32))) (V_uk : Arv Z h0 uk kuk .int (1 : Int32) [(.int (0 : Int32))] (.int (0 : Int32))) (V_ui : Arv Z h0 ui kui (.array .double) (2 : Int32) [(.ref i0), (.ref i1)] .null) (V_i0 : Arv Z h0 i0 ki0 .double (2 : Int32) [(.double n00), (.double n01)] (.double (0 : UInt64))) (V_i1 : Arv Z h0 i1 ki1 .double (2 : Int32) [(.double n10), (.double n11)] (.double (0 : UInt64))) (hck : lc.getD 0 (.double (0 : UInt64)) = .double ck) (hv0 : ¬ hd0 < 0 ∧ hd0 < (16 : Int32)) (hg0 : lg.getD (hd0).toNatClampNeg (.int (0 : Int32)) = .int g0) (hc0 : lc.getD (hd0).toNatClampNeg (.double (0 : UInt64)) = .double c0) (hx0 : g0 < 0 → c0 = x0) (hy0 : ¬ g0 < 0 → g0 = 0 ∧ Jvm.Free.Fl.NoNaN64 (FP.dsub c0 ck) ∧ FP.dsub c0 ck = x0) (wx0 : own_w x0) (hv1 : ¬ hd1 < 0 ∧ hd1 < (16 : Int32)) (hg1 : lg.getD (hd1).toNatClampNeg (.int (0 : Int32)) = .int g1) (hc1 : lc.getD (hd1).toNatClampNeg (.double (0 : UInt64)) = .double c1) (hx1 : g1 < 0 → c1 = x1) (hy1 : ¬ g1 < 0 → g1 = 0 ∧ Jvm.Free.Fl.NoNaN64 (FP.dsub c1 ck) ∧ FP.dsub c1 ck = x1) (wx1 : own_w x1) (wn00 : own_w n00) (wn01 : own_w n01) (wn10 : own_w n10) (wn11 : own_w n11) :
    MetFree l (⟨own_K, "duals", "()[D"⟩ : MethodName) (head1 (Jvm.Cond.code (⟨own_K, "duals", "()[D"⟩ : MethodName) prog_56_method_13_code 9 (some (.array .double)) :: ws) ({ frames := 0, cells := 1, slots := 2, locals := 0 } : Room)) (fun a U => a = #[(.ref a0)] ∧ Z.Warmed39 U.vm ∧ U.heap = h0) (fun _ _ _ _ _ => True) (fun _ U o U' => ∃ v L, o = .returned v ∧ own_Qc Z h0 n0 (own_st (own_st (0 : UInt64) x0 n00) x1 n10) (own_st (own_st (0 : UInt64) x0 n01) x1 n11) v U'.heap L ∧ FrameEnd U o U' L ({ frames := 0, cells := 1, slots := 2, locals := 0 } : Room).cells ({ frames := 0, cells := 1, slots := 2, locals := 0 } : Room).slots) := by
  refine MetFree.of_bodySF (plainFor_of_name pn_0) hisR ?_
  intro p e s m args below meth c s₁ Bd hml0 hP hK
  obtain ⟨rfl, hZ, hh⟩ := hP
  have hx := Bd.exec
  have hby := Bd.bytes
  have hml : c.maxLocals = 9 := hml0
  have hown : s.vm.findClass own_K = some m.cls := findClass_of_methodNamed Bd.named
  have hnm := (name_of_methodNamed Bd.named Bd.method).1
  have X0 : Stand p l e ({ frames := 0, cells := 1, slots := 2, locals := 0 } : Room) s m #[(.ref a0)] below meth c s₁ [] 0 0 := Stand.of_body Bd
  have e0 : s₁.heap = h0 := by rw [← hh, Bd.state]; rfl
  have N0 := Fr.nil n0
  have D : ∀ {pc : Nat} {r : Except DecodeError (Instr × Nat)}, decode prog_56_method_13_code pc = r → decode c.code pc = r := fun q => hb hby q
  have pre0 : ∀ t, Steps p.tables e below (s₁.setTop (mkF m 0 #[.val (.ref a0), .unset, .unset, .unset, .unset, .unset, .unset, .unset, .unset] [])) t → Steps p.tables e below (s₁.setTop (entryFrame m #[(.ref a0)] 9)) t := fun t k => castTop (ef_17 m a0) k
  obtain ⟨T2494, X2494, e2494, st2494⟩ := own_gf X0 hx hZ hown (own_wk hw 81 rfl) e0 Ob_a0 24 rfl rfl (g := (mkF m 1 #[.val (.ref a0), .unset, .unset, .unset, .unset, .unset, .unset, .unset, .unset] [(.ref a0)])) rfl rfl (D d17_1)
  obtain ⟨T2495, h2495, k2495, X2495, e2495, E2495, A2495, EA2495, st2495⟩ := newPE X2494 hx hZ (own_wk hw 9 rfl) e2494 (g := (mkF m 4 #[.val (.ref a0), .unset, .unset, .unset, .unset, .unset, .unset, .unset, .unset] [.int 2])) rfl (D d17_4) rfl (by decide) (cap := 2) (by decide) (by decide) (by decide) (by decide) (ad := "[D") (by decide)
  obtain ⟨b2495, g2495⟩ : ∃ z, z = h0.size := ⟨_, rfl⟩
  have ge_b2495 : n0 ≤ b2495 := Nat.le_trans Z0 (Nat.le_of_eq g2495.symm)
  have gs_b2495 : h0.size ≤ b2495 := Nat.le_trans (Keep.refl h0 []).1 (Nat.le_of_eq g2495.symm)
  rw [← g2495] at A2495 st2495 EA2495
  have kp2496 : Keep h0 h2495 [] := (Keep.refl h0 []).ext E2495
  have V2495 : Arv Z h2495 b2495 k2495 .double (2 : Int32) [(.double (0 : UInt64)), (.double (0 : UInt64))] (.double (0 : UInt64)) := (Arv.new A2495 (by decide)).pad (pad_rep [] (.double (0 : UInt64)) 2)
  obtain ⟨T2497, X2497, e2497, st2497⟩ := own_gf X2495 hx hZ hown (own_wk hw 81 rfl) e2495 (Ob_a0.keep kp2496 nin0) 24 rfl rfl (g := (mkF m 11 #[.val (.ref a0), .val (.ref b2495), .val (.int 0), .unset, .unset, .unset, .unset, .unset, .unset] [(.ref a0), .int 0])) rfl rfl (D d17_11)
  obtain ⟨T2498, X2498, e2498, st2498⟩ := own_gf X2497 hx hZ hown (own_wk hw 35 rfl) e2497 (Ob_a0.keep kp2496 nin0) 12 rfl rfl (g := (mkF m 18 #[.val (.ref a0), .val (.ref b2495), .val (.int 0), .unset, .unset, .unset, .unset, .unset, .unset] [(.ref a0)])) rfl rfl (D d17_18)
  obtain ⟨T2500, X2500, e2500, st2500⟩ := own_gf X2498 hx hZ hown (own_wk hw 10 rfl) e2498 (Ob_a0.keep kp2496 nin0) 0 rfl rfl (g := (mkF m 25 (own_loc92 a0 b2495 hd0) [(.ref a0)])) rfl rfl (D d17_25)
  obtain ⟨T2502, X2502, e2502, st2502⟩ := own_gf X2500 hx hZ hown (own_wk hw 13 rfl) e2500 (Ob_a0.keep kp2496 nin0) 1 rfl rfl (g := (mkF m 33 (own_loc93 a0 b2495 hd0 c0) [(.ref a0)])) rfl rfl (D d17_33)
  obtain ⟨T2504, h2504, L2504, X2504, e2504, sz2504, N2504, kp2504, x2511, x2512, st2504⟩ : ∃ (T2504 : State) (h2504 : Heap) (L2504 : List Loc), (Stand p l e ({ frames := 0, cells := 1, slots := 2, locals := 0 } : Room) s m #[(.ref a0)] below meth c T2504 L2504 1 2) ∧ (T2504.heap = h2504) ∧ (n0 ≤ h2504.size) ∧ (Fr n0 L2504) ∧ (Keep h0 h2504 []) ∧ (Exa Z h2504 b2495 "[D") ∧ (Arv Z h2504 b2495 k2495 .double (2 : Int32) [(.double (0 : UInt64)), (.double (0 : UInt64))] (.double (0 : UInt64))) ∧ (∀ target, Steps p.tables e below (T2504.setTop (mkF m 62 (own_loc95 a0 b2495 hd0 x0 g0) [])) target → Steps p.tables e below (T2502.setTop (mkF m 42 (own_loc94 a0 b2495 hd0 c0 g0) [(.int g0)])) target) := by
    by_cases hc2505 : g0 < (0 : Int32)
    · have sg2506 : ∀ target, Steps p.tables e below (T2502.setTop (mkF m 62 (own_loc95 a0 b2495 hd0 x0 g0) [])) target → Steps p.tables e below (T2502.setTop (mkF m 62 (own_loc94 a0 b2495 hd0 c0 g0) [])) target := by rw [hx0 hc2505]; exact fun _ k => k
      refine ⟨T2502, h2495, _, X2502, e2502, (Nat.le_trans Z0 kp2496.1), N0, kp2496, EA2495, V2495, fun target kt => ?_⟩
      show own_S p e below T2502 (mkF m 42 (own_loc94 a0 b2495 hd0 c0 g0) [(.int g0)]) _
      refine XS.ifYes X2502.here hx rfl (pc0 := 42) (pc' := 62) rfl (D d17_42) rfl ((if0 _ _).trans (tlt hc2505).1) (by decide) (by decide) (sg2506 _ ?_)
      exact kt
    · obtain ⟨T2507, X2507, e2507, st2507⟩ := own_gf X2502 hx hZ hown (own_wk hw 10 rfl) e2502 (Ob_a0.keep kp2496 nin0) 0 rfl rfl (g := (mkF m 48 (own_loc94 a0 b2495 hd0 c0 g0) [(.ref a0), (.double c0)])) rfl rfl (D d17_48)
      obtain ⟨T2508, X2508, e2508, st2508⟩ := own_gf X2507 hx hZ hown (own_wk hw 31 rfl) e2507 (Ob_a0.keep kp2496 nin0) 10 rfl rfl (g := (mkF m 52 (own_loc94 a0 b2495 hd0 c0 g0) [(.ref a0), (.ref uc), (.double c0)])) rfl rfl (D d17_52)
      refine ⟨T2508, h2495, _, X2508, e2508, (Nat.le_trans Z0 kp2496.1), N0, kp2496, EA2495, V2495, fun target kt => ?_⟩
      show own_S p e below T2502 (mkF m 42 (own_loc94 a0 b2495 hd0 c0 g0) [(.int g0)]) _
      refine XS.ifNo X2502.here hx rfl (D d17_42) rfl ((if0 _ _).trans (flt hc2505).1) (XS.dload X2502.here hx rfl (D d17_45) rfl (XS.aloadN X2502.here hx rfl (D d17_47) rfl rfl (st2507 _ (XS.aloadN X2507.here hx rfl (D d17_51) rfl rfl (st2508 _ (XS.iload X2508.here hx rfl (D d17_55) rfl (own_ldI X2508 hx hZ e2508 (V_uk.keep kp2496 nin0) (j := g0) (own_g0 (hy0 hc2505).1) (v := (.int (0 : Int32))) (own_gk (hy0 hc2505).1) rfl rfl (D d17_57) (own_ldD X2508 hx hZ e2508 (V_uc.keep kp2496 nin0) (j := (0 : Int32)) ⟨(by decide), (by decide)⟩ (v := (.double ck)) hck rfl rfl (D d17_58) (XS.dsubS X2508.here hx rfl (D d17_59) rfl (hy0 hc2505).2.1 (hy0 hc2505).2.2 ?_)))))))))
      refine XS.dstore X2508.here hx rfl (D d17_60) rfl (l' := (own_loc95 a0 b2495 hd0 x0 g0)) rfl ?_
      exact kt
  obtain ⟨T2513, h2513, L2513, sl2531, sl2532, X2513, e2513, sz2513, N2513, cs_sl2531, cs_sl2532, kp2513, x2533, x2534, st2513⟩ : ∃ (T2513 : State) (h2513 : Heap) (L2513 : List Loc) (sl2531 : Slot) (sl2532 : Slot), (Stand p l e ({ frames := 0, cells := 1, slots := 2, locals := 0 } : Room) s m #[(.ref a0)] below meth c T2513 L2513 1 2) ∧ (T2513.heap = h2513) ∧ (n0 ≤ h2513.size) ∧ (Fr n0 L2513) ∧ (own_c1 sl2531) ∧ (own_c1 sl2532) ∧ (Keep h0 h2513 []) ∧ (Exa Z h2513 b2495 "[D") ∧ (Arv Z h2513 b2495 k2495 .double (2 : Int32) [(.double (own_st (0 : UInt64) x0 n00)), (.double (own_st (0 : UInt64) x0 n01))] (.double (0 : UInt64))) ∧ (∀ target, Steps p.tables e below (T2513.setTop (mkF m 110 (own_loc100 a0 b2495 hd0 x0 g0 sl2531 sl2532) [])) target → Steps p.tables e below (T2504.setTop (mkF m 66 (own_loc95 a0 b2495 hd0 x0 g0) [(.int (cmpValue (FP.dcmp x0 (0 : UInt64)) .l))])) target) := by
    by_cases hc2514 : (cmpValue (FP.dcmp x0 (0 : UInt64)) .l) = (0 : Int32)
    · have x2515 : Arv Z h2504 b2495 k2495 .double (2 : Int32) [(.double (own_st (0 : UInt64) x0 n00)), (.double (own_st (0 : UInt64) x0 n01))] (.double (0 : UInt64)) := by rw [own_stp (n := n00) hc2514, own_stp (n := n01) hc2514]; exact x2512
      refine ⟨T2504, h2504, _, .unset, .unset, X2504, e2504, sz2504, N2504, Or.inl rfl, Or.inl rfl, kp2504, x2511, x2515, fun target kt => ?_⟩
      show own_S p e below T2504 (mkF m 66 (own_loc95 a0 b2495 hd0 x0 g0) [(.int (cmpValue (FP.dcmp x0 (0 : UInt64)) .l))]) _
      refine XS.ifYes X2504.here hx rfl (pc0 := 66) (pc' := 110) rfl (D d17_66) rfl ((if0 _ _).trans (teq hc2514).1) (by decide) (by decide) ?_
      exact kt
    · obtain ⟨T2516, X2516, e2516, st2516⟩ := own_gf X2504 hx hZ hown (own_wk hw 39 rfl) e2504 (Ob_a0.keep kp2504 nin0) 13 rfl rfl (g := (mkF m 70 (own_loc95 a0 b2495 hd0 x0 g0) [(.ref a0)])) rfl rfl (D d17_70)
      obtain ⟨T2518, X2518, e2518, st2518⟩ := own_gf X2516 hx hZ hown (own_wk hw 81 rfl) e2516 (Ob_a0.keep kp2504 nin0) 24 rfl rfl (g := (mkF m 83 (own_loc97 a0 b2495 hd0 x0 g0 i0) [(.ref a0), .int 0])) rfl rfl (D d17_83)
      obtain ⟨T2521, h2521, X2521, e2521, W2521, V2521, st2521⟩ := own_stD X2518 hx hZ e2518 x2512 (j := (0 : Int32)) ⟨(by decide), (by decide)⟩ 0 rfl (Nat.le_of_ble_eq_true rfl) (vs' := [(.double (own_st (0 : UInt64) x0 n00)), (.double (0 : UInt64))]) rfl (g := (mkF m 103 (own_loc97 a0 b2495 hd0 x0 g0 i0) [(.double (own_st (0 : UInt64) x0 n00)), .int 0, (.ref b2495)])) rfl rfl (D d17_103)
      have x2522 := x2511.wr W2521
      have kp2523 : Keep h0 h2521 [] := kp2504.wr W2521 (Or.inr gs_b2495)
      have N2521 := Fr.snoc X2521 N2504 ge_b2495
      obtain ⟨T2524, X2524, e2524, st2524⟩ := own_gf X2521 hx hZ hown (own_wk hw 81 rfl) e2521 (Ob_a0.keep kp2523 nin0) 24 rfl rfl (g := (mkF m 83 (own_loc98 a0 b2495 hd0 x0 g0 i0) [(.ref a0), .int 1])) rfl rfl (D d17_83)
      obtain ⟨T2527, h2527, X2527, e2527, W2527, V2527, st2527⟩ := own_stD X2524 hx hZ e2524 V2521 (j := (1 : Int32)) ⟨(by decide), (by decide)⟩ 1 rfl (Nat.le_of_ble_eq_true rfl) (vs' := [(.double (own_st (0 : UInt64) x0 n00)), (.double (own_st (0 : UInt64) x0 n01))]) rfl (g := (mkF m 103 (own_loc98 a0 b2495 hd0 x0 g0 i0) [(.double (own_st (0 : UInt64) x0 n01)), .int 1, (.ref b2495)])) rfl rfl (D d17_103)
      have x2528 := x2522.wr W2527
      have kp2529 : Keep h0 h2527 [] := kp2523.wr W2527 (Or.inr gs_b2495)
      have N2527 := Fr.snoc X2527 N2521 ge_b2495
      obtain ⟨T2530, X2530, e2530, st2530⟩ := own_gf X2527 hx hZ hown (own_wk hw 81 rfl) e2527 (Ob_a0.keep kp2529 nin0) 24 rfl rfl (g := (mkF m 83 (own_loc99 a0 b2495 hd0 x0 g0 i0) [(.ref a0), .int 2])) rfl rfl (D d17_83)
      refine ⟨T2530, h2527, _, (.val (.ref i0)), (.val (.int 2)), X2530, e2530, (Nat.le_trans Z0 kp2529.1), N2527, Or.inr ⟨_, rfl, rfl⟩, Or.inr ⟨_, rfl, rfl⟩, kp2529, x2528, V2527, fun target kt => ?_⟩
      show own_S p e below T2504 (mkF m 66 (own_loc95 a0 b2495 hd0 x0 g0) [(.int (cmpValue (FP.dcmp x0 (0 : UInt64)) .l))]) _
      refine XS.ifNo X2504.here hx rfl (D d17_66) rfl ((if0 _ _).trans (feq hc2514).1) (XS.aloadN X2504.here hx rfl (D d17_69) rfl rfl (st2516 _ (XS.iloadN X2516.here hx rfl (D d17_73) rfl (own_ldA X2516 hx hZ e2516 (V_ui.keep kp2504 nin0) (j := (0 : Int32)) ⟨(by decide), (by decide)⟩ (v := (.ref i0)) rfl rfl rfl (D d17_74) (XS.astore X2516.here hx rfl (D d17_75) rfl rfl (l' := (own_loc96 a0 b2495 hd0 x0 g0 i0)) rfl (XS.iconst X2516.here hx rfl (D d17_77) (XS.istore X2516.here hx rfl (D d17_78) rfl (l' := (own_loc97 a0 b2495 hd0 x0 g0 i0)) rfl (XS.iload X2516.here hx rfl (D d17_80) rfl (XS.aloadN X2516.here hx rfl (D d17_82) rfl rfl ?_)))))))))
      refine st2518 _ (XS.icmpNo X2518.here hx rfl (D d17_86) rfl (tlt (by decide : (0 : Int32) < (2 : Int32))).2.1 (XS.aloadN X2518.here hx rfl (D d17_89) rfl rfl (XS.iload X2518.here hx rfl (D d17_90) rfl (Jvm.Free.XT.dup2 X2518.here hx rfl (D d17_92) rfl rfl rfl ?_))))
      show own_S p e below T2518 (mkF m 93 (own_loc97 a0 b2495 hd0 x0 g0 i0) [.int 0, (.ref b2495), .int 0, (.ref b2495)]) _
      refine own_ldD X2518 hx hZ e2518 x2512 (j := (0 : Int32)) ⟨(by decide), (by decide)⟩ (v := (.double (0 : UInt64))) rfl rfl rfl (D d17_93) (XS.dload X2518.here hx rfl (D d17_94) rfl (XS.aload X2518.here hx rfl (D d17_96) rfl rfl (XS.iload X2518.here hx rfl (D d17_98) rfl (own_ldD X2518 hx hZ e2518 (V_i0.keep kp2504 nin0) (j := (0 : Int32)) ⟨(by decide), (by decide)⟩ (v := (.double n00)) rfl rfl rfl (D d17_100) (XS.dmulS X2518.here hx rfl (D d17_101) rfl (own_nmul wx0 wn00) rfl (XS.daddS X2518.here hx rfl (D d17_102) rfl (own_nacc own_w0.nn wx0 wn00) (own_stn hc2514).symm (st2521 _ (XS.iinc X2521.here hx rfl (D d17_104) rfl (l' := (own_loc98 a0 b2495 hd0 x0 g0 i0)) rfl (XS.goto X2521.here hx rfl (pc0 := 107) (pc' := 80) rfl (D d17_107) (by decide) (by decide) ?_)))))))))
      refine XS.iload X2521.here hx rfl (D d17_80) rfl (XS.aloadN X2521.here hx rfl (D d17_82) rfl rfl (st2524 _ (XS.icmpNo X2524.here hx rfl (D d17_86) rfl (tlt (by decide : (1 : Int32) < (2 : Int32))).2.1 ?_)))
      show own_S p e below T2524 (mkF m 89 (own_loc98 a0 b2495 hd0 x0 g0 i0) []) _
      refine XS.aloadN X2524.here hx rfl (D d17_89) rfl rfl (XS.iload X2524.here hx rfl (D d17_90) rfl (Jvm.Free.XT.dup2 X2524.here hx rfl (D d17_92) rfl rfl rfl (own_ldD X2524 hx hZ e2524 V2521 (j := (1 : Int32)) ⟨(by decide), (by decide)⟩ (v := (.double (0 : UInt64))) rfl rfl rfl (D d17_93) (XS.dload X2524.here hx rfl (D d17_94) rfl (XS.aload X2524.here hx rfl (D d17_96) rfl rfl (XS.iload X2524.here hx rfl (D d17_98) rfl (own_ldD X2524 hx hZ e2524 (V_i0.keep kp2523 nin0) (j := (1 : Int32)) ⟨(by decide), (by decide)⟩ (v := (.double n01)) rfl rfl rfl (D d17_100) (XS.dmulS X2524.here hx rfl (D d17_101) rfl (own_nmul wx0 wn01) rfl (XS.daddS X2524.here hx rfl (D d17_102) rfl (own_nacc own_w0.nn wx0 wn01) (own_stn hc2514).symm ?_)))))))))
      refine st2527 _ (XS.iinc X2527.here hx rfl (D d17_104) rfl (l' := (own_loc99 a0 b2495 hd0 x0 g0 i0)) rfl (XS.goto X2527.here hx rfl (pc0 := 107) (pc' := 80) rfl (D d17_107) (by decide) (by decide) (XS.iload X2527.here hx rfl (D d17_80) rfl (XS.aloadN X2527.here hx rfl (D d17_82) rfl rfl (st2530 _ ?_)))))
      show own_S p e below T2530 (mkF m 86 (own_loc99 a0 b2495 hd0 x0 g0 i0) [.int 2, .int 2]) _
      refine XS.icmpYes X2530.here hx rfl (pc0 := 86) (pc' := 110) rfl (D d17_86) rfl (flt (by decide : ¬ ((2 : Int32) < (2 : Int32)))).2.1 (by decide) (by decide) ?_
      exact kt
  obtain ⟨T2535, X2535, e2535, st2535⟩ := own_gf X2513 hx hZ hown (own_wk hw 81 rfl) e2513 (Ob_a0.keep kp2513 nin0) 24 rfl rfl (g := (mkF m 11 (own_loc101 a0 b2495 hd0 x0 g0 sl2531 sl2532) [(.ref a0), .int 1])) rfl rfl (D d17_11)
  obtain ⟨T2536, X2536, e2536, st2536⟩ := own_gf X2535 hx hZ hown (own_wk hw 35 rfl) e2535 (Ob_a0.keep kp2513 nin0) 12 rfl rfl (g := (mkF m 18 (own_loc101 a0 b2495 hd0 x0 g0 sl2531 sl2532) [(.ref a0)])) rfl rfl (D d17_18)
  obtain ⟨T2538, X2538, e2538, st2538⟩ := own_gf X2536 hx hZ hown (own_wk hw 10 rfl) e2536 (Ob_a0.keep kp2513 nin0) 0 rfl rfl (g := (mkF m 25 (own_loc102 a0 b2495 hd1 x0 g0 sl2531 sl2532) [(.ref a0)])) rfl rfl (D d17_25)
  obtain ⟨T2540, X2540, e2540, st2540⟩ := own_gf X2538 hx hZ hown (own_wk hw 13 rfl) e2538 (Ob_a0.keep kp2513 nin0) 1 rfl rfl (g := (mkF m 33 (own_loc103 a0 b2495 hd1 c1 g0 sl2531 sl2532) [(.ref a0)])) rfl rfl (D d17_33)
  obtain ⟨T2542, h2542, L2542, X2542, e2542, sz2542, N2542, kp2542, x2549, x2550, st2542⟩ : ∃ (T2542 : State) (h2542 : Heap) (L2542 : List Loc), (Stand p l e ({ frames := 0, cells := 1, slots := 2, locals := 0 } : Room) s m #[(.ref a0)] below meth c T2542 L2542 1 2) ∧ (T2542.heap = h2542) ∧ (n0 ≤ h2542.size) ∧ (Fr n0 L2542) ∧ (Keep h0 h2542 []) ∧ (Exa Z h2542 b2495 "[D") ∧ (Arv Z h2542 b2495 k2495 .double (2 : Int32) [(.double (own_st (0 : UInt64) x0 n00)), (.double (own_st (0 : UInt64) x0 n01))] (.double (0 : UInt64))) ∧ (∀ target, Steps p.tables e below (T2542.setTop (mkF m 62 (own_loc105 a0 b2495 hd1 x1 g1 sl2531 sl2532) [])) target → Steps p.tables e below (T2540.setTop (mkF m 42 (own_loc104 a0 b2495 hd1 c1 g1 sl2531 sl2532) [(.int g1)])) target) := by
    by_cases hc2543 : g1 < (0 : Int32)
    · have sg2544 : ∀ target, Steps p.tables e below (T2540.setTop (mkF m 62 (own_loc105 a0 b2495 hd1 x1 g1 sl2531 sl2532) [])) target → Steps p.tables e below (T2540.setTop (mkF m 62 (own_loc104 a0 b2495 hd1 c1 g1 sl2531 sl2532) [])) target := by rw [hx1 hc2543]; exact fun _ k => k
      refine ⟨T2540, h2513, _, X2540, e2540, sz2513, N2513, kp2513, x2533, x2534, fun target kt => ?_⟩
      show own_S p e below T2540 (mkF m 42 (own_loc104 a0 b2495 hd1 c1 g1 sl2531 sl2532) [(.int g1)]) _
      refine XS.ifYes X2540.here hx rfl (pc0 := 42) (pc' := 62) rfl (D d17_42) rfl ((if0 _ _).trans (tlt hc2543).1) (by decide) (by decide) (sg2544 _ ?_)
      exact kt
    · obtain ⟨T2545, X2545, e2545, st2545⟩ := own_gf X2540 hx hZ hown (own_wk hw 10 rfl) e2540 (Ob_a0.keep kp2513 nin0) 0 rfl rfl (g := (mkF m 48 (own_loc104 a0 b2495 hd1 c1 g1 sl2531 sl2532) [(.ref a0), (.double c1)])) rfl rfl (D d17_48)
      obtain ⟨T2546, X2546, e2546, st2546⟩ := own_gf X2545 hx hZ hown (own_wk hw 31 rfl) e2545 (Ob_a0.keep kp2513 nin0) 10 rfl rfl (g := (mkF m 52 (own_loc104 a0 b2495 hd1 c1 g1 sl2531 sl2532) [(.ref a0), (.ref uc), (.double c1)])) rfl rfl (D d17_52)
      refine ⟨T2546, h2513, _, X2546, e2546, sz2513, N2513, kp2513, x2533, x2534, fun target kt => ?_⟩
      show own_S p e below T2540 (mkF m 42 (own_loc104 a0 b2495 hd1 c1 g1 sl2531 sl2532) [(.int g1)]) _
      refine XS.ifNo X2540.here hx rfl (D d17_42) rfl ((if0 _ _).trans (flt hc2543).1) (XS.dload X2540.here hx rfl (D d17_45) rfl (XS.aloadN X2540.here hx rfl (D d17_47) rfl rfl (st2545 _ (XS.aloadN X2545.here hx rfl (D d17_51) rfl rfl (st2546 _ (XS.iload X2546.here hx rfl (D d17_55) rfl (own_ldI X2546 hx hZ e2546 (V_uk.keep kp2513 nin0) (j := g1) (own_g0 (hy1 hc2543).1) (v := (.int (0 : Int32))) (own_gk (hy1 hc2543).1) rfl rfl (D d17_57) (own_ldD X2546 hx hZ e2546 (V_uc.keep kp2513 nin0) (j := (0 : Int32)) ⟨(by decide), (by decide)⟩ (v := (.double ck)) hck rfl rfl (D d17_58) (XS.dsubS X2546.here hx rfl (D d17_59) rfl (hy1 hc2543).2.1 (hy1 hc2543).2.2 ?_)))))))))
      refine XS.dstore X2546.here hx rfl (D d17_60) rfl (l' := (own_loc105 a0 b2495 hd1 x1 g1 sl2531 sl2532)) rfl ?_
      exact kt
  obtain ⟨T2551, h2551, L2551, sl2569, sl2570, X2551, e2551, sz2551, N2551, cs_sl2569, cs_sl2570, kp2551, x2571, x2572, st2551⟩ : ∃ (T2551 : State) (h2551 : Heap) (L2551 : List Loc) (sl2569 : Slot) (sl2570 : Slot), (Stand p l e ({ frames := 0, cells := 1, slots := 2, locals := 0 } : Room) s m #[(.ref a0)] below meth c T2551 L2551 1 2) ∧ (T2551.heap = h2551) ∧ (n0 ≤ h2551.size) ∧ (Fr n0 L2551) ∧ (own_c1 sl2569) ∧ (own_c1 sl2570) ∧ (Keep h0 h2551 []) ∧ (Exa Z h2551 b2495 "[D") ∧ (Arv Z h2551 b2495 k2495 .double (2 : Int32) [(.double (own_st (own_st (0 : UInt64) x0 n00) x1 n10)), (.double (own_st (own_st (0 : UInt64) x0 n01) x1 n11))] (.double (0 : UInt64))) ∧ (∀ target, Steps p.tables e below (T2551.setTop (mkF m 110 (own_loc110 a0 b2495 hd1 x1 g1 sl2569 sl2570) [])) target → Steps p.tables e below (T2542.setTop (mkF m 66 (own_loc105 a0 b2495 hd1 x1 g1 sl2531 sl2532) [(.int (cmpValue (FP.dcmp x1 (0 : UInt64)) .l))])) target) := by
    by_cases hc2552 : (cmpValue (FP.dcmp x1 (0 : UInt64)) .l) = (0 : Int32)
    · have x2553 : Arv Z h2542 b2495 k2495 .double (2 : Int32) [(.double (own_st (own_st (0 : UInt64) x0 n00) x1 n10)), (.double (own_st (own_st (0 : UInt64) x0 n01) x1 n11))] (.double (0 : UInt64)) := by rw [own_stp (n := n10) hc2552, own_stp (n := n11) hc2552]; exact x2550
      refine ⟨T2542, h2542, _, sl2531, sl2532, X2542, e2542, sz2542, N2542, cs_sl2531, cs_sl2532, kp2542, x2549, x2553, fun target kt => ?_⟩
      show own_S p e below T2542 (mkF m 66 (own_loc105 a0 b2495 hd1 x1 g1 sl2531 sl2532) [(.int (cmpValue (FP.dcmp x1 (0 : UInt64)) .l))]) _
      refine XS.ifYes X2542.here hx rfl (pc0 := 66) (pc' := 110) rfl (D d17_66) rfl ((if0 _ _).trans (teq hc2552).1) (by decide) (by decide) ?_
      exact kt
    · obtain ⟨T2554, X2554, e2554, st2554⟩ := own_gf X2542 hx hZ hown (own_wk hw 39 rfl) e2542 (Ob_a0.keep kp2542 nin0) 13 rfl rfl (g := (mkF m 70 (own_loc105 a0 b2495 hd1 x1 g1 sl2531 sl2532) [(.ref a0)])) rfl rfl (D d17_70)
      obtain ⟨T2556, X2556, e2556, st2556⟩ := own_gf X2554 hx hZ hown (own_wk hw 81 rfl) e2554 (Ob_a0.keep kp2542 nin0) 24 rfl rfl (g := (mkF m 83 (own_loc107 a0 b2495 hd1 x1 g1 i1) [(.ref a0), .int 0])) rfl rfl (D d17_83)
      obtain ⟨T2559, h2559, X2559, e2559, W2559, V2559, st2559⟩ := own_stD X2556 hx hZ e2556 x2550 (j := (0 : Int32)) ⟨(by decide), (by decide)⟩ 0 rfl (Nat.le_of_ble_eq_true rfl) (vs' := [(.double (own_st (own_st (0 : UInt64) x0 n00) x1 n10)), (.double (own_st (0 : UInt64) x0 n01))]) rfl (g := (mkF m 103 (own_loc107 a0 b2495 hd1 x1 g1 i1) [(.double (own_st (own_st (0 : UInt64) x0 n00) x1 n10)), .int 0, (.ref b2495)])) rfl rfl (D d17_103)
      have x2560 := x2549.wr W2559
      have kp2561 : Keep h0 h2559 [] := kp2542.wr W2559 (Or.inr gs_b2495)
      have N2559 := Fr.snoc X2559 N2542 ge_b2495
      obtain ⟨T2562, X2562, e2562, st2562⟩ := own_gf X2559 hx hZ hown (own_wk hw 81 rfl) e2559 (Ob_a0.keep kp2561 nin0) 24 rfl rfl (g := (mkF m 83 (own_loc108 a0 b2495 hd1 x1 g1 i1) [(.ref a0), .int 1])) rfl rfl (D d17_83)
      obtain ⟨T2565, h2565, X2565, e2565, W2565, V2565, st2565⟩ := own_stD X2562 hx hZ e2562 V2559 (j := (1 : Int32)) ⟨(by decide), (by decide)⟩ 1 rfl (Nat.le_of_ble_eq_true rfl) (vs' := [(.double (own_st (own_st (0 : UInt64) x0 n00) x1 n10)), (.double (own_st (own_st (0 : UInt64) x0 n01) x1 n11))]) rfl (g := (mkF m 103 (own_loc108 a0 b2495 hd1 x1 g1 i1) [(.double (own_st (own_st (0 : UInt64) x0 n01) x1 n11)), .int 1, (.ref b2495)])) rfl rfl (D d17_103)
      have x2566 := x2560.wr W2565
      have kp2567 : Keep h0 h2565 [] := kp2561.wr W2565 (Or.inr gs_b2495)
      have N2565 := Fr.snoc X2565 N2559 ge_b2495
      obtain ⟨T2568, X2568, e2568, st2568⟩ := own_gf X2565 hx hZ hown (own_wk hw 81 rfl) e2565 (Ob_a0.keep kp2567 nin0) 24 rfl rfl (g := (mkF m 83 (own_loc109 a0 b2495 hd1 x1 g1 i1) [(.ref a0), .int 2])) rfl rfl (D d17_83)
      refine ⟨T2568, h2565, _, (.val (.ref i1)), (.val (.int 2)), X2568, e2568, (Nat.le_trans Z0 kp2567.1), N2565, Or.inr ⟨_, rfl, rfl⟩, Or.inr ⟨_, rfl, rfl⟩, kp2567, x2566, V2565, fun target kt => ?_⟩
      show own_S p e below T2542 (mkF m 66 (own_loc105 a0 b2495 hd1 x1 g1 sl2531 sl2532) [(.int (cmpValue (FP.dcmp x1 (0 : UInt64)) .l))]) _
      refine XS.ifNo X2542.here hx rfl (D d17_66) rfl ((if0 _ _).trans (feq hc2552).1) (XS.aloadN X2542.here hx rfl (D d17_69) rfl rfl (st2554 _ (XS.iloadN X2554.here hx rfl (D d17_73) rfl (own_ldA X2554 hx hZ e2554 (V_ui.keep kp2542 nin0) (j := (1 : Int32)) ⟨(by decide), (by decide)⟩ (v := (.ref i1)) rfl rfl rfl (D d17_74) (XS.astore X2554.here hx rfl (D d17_75) rfl rfl (l' := (own_loc106 a0 b2495 hd1 x1 g1 i1 sl2532)) (own_store1 rfl rfl cs_sl2531 rfl) (XS.iconst X2554.here hx rfl (D d17_77) (XS.istore X2554.here hx rfl (D d17_78) rfl (l' := (own_loc107 a0 b2495 hd1 x1 g1 i1)) (own_store1 rfl rfl cs_sl2532 rfl) (XS.iload X2554.here hx rfl (D d17_80) rfl (XS.aloadN X2554.here hx rfl (D d17_82) rfl rfl ?_)))))))))
      refine st2556 _ (XS.icmpNo X2556.here hx rfl (D d17_86) rfl (tlt (by decide : (0 : Int32) < (2 : Int32))).2.1 (XS.aloadN X2556.here hx rfl (D d17_89) rfl rfl (XS.iload X2556.here hx rfl (D d17_90) rfl (Jvm.Free.XT.dup2 X2556.here hx rfl (D d17_92) rfl rfl rfl ?_))))
      show own_S p e below T2556 (mkF m 93 (own_loc107 a0 b2495 hd1 x1 g1 i1) [.int 0, (.ref b2495), .int 0, (.ref b2495)]) _
      refine own_ldD X2556 hx hZ e2556 x2550 (j := (0 : Int32)) ⟨(by decide), (by decide)⟩ (v := (.double (own_st (0 : UInt64) x0 n00))) rfl rfl rfl (D d17_93) (XS.dload X2556.here hx rfl (D d17_94) rfl (XS.aload X2556.here hx rfl (D d17_96) rfl rfl (XS.iload X2556.here hx rfl (D d17_98) rfl (own_ldD X2556 hx hZ e2556 (V_i1.keep kp2542 nin0) (j := (0 : Int32)) ⟨(by decide), (by decide)⟩ (v := (.double n10)) rfl rfl rfl (D d17_100) (XS.dmulS X2556.here hx rfl (D d17_101) rfl (own_nmul wx1 wn10) rfl (XS.daddS X2556.here hx rfl (D d17_102) rfl (own_nacc (own_nst own_w0.nn wx0 wn00) wx1 wn10) (own_stn hc2552).symm (st2559 _ (XS.iinc X2559.here hx rfl (D d17_104) rfl (l' := (own_loc108 a0 b2495 hd1 x1 g1 i1)) rfl (XS.goto X2559.here hx rfl (pc0 := 107) (pc' := 80) rfl (D d17_107) (by decide) (by decide) ?_)))))))))
      refine XS.iload X2559.here hx rfl (D d17_80) rfl (XS.aloadN X2559.here hx rfl (D d17_82) rfl rfl (st2562 _ (XS.icmpNo X2562.here hx rfl (D d17_86) rfl (tlt (by decide : (1 : Int32) < (2 : Int32))).2.1 ?_)))
      show own_S p e below T2562 (mkF m 89 (own_loc108 a0 b2495 hd1 x1 g1 i1) []) _
      refine XS.aloadN X2562.here hx rfl (D d17_89) rfl rfl (XS.iload X2562.here hx rfl (D d17_90) rfl (Jvm.Free.XT.dup2 X2562.here hx rfl (D d17_92) rfl rfl rfl (own_ldD X2562 hx hZ e2562 V2559 (j := (1 : Int32)) ⟨(by decide), (by decide)⟩ (v := (.double (own_st (0 : UInt64) x0 n01))) rfl rfl rfl (D d17_93) (XS.dload X2562.here hx rfl (D d17_94) rfl (XS.aload X2562.here hx rfl (D d17_96) rfl rfl (XS.iload X2562.here hx rfl (D d17_98) rfl (own_ldD X2562 hx hZ e2562 (V_i1.keep kp2561 nin0) (j := (1 : Int32)) ⟨(by decide), (by decide)⟩ (v := (.double n11)) rfl rfl rfl (D d17_100) (XS.dmulS X2562.here hx rfl (D d17_101) rfl (own_nmul wx1 wn11) rfl (XS.daddS X2562.here hx rfl (D d17_102) rfl (own_nacc (own_nst own_w0.nn wx0 wn01) wx1 wn11) (own_stn hc2552).symm ?_)))))))))
      refine st2565 _ (XS.iinc X2565.here hx rfl (D d17_104) rfl (l' := (own_loc109 a0 b2495 hd1 x1 g1 i1)) rfl (XS.goto X2565.here hx rfl (pc0 := 107) (pc' := 80) rfl (D d17_107) (by decide) (by decide) (XS.iload X2565.here hx rfl (D d17_80) rfl (XS.aloadN X2565.here hx rfl (D d17_82) rfl rfl (st2568 _ ?_)))))
      show own_S p e below T2568 (mkF m 86 (own_loc109 a0 b2495 hd1 x1 g1 i1) [.int 2, .int 2]) _
      refine XS.icmpYes X2568.here hx rfl (pc0 := 86) (pc' := 110) rfl (D d17_86) rfl (flt (by decide : ¬ ((2 : Int32) < (2 : Int32)))).2.1 (by decide) (by decide) ?_
      exact kt
  obtain ⟨T2573, X2573, e2573, st2573⟩ := own_gf X2551 hx hZ hown (own_wk hw 81 rfl) e2551 (Ob_a0.keep kp2551 nin0) 24 rfl rfl (g := (mkF m 11 (own_loc111 a0 b2495 hd1 x1 g1 sl2569 sl2570) [(.ref a0), .int 2])) rfl rfl (D d17_11)
  obtain ⟨fs, hr, hrun, hended, hW, hsame⟩ := X2573.leave (v := some (.ref b2495)) (fun h => by rw [Bd.returns] at h; cases h)
  refine ⟨_, _, pre0 _ ?_, hrun, hended, _, _, rfl, ?_, ⟨_, rfl⟩, hW, hsame.mono (by decide) (by decide)⟩
  · show own_S p e below s₁ (mkF m 0 #[.val (.ref a0), .unset, .unset, .unset, .unset, .unset, .unset, .unset, .unset] []) _
    refine XS.aloadN X0.here hx rfl (D d17_0) rfl rfl (st2494 _ (st2495 _ (XS.astoreN X2495.here hx rfl (D d17_6) rfl rfl (l' := #[.val (.ref a0), .val (.ref b2495), .unset, .unset, .unset, .unset, .unset, .unset, .unset]) rfl (XS.iconst X2495.here hx rfl (D d17_7) (XS.istoreN X2495.here hx rfl (D d17_8) rfl (l' := #[.val (.ref a0), .val (.ref b2495), .val (.int 0), .unset, .unset, .unset, .unset, .unset, .unset]) rfl (XS.iloadN X2495.here hx rfl (D d17_9) rfl (XS.aloadN X2495.here hx rfl (D d17_10) rfl rfl (st2497 _ (XS.icmpNo X2497.here hx rfl (D d17_14) rfl (tlt (by decide : (0 : Int32) < (2 : Int32))).2.1 ?_)))))))))
    refine XS.aloadN X2497.here hx rfl (D d17_17) rfl rfl (st2498 _ (XS.iloadN X2498.here hx rfl (D d17_21) rfl (own_ldI X2498 hx hZ e2498 (V_uh.keep kp2496 nin0) (j := (0 : Int32)) ⟨(by decide), (by decide)⟩ (v := (.int hd0)) rfl rfl rfl (D d17_22) (XS.istoreN X2498.here hx rfl (D d17_23) rfl (l' := (own_loc92 a0 b2495 hd0)) rfl ?_))))
    show own_S p e below T2498 (mkF m 24 (own_loc92 a0 b2495 hd0) []) _
    refine XS.aloadN X2498.here hx rfl (D d17_24) rfl rfl (st2500 _ (XS.iloadN X2500.here hx rfl (D d17_28) rfl (own_ldD X2500 hx hZ e2500 (V_uc.keep kp2496 nin0) (j := hd0) hv0 (v := (.double c0)) hc0 rfl rfl (D d17_29) (XS.dstore X2500.here hx rfl (D d17_30) rfl (l' := (own_loc93 a0 b2495 hd0 c0)) rfl (XS.aloadN X2500.here hx rfl (D d17_32) rfl rfl (st2502 _ (XS.iloadN X2502.here hx rfl (D d17_36) rfl (own_ldI X2502 hx hZ e2502 (V_ug.keep kp2496 nin0) (j := hd0) hv0 (v := (.int g0)) hg0 rfl rfl (D d17_37) (XS.istore X2502.here hx rfl (D d17_38) rfl (l' := (own_loc94 a0 b2495 hd0 c0 g0)) rfl ?_)))))))))
    refine XS.iload X2502.here hx rfl (D d17_40) rfl (st2504 _ (XS.dload X2504.here hx rfl (D d17_62) rfl (XS.dconst0 X2504.here hx rfl (D d17_64) rfl (XS.dcmpS X2504.here hx rfl (D d17_65) rfl rfl ?_))))
    show own_S p e below T2504 (mkF m 66 (own_loc95 a0 b2495 hd0 x0 g0) [(.int (cmpValue (FP.dcmp x0 (0 : UInt64)) .l))]) _
    refine st2513 _ (XS.iinc X2513.here hx rfl (D d17_110) rfl (l' := (own_loc101 a0 b2495 hd0 x0 g0 sl2531 sl2532)) rfl (XS.goto X2513.here hx rfl (pc0 := 113) (pc' := 9) rfl (D d17_113) (by decide) (by decide) (XS.iloadN X2513.here hx rfl (D d17_9) rfl (XS.aloadN X2513.here hx rfl (D d17_10) rfl rfl (st2535 _ (XS.icmpNo X2535.here hx rfl (D d17_14) rfl (tlt (by decide : (1 : Int32) < (2 : Int32))).2.1 (XS.aloadN X2535.here hx rfl (D d17_17) rfl rfl (st2536 _ (XS.iloadN X2536.here hx rfl (D d17_21) rfl ?_)))))))))
    refine own_ldI X2536 hx hZ e2536 (V_uh.keep kp2513 nin0) (j := (1 : Int32)) ⟨(by decide), (by decide)⟩ (v := (.int hd1)) rfl rfl rfl (D d17_22) (XS.istoreN X2536.here hx rfl (D d17_23) rfl (l' := (own_loc102 a0 b2495 hd1 x0 g0 sl2531 sl2532)) rfl (XS.aloadN X2536.here hx rfl (D d17_24) rfl rfl (st2538 _ ?_)))
    show own_S p e below T2538 (mkF m 28 (own_loc102 a0 b2495 hd1 x0 g0 sl2531 sl2532) [(.ref uc)]) _
    refine XS.iloadN X2538.here hx rfl (D d17_28) rfl (own_ldD X2538 hx hZ e2538 (V_uc.keep kp2513 nin0) (j := hd1) hv1 (v := (.double c1)) hc1 rfl rfl (D d17_29) (XS.dstore X2538.here hx rfl (D d17_30) rfl (l' := (own_loc103 a0 b2495 hd1 c1 g0 sl2531 sl2532)) rfl (XS.aloadN X2538.here hx rfl (D d17_32) rfl rfl (st2540 _ (XS.iloadN X2540.here hx rfl (D d17_36) rfl (own_ldI X2540 hx hZ e2540 (V_ug.keep kp2513 nin0) (j := hd1) hv1 (v := (.int g1)) hg1 rfl rfl (D d17_37) (XS.istore X2540.here hx rfl (D d17_38) rfl (l' := (own_loc104 a0 b2495 hd1 c1 g1 sl2531 sl2532)) rfl (XS.iload X2540.here hx rfl (D d17_40) rfl (st2542 _ ?_)))))))))
    refine XS.dload X2542.here hx rfl (D d17_62) rfl (XS.dconst0 X2542.here hx rfl (D d17_64) rfl (XS.dcmpS X2542.here hx rfl (D d17_65) rfl rfl (st2551 _ ?_)))
    show own_S p e below T2551 (mkF m 110 (own_loc110 a0 b2495 hd1 x1 g1 sl2569 sl2570) []) _
    refine XS.iinc X2551.here hx rfl (D d17_110) rfl (l' := (own_loc111 a0 b2495 hd1 x1 g1 sl2569 sl2570)) rfl (XS.goto X2551.here hx rfl (pc0 := 113) (pc' := 9) rfl (D d17_113) (by decide) (by decide) (XS.iloadN X2551.here hx rfl (D d17_9) rfl (XS.aloadN X2551.here hx rfl (D d17_10) rfl rfl (st2573 _ (XS.icmpYes X2573.here hx rfl (pc0 := 14) (pc' := 116) rfl (D d17_14) rfl (flt (by decide : ¬ ((2 : Int32) < (2 : Int32)))).2.1 (by decide) (by decide) (XS.aloadN X2573.here hx rfl (D d17_116) rfl rfl ?_))))))
    show own_S p e below T2573 (mkF m 117 (own_loc111 a0 b2495 hd1 x1 g1 sl2569 sl2570) [(.ref b2495)]) _
    exact Jvm.RoadKit.retOut X2573 hx Bd.returns rfl (Or.inr (Or.inr (Or.inr (Or.inr ⟨rfl, rfl, rfl⟩)))) (D d17_117) hr
  · show own_Qc Z h0 n0 (own_st (own_st (0 : UInt64) x0 n00) x1 n10) (own_st (own_st (0 : UInt64) x0 n01) x1 n11) _ T2573.heap _
    rw [e2573]
    exact ⟨b2495, k2495, rfl, N2551, kp2551, ge_b2495, gs_b2495, x2571, x2572⟩
theorem pn_1 : plainName "com/example/waveloom/waveloom/plan/SimplexDualsPinLaw" = true := by first | (simp [plainName, overriddenIn]; done) | decide +kernel
theorem ef_0 (m : MethodId) (p0 : Int32) (p1 : Int32) (p2 : Int32) (p3 : Int32) (p4 : Int32) : entryFrame m #[(.int p0), (.int p1), (.int p2), (.int p3), (.int p4)] maxLocals = mkF m 0 #[.val (.int p0), .val (.int p1), .val (.int p2), .val (.int p3), .val (.int p4), .unset, .unset, .unset, .unset, .unset, .unset, .unset, .unset, .unset, .unset, .unset, .unset, .unset, .unset, .unset, .unset, .unset, .unset] [] := by first | (simp [entryFrame, mkF, argsToLocals, Value.category, maxLocals]; done) | rfl
abbrev own_loc112 (p0 p1 p2 p3 p4 : Int32) : Array Slot := #[.val (.int p0), .val (.int p1), .val (.int p2), .val (.int p3), .val (.int p4), .unset, .unset, .unset, .unset, .unset, .unset, .unset, .unset, .unset, .unset, .unset, .unset, .unset, .unset, .unset, .unset, .unset, .unset]
def own_b1 (p4 : Int32) : Int32 := (if (p4 &&& (1 : Int32)) = (0 : Int32) then (0 : Int32) else (1 : Int32))
abbrev own_loc113 (p0 p1 p2 p3 p4 : Int32) : Array Slot := #[.val (.int p0), .val (.int p1), .val (.int p2), .val (.int p3), .val (.int p4), .val (.int (own_b1 p4)), .unset, .unset, .unset, .unset, .unset, .unset, .unset, .unset, .unset, .unset, .unset, .unset, .unset, .unset, .unset, .unset, .unset]
def own_b2 (p4 : Int32) : Int32 := (if (p4 &&& (2 : Int32)) = (0 : Int32) then (0 : Int32) else (1 : Int32))
abbrev own_loc114 (p0 p1 p2 p3 p4 : Int32) : Array Slot := #[.val (.int p0), .val (.int p1), .val (.int p2), .val (.int p3), .val (.int p4), .val (.int (own_b1 p4)), .val (.int (own_b2 p4)), .unset, .unset, .unset, .unset, .unset, .unset, .unset, .unset, .unset, .unset, .unset, .unset, .unset, .unset, .unset, .unset]
def own_b4 (p4 : Int32) : Int32 := (if (p4 &&& (4 : Int32)) = (0 : Int32) then (0 : Int32) else (1 : Int32))
abbrev own_loc115 (p0 p1 p2 p3 p4 : Int32) : Array Slot := #[.val (.int p0), .val (.int p1), .val (.int p2), .val (.int p3), .val (.int p4), .val (.int (own_b1 p4)), .val (.int (own_b2 p4)), .val (.int (own_b4 p4)), .unset, .unset, .unset, .unset, .unset, .unset, .unset, .unset, .unset, .unset, .unset, .unset, .unset, .unset, .unset]
abbrev own_loc116 (p0 p1 p2 p3 p4 : Int32) (b2580 : Addr) : Array Slot := #[.val (.int p0), .val (.int p1), .val (.int p2), .val (.int p3), .val (.int p4), .val (.int (own_b1 p4)), .val (.int (own_b2 p4)), .val (.int (own_b4 p4)), .val (.ref b2580), .unset, .unset, .unset, .unset, .unset, .unset, .unset, .unset, .unset, .unset, .unset, .unset, .unset, .unset]
theorem pd_0 : parseMethodDescriptor "()I" = some ⟨[], some .int⟩ := by decide +kernel
abbrev own_loc117 (p0 p1 p2 p3 p4 : Int32) (b2580 : Addr) : Array Slot := #[.val (.int p0), .val (.int p1), .val (.int p2), .val (.int p3), .val (.int p4), .val (.int (own_b1 p4)), .val (.int (own_b2 p4)), .val (.int (own_b4 p4)), .val (.ref b2580), .val (.int 0), .unset, .unset, .unset, .unset, .unset, .unset, .unset, .unset, .unset, .unset, .unset, .unset, .unset]
abbrev own_loc118 (p0 p1 p2 p3 p4 : Int32) (b2580 : Addr) : Array Slot := #[.val (.int p0), .val (.int p1), .val (.int p2), .val (.int p3), .val (.int p4), .val (.int (own_b1 p4)), .val (.int (own_b2 p4)), .val (.int (own_b4 p4)), .val (.ref b2580), .val (.int 0), .val (.int 0), .unset, .unset, .unset, .unset, .unset, .unset, .unset, .unset, .unset, .unset, .unset, .unset]
def own_gp (p4 : Int32) : Int32 := (if (own_b1 p4) = (0 : Int32) then (-1 : Int32) else (0 : Int32))
abbrev own_loc119 (p0 p1 p2 p3 p4 : Int32) (b2580 : Addr) : Array Slot := #[.val (.int p0), .val (.int p1), .val (.int p2), .val (.int p3), .val (.int p4), .val (.int (own_b1 p4)), .val (.int (own_b2 p4)), .val (.int (own_b4 p4)), .val (.ref b2580), .val (.int 0), .val (.int 0), .val (.int 1), .unset, .unset, .unset, .unset, .unset, .unset, .unset, .unset, .unset, .unset, .unset]
def own_gq (p4 : Int32) : Int32 := (if (own_b2 p4) = (0 : Int32) then (-1 : Int32) else (0 : Int32))
abbrev own_loc120 (p0 p1 p2 p3 p4 : Int32) (b2580 : Addr) : Array Slot := #[.val (.int p0), .val (.int p1), .val (.int p2), .val (.int p3), .val (.int p4), .val (.int (own_b1 p4)), .val (.int (own_b2 p4)), .val (.int (own_b4 p4)), .val (.ref b2580), .val (.int 0), .val (.int 0), .val (.int 1), .val (.int 2), .unset, .unset, .unset, .unset, .unset, .unset, .unset, .unset, .unset, .unset]
theorem pd_6 : parseMethodDescriptor "(D[I[D)I" = some ⟨[.double, (.array .int), (.array .double)], some .int⟩ := by decide +kernel
abbrev own_loc121 (p0 p1 p2 p3 p4 : Int32) (b2580 b2730 : Addr) : Array Slot := #[.val (.int p0), .val (.int p1), .val (.int p2), .val (.int p3), .val (.int p4), .val (.int (own_b1 p4)), .val (.int (own_b2 p4)), .val (.int (own_b4 p4)), .val (.ref b2580), .val (.int 0), .val (.int 0), .val (.int 1), .val (.int 2), .val (.ref b2730), .unset, .unset, .unset, .unset, .unset, .unset, .unset, .unset, .unset]
theorem pd_14 : parseMethodDescriptor "([I[I)V" = some ⟨[(.array .int), (.array .int)], none⟩ := by decide +kernel
theorem pd_3 : parseMethodDescriptor "()[D" = some ⟨[], some (.array .double)⟩ := by decide +kernel
abbrev own_loc122 (p0 p1 p2 p3 p4 : Int32) (b2580 b2730 r2771 : Addr) : Array Slot := #[.val (.int p0), .val (.int p1), .val (.int p2), .val (.int p3), .val (.int p4), .val (.int (own_b1 p4)), .val (.int (own_b2 p4)), .val (.int (own_b4 p4)), .val (.ref b2580), .val (.int 0), .val (.int 0), .val (.int 1), .val (.int 2), .val (.ref b2730), .val (.ref r2771), .unset, .unset, .unset, .unset, .unset, .unset, .unset, .unset]
def own_dp (p0 : Int32) (p2 : Int32) (p4 : Int32) : UInt64 := (if (own_b1 p4) = (0 : Int32) then (FP.i2d p0) else (FP.dsub (FP.i2d p0) (FP.i2d p2)))
abbrev own_loc123 (p0 p1 p2 p3 p4 : Int32) (b2580 b2730 r2771 : Addr) : Array Slot := #[.val (.int p0), .val (.int p1), .val (.int p2), .val (.int p3), .val (.int p4), .val (.int (own_b1 p4)), .val (.int (own_b2 p4)), .val (.int (own_b4 p4)), .val (.ref b2580), .val (.int 0), .val (.int 0), .val (.int 1), .val (.int 2), .val (.ref b2730), .val (.ref r2771), .val (.double (own_dp p0 p2 p4)), .second, .unset, .unset, .unset, .unset, .unset, .unset]
def own_dq (p1 : Int32) (p2 : Int32) (p4 : Int32) : UInt64 := (if (own_b2 p4) = (0 : Int32) then (FP.i2d p1) else (FP.dsub (FP.i2d p1) (FP.i2d p2)))
abbrev own_loc124 (p0 p1 p2 p3 p4 : Int32) (b2580 b2730 r2771 : Addr) : Array Slot := #[.val (.int p0), .val (.int p1), .val (.int p2), .val (.int p3), .val (.int p4), .val (.int (own_b1 p4)), .val (.int (own_b2 p4)), .val (.int (own_b4 p4)), .val (.ref b2580), .val (.int 0), .val (.int 0), .val (.int 1), .val (.int 2), .val (.ref b2730), .val (.ref r2771), .val (.double (own_dp p0 p2 p4)), .second, .val (.double (own_dq p1 p2 p4)), .second, .unset, .unset, .unset, .unset]
abbrev own_loc125 (p0 p1 p2 p3 p4 : Int32) (b2580 b2730 r2771 : Addr) : Array Slot := #[.val (.int p0), .val (.int p1), .val (.int p2), .val (.int p3), .val (.int p4), .val (.int (own_b1 p4)), .val (.int (own_b2 p4)), .val (.int (own_b4 p4)), .val (.ref b2580), .val (.int 0), .val (.int 0), .val (.int 1), .val (.int 2), .val (.ref b2730), .val (.ref r2771), .val (.double (own_dp p0 p2 p4)), .second, .val (.double (own_dq p1 p2 p4)), .second, .val (.double (FP.dadd (own_dp p0 p2 p4) (FP.dmul (own_dq p1 p2 p4) (FP.dneg (FP.i2d p3))))), .second, .unset, .unset]
abbrev own_loc126 (p0 p1 p2 p3 p4 : Int32) (b2580 b2730 r2771 : Addr) : Array Slot := #[.val (.int p0), .val (.int p1), .val (.int p2), .val (.int p3), .val (.int p4), .val (.int (own_b1 p4)), .val (.int (own_b2 p4)), .val (.int (own_b4 p4)), .val (.ref b2580), .val (.int 0), .val (.int 0), .val (.int 1), .val (.int 2), .val (.ref b2730), .val (.ref r2771), .val (.double (own_dp p0 p2 p4)), .second, .val (.double (own_dq p1 p2 p4)), .second, .val (.double (FP.dadd (own_dp p0 p2 p4) (FP.dmul (own_dq p1 p2 p4) (FP.dneg (FP.i2d p3))))), .second, .val (.double (own_dq p1 p2 p4)), .second]
abbrev own_loc127 (p0 p1 p2 p3 p4 : Int32) (b2580 b2781 : Addr) : Array Slot := #[.val (.int p0), .val (.int p1), .val (.int p2), .val (.int p3), .val (.int p4), .val (.int (own_b1 p4)), .val (.int (own_b2 p4)), .val (.int (own_b4 p4)), .val (.ref b2580), .val (.int 0), .val (.int 0), .val (.int 1), .val (.int 2), .val (.ref b2781), .unset, .unset, .unset, .unset, .unset, .unset, .unset, .unset, .unset]
abbrev own_loc128 (p0 p1 p2 p3 p4 : Int32) (b2580 b2781 r2822 : Addr) : Array Slot := #[.val (.int p0), .val (.int p1), .val (.int p2), .val (.int p3), .val (.int p4), .val (.int (own_b1 p4)), .val (.int (own_b2 p4)), .val (.int (own_b4 p4)), .val (.ref b2580), .val (.int 0), .val (.int 0), .val (.int 1), .val (.int 2), .val (.ref b2781), .val (.ref r2822), .unset, .unset, .unset, .unset, .unset, .unset, .unset, .unset]
abbrev own_loc129 (p0 p1 p2 p3 p4 : Int32) (b2580 b2781 r2822 : Addr) : Array Slot := #[.val (.int p0), .val (.int p1), .val (.int p2), .val (.int p3), .val (.int p4), .val (.int (own_b1 p4)), .val (.int (own_b2 p4)), .val (.int (own_b4 p4)), .val (.ref b2580), .val (.int 0), .val (.int 0), .val (.int 1), .val (.int 2), .val (.ref b2781), .val (.ref r2822), .val (.double (own_dp p0 p2 p4)), .second, .unset, .unset, .unset, .unset, .unset, .unset]
abbrev own_loc130 (p0 p1 p2 p3 p4 : Int32) (b2580 b2781 r2822 : Addr) : Array Slot := #[.val (.int p0), .val (.int p1), .val (.int p2), .val (.int p3), .val (.int p4), .val (.int (own_b1 p4)), .val (.int (own_b2 p4)), .val (.int (own_b4 p4)), .val (.ref b2580), .val (.int 0), .val (.int 0), .val (.int 1), .val (.int 2), .val (.ref b2781), .val (.ref r2822), .val (.double (own_dp p0 p2 p4)), .second, .val (.double (own_dq p1 p2 p4)), .second, .unset, .unset, .unset, .unset]
abbrev own_loc131 (p0 p1 p2 p3 p4 : Int32) (b2580 b2781 r2822 : Addr) : Array Slot := #[.val (.int p0), .val (.int p1), .val (.int p2), .val (.int p3), .val (.int p4), .val (.int (own_b1 p4)), .val (.int (own_b2 p4)), .val (.int (own_b4 p4)), .val (.ref b2580), .val (.int 0), .val (.int 0), .val (.int 1), .val (.int 2), .val (.ref b2781), .val (.ref r2822), .val (.double (own_dp p0 p2 p4)), .second, .val (.double (own_dq p1 p2 p4)), .second, .val (.double (FP.dadd (own_dp p0 p2 p4) (FP.dmul (own_dq p1 p2 p4) (FP.dneg (FP.i2d p3))))), .second, .unset, .unset]
abbrev own_loc132 (p0 p1 p2 p3 p4 : Int32) (b2580 b2781 r2822 : Addr) : Array Slot := #[.val (.int p0), .val (.int p1), .val (.int p2), .val (.int p3), .val (.int p4), .val (.int (own_b1 p4)), .val (.int (own_b2 p4)), .val (.int (own_b4 p4)), .val (.ref b2580), .val (.int 0), .val (.int 0), .val (.int 1), .val (.int 2), .val (.ref b2781), .val (.ref r2822), .val (.double (own_dp p0 p2 p4)), .second, .val (.double (own_dq p1 p2 p4)), .second, .val (.double (FP.dadd (own_dp p0 p2 p4) (FP.dmul (own_dq p1 p2 p4) (FP.dneg (FP.i2d p3))))), .second, .val (.double (own_dq p1 p2 p4)), .second]
abbrev own_loc133 (p0 p1 p2 p3 p4 : Int32) (b2580 b2911 : Addr) : Array Slot := #[.val (.int p0), .val (.int p1), .val (.int p2), .val (.int p3), .val (.int p4), .val (.int (own_b1 p4)), .val (.int (own_b2 p4)), .val (.int (own_b4 p4)), .val (.ref b2580), .val (.int 0), .val (.int 0), .val (.int 1), .val (.int 2), .val (.ref b2911), .unset, .unset, .unset, .unset, .unset, .unset, .unset, .unset, .unset]
abbrev own_loc134 (p0 p1 p2 p3 p4 : Int32) (b2580 b2911 r2952 : Addr) : Array Slot := #[.val (.int p0), .val (.int p1), .val (.int p2), .val (.int p3), .val (.int p4), .val (.int (own_b1 p4)), .val (.int (own_b2 p4)), .val (.int (own_b4 p4)), .val (.ref b2580), .val (.int 0), .val (.int 0), .val (.int 1), .val (.int 2), .val (.ref b2911), .val (.ref r2952), .unset, .unset, .unset, .unset, .unset, .unset, .unset, .unset]
abbrev own_loc135 (p0 p1 p2 p3 p4 : Int32) (b2580 b2911 r2952 : Addr) : Array Slot := #[.val (.int p0), .val (.int p1), .val (.int p2), .val (.int p3), .val (.int p4), .val (.int (own_b1 p4)), .val (.int (own_b2 p4)), .val (.int (own_b4 p4)), .val (.ref b2580), .val (.int 0), .val (.int 0), .val (.int 1), .val (.int 2), .val (.ref b2911), .val (.ref r2952), .val (.double (own_dp p0 p2 p4)), .second, .unset, .unset, .unset, .unset, .unset, .unset]
abbrev own_loc136 (p0 p1 p2 p3 p4 : Int32) (b2580 b2911 r2952 : Addr) : Array Slot := #[.val (.int p0), .val (.int p1), .val (.int p2), .val (.int p3), .val (.int p4), .val (.int (own_b1 p4)), .val (.int (own_b2 p4)), .val (.int (own_b4 p4)), .val (.ref b2580), .val (.int 0), .val (.int 0), .val (.int 1), .val (.int 2), .val (.ref b2911), .val (.ref r2952), .val (.double (own_dp p0 p2 p4)), .second, .val (.double (own_dq p1 p2 p4)), .second, .unset, .unset, .unset, .unset]
abbrev own_loc137 (p0 p1 p2 p3 p4 : Int32) (b2580 b2911 r2952 : Addr) : Array Slot := #[.val (.int p0), .val (.int p1), .val (.int p2), .val (.int p3), .val (.int p4), .val (.int (own_b1 p4)), .val (.int (own_b2 p4)), .val (.int (own_b4 p4)), .val (.ref b2580), .val (.int 0), .val (.int 0), .val (.int 1), .val (.int 2), .val (.ref b2911), .val (.ref r2952), .val (.double (own_dp p0 p2 p4)), .second, .val (.double (own_dq p1 p2 p4)), .second, .val (.double (FP.dadd (own_dp p0 p2 p4) (FP.dmul (own_dq p1 p2 p4) (FP.dneg (FP.i2d p3))))), .second, .unset, .unset]
abbrev own_loc138 (p0 p1 p2 p3 p4 : Int32) (b2580 b2911 r2952 : Addr) : Array Slot := #[.val (.int p0), .val (.int p1), .val (.int p2), .val (.int p3), .val (.int p4), .val (.int (own_b1 p4)), .val (.int (own_b2 p4)), .val (.int (own_b4 p4)), .val (.ref b2580), .val (.int 0), .val (.int 0), .val (.int 1), .val (.int 2), .val (.ref b2911), .val (.ref r2952), .val (.double (own_dp p0 p2 p4)), .second, .val (.double (own_dq p1 p2 p4)), .second, .val (.double (FP.dadd (own_dp p0 p2 p4) (FP.dmul (own_dq p1 p2 p4) (FP.dneg (FP.i2d p3))))), .second, .val (.double (own_dq p1 p2 p4)), .second]
abbrev own_loc139 (p0 p1 p2 p3 p4 : Int32) (b2580 b2962 : Addr) : Array Slot := #[.val (.int p0), .val (.int p1), .val (.int p2), .val (.int p3), .val (.int p4), .val (.int (own_b1 p4)), .val (.int (own_b2 p4)), .val (.int (own_b4 p4)), .val (.ref b2580), .val (.int 0), .val (.int 0), .val (.int 1), .val (.int 2), .val (.ref b2962), .unset, .unset, .unset, .unset, .unset, .unset, .unset, .unset, .unset]
abbrev own_loc140 (p0 p1 p2 p3 p4 : Int32) (b2580 b2962 r3003 : Addr) : Array Slot := #[.val (.int p0), .val (.int p1), .val (.int p2), .val (.int p3), .val (.int p4), .val (.int (own_b1 p4)), .val (.int (own_b2 p4)), .val (.int (own_b4 p4)), .val (.ref b2580), .val (.int 0), .val (.int 0), .val (.int 1), .val (.int 2), .val (.ref b2962), .val (.ref r3003), .unset, .unset, .unset, .unset, .unset, .unset, .unset, .unset]
abbrev own_loc141 (p0 p1 p2 p3 p4 : Int32) (b2580 b2962 r3003 : Addr) : Array Slot := #[.val (.int p0), .val (.int p1), .val (.int p2), .val (.int p3), .val (.int p4), .val (.int (own_b1 p4)), .val (.int (own_b2 p4)), .val (.int (own_b4 p4)), .val (.ref b2580), .val (.int 0), .val (.int 0), .val (.int 1), .val (.int 2), .val (.ref b2962), .val (.ref r3003), .val (.double (own_dp p0 p2 p4)), .second, .unset, .unset, .unset, .unset, .unset, .unset]
abbrev own_loc142 (p0 p1 p2 p3 p4 : Int32) (b2580 b2962 r3003 : Addr) : Array Slot := #[.val (.int p0), .val (.int p1), .val (.int p2), .val (.int p3), .val (.int p4), .val (.int (own_b1 p4)), .val (.int (own_b2 p4)), .val (.int (own_b4 p4)), .val (.ref b2580), .val (.int 0), .val (.int 0), .val (.int 1), .val (.int 2), .val (.ref b2962), .val (.ref r3003), .val (.double (own_dp p0 p2 p4)), .second, .val (.double (own_dq p1 p2 p4)), .second, .unset, .unset, .unset, .unset]
abbrev own_loc143 (p0 p1 p2 p3 p4 : Int32) (b2580 b2962 r3003 : Addr) : Array Slot := #[.val (.int p0), .val (.int p1), .val (.int p2), .val (.int p3), .val (.int p4), .val (.int (own_b1 p4)), .val (.int (own_b2 p4)), .val (.int (own_b4 p4)), .val (.ref b2580), .val (.int 0), .val (.int 0), .val (.int 1), .val (.int 2), .val (.ref b2962), .val (.ref r3003), .val (.double (own_dp p0 p2 p4)), .second, .val (.double (own_dq p1 p2 p4)), .second, .val (.double (FP.dadd (own_dp p0 p2 p4) (FP.dmul (own_dq p1 p2 p4) (FP.dneg (FP.i2d p3))))), .second, .unset, .unset]
abbrev own_loc144 (p0 p1 p2 p3 p4 : Int32) (b2580 b2962 r3003 : Addr) : Array Slot := #[.val (.int p0), .val (.int p1), .val (.int p2), .val (.int p3), .val (.int p4), .val (.int (own_b1 p4)), .val (.int (own_b2 p4)), .val (.int (own_b4 p4)), .val (.ref b2580), .val (.int 0), .val (.int 0), .val (.int 1), .val (.int 2), .val (.ref b2962), .val (.ref r3003), .val (.double (own_dp p0 p2 p4)), .second, .val (.double (own_dq p1 p2 p4)), .second, .val (.double (FP.dadd (own_dp p0 p2 p4) (FP.dmul (own_dq p1 p2 p4) (FP.dneg (FP.i2d p3))))), .second, .val (.double (own_dq p1 p2 p4)), .second]
def Q0 (n0 : Nat) (v : Option Value) (h : Heap) (L : List Loc) : Prop := v = some (.int 1) ∧ Fr n0 L
theorem own_gpz (p4 : Int32) : ¬ own_gp p4 < 0 → own_gp p4 = 0 := fun q => by by_cases h : own_b1 p4 = 0; exact absurd (show own_gp p4 < 0 by rw [show own_gp p4 = -1 from if_pos h]; decide) q; exact if_neg h
theorem own_gpx (p0 p2 p4 : Int32) : own_gp p4 < 0 → FP.i2d p0 = own_dp p0 p2 p4 := fun q => by by_cases h : own_b1 p4 = 0; exact (if_pos h).symm; exact absurd q (by rw [show own_gp p4 = 0 from if_neg h]; decide)
theorem own_gpy (p0 p2 p4 : Int32) : ¬ own_gp p4 < 0 → own_gp p4 = 0 ∧ Jvm.Free.Fl.NoNaN64 (FP.dsub (FP.i2d p0) (FP.i2d p2)) ∧ FP.dsub (FP.i2d p0) (FP.i2d p2) = own_dp p0 p2 p4 := fun q => by by_cases h : own_b1 p4 = 0; exact absurd (show own_gp p4 < 0 by rw [show own_gp p4 = -1 from if_pos h]; decide) q; exact ⟨if_neg h, (own_wsub p0 p2).nn, (if_neg h).symm⟩
theorem own_wdp (p0 p2 p4 : Int32) : own_w (own_dp p0 p2 p4) := by by_cases h : own_b1 p4 = 0; rw [show own_dp p0 p2 p4 = FP.i2d p0 from if_pos h]; exact own_wi _; rw [show own_dp p0 p2 p4 = FP.dsub (FP.i2d p0) (FP.i2d p2) from if_neg h]; exact own_wsub _ _
theorem own_gqz (p4 : Int32) : ¬ own_gq p4 < 0 → own_gq p4 = 0 := fun q => by by_cases h : own_b2 p4 = 0; exact absurd (show own_gq p4 < 0 by rw [show own_gq p4 = -1 from if_pos h]; decide) q; exact if_neg h
theorem own_gqx (p1 p2 p4 : Int32) : own_gq p4 < 0 → FP.i2d p1 = own_dq p1 p2 p4 := fun q => by by_cases h : own_b2 p4 = 0; exact (if_pos h).symm; exact absurd q (by rw [show own_gq p4 = 0 from if_neg h]; decide)
theorem own_gqy (p1 p2 p4 : Int32) : ¬ own_gq p4 < 0 → own_gq p4 = 0 ∧ Jvm.Free.Fl.NoNaN64 (FP.dsub (FP.i2d p1) (FP.i2d p2)) ∧ FP.dsub (FP.i2d p1) (FP.i2d p2) = own_dq p1 p2 p4 := fun q => by by_cases h : own_b2 p4 = 0; exact absurd (show own_gq p4 < 0 by rw [show own_gq p4 = -1 from if_pos h]; decide) q; exact ⟨if_neg h, (own_wsub p1 p2).nn, (if_neg h).symm⟩
theorem own_wdq (p1 p2 p4 : Int32) : own_w (own_dq p1 p2 p4) := by by_cases h : own_b2 p4 = 0; rw [show own_dq p1 p2 p4 = FP.i2d p1 from if_pos h]; exact own_wi _; rw [show own_dq p1 p2 p4 = FP.dsub (FP.i2d p1) (FP.i2d p2) from if_neg h]; exact own_wsub _ _
theorem own_elW (u : Int32) : own_el (FP.i2d u) (0 : UInt64) (4607182418800017408 : UInt64) (own_W u) := ⟨own_wW u, fun h => by by_cases k : u = 0; rw [k]; exact own_W0.symm; exact absurd h (own_cu k), fun _ => own_sub1 u⟩
theorem own_el1 (u : Int32) : own_el (FP.i2d u) (4607182418800017408 : UInt64) (0 : UInt64) (4607182418800017408 : UInt64) := ⟨own_w1, fun _ => rfl, fun _ => own_sub0 own_w1 (own_wi u)⟩
set_option maxRecDepth 65536 in
set_option maxHeartbeats 40000000 in
theorem rm0 (l : Launch) (Z : State) (ag : Array Value) (hw : ∀ d ∈ tables_1, d.before ag Z = true) (ws : List Jvm.Cond) (p0 p1 p2 p3 p4 : Int32) (h0 : Heap) (n0 : Nat) (Z0 : n0 ≤ h0.size) :
    MetFree l x (head1 (Jvm.Cond.code x code maxLocals ret :: ws) room_1) (fun a U => a = #[(.int p0), (.int p1), (.int p2), (.int p3), (.int p4)] ∧ Z.Warmed39 U.vm ∧ U.heap = h0) (fun _ _ _ _ _ => True) (fun _ U o U' => ∃ v L, o = .returned v ∧ Q0 n0 v U'.heap L ∧ FrameEnd U o U' L 57 332) := by
  refine MetFree.of_bodySF (plainFor_of_name pn_1) hisR ?_
  intro p e s m args below meth c s₁ Bd hml0 hP hK
  obtain ⟨rfl, hZ, hh⟩ := hP
  have hx := Bd.exec
  have hby := Bd.bytes
  have hml : c.maxLocals = 23 := hml0
  have hown : s.vm.findClass "com/example/waveloom/waveloom/plan/SimplexDualsPinLaw" = some m.cls := findClass_of_methodNamed Bd.named
  have hnm := (name_of_methodNamed Bd.named Bd.method).1
  have X0 : Stand p l e room_1 s m #[(.int p0), (.int p1), (.int p2), (.int p3), (.int p4)] below meth c s₁ [] 0 0 := Stand.of_body Bd
  have e0 : s₁.heap = h0 := by rw [← hh, Bd.state]; rfl
  have N0 := Fr.nil n0
  have D : ∀ {pc : Nat} {r : Except DecodeError (Instr × Nat)}, decode code pc = r → decode c.code pc = r := fun q => hb hby q
  have pre0 : ∀ t, Steps p.tables e below (s₁.setTop (mkF m 0 #[.val (.int p0), .val (.int p1), .val (.int p2), .val (.int p3), .val (.int p4), .unset, .unset, .unset, .unset, .unset, .unset, .unset, .unset, .unset, .unset, .unset, .unset, .unset, .unset, .unset, .unset, .unset, .unset] [])) t → Steps p.tables e below (s₁.setTop (entryFrame m #[(.int p0), (.int p1), (.int p2), (.int p3), (.int p4)] maxLocals)) t := fun t k => castTop (ef_0 m p0 p1 p2 p3 p4) k
  have sg2575 : ∀ target, Steps p.tables e below (s₁.setTop (mkF m 12 (own_loc112 p0 p1 p2 p3 p4) [(.int (own_b1 p4))])) target → Steps p.tables e below (s₁.setTop (mkF m 0 (own_loc112 p0 p1 p2 p3 p4) [])) target := by
    intro target kt
    show own_S p e below s₁ (mkF m 0 (own_loc112 p0 p1 p2 p3 p4) []) _
    refine XS.iload X0.here hx rfl (D at_0) rfl (XS.iconst X0.here hx rfl (D at_2) (XS.iand X0.here hx rfl (D at_3) rfl ?_))
    by_cases hc2574 : (p4 &&& (1 : Int32)) = (0 : Int32)
    · show own_S p e below s₁ (mkF m 4 (own_loc112 p0 p1 p2 p3 p4) [(.int (p4 &&& (1 : Int32)))]) _
      refine XS.ifYes X0.here hx rfl (pc0 := 4) (pc' := 11) rfl (D at_4) rfl ((if0 _ _).trans (teq hc2574).1) (by decide) (by decide) (XS.iconst X0.here hx rfl (D at_11) ?_)
      show own_S p e below s₁ (mkF m 12 (own_loc112 p0 p1 p2 p3 p4) [.int 0]) _
      have kt := own_cast (P := fun z => Steps p.tables e below (s₁.setTop (mkF m 12 (own_loc112 p0 p1 p2 p3 p4) [(.int z)])) target) (show (own_b1 p4) = (0 : Int32) from (by unfold own_b1; rw [if_pos hc2574])) kt
      exact kt
    · show own_S p e below s₁ (mkF m 4 (own_loc112 p0 p1 p2 p3 p4) [(.int (p4 &&& (1 : Int32)))]) _
      refine XS.ifNo X0.here hx rfl (D at_4) rfl ((if0 _ _).trans (feq hc2574).1) (XS.iconst X0.here hx rfl (D at_7) (XS.goto X0.here hx rfl (pc0 := 8) (pc' := 12) rfl (D at_8) (by decide) (by decide) ?_))
      show own_S p e below s₁ (mkF m 12 (own_loc112 p0 p1 p2 p3 p4) [.int 1]) _
      have kt := own_cast (P := fun z => Steps p.tables e below (s₁.setTop (mkF m 12 (own_loc112 p0 p1 p2 p3 p4) [(.int z)])) target) (show (own_b1 p4) = (1 : Int32) from (by unfold own_b1; rw [if_neg hc2574])) kt
      exact kt
  have sg2577 : ∀ target, Steps p.tables e below (s₁.setTop (mkF m 26 (own_loc113 p0 p1 p2 p3 p4) [(.int (own_b2 p4))])) target → Steps p.tables e below (s₁.setTop (mkF m 14 (own_loc113 p0 p1 p2 p3 p4) [])) target := by
    intro target kt
    show own_S p e below s₁ (mkF m 14 (own_loc113 p0 p1 p2 p3 p4) []) _
    refine XS.iload X0.here hx rfl (D at_14) rfl (XS.iconst X0.here hx rfl (D at_16) (XS.iand X0.here hx rfl (D at_17) rfl ?_))
    by_cases hc2576 : (p4 &&& (2 : Int32)) = (0 : Int32)
    · show own_S p e below s₁ (mkF m 18 (own_loc113 p0 p1 p2 p3 p4) [(.int (p4 &&& (2 : Int32)))]) _
      refine XS.ifYes X0.here hx rfl (pc0 := 18) (pc' := 25) rfl (D at_18) rfl ((if0 _ _).trans (teq hc2576).1) (by decide) (by decide) (XS.iconst X0.here hx rfl (D at_25) ?_)
      show own_S p e below s₁ (mkF m 26 (own_loc113 p0 p1 p2 p3 p4) [.int 0]) _
      have kt := own_cast (P := fun z => Steps p.tables e below (s₁.setTop (mkF m 26 (own_loc113 p0 p1 p2 p3 p4) [(.int z)])) target) (show (own_b2 p4) = (0 : Int32) from (by unfold own_b2; rw [if_pos hc2576])) kt
      exact kt
    · show own_S p e below s₁ (mkF m 18 (own_loc113 p0 p1 p2 p3 p4) [(.int (p4 &&& (2 : Int32)))]) _
      refine XS.ifNo X0.here hx rfl (D at_18) rfl ((if0 _ _).trans (feq hc2576).1) (XS.iconst X0.here hx rfl (D at_21) (XS.goto X0.here hx rfl (pc0 := 22) (pc' := 26) rfl (D at_22) (by decide) (by decide) ?_))
      show own_S p e below s₁ (mkF m 26 (own_loc113 p0 p1 p2 p3 p4) [.int 1]) _
      have kt := own_cast (P := fun z => Steps p.tables e below (s₁.setTop (mkF m 26 (own_loc113 p0 p1 p2 p3 p4) [(.int z)])) target) (show (own_b2 p4) = (1 : Int32) from (by unfold own_b2; rw [if_neg hc2576])) kt
      exact kt
  have sg2579 : ∀ target, Steps p.tables e below (s₁.setTop (mkF m 40 (own_loc114 p0 p1 p2 p3 p4) [(.int (own_b4 p4))])) target → Steps p.tables e below (s₁.setTop (mkF m 28 (own_loc114 p0 p1 p2 p3 p4) [])) target := by
    intro target kt
    show own_S p e below s₁ (mkF m 28 (own_loc114 p0 p1 p2 p3 p4) []) _
    refine XS.iload X0.here hx rfl (D at_28) rfl (XS.iconst X0.here hx rfl (D at_30) (XS.iand X0.here hx rfl (D at_31) rfl ?_))
    by_cases hc2578 : (p4 &&& (4 : Int32)) = (0 : Int32)
    · show own_S p e below s₁ (mkF m 32 (own_loc114 p0 p1 p2 p3 p4) [(.int (p4 &&& (4 : Int32)))]) _
      refine XS.ifYes X0.here hx rfl (pc0 := 32) (pc' := 39) rfl (D at_32) rfl ((if0 _ _).trans (teq hc2578).1) (by decide) (by decide) (XS.iconst X0.here hx rfl (D at_39) ?_)
      show own_S p e below s₁ (mkF m 40 (own_loc114 p0 p1 p2 p3 p4) [.int 0]) _
      have kt := own_cast (P := fun z => Steps p.tables e below (s₁.setTop (mkF m 40 (own_loc114 p0 p1 p2 p3 p4) [(.int z)])) target) (show (own_b4 p4) = (0 : Int32) from (by unfold own_b4; rw [if_pos hc2578])) kt
      exact kt
    · show own_S p e below s₁ (mkF m 32 (own_loc114 p0 p1 p2 p3 p4) [(.int (p4 &&& (4 : Int32)))]) _
      refine XS.ifNo X0.here hx rfl (D at_32) rfl ((if0 _ _).trans (feq hc2578).1) (XS.iconst X0.here hx rfl (D at_35) (XS.goto X0.here hx rfl (pc0 := 36) (pc' := 40) rfl (D at_36) (by decide) (by decide) ?_))
      show own_S p e below s₁ (mkF m 40 (own_loc114 p0 p1 p2 p3 p4) [.int 1]) _
      have kt := own_cast (P := fun z => Steps p.tables e below (s₁.setTop (mkF m 40 (own_loc114 p0 p1 p2 p3 p4) [(.int z)])) target) (show (own_b4 p4) = (1 : Int32) from (by unfold own_b4; rw [if_neg hc2578])) kt
      exact kt
  obtain ⟨T2580, h2580, X2580, e2580, E2580, A2580, D2580, -, st2580⟩ := newO X0 hx hZ hown (own_wk hw 0 rfl) (own_wk hw 1 rfl) (own_wk hw 2 rfl) e0 (g := (mkF m 42 (own_loc115 p0 p1 p2 p3 p4) [])) rfl (D at_42) (by decide) (by decide)
  obtain ⟨b2580, g2580⟩ : ∃ z, z = h0.size := ⟨_, rfl⟩
  have ge_b2580 : n0 ≤ b2580 := Nat.le_trans Z0 (Nat.le_of_eq g2580.symm)
  rw [← g2580] at A2580 D2580 st2580
  have sz2581 : n0 ≤ h2580.size := Nat.le_trans Z0 E2580.1
  have F2580_costs : Fld Z h2580 b2580 own_K "costs" "[D" .null := D2580 (Or.inl (own_wk hw 11 rfl)) (ty := (.array .double)) (by decide)
  have F2580_groupOf : Fld Z h2580 b2580 own_K "groupOf" "[I" .null := D2580 (Or.inl (own_wk hw 14 rfl)) (ty := (.array .int)) (by decide)
  have F2580_positionOf : Fld Z h2580 b2580 own_K "positionOf" "[I" .null := D2580 (Or.inl (own_wk hw 16 rfl)) (ty := (.array .int)) (by decide)
  have F2580_firstEntry : Fld Z h2580 b2580 own_K "firstEntry" "[I" .null := D2580 (Or.inl (own_wk hw 18 rfl)) (ty := (.array .int)) (by decide)
  have F2580_entryCounts : Fld Z h2580 b2580 own_K "entryCounts" "[I" .null := D2580 (Or.inl (own_wk hw 20 rfl)) (ty := (.array .int)) (by decide)
  have F2580_entryRooms : Fld Z h2580 b2580 own_K "entryRooms" "[I" .null := D2580 (Or.inl (own_wk hw 22 rfl)) (ty := (.array .int)) (by decide)
  have F2580_entryRows : Fld Z h2580 b2580 own_K "entryRows" "[I" .null := D2580 (Or.inl (own_wk hw 24 rfl)) (ty := (.array .int)) (by decide)
  have F2580_entryValues : Fld Z h2580 b2580 own_K "entryValues" "[D" .null := D2580 (Or.inl (own_wk hw 26 rfl)) (ty := (.array .double)) (by decide)
  have F2580_bounds : Fld Z h2580 b2580 own_K "bounds" "[D" .null := D2580 (Or.inl (own_wk hw 28 rfl)) (ty := (.array .double)) (by decide)
  have F2580_slacks : Fld Z h2580 b2580 own_K "slacks" "[I" .null := D2580 (Or.inl (own_wk hw 30 rfl)) (ty := (.array .int)) (by decide)
  have F2580_keys : Fld Z h2580 b2580 own_K "keys" "[I" .null := D2580 (Or.inl (own_wk hw 32 rfl)) (ty := (.array .int)) (by decide)
  have F2580_keyValues : Fld Z h2580 b2580 own_K "keyValues" "[D" .null := D2580 (Or.inl (own_wk hw 34 rfl)) (ty := (.array .double)) (by decide)
  have F2580_head : Fld Z h2580 b2580 own_K "head" "[I" .null := D2580 (Or.inl (own_wk hw 36 rfl)) (ty := (.array .int)) (by decide)
  have F2580_inverse : Fld Z h2580 b2580 own_K "inverse" "[[D" .null := D2580 (Or.inl (own_wk hw 40 rfl)) (ty := (.array (.array .double))) (by decide)
  have F2580_values : Fld Z h2580 b2580 own_K "values" "[D" .null := D2580 (Or.inl (own_wk hw 42 rfl)) (ty := (.array .double)) (by decide)
  have F2580_groupDualPass : Fld Z h2580 b2580 own_K "groupDualPass" "[I" .null := D2580 (Or.inl (own_wk hw 44 rfl)) (ty := (.array .int)) (by decide)
  have F2580_groupDualValues : Fld Z h2580 b2580 own_K "groupDualValues" "[D" .null := D2580 (Or.inl (own_wk hw 46 rfl)) (ty := (.array .double)) (by decide)
  have F2580_rates : Fld Z h2580 b2580 own_K "rates" "[D" .null := D2580 (Or.inl (own_wk hw 48 rfl)) (ty := (.array .double)) (by decide)
  have F2580_rated : Fld Z h2580 b2580 own_K "rated" "[Z" .null := D2580 (Or.inl (own_wk hw 51 rfl)) (ty := (.array .boolean)) (by decide)
  have F2580_ratedGroups : Fld Z h2580 b2580 own_K "ratedGroups" "[I" .null := D2580 (Or.inl (own_wk hw 53 rfl)) (ty := (.array .int)) (by decide)
  have F2580_started : Fld Z h2580 b2580 own_K "started" "Z" (.int (0 : Int32)) := D2580 (Or.inl (own_wk hw 60 rfl)) (ty := .boolean) (by decide)
  have F2580_groupCount : Fld Z h2580 b2580 own_K "groupCount" "I" (.int (0 : Int32)) := D2580 (Or.inl (own_wk hw 62 rfl)) (ty := .int) (by decide)
  have F2580_variableCount : Fld Z h2580 b2580 own_K "variableCount" "I" (.int (0 : Int32)) := D2580 (Or.inl (own_wk hw 69 rfl)) (ty := .int) (by decide)
  have F2580_entriesUsed : Fld Z h2580 b2580 own_K "entriesUsed" "I" (.int (0 : Int32)) := D2580 (Or.inl (own_wk hw 71 rfl)) (ty := .int) (by decide)
  have F2580_rowCount : Fld Z h2580 b2580 own_K "rowCount" "I" (.int (0 : Int32)) := D2580 (Or.inl (own_wk hw 82 rfl)) (ty := .int) (by decide)
  have F2580_objective : Fld Z h2580 b2580 own_K "objective" "D" (.double (0 : UInt64)) := D2580 (Or.inl (own_wk hw 139 rfl)) (ty := .double) (by decide)
  have F2580_pivotsSinceInversion : Fld Z h2580 b2580 own_K "pivotsSinceInversion" "I" (.int (0 : Int32)) := D2580 (Or.inl (own_wk hw 141 rfl)) (ty := .int) (by decide)
  have Oi : own_fs own_K own_N Z h2580 b2580 [.null, .null, .null, .null, .null, .null, .null, .null, .null, .null, .null, .null, .null, .null, .null, .null, .null, .null, .null, .null, (.int (0 : Int32)), (.int (0 : Int32)), (.int (0 : Int32)), (.int (0 : Int32)), (.int (0 : Int32)), (.double (0 : UInt64)), (.int (0 : Int32))] := (own_fs.cons F2580_costs (own_fs.cons F2580_groupOf (own_fs.cons F2580_positionOf (own_fs.cons F2580_firstEntry (own_fs.cons F2580_entryCounts (own_fs.cons F2580_entryRooms (own_fs.cons F2580_entryRows (own_fs.cons F2580_entryValues (own_fs.cons F2580_bounds (own_fs.cons F2580_slacks (own_fs.cons F2580_keys (own_fs.cons F2580_keyValues (own_fs.cons F2580_head (own_fs.cons F2580_inverse (own_fs.cons F2580_values (own_fs.cons F2580_groupDualPass (own_fs.cons F2580_groupDualValues (own_fs.cons F2580_rates (own_fs.cons F2580_rated (own_fs.cons F2580_ratedGroups (own_fs.cons F2580_started (own_fs.cons F2580_groupCount (own_fs.cons F2580_variableCount (own_fs.cons F2580_entriesUsed (own_fs.cons F2580_rowCount (own_fs.cons F2580_objective (own_fs.cons F2580_pivotsSinceInversion own_fs.nil)))))))))))))))))))))))))))
  obtain ⟨_, _, ⟨T2582, L2582, k2582, n2582⟩, -, X2582, ⟨Lc2582, hQ2582, l2582, y2582, z2582⟩, st2582⟩ := X2580.specialBack hx (y := (⟨own_K, "<init>", "()V"⟩ : MethodName)) rfl hown (mvT hZ (own_wk hw 3 rfl)) (mvT hZ (own_wk hw 4 rfl)) (mvT hZ (own_wk hw 5 rfl)) (by decide) (backOf (W := 1) (rm1 l Z ag hw [] b2580  h2580 n0 sz2581 A2580 ge_b2580 Oi) hZ (own_wk hw 5 rfl) (own_wk hw 2 rfl) (by decide) (by decide)) (g := (mkF m 46 (own_loc115 p0 p1 p2 p3 p4) [(.ref b2580), (.ref b2580)])) rfl (by rw [hml]; rfl) (Steps.refl _) (a := b2580) (argsL := []) (rest := [(.ref b2580)]) (lenOf pd_2 rfl) rfl (by show 2 * 0 + _ ≤ _; exact Nat.le_of_eq rfl) (D at_46) (fun _ _ => ⟨rfl, e2580, (by decide : 1 + 20 ≤ _), (by decide : 30 + 256 ≤ _)⟩)
  dsimp only [Pt.U, Pt.locs, Pt.cells, Pt.slots] at X2582 l2582 y2582 z2582 st2582 hQ2582
  subst l2582 y2582 z2582
  obtain ⟨u0, u1, u2, u3, u4, u5, u6, u7, u8, u9, u10, z0, z1, z2, z3, z4, z5, z6, z7, z8, k0, k1, k2, k3, k4, k5, k6, k7, k8, k9, k10, rfl, N2582q, K2582, hu0, lt_u1, lt_u2, lt_u3, lt_u4, lt_u5, lt_u6, lt_u7, lt_u8, lt_u9, lt_u10, Ob2582, V_u0, V_u1, V_u2, V_u3, V_u4, V_u5, V_u6, V_u7, V_u8, V_u9, V_u10⟩ := hQ2582
  have N2582 := Fr.app N0 N2582q
  have lt_u0 : b2580 < u0 := Nat.lt_of_lt_of_le A2580.lt hu0
  have ge_u0 : n0 ≤ u0 := Nat.le_trans sz2581 hu0
  have ge_u1 : n0 ≤ u1 := Nat.le_trans ge_u0 (Nat.le_of_lt lt_u1)
  have ge_u2 : n0 ≤ u2 := Nat.le_trans ge_u1 (Nat.le_of_lt lt_u2)
  have ge_u3 : n0 ≤ u3 := Nat.le_trans ge_u2 (Nat.le_of_lt lt_u3)
  have ge_u4 : n0 ≤ u4 := Nat.le_trans ge_u3 (Nat.le_of_lt lt_u4)
  have ge_u5 : n0 ≤ u5 := Nat.le_trans ge_u4 (Nat.le_of_lt lt_u5)
  have ge_u6 : n0 ≤ u6 := Nat.le_trans ge_u5 (Nat.le_of_lt lt_u6)
  have ge_u7 : n0 ≤ u7 := Nat.le_trans ge_u6 (Nat.le_of_lt lt_u7)
  have ge_u8 : n0 ≤ u8 := Nat.le_trans ge_u7 (Nat.le_of_lt lt_u8)
  have ge_u9 : n0 ≤ u9 := Nat.le_trans ge_u8 (Nat.le_of_lt lt_u9)
  have ge_u10 : n0 ≤ u10 := Nat.le_trans ge_u9 (Nat.le_of_lt lt_u10)
  have c0_1 : b2580 < u0 := lt_u0
  have c0_2 : b2580 < u1 := Nat.lt_trans c0_1 lt_u1
  have c0_3 : b2580 < u2 := Nat.lt_trans c0_2 lt_u2
  have c0_4 : b2580 < u3 := Nat.lt_trans c0_3 lt_u3
  have c0_5 : b2580 < u4 := Nat.lt_trans c0_4 lt_u4
  have c0_6 : b2580 < u5 := Nat.lt_trans c0_5 lt_u5
  have c0_7 : b2580 < u6 := Nat.lt_trans c0_6 lt_u6
  have c0_8 : b2580 < u7 := Nat.lt_trans c0_7 lt_u7
  have c0_9 : b2580 < u8 := Nat.lt_trans c0_8 lt_u8
  have c0_10 : b2580 < u9 := Nat.lt_trans c0_9 lt_u9
  have c0_11 : b2580 < u10 := Nat.lt_trans c0_10 lt_u10
  have c1_2 : u0 < u1 := lt_u1
  have c1_3 : u0 < u2 := Nat.lt_trans c1_2 lt_u2
  have c1_4 : u0 < u3 := Nat.lt_trans c1_3 lt_u3
  have c1_5 : u0 < u4 := Nat.lt_trans c1_4 lt_u4
  have c1_6 : u0 < u5 := Nat.lt_trans c1_5 lt_u5
  have c1_7 : u0 < u6 := Nat.lt_trans c1_6 lt_u6
  have c1_8 : u0 < u7 := Nat.lt_trans c1_7 lt_u7
  have c1_9 : u0 < u8 := Nat.lt_trans c1_8 lt_u8
  have c1_10 : u0 < u9 := Nat.lt_trans c1_9 lt_u9
  have c1_11 : u0 < u10 := Nat.lt_trans c1_10 lt_u10
  have c2_3 : u1 < u2 := lt_u2
  have c2_4 : u1 < u3 := Nat.lt_trans c2_3 lt_u3
  have c2_5 : u1 < u4 := Nat.lt_trans c2_4 lt_u4
  have c2_6 : u1 < u5 := Nat.lt_trans c2_5 lt_u5
  have c2_7 : u1 < u6 := Nat.lt_trans c2_6 lt_u6
  have c2_8 : u1 < u7 := Nat.lt_trans c2_7 lt_u7
  have c2_9 : u1 < u8 := Nat.lt_trans c2_8 lt_u8
  have c2_10 : u1 < u9 := Nat.lt_trans c2_9 lt_u9
  have c2_11 : u1 < u10 := Nat.lt_trans c2_10 lt_u10
  have c3_4 : u2 < u3 := lt_u3
  have c3_5 : u2 < u4 := Nat.lt_trans c3_4 lt_u4
  have c3_6 : u2 < u5 := Nat.lt_trans c3_5 lt_u5
  have c3_7 : u2 < u6 := Nat.lt_trans c3_6 lt_u6
  have c3_8 : u2 < u7 := Nat.lt_trans c3_7 lt_u7
  have c3_9 : u2 < u8 := Nat.lt_trans c3_8 lt_u8
  have c3_10 : u2 < u9 := Nat.lt_trans c3_9 lt_u9
  have c3_11 : u2 < u10 := Nat.lt_trans c3_10 lt_u10
  have c4_5 : u3 < u4 := lt_u4
  have c4_6 : u3 < u5 := Nat.lt_trans c4_5 lt_u5
  have c4_7 : u3 < u6 := Nat.lt_trans c4_6 lt_u6
  have c4_8 : u3 < u7 := Nat.lt_trans c4_7 lt_u7
  have c4_9 : u3 < u8 := Nat.lt_trans c4_8 lt_u8
  have c4_10 : u3 < u9 := Nat.lt_trans c4_9 lt_u9
  have c4_11 : u3 < u10 := Nat.lt_trans c4_10 lt_u10
  have c5_6 : u4 < u5 := lt_u5
  have c5_7 : u4 < u6 := Nat.lt_trans c5_6 lt_u6
  have c5_8 : u4 < u7 := Nat.lt_trans c5_7 lt_u7
  have c5_9 : u4 < u8 := Nat.lt_trans c5_8 lt_u8
  have c5_10 : u4 < u9 := Nat.lt_trans c5_9 lt_u9
  have c5_11 : u4 < u10 := Nat.lt_trans c5_10 lt_u10
  have c6_7 : u5 < u6 := lt_u6
  have c6_8 : u5 < u7 := Nat.lt_trans c6_7 lt_u7
  have c6_9 : u5 < u8 := Nat.lt_trans c6_8 lt_u8
  have c6_10 : u5 < u9 := Nat.lt_trans c6_9 lt_u9
  have c6_11 : u5 < u10 := Nat.lt_trans c6_10 lt_u10
  have c7_8 : u6 < u7 := lt_u7
  have c7_9 : u6 < u8 := Nat.lt_trans c7_8 lt_u8
  have c7_10 : u6 < u9 := Nat.lt_trans c7_9 lt_u9
  have c7_11 : u6 < u10 := Nat.lt_trans c7_10 lt_u10
  have c8_9 : u7 < u8 := lt_u8
  have c8_10 : u7 < u9 := Nat.lt_trans c8_9 lt_u9
  have c8_11 : u7 < u10 := Nat.lt_trans c8_10 lt_u10
  have c9_10 : u8 < u9 := lt_u9
  have c9_11 : u8 < u10 := Nat.lt_trans c9_10 lt_u10
  have c10_11 : u9 < u10 := lt_u10
  have n0_1 := Nat.ne_of_lt c0_1
  have n0_2 := Nat.ne_of_lt c0_2
  have n0_3 := Nat.ne_of_lt c0_3
  have n0_4 := Nat.ne_of_lt c0_4
  have n0_5 := Nat.ne_of_lt c0_5
  have n0_6 := Nat.ne_of_lt c0_6
  have n0_7 := Nat.ne_of_lt c0_7
  have n0_8 := Nat.ne_of_lt c0_8
  have n0_9 := Nat.ne_of_lt c0_9
  have n0_10 := Nat.ne_of_lt c0_10
  have n0_11 := Nat.ne_of_lt c0_11
  have n1_2 := Nat.ne_of_lt c1_2
  have n1_3 := Nat.ne_of_lt c1_3
  have n1_4 := Nat.ne_of_lt c1_4
  have n1_5 := Nat.ne_of_lt c1_5
  have n1_6 := Nat.ne_of_lt c1_6
  have n1_7 := Nat.ne_of_lt c1_7
  have n1_8 := Nat.ne_of_lt c1_8
  have n1_9 := Nat.ne_of_lt c1_9
  have n1_10 := Nat.ne_of_lt c1_10
  have n1_11 := Nat.ne_of_lt c1_11
  have n2_3 := Nat.ne_of_lt c2_3
  have n2_4 := Nat.ne_of_lt c2_4
  have n2_5 := Nat.ne_of_lt c2_5
  have n2_6 := Nat.ne_of_lt c2_6
  have n2_7 := Nat.ne_of_lt c2_7
  have n2_8 := Nat.ne_of_lt c2_8
  have n2_9 := Nat.ne_of_lt c2_9
  have n2_10 := Nat.ne_of_lt c2_10
  have n2_11 := Nat.ne_of_lt c2_11
  have n3_4 := Nat.ne_of_lt c3_4
  have n3_5 := Nat.ne_of_lt c3_5
  have n3_6 := Nat.ne_of_lt c3_6
  have n3_7 := Nat.ne_of_lt c3_7
  have n3_8 := Nat.ne_of_lt c3_8
  have n3_9 := Nat.ne_of_lt c3_9
  have n3_10 := Nat.ne_of_lt c3_10
  have n3_11 := Nat.ne_of_lt c3_11
  have n4_5 := Nat.ne_of_lt c4_5
  have n4_6 := Nat.ne_of_lt c4_6
  have n4_7 := Nat.ne_of_lt c4_7
  have n4_8 := Nat.ne_of_lt c4_8
  have n4_9 := Nat.ne_of_lt c4_9
  have n4_10 := Nat.ne_of_lt c4_10
  have n4_11 := Nat.ne_of_lt c4_11
  have n5_6 := Nat.ne_of_lt c5_6
  have n5_7 := Nat.ne_of_lt c5_7
  have n5_8 := Nat.ne_of_lt c5_8
  have n5_9 := Nat.ne_of_lt c5_9
  have n5_10 := Nat.ne_of_lt c5_10
  have n5_11 := Nat.ne_of_lt c5_11
  have n6_7 := Nat.ne_of_lt c6_7
  have n6_8 := Nat.ne_of_lt c6_8
  have n6_9 := Nat.ne_of_lt c6_9
  have n6_10 := Nat.ne_of_lt c6_10
  have n6_11 := Nat.ne_of_lt c6_11
  have n7_8 := Nat.ne_of_lt c7_8
  have n7_9 := Nat.ne_of_lt c7_9
  have n7_10 := Nat.ne_of_lt c7_10
  have n7_11 := Nat.ne_of_lt c7_11
  have n8_9 := Nat.ne_of_lt c8_9
  have n8_10 := Nat.ne_of_lt c8_10
  have n8_11 := Nat.ne_of_lt c8_11
  have n9_10 := Nat.ne_of_lt c9_10
  have n9_11 := Nat.ne_of_lt c9_11
  have n10_11 := Nat.ne_of_lt c10_11
  have hch : ∀ x ∈ [b2580, u0, u1, u2, u3, u4, u5, u6, u7, u8, u9, u10], x ≤ u10 := (own_chS (Nat.le_of_lt c0_11) (own_chS (Nat.le_of_lt c1_11) (own_chS (Nat.le_of_lt c2_11) (own_chS (Nat.le_of_lt c3_11) (own_chS (Nat.le_of_lt c4_11) (own_chS (Nat.le_of_lt c5_11) (own_chS (Nat.le_of_lt c6_11) (own_chS (Nat.le_of_lt c7_11) (own_chS (Nat.le_of_lt c8_11) (own_chS (Nat.le_of_lt c9_11) (own_chS (Nat.le_of_lt c10_11) (own_chS (Nat.le_refl _) own_ch0))))))))))))
  have x2583 := A2580.keep K2582
  have sz2584 : n0 ≤ T2582.heap.size := Nat.le_trans sz2581 K2582.1
  obtain ⟨cq2585, kq2585, q2585a, q2585b, q2585c⟩ := isOf hZ rfl x2583
  obtain ⟨_, _, ⟨T2585, L2585, k2585, n2585⟩, -, X2585, ⟨Lc2585, hQ2585, l2585, y2585, z2585⟩, st2585⟩ := X2582.virtualBack hx (y := (⟨own_K, "addGroup", "()I"⟩ : MethodName)) (z := (⟨own_K, "addGroup", "()I"⟩ : MethodName)) hown (mvT hZ (own_wk hw 54 rfl)) (mvT hZ (own_wk hw 55 rfl)) (notFace_of_selects (args := #[]) (mvT hZ (own_wk hw 57 rfl))) (mvT hZ (own_wk hw 57 rfl)) (mvT hZ (own_wk hw 56 rfl)) (by decide) (backOf (W := 0) (rm3 l Z ag hw [] b2580 _ _ _ _ _ _ _ _ _ _ _ _ _ _ _ _ _ _ _ _ _ _ _ _ _ T2582.heap n0 sz2584 x2583 Ob2582 ge_b2580) hZ (own_wk hw 58 rfl) (own_wk hw 2 rfl) (by decide) (by decide)) q2585a q2585c (g := (mkF m 53 (own_loc116 p0 p1 p2 p3 p4 b2580) [(.ref b2580)])) rfl (by rw [hml]; rfl) (Steps.refl _) (argsL := []) (rest := []) (lenOf pd_0 rfl) rfl (by show 2 * 0 + _ ≤ _; exact Nat.le_of_eq rfl) (D at_53) (fun _ _ => ⟨rfl, rfl, (by decide : 21 + 0 ≤ _), (by decide : 286 + 0 ≤ _)⟩)
  dsimp only [Pt.U, Pt.locs, Pt.cells, Pt.slots] at X2585 l2585 y2585 z2585 st2585 hQ2585
  subst l2585 y2585 z2585
  obtain ⟨rfl, N2585q, K2585, o2585_0⟩ := hQ2585
  have N2585 := Fr.app N2582 N2585q
  have x2586 := x2583.keep K2585
  have x2587 := V_u0.keep K2585 (ninS n0_1.symm nin0)
  have x2588 := V_u1.keep K2585 (ninS n0_2.symm nin0)
  have x2589 := V_u2.keep K2585 (ninS n0_3.symm nin0)
  have x2590 := V_u3.keep K2585 (ninS n0_4.symm nin0)
  have x2591 := V_u4.keep K2585 (ninS n0_5.symm nin0)
  have x2592 := V_u5.keep K2585 (ninS n0_6.symm nin0)
  have x2593 := V_u6.keep K2585 (ninS n0_7.symm nin0)
  have x2594 := V_u7.keep K2585 (ninS n0_8.symm nin0)
  have x2595 := V_u8.keep K2585 (ninS n0_9.symm nin0)
  have x2596 := V_u9.keep K2585 (ninS n0_10.symm nin0)
  have x2597 := V_u10.keep K2585 (ninS n0_11.symm nin0)
  have sz2598 : n0 ≤ T2585.heap.size := Nat.le_trans sz2584 K2585.1
  obtain ⟨T2599, h2599, k2599, X2599, e2599, E2599, A2599, EA2599, st2599⟩ := newPE X2585 hx hZ (own_wk hw 12 rfl) rfl (g := (mkF m 65 (own_loc117 p0 p1 p2 p3 p4 b2580) [.int 0, .int 0, (.double (FP.i2d p2)), (.ref b2580)])) rfl (D at_65) rfl (by decide) (cap := 0) (by decide) (by decide) (by decide) (by decide) (ad := "[I") (by decide)
  obtain ⟨b2599, g2599⟩ : ∃ z, z = T2585.heap.size := ⟨_, rfl⟩
  have gq_b2599 : T2585.heap.size ≤ b2599 := Nat.le_trans (Keep.refl T2585.heap []).1 (Nat.le_of_eq g2599.symm)
  have lt_b2599 : u10 < b2599 := Nat.lt_of_lt_of_le x2597.lt (Nat.le_of_eq g2599.symm)
  have ge_b2599 : n0 ≤ b2599 := Nat.le_trans sz2598 (Nat.le_of_eq g2599.symm)
  rw [← g2599] at A2599 st2599 EA2599
  have kq2600 := (Keep.refl T2585.heap []).ext E2599
  have sz2601 : n0 ≤ h2599.size := Nat.le_trans sz2598 E2599.1
  have V2599 : Arv Z h2599 b2599 k2599 .int (0 : Int32) [] (.int (0 : Int32)) := Arv.new A2599 (by decide)
  obtain ⟨T2602, h2602, k2602, X2602, e2602, E2602, A2602, EA2602, st2602⟩ := newPE X2599 hx hZ (own_wk hw 9 rfl) e2599 (g := (mkF m 68 (own_loc117 p0 p1 p2 p3 p4 b2580) [.int 0, (.ref b2599), .int 0, (.double (FP.i2d p2)), (.ref b2580)])) rfl (D at_68) rfl (by decide) (cap := 0) (by decide) (by decide) (by decide) (by decide) (ad := "[D") (by decide)
  obtain ⟨b2602, g2602⟩ : ∃ z, z = h2599.size := ⟨_, rfl⟩
  have gq_b2602 : T2585.heap.size ≤ b2602 := Nat.le_trans kq2600.1 (Nat.le_of_eq g2602.symm)
  have lt_b2602 : u10 < b2602 := Nat.lt_of_lt_of_le (x2597.keep kq2600 nin0).lt (Nat.le_of_eq g2602.symm)
  have ne2603 : b2599 ≠ b2602 := Nat.ne_of_lt (Nat.lt_of_lt_of_le EA2599.lt (Nat.le_of_eq g2602.symm))
  have ge_b2602 : n0 ≤ b2602 := Nat.le_trans sz2601 (Nat.le_of_eq g2602.symm)
  rw [← g2602] at A2602 st2602 EA2602
  have kq2604 := kq2600.ext E2602
  have x2605 := EA2599.ext E2602
  have x2606 := V2599.ext E2602
  have sz2607 : n0 ≤ h2602.size := Nat.le_trans sz2601 E2602.1
  have V2602 : Arv Z h2602 b2602 k2602 .double (0 : Int32) [] (.double (0 : UInt64)) := Arv.new A2602 (by decide)
  have cp2608 : ∀ target, own_S p e below T2602 (mkF m 70 (own_loc117 p0 p1 p2 p3 p4 b2580) [(.ref b2602), (.ref b2599), .int 0, (.double (FP.i2d p2)), (.ref b2580)]) target → own_S p e below s₁ (mkF m 0 (own_loc112 p0 p1 p2 p3 p4) []) target := by
    intro target kt
    show own_S p e below s₁ (mkF m 0 (own_loc112 p0 p1 p2 p3 p4) []) _
    refine sg2575 _ (XS.istore X0.here hx rfl (D at_12) rfl (l' := (own_loc113 p0 p1 p2 p3 p4)) rfl (sg2577 _ (XS.istore X0.here hx rfl (D at_26) rfl (l' := (own_loc114 p0 p1 p2 p3 p4)) rfl (sg2579 _ (XS.istore X0.here hx rfl (D at_40) rfl (l' := (own_loc115 p0 p1 p2 p3 p4)) rfl (st2580 _ (XS.dup X2580.here hx rfl (D at_45) rfl rfl (st2582.trans (XS.astore X2582.here hx rfl (D at_49) rfl rfl (l' := (own_loc116 p0 p1 p2 p3 p4 b2580)) rfl ?_)))))))))
    refine XS.aload X2582.here hx rfl (D at_51) rfl rfl (st2585.trans (XS.istore X2585.here hx rfl (D at_56) rfl (l' := (own_loc117 p0 p1 p2 p3 p4 b2580)) rfl (XS.aload X2585.here hx rfl (D at_58) rfl rfl (XS.iloadN X2585.here hx rfl (D at_60) rfl (XS.i2dS X2585.here hx rfl (D at_61) rfl rfl ?_)))))
    show own_S p e below T2585 (mkF m 62 (own_loc117 p0 p1 p2 p3 p4 b2580) [(.double (FP.i2d p2)), (.ref b2580)]) _
    refine XS.iload X2585.here hx rfl (D at_62) rfl (XS.iconst X2585.here hx rfl (D at_64) (st2599 _ (XS.iconst X2599.here hx rfl (D at_67) (st2602 _ ?_))))
    exact kt
  obtain ⟨cq2609, kq2609, q2609a, q2609b, q2609c⟩ := isOf hZ e2602 (x2586.keep kq2604)
  obtain ⟨_, _, ⟨T2609, L2609, k2609, n2609⟩, -, X2609, ⟨Lc2609, hQ2609, l2609, y2609, z2609⟩, st2609⟩ := X2602.virtualBack hx (y := (⟨own_K, "addVariable", "(DI[I[D)I"⟩ : MethodName)) (z := (⟨own_K, "addVariable", "(DI[I[D)I"⟩ : MethodName)) hown (mvT hZ (own_wk hw 63 rfl)) (mvT hZ (own_wk hw 64 rfl)) (notFace_of_selects (args := #[]) (mvT hZ (own_wk hw 66 rfl))) (mvT hZ (own_wk hw 66 rfl)) (mvT hZ (own_wk hw 65 rfl)) (by decide) (backOf (W := 0) (rm4_0 l Z ag hw [] b2580 (FP.i2d p2) (0 : Int32) b2599 b2602 _ _ _ _ _ _ _ _ _ _ _ _ _ _ _ _ _ _ _ _ _ _ _ _ _ _ _ _ _ _ _ _ _ _ _ _ _ _ _ _ _ _ _ _ _ h2602 n0 sz2607 (x2586.keep kq2604) (o2585_0.keep kq2604 nin0) (x2587.keep kq2604 nin0) (x2588.keep kq2604 nin0) (x2589.keep kq2604 nin0) (x2590.keep kq2604 nin0) (x2591.keep kq2604 nin0) (x2592.keep kq2604 nin0) (x2593.keep kq2604 nin0) (x2594.keep kq2604 nin0) x2606 V2602 ge_b2580 ge_u0 ge_u1 ge_u2 ge_u3 ge_u4 ge_u5 ge_u6 ge_u7 n0_1 n0_2 n0_3 n0_4 n0_5 n0_6 n0_7 n0_8 (own_nb hch lt_b2599 0 rfl) (own_nb hch lt_b2602 0 rfl) n1_2 n1_3 n1_4 n1_5 n1_6 n1_7 n1_8 (own_nb hch lt_b2599 1 rfl) (own_nb hch lt_b2602 1 rfl) n2_3 n2_4 n2_5 n2_6 n2_7 n2_8 (own_nb hch lt_b2599 2 rfl) (own_nb hch lt_b2602 2 rfl) n3_4 n3_5 n3_6 n3_7 n3_8 (own_nb hch lt_b2599 3 rfl) (own_nb hch lt_b2602 3 rfl) n4_5 n4_6 n4_7 n4_8 (own_nb hch lt_b2599 4 rfl) (own_nb hch lt_b2602 4 rfl) n5_6 n5_7 n5_8 (own_nb hch lt_b2599 5 rfl) (own_nb hch lt_b2602 5 rfl) n6_7 n6_8 (own_nb hch lt_b2599 6 rfl) (own_nb hch lt_b2602 6 rfl) n7_8 (own_nb hch lt_b2599 7 rfl) (own_nb hch lt_b2602 7 rfl) (own_nb hch lt_b2599 8 rfl) (own_nb hch lt_b2602 8 rfl) (by decide) rfl (by simp <;> decide) (by simp <;> decide) (by simp <;> decide) (by simp <;> decide) (by simp <;> decide) (by simp <;> decide)) hZ (own_wk hw 67 rfl) (own_wk hw 2 rfl) (by decide) (by decide)) q2609a q2609c (g := (mkF m 70 (own_loc117 p0 p1 p2 p3 p4 b2580) [(.ref b2602), (.ref b2599), .int 0, (.double (FP.i2d p2)), (.ref b2580)])) rfl (by rw [hml]; rfl) (Steps.refl _) (argsL := [(.double (FP.i2d p2)), (.int (0 : Int32)), (.ref b2599), (.ref b2602)]) (rest := []) (lenOf pd_5 rfl) rfl (by show 2 * 0 + _ ≤ _; exact Nat.le_of_eq rfl) (D at_70) (fun _ _ => ⟨rfl, e2602, (by decide : 23 + 0 ≤ _), (by decide : 286 + 0 ≤ _)⟩)
  dsimp only [Pt.U, Pt.locs, Pt.cells, Pt.slots] at X2609 l2609 y2609 z2609 st2609 hQ2609
  subst l2609 y2609 z2609
  obtain ⟨rfl, N2609q, K2609, o2609_0, o2609_1, o2609_2, o2609_3, o2609_4, o2609_5, o2609_6, o2609_7, o2609_8⟩ := hQ2609
  have N2609 := Fr.app N2585 N2609q
  have x2610 := (x2586.keep kq2604).keep K2609
  have x2611 := (x2595.keep kq2604 nin0).keep K2609 (ninS n0_9.symm (ninS n1_9.symm (ninS n2_9.symm (ninS n3_9.symm (ninS n4_9.symm (ninS n5_9.symm (ninS n6_9.symm (ninS n7_9.symm (ninS n8_9.symm nin0)))))))))
  have x2612 := (x2596.keep kq2604 nin0).keep K2609 (ninS n0_10.symm (ninS n1_10.symm (ninS n2_10.symm (ninS n3_10.symm (ninS n4_10.symm (ninS n5_10.symm (ninS n6_10.symm (ninS n7_10.symm (ninS n8_10.symm nin0)))))))))
  have x2613 := (x2597.keep kq2604 nin0).keep K2609 (ninS n0_11.symm (ninS n1_11.symm (ninS n2_11.symm (ninS n3_11.symm (ninS n4_11.symm (ninS n5_11.symm (ninS n6_11.symm (ninS n7_11.symm (ninS n8_11.symm nin0)))))))))
  have x2614 := x2605.keep K2609
  have x2615 := x2606.keep K2609 (ninS (own_nb hch lt_b2599 0 rfl).symm (ninS (own_nb hch lt_b2599 1 rfl).symm (ninS (own_nb hch lt_b2599 2 rfl).symm (ninS (own_nb hch lt_b2599 3 rfl).symm (ninS (own_nb hch lt_b2599 4 rfl).symm (ninS (own_nb hch lt_b2599 5 rfl).symm (ninS (own_nb hch lt_b2599 6 rfl).symm (ninS (own_nb hch lt_b2599 7 rfl).symm (ninS (own_nb hch lt_b2599 8 rfl).symm nin0)))))))))
  have x2616 := EA2602.keep K2609
  have x2617 := V2602.keep K2609 (ninS (own_nb hch lt_b2602 0 rfl).symm (ninS (own_nb hch lt_b2602 1 rfl).symm (ninS (own_nb hch lt_b2602 2 rfl).symm (ninS (own_nb hch lt_b2602 3 rfl).symm (ninS (own_nb hch lt_b2602 4 rfl).symm (ninS (own_nb hch lt_b2602 5 rfl).symm (ninS (own_nb hch lt_b2602 6 rfl).symm (ninS (own_nb hch lt_b2602 7 rfl).symm (ninS (own_nb hch lt_b2602 8 rfl).symm nin0)))))))))
  have sz2618 : n0 ≤ T2609.heap.size := Nat.le_trans sz2607 K2609.1
  have sg2620 : ∀ target, Steps p.tables e below (T2609.setTop (mkF m 90 (own_loc118 p0 p1 p2 p3 p4 b2580) [(.int (own_gp p4)), (.double (FP.i2d p0)), (.ref b2580)])) target → Steps p.tables e below (T2609.setTop (mkF m 79 (own_loc118 p0 p1 p2 p3 p4 b2580) [(.double (FP.i2d p0)), (.ref b2580)])) target := by
    intro target kt
    show own_S p e below T2609 (mkF m 79 (own_loc118 p0 p1 p2 p3 p4 b2580) [(.double (FP.i2d p0)), (.ref b2580)]) _
    refine XS.iload X2609.here hx rfl (D at_79) rfl ?_
    by_cases hc2619 : (own_b1 p4) = (0 : Int32)
    · show own_S p e below T2609 (mkF m 81 (own_loc118 p0 p1 p2 p3 p4 b2580) [(.int (own_b1 p4)), (.double (FP.i2d p0)), (.ref b2580)]) _
      refine XS.ifYes X2609.here hx rfl (pc0 := 81) (pc' := 89) rfl (D at_81) rfl ((if0 _ _).trans (teq hc2619).1) (by decide) (by decide) (XS.iconst X2609.here hx rfl (D at_89) ?_)
      show own_S p e below T2609 (mkF m 90 (own_loc118 p0 p1 p2 p3 p4 b2580) [.int (-1), (.double (FP.i2d p0)), (.ref b2580)]) _
      have kt := own_cast (P := fun z => Steps p.tables e below (T2609.setTop (mkF m 90 (own_loc118 p0 p1 p2 p3 p4 b2580) [(.int z), (.double (FP.i2d p0)), (.ref b2580)])) target) (show (own_gp p4) = (-1 : Int32) from (by unfold own_gp; rw [if_pos hc2619])) kt
      exact kt
    · show own_S p e below T2609 (mkF m 81 (own_loc118 p0 p1 p2 p3 p4 b2580) [(.int (own_b1 p4)), (.double (FP.i2d p0)), (.ref b2580)]) _
      refine XS.ifNo X2609.here hx rfl (D at_81) rfl ((if0 _ _).trans (feq hc2619).1) (XS.iload X2609.here hx rfl (D at_84) rfl (XS.goto X2609.here hx rfl (pc0 := 86) (pc' := 90) rfl (D at_86) (by decide) (by decide) ?_))
      show own_S p e below T2609 (mkF m 90 (own_loc118 p0 p1 p2 p3 p4 b2580) [.int 0, (.double (FP.i2d p0)), (.ref b2580)]) _
      have kt := own_cast (P := fun z => Steps p.tables e below (T2609.setTop (mkF m 90 (own_loc118 p0 p1 p2 p3 p4 b2580) [(.int z), (.double (FP.i2d p0)), (.ref b2580)])) target) (show (own_gp p4) = (0 : Int32) from (by unfold own_gp; rw [if_neg hc2619])) kt
      exact kt
  obtain ⟨T2621, h2621, k2621, X2621, e2621, E2621, A2621, EA2621, st2621⟩ := newPE X2609 hx hZ (own_wk hw 12 rfl) rfl (g := (mkF m 91 (own_loc118 p0 p1 p2 p3 p4 b2580) [.int 2, (.int (own_gp p4)), (.double (FP.i2d p0)), (.ref b2580)])) rfl (D at_91) rfl (by decide) (cap := 2) (by decide) (by decide) (by decide) (by decide) (ad := "[I") (by decide)
  obtain ⟨b2621, g2621⟩ : ∃ z, z = T2609.heap.size := ⟨_, rfl⟩
  have gq_b2621 : T2609.heap.size ≤ b2621 := Nat.le_trans (Keep.refl T2609.heap []).1 (Nat.le_of_eq g2621.symm)
  have lt_b2621 : u10 < b2621 := Nat.lt_of_lt_of_le x2613.lt (Nat.le_of_eq g2621.symm)
  have ge_b2621 : n0 ≤ b2621 := Nat.le_trans sz2618 (Nat.le_of_eq g2621.symm)
  rw [← g2621] at A2621 st2621 EA2621
  have kq2622 := (Keep.refl T2609.heap []).ext E2621
  have sz2623 : n0 ≤ h2621.size := Nat.le_trans sz2618 E2621.1
  have V2621 : Arv Z h2621 b2621 k2621 .int (2 : Int32) [(.int (0 : Int32)), (.int (0 : Int32))] (.int (0 : Int32)) := (Arv.new A2621 (by decide)).pad (pad_rep [] (.int (0 : Int32)) 2)
  obtain ⟨T2624, h2624, X2624, e2624, W2624, V2624, st2624⟩ := own_stI X2621 hx hZ e2621 V2621 (j := (0 : Int32)) ⟨(by decide), (by decide)⟩ 0 rfl (Nat.le_of_ble_eq_true rfl) (vs' := [(.int (0 : Int32)), (.int (0 : Int32))]) rfl (g := (mkF m 96 (own_loc118 p0 p1 p2 p3 p4 b2580) [.int 0, .int 0, (.ref b2621), (.ref b2621), (.int (own_gp p4)), (.double (FP.i2d p0)), (.ref b2580)])) rfl rfl (D at_96)
  have kq2625 := kq2622.wr W2624 (Or.inr gq_b2621)
  have x2626 := EA2621.wr W2624
  have sz2627 : n0 ≤ h2624.size := Nat.le_trans sz2623 (Keep.of_wr W2624).1
  have N2624 := Fr.snoc X2624 N2609 ge_b2621
  obtain ⟨T2628, h2628, X2628, e2628, W2628, V2628, st2628⟩ := own_stI X2624 hx hZ e2624 V2624 (j := (1 : Int32)) ⟨(by decide), (by decide)⟩ 1 rfl (Nat.le_of_ble_eq_true rfl) (vs' := [(.int (0 : Int32)), (.int (1 : Int32))]) rfl (g := (mkF m 100 (own_loc118 p0 p1 p2 p3 p4 b2580) [.int 1, .int 1, (.ref b2621), (.ref b2621), (.int (own_gp p4)), (.double (FP.i2d p0)), (.ref b2580)])) rfl rfl (D at_100)
  have kq2629 := kq2625.wr W2628 (Or.inr gq_b2621)
  have x2630 := x2626.wr W2628
  have sz2631 : n0 ≤ h2628.size := Nat.le_trans sz2627 (Keep.of_wr W2628).1
  have N2628 := Fr.snoc X2628 N2624 ge_b2621
  obtain ⟨T2632, h2632, k2632, X2632, e2632, E2632, A2632, EA2632, st2632⟩ := newPE X2628 hx hZ (own_wk hw 9 rfl) e2628 (g := (mkF m 102 (own_loc118 p0 p1 p2 p3 p4 b2580) [.int 2, (.ref b2621), (.int (own_gp p4)), (.double (FP.i2d p0)), (.ref b2580)])) rfl (D at_102) rfl (by decide) (cap := 2) (by decide) (by decide) (by decide) (by decide) (ad := "[D") (by decide)
  obtain ⟨b2632, g2632⟩ : ∃ z, z = h2628.size := ⟨_, rfl⟩
  have gq_b2632 : T2609.heap.size ≤ b2632 := Nat.le_trans kq2629.1 (Nat.le_of_eq g2632.symm)
  have lt_b2632 : u10 < b2632 := Nat.lt_of_lt_of_le (x2613.keep kq2629 nin0).lt (Nat.le_of_eq g2632.symm)
  have ne2633 : b2621 ≠ b2632 := Nat.ne_of_lt (Nat.lt_of_lt_of_le x2630.lt (Nat.le_of_eq g2632.symm))
  have ge_b2632 : n0 ≤ b2632 := Nat.le_trans sz2631 (Nat.le_of_eq g2632.symm)
  rw [← g2632] at A2632 st2632 EA2632
  have kq2634 := kq2629.ext E2632
  have x2635 := x2630.ext E2632
  have x2636 := V2628.ext E2632
  have sz2637 : n0 ≤ h2632.size := Nat.le_trans sz2631 E2632.1
  have V2632 : Arv Z h2632 b2632 k2632 .double (2 : Int32) [(.double (0 : UInt64)), (.double (0 : UInt64))] (.double (0 : UInt64)) := (Arv.new A2632 (by decide)).pad (pad_rep [] (.double (0 : UInt64)) 2)
  obtain ⟨T2638, h2638, X2638, e2638, W2638, V2638, st2638⟩ := own_stD X2632 hx hZ e2632 V2632 (j := (0 : Int32)) ⟨(by decide), (by decide)⟩ 0 rfl (Nat.le_of_ble_eq_true rfl) (vs' := [(.double (4607182418800017408 : UInt64)), (.double (0 : UInt64))]) rfl (g := (mkF m 107 (own_loc118 p0 p1 p2 p3 p4 b2580) [(.double (4607182418800017408 : UInt64)), .int 0, (.ref b2632), (.ref b2632), (.ref b2621), (.int (own_gp p4)), (.double (FP.i2d p0)), (.ref b2580)])) rfl rfl (D at_107)
  have kq2639 := kq2634.wr W2638 (Or.inr gq_b2632)
  have x2640 := x2635.wr W2638
  have x2641 := x2636.other W2638 ne2633
  have x2642 := EA2632.wr W2638
  have sz2643 : n0 ≤ h2638.size := Nat.le_trans sz2637 (Keep.of_wr W2638).1
  have N2638 := Fr.snoc X2638 N2628 ge_b2632
  obtain ⟨T2644, h2644, X2644, e2644, W2644, V2644, st2644⟩ := own_stD X2638 hx hZ e2638 V2638 (j := (1 : Int32)) ⟨(by decide), (by decide)⟩ 1 rfl (Nat.le_of_ble_eq_true rfl) (vs' := [(.double (4607182418800017408 : UInt64)), (.double (FP.i2d p3))]) rfl (g := (mkF m 112 (own_loc118 p0 p1 p2 p3 p4 b2580) [(.double (FP.i2d p3)), .int 1, (.ref b2632), (.ref b2632), (.ref b2621), (.int (own_gp p4)), (.double (FP.i2d p0)), (.ref b2580)])) rfl rfl (D at_112)
  have kq2645 := kq2639.wr W2644 (Or.inr gq_b2632)
  have x2646 := x2640.wr W2644
  have x2647 := x2641.other W2644 ne2633
  have x2648 := x2642.wr W2644
  have sz2649 : n0 ≤ h2644.size := Nat.le_trans sz2643 (Keep.of_wr W2644).1
  have N2644 := Fr.snoc X2644 N2638 ge_b2632
  have cp2650 : ∀ target, own_S p e below T2644 (mkF m 113 (own_loc118 p0 p1 p2 p3 p4 b2580) [(.ref b2632), (.ref b2621), (.int (own_gp p4)), (.double (FP.i2d p0)), (.ref b2580)]) target → own_S p e below s₁ (mkF m 0 (own_loc112 p0 p1 p2 p3 p4) []) target := by
    intro target kt
    show own_S p e below s₁ (mkF m 0 (own_loc112 p0 p1 p2 p3 p4) []) _
    refine cp2608 _ (st2609.trans (XS.istore X2609.here hx rfl (D at_73) rfl (l' := (own_loc118 p0 p1 p2 p3 p4 b2580)) rfl (XS.aload X2609.here hx rfl (D at_75) rfl rfl (XS.iloadN X2609.here hx rfl (D at_77) rfl (XS.i2dS X2609.here hx rfl (D at_78) rfl rfl (sg2620 _ (XS.iconst X2609.here hx rfl (D at_90) (st2621 _ (XS.dup X2621.here hx rfl (D at_93) rfl rfl ?_)))))))))
    refine XS.iconst X2621.here hx rfl (D at_94) (XS.iconst X2621.here hx rfl (D at_95) (st2624 _ (XS.dup X2624.here hx rfl (D at_97) rfl rfl (XS.iconst X2624.here hx rfl (D at_98) (XS.iconst X2624.here hx rfl (D at_99) (st2628 _ ?_))))))
    show own_S p e below T2628 (mkF m 101 (own_loc118 p0 p1 p2 p3 p4 b2580) [(.ref b2621), (.int (own_gp p4)), (.double (FP.i2d p0)), (.ref b2580)]) _
    refine XS.iconst X2628.here hx rfl (D at_101) (st2632 _ (XS.dup X2632.here hx rfl (D at_104) rfl rfl (XS.iconst X2632.here hx rfl (D at_105) (XS.dconst1 X2632.here hx rfl (D at_106) rfl (st2638 _ (XS.dup X2638.here hx rfl (D at_108) rfl rfl (XS.iconst X2638.here hx rfl (D at_109) (XS.iloadN X2638.here hx rfl (D at_110) rfl (XS.i2dS X2638.here hx rfl (D at_111) rfl rfl ?_)))))))))
    refine st2644 _ ?_
    exact kt
  by_cases hu : p3 = 0
  · obtain ⟨cq2651, kq2651, q2651a, q2651b, q2651c⟩ := isOf hZ e2644 (x2610.keep kq2645)
    obtain ⟨_, _, ⟨T2651, L2651, k2651, n2651⟩, -, X2651, ⟨Lc2651, hQ2651, l2651, y2651, z2651⟩, st2651⟩ := X2644.virtualBack hx (y := (⟨own_K, "addVariable", "(DI[I[D)I"⟩ : MethodName)) (z := (⟨own_K, "addVariable", "(DI[I[D)I"⟩ : MethodName)) hown (mvT hZ (own_wk hw 63 rfl)) (mvT hZ (own_wk hw 64 rfl)) (notFace_of_selects (args := #[]) (mvT hZ (own_wk hw 66 rfl))) (mvT hZ (own_wk hw 66 rfl)) (mvT hZ (own_wk hw 65 rfl)) (by decide) (backOf (W := 0) (rm4_2z l Z ag hw [] b2580 (FP.i2d p0) (own_gp p4) b2621 b2632 _ _ _ _ _ _ _ _ _ _ _ _ _ _ _ _ _ _ _ _ _ _ _ _ _ _ _ _ _ _ _ _ _ _ _ _ _ _ _ _ _ _ _ _ _ _ _ _ _ h2644 n0 sz2649 (x2610.keep kq2645) (o2609_0.keep kq2645 nin0) (o2609_1.keep kq2645 nin0) (o2609_2.keep kq2645 nin0) (o2609_3.keep kq2645 nin0) (o2609_4.keep kq2645 nin0) (o2609_5.keep kq2645 nin0) (o2609_6.keep kq2645 nin0) (o2609_7.keep kq2645 nin0) (o2609_8.keep kq2645 nin0) x2647 V2644 ge_b2580 ge_u0 ge_u1 ge_u2 ge_u3 ge_u4 ge_u5 ge_u6 ge_u7 n0_1 n0_2 n0_3 n0_4 n0_5 n0_6 n0_7 n0_8 (own_nb hch lt_b2621 0 rfl) (own_nb hch lt_b2632 0 rfl) n1_2 n1_3 n1_4 n1_5 n1_6 n1_7 n1_8 (own_nb hch lt_b2621 1 rfl) (own_nb hch lt_b2632 1 rfl) n2_3 n2_4 n2_5 n2_6 n2_7 n2_8 (own_nb hch lt_b2621 2 rfl) (own_nb hch lt_b2632 2 rfl) n3_4 n3_5 n3_6 n3_7 n3_8 (own_nb hch lt_b2621 3 rfl) (own_nb hch lt_b2632 3 rfl) n4_5 n4_6 n4_7 n4_8 (own_nb hch lt_b2621 4 rfl) (own_nb hch lt_b2632 4 rfl) n5_6 n5_7 n5_8 (own_nb hch lt_b2621 5 rfl) (own_nb hch lt_b2632 5 rfl) n6_7 n6_8 (own_nb hch lt_b2621 6 rfl) (own_nb hch lt_b2632 6 rfl) n7_8 (own_nb hch lt_b2621 7 rfl) (own_nb hch lt_b2632 7 rfl) (own_nb hch lt_b2621 8 rfl) (own_nb hch lt_b2632 8 rfl) (by decide) rfl (by simp <;> decide) (by simp <;> decide) (by simp <;> decide) (by simp <;> decide) (by simp <;> decide) (by simp <;> decide) (by decide) (by simp <;> decide) (by simp <;> decide) own_one_nz (own_cu0 hu)) hZ (own_wk hw 67 rfl) (own_wk hw 2 rfl) (by decide) (by decide)) q2651a q2651c (g := (mkF m 113 (own_loc118 p0 p1 p2 p3 p4 b2580) [(.ref b2632), (.ref b2621), (.int (own_gp p4)), (.double (FP.i2d p0)), (.ref b2580)])) rfl (by rw [hml]; rfl) (Steps.refl _) (argsL := [(.double (FP.i2d p0)), (.int (own_gp p4)), (.ref b2621), (.ref b2632)]) (rest := []) (lenOf pd_5 rfl) rfl (by show 2 * 0 + _ ≤ _; exact Nat.le_of_eq rfl) (D at_113) (fun _ _ => ⟨rfl, e2644, (by decide : 25 + 0 ≤ _), (by decide : 290 + 0 ≤ _)⟩)
    dsimp only [Pt.U, Pt.locs, Pt.cells, Pt.slots] at X2651 l2651 y2651 z2651 st2651 hQ2651
    subst l2651 y2651 z2651
    obtain ⟨rfl, N2651q, K2651, o2651_0, o2651_1, o2651_2, o2651_3, o2651_4, o2651_5, o2651_6, o2651_7, o2651_8⟩ := hQ2651
    have N2651 := Fr.app N2644 N2651q
    have x2652 := (x2610.keep kq2645).keep K2651
    have x2653 := (x2611.keep kq2645 nin0).keep K2651 (ninS n0_9.symm (ninS n1_9.symm (ninS n2_9.symm (ninS n3_9.symm (ninS n4_9.symm (ninS n5_9.symm (ninS n6_9.symm (ninS n7_9.symm (ninS n8_9.symm nin0)))))))))
    have x2654 := (x2612.keep kq2645 nin0).keep K2651 (ninS n0_10.symm (ninS n1_10.symm (ninS n2_10.symm (ninS n3_10.symm (ninS n4_10.symm (ninS n5_10.symm (ninS n6_10.symm (ninS n7_10.symm (ninS n8_10.symm nin0)))))))))
    have x2655 := (x2613.keep kq2645 nin0).keep K2651 (ninS n0_11.symm (ninS n1_11.symm (ninS n2_11.symm (ninS n3_11.symm (ninS n4_11.symm (ninS n5_11.symm (ninS n6_11.symm (ninS n7_11.symm (ninS n8_11.symm nin0)))))))))
    have x2656 := x2646.keep K2651
    have x2657 := x2647.keep K2651 (ninS (own_nb hch lt_b2621 0 rfl).symm (ninS (own_nb hch lt_b2621 1 rfl).symm (ninS (own_nb hch lt_b2621 2 rfl).symm (ninS (own_nb hch lt_b2621 3 rfl).symm (ninS (own_nb hch lt_b2621 4 rfl).symm (ninS (own_nb hch lt_b2621 5 rfl).symm (ninS (own_nb hch lt_b2621 6 rfl).symm (ninS (own_nb hch lt_b2621 7 rfl).symm (ninS (own_nb hch lt_b2621 8 rfl).symm nin0)))))))))
    have x2658 := x2648.keep K2651
    have x2659 := V2644.keep K2651 (ninS (own_nb hch lt_b2632 0 rfl).symm (ninS (own_nb hch lt_b2632 1 rfl).symm (ninS (own_nb hch lt_b2632 2 rfl).symm (ninS (own_nb hch lt_b2632 3 rfl).symm (ninS (own_nb hch lt_b2632 4 rfl).symm (ninS (own_nb hch lt_b2632 5 rfl).symm (ninS (own_nb hch lt_b2632 6 rfl).symm (ninS (own_nb hch lt_b2632 7 rfl).symm (ninS (own_nb hch lt_b2632 8 rfl).symm nin0)))))))))
    have sz2660 : n0 ≤ T2651.heap.size := Nat.le_trans sz2649 K2651.1
    have sg2662 : ∀ target, Steps p.tables e below (T2651.setTop (mkF m 133 (own_loc119 p0 p1 p2 p3 p4 b2580) [(.int (own_gq p4)), (.double (FP.i2d p1)), (.ref b2580)])) target → Steps p.tables e below (T2651.setTop (mkF m 122 (own_loc119 p0 p1 p2 p3 p4 b2580) [(.double (FP.i2d p1)), (.ref b2580)])) target := by
      intro target kt
      show own_S p e below T2651 (mkF m 122 (own_loc119 p0 p1 p2 p3 p4 b2580) [(.double (FP.i2d p1)), (.ref b2580)]) _
      refine XS.iload X2651.here hx rfl (D at_122) rfl ?_
      by_cases hc2661 : (own_b2 p4) = (0 : Int32)
      · show own_S p e below T2651 (mkF m 124 (own_loc119 p0 p1 p2 p3 p4 b2580) [(.int (own_b2 p4)), (.double (FP.i2d p1)), (.ref b2580)]) _
        refine XS.ifYes X2651.here hx rfl (pc0 := 124) (pc' := 132) rfl (D at_124) rfl ((if0 _ _).trans (teq hc2661).1) (by decide) (by decide) (XS.iconst X2651.here hx rfl (D at_132) ?_)
        show own_S p e below T2651 (mkF m 133 (own_loc119 p0 p1 p2 p3 p4 b2580) [.int (-1), (.double (FP.i2d p1)), (.ref b2580)]) _
        have kt := own_cast (P := fun z => Steps p.tables e below (T2651.setTop (mkF m 133 (own_loc119 p0 p1 p2 p3 p4 b2580) [(.int z), (.double (FP.i2d p1)), (.ref b2580)])) target) (show (own_gq p4) = (-1 : Int32) from (by unfold own_gq; rw [if_pos hc2661])) kt
        exact kt
      · show own_S p e below T2651 (mkF m 124 (own_loc119 p0 p1 p2 p3 p4 b2580) [(.int (own_b2 p4)), (.double (FP.i2d p1)), (.ref b2580)]) _
        refine XS.ifNo X2651.here hx rfl (D at_124) rfl ((if0 _ _).trans (feq hc2661).1) (XS.iload X2651.here hx rfl (D at_127) rfl (XS.goto X2651.here hx rfl (pc0 := 129) (pc' := 133) rfl (D at_129) (by decide) (by decide) ?_))
        show own_S p e below T2651 (mkF m 133 (own_loc119 p0 p1 p2 p3 p4 b2580) [.int 0, (.double (FP.i2d p1)), (.ref b2580)]) _
        have kt := own_cast (P := fun z => Steps p.tables e below (T2651.setTop (mkF m 133 (own_loc119 p0 p1 p2 p3 p4 b2580) [(.int z), (.double (FP.i2d p1)), (.ref b2580)])) target) (show (own_gq p4) = (0 : Int32) from (by unfold own_gq; rw [if_neg hc2661])) kt
        exact kt
    obtain ⟨T2663, h2663, k2663, X2663, e2663, E2663, A2663, EA2663, st2663⟩ := newPE X2651 hx hZ (own_wk hw 12 rfl) rfl (g := (mkF m 134 (own_loc119 p0 p1 p2 p3 p4 b2580) [.int 1, (.int (own_gq p4)), (.double (FP.i2d p1)), (.ref b2580)])) rfl (D at_134) rfl (by decide) (cap := 1) (by decide) (by decide) (by decide) (by decide) (ad := "[I") (by decide)
    obtain ⟨b2663, g2663⟩ : ∃ z, z = T2651.heap.size := ⟨_, rfl⟩
    have gq_b2663 : T2651.heap.size ≤ b2663 := Nat.le_trans (Keep.refl T2651.heap []).1 (Nat.le_of_eq g2663.symm)
    have lt_b2663 : u10 < b2663 := Nat.lt_of_lt_of_le x2655.lt (Nat.le_of_eq g2663.symm)
    have ge_b2663 : n0 ≤ b2663 := Nat.le_trans sz2660 (Nat.le_of_eq g2663.symm)
    rw [← g2663] at A2663 st2663 EA2663
    have kq2664 := (Keep.refl T2651.heap []).ext E2663
    have sz2665 : n0 ≤ h2663.size := Nat.le_trans sz2660 E2663.1
    have V2663 : Arv Z h2663 b2663 k2663 .int (1 : Int32) [(.int (0 : Int32))] (.int (0 : Int32)) := (Arv.new A2663 (by decide)).pad (pad_rep [] (.int (0 : Int32)) 1)
    obtain ⟨T2666, h2666, X2666, e2666, W2666, V2666, st2666⟩ := own_stI X2663 hx hZ e2663 V2663 (j := (0 : Int32)) ⟨(by decide), (by decide)⟩ 0 rfl (Nat.le_of_ble_eq_true rfl) (vs' := [(.int (1 : Int32))]) rfl (g := (mkF m 139 (own_loc119 p0 p1 p2 p3 p4 b2580) [.int 1, .int 0, (.ref b2663), (.ref b2663), (.int (own_gq p4)), (.double (FP.i2d p1)), (.ref b2580)])) rfl rfl (D at_139)
    have kq2667 := kq2664.wr W2666 (Or.inr gq_b2663)
    have x2668 := EA2663.wr W2666
    have sz2669 : n0 ≤ h2666.size := Nat.le_trans sz2665 (Keep.of_wr W2666).1
    have N2666 := Fr.snoc X2666 N2651 ge_b2663
    obtain ⟨T2670, h2670, k2670, X2670, e2670, E2670, A2670, EA2670, st2670⟩ := newPE X2666 hx hZ (own_wk hw 9 rfl) e2666 (g := (mkF m 141 (own_loc119 p0 p1 p2 p3 p4 b2580) [.int 1, (.ref b2663), (.int (own_gq p4)), (.double (FP.i2d p1)), (.ref b2580)])) rfl (D at_141) rfl (by decide) (cap := 1) (by decide) (by decide) (by decide) (by decide) (ad := "[D") (by decide)
    obtain ⟨b2670, g2670⟩ : ∃ z, z = h2666.size := ⟨_, rfl⟩
    have gq_b2670 : T2651.heap.size ≤ b2670 := Nat.le_trans kq2667.1 (Nat.le_of_eq g2670.symm)
    have lt_b2670 : u10 < b2670 := Nat.lt_of_lt_of_le (x2655.keep kq2667 nin0).lt (Nat.le_of_eq g2670.symm)
    have ne2671 : b2663 ≠ b2670 := Nat.ne_of_lt (Nat.lt_of_lt_of_le x2668.lt (Nat.le_of_eq g2670.symm))
    have ge_b2670 : n0 ≤ b2670 := Nat.le_trans sz2669 (Nat.le_of_eq g2670.symm)
    rw [← g2670] at A2670 st2670 EA2670
    have kq2672 := kq2667.ext E2670
    have x2673 := x2668.ext E2670
    have x2674 := V2666.ext E2670
    have sz2675 : n0 ≤ h2670.size := Nat.le_trans sz2669 E2670.1
    have V2670 : Arv Z h2670 b2670 k2670 .double (1 : Int32) [(.double (0 : UInt64))] (.double (0 : UInt64)) := (Arv.new A2670 (by decide)).pad (pad_rep [] (.double (0 : UInt64)) 1)
    obtain ⟨T2676, h2676, X2676, e2676, W2676, V2676, st2676⟩ := own_stD X2670 hx hZ e2670 V2670 (j := (0 : Int32)) ⟨(by decide), (by decide)⟩ 0 rfl (Nat.le_of_ble_eq_true rfl) (vs' := [(.double (4607182418800017408 : UInt64))]) rfl (g := (mkF m 146 (own_loc119 p0 p1 p2 p3 p4 b2580) [(.double (4607182418800017408 : UInt64)), .int 0, (.ref b2670), (.ref b2670), (.ref b2663), (.int (own_gq p4)), (.double (FP.i2d p1)), (.ref b2580)])) rfl rfl (D at_146)
    have kq2677 := kq2672.wr W2676 (Or.inr gq_b2670)
    have x2678 := x2673.wr W2676
    have x2679 := x2674.other W2676 ne2671
    have x2680 := EA2670.wr W2676
    have sz2681 : n0 ≤ h2676.size := Nat.le_trans sz2675 (Keep.of_wr W2676).1
    have N2676 := Fr.snoc X2676 N2666 ge_b2670
    have cp2682 : ∀ target, own_S p e below T2676 (mkF m 147 (own_loc119 p0 p1 p2 p3 p4 b2580) [(.ref b2670), (.ref b2663), (.int (own_gq p4)), (.double (FP.i2d p1)), (.ref b2580)]) target → own_S p e below s₁ (mkF m 0 (own_loc112 p0 p1 p2 p3 p4) []) target := by
      intro target kt
      show own_S p e below s₁ (mkF m 0 (own_loc112 p0 p1 p2 p3 p4) []) _
      refine cp2650 _ (st2651.trans (XS.istore X2651.here hx rfl (D at_116) rfl (l' := (own_loc119 p0 p1 p2 p3 p4 b2580)) rfl (XS.aload X2651.here hx rfl (D at_118) rfl rfl (XS.iloadN X2651.here hx rfl (D at_120) rfl (XS.i2dS X2651.here hx rfl (D at_121) rfl rfl (sg2662 _ (XS.iconst X2651.here hx rfl (D at_133) (st2663 _ (XS.dup X2663.here hx rfl (D at_136) rfl rfl ?_)))))))))
      refine XS.iconst X2663.here hx rfl (D at_137) (XS.iconst X2663.here hx rfl (D at_138) (st2666 _ (XS.iconst X2666.here hx rfl (D at_140) ?_)))
      show own_S p e below T2666 (mkF m 141 (own_loc119 p0 p1 p2 p3 p4 b2580) [.int 1, (.ref b2663), (.int (own_gq p4)), (.double (FP.i2d p1)), (.ref b2580)]) _
      refine st2670 _ (XS.dup X2670.here hx rfl (D at_143) rfl rfl (XS.iconst X2670.here hx rfl (D at_144) (XS.dconst1 X2670.here hx rfl (D at_145) rfl (st2676 _ ?_))))
      exact kt
    obtain ⟨cq2683, kq2683, q2683a, q2683b, q2683c⟩ := isOf hZ e2676 (x2652.keep kq2677)
    obtain ⟨_, _, ⟨T2683, L2683, k2683, n2683⟩, -, X2683, ⟨Lc2683, hQ2683, l2683, y2683, z2683⟩, st2683⟩ := X2676.virtualBack hx (y := (⟨own_K, "addVariable", "(DI[I[D)I"⟩ : MethodName)) (z := (⟨own_K, "addVariable", "(DI[I[D)I"⟩ : MethodName)) hown (mvT hZ (own_wk hw 63 rfl)) (mvT hZ (own_wk hw 64 rfl)) (notFace_of_selects (args := #[]) (mvT hZ (own_wk hw 66 rfl))) (mvT hZ (own_wk hw 66 rfl)) (mvT hZ (own_wk hw 65 rfl)) (by decide) (backOf (W := 0) (rm4_1 l Z ag hw [] b2580 (FP.i2d p1) (own_gq p4) b2663 b2670 _ _ _ _ _ _ _ _ _ _ _ _ _ _ _ _ _ _ _ _ _ _ _ _ _ _ _ _ _ _ _ _ _ _ _ _ _ _ _ _ _ _ _ _ _ _ _ h2676 n0 sz2681 (x2652.keep kq2677) (o2651_0.keep kq2677 nin0) (o2651_1.keep kq2677 nin0) (o2651_2.keep kq2677 nin0) (o2651_3.keep kq2677 nin0) (o2651_4.keep kq2677 nin0) (o2651_5.keep kq2677 nin0) (o2651_6.keep kq2677 nin0) (o2651_7.keep kq2677 nin0) (o2651_8.keep kq2677 nin0) x2679 V2676 ge_b2580 ge_u0 ge_u1 ge_u2 ge_u3 ge_u4 ge_u5 ge_u6 ge_u7 n0_1 n0_2 n0_3 n0_4 n0_5 n0_6 n0_7 n0_8 (own_nb hch lt_b2663 0 rfl) (own_nb hch lt_b2670 0 rfl) n1_2 n1_3 n1_4 n1_5 n1_6 n1_7 n1_8 (own_nb hch lt_b2663 1 rfl) (own_nb hch lt_b2670 1 rfl) n2_3 n2_4 n2_5 n2_6 n2_7 n2_8 (own_nb hch lt_b2663 2 rfl) (own_nb hch lt_b2670 2 rfl) n3_4 n3_5 n3_6 n3_7 n3_8 (own_nb hch lt_b2663 3 rfl) (own_nb hch lt_b2670 3 rfl) n4_5 n4_6 n4_7 n4_8 (own_nb hch lt_b2663 4 rfl) (own_nb hch lt_b2670 4 rfl) n5_6 n5_7 n5_8 (own_nb hch lt_b2663 5 rfl) (own_nb hch lt_b2670 5 rfl) n6_7 n6_8 (own_nb hch lt_b2663 6 rfl) (own_nb hch lt_b2670 6 rfl) n7_8 (own_nb hch lt_b2663 7 rfl) (own_nb hch lt_b2670 7 rfl) (own_nb hch lt_b2663 8 rfl) (own_nb hch lt_b2670 8 rfl) (by decide) rfl (by simp <;> decide) (by simp <;> decide) (by simp <;> decide) (by simp <;> decide) (by simp <;> decide) (by simp <;> decide) (by decide) (by simp <;> decide) (by simp <;> decide) own_one_nz) hZ (own_wk hw 67 rfl) (own_wk hw 2 rfl) (by decide) (by decide)) q2683a q2683c (g := (mkF m 147 (own_loc119 p0 p1 p2 p3 p4 b2580) [(.ref b2670), (.ref b2663), (.int (own_gq p4)), (.double (FP.i2d p1)), (.ref b2580)])) rfl (by rw [hml]; rfl) (Steps.refl _) (argsL := [(.double (FP.i2d p1)), (.int (own_gq p4)), (.ref b2663), (.ref b2670)]) (rest := []) (lenOf pd_5 rfl) rfl (by show 2 * 0 + _ ≤ _; exact Nat.le_of_eq rfl) (D at_147) (fun _ _ => ⟨rfl, e2676, (by decide : 27 + 0 ≤ _), (by decide : 292 + 0 ≤ _)⟩)
    dsimp only [Pt.U, Pt.locs, Pt.cells, Pt.slots] at X2683 l2683 y2683 z2683 st2683 hQ2683
    subst l2683 y2683 z2683
    obtain ⟨rfl, N2683q, K2683, o2683_0, o2683_1, o2683_2, o2683_3, o2683_4, o2683_5, o2683_6, o2683_7, o2683_8⟩ := hQ2683
    have N2683 := Fr.app N2676 N2683q
    have x2684 := (x2652.keep kq2677).keep K2683
    have x2685 := (x2653.keep kq2677 nin0).keep K2683 (ninS n0_9.symm (ninS n1_9.symm (ninS n2_9.symm (ninS n3_9.symm (ninS n4_9.symm (ninS n5_9.symm (ninS n6_9.symm (ninS n7_9.symm (ninS n8_9.symm nin0)))))))))
    have x2686 := (x2654.keep kq2677 nin0).keep K2683 (ninS n0_10.symm (ninS n1_10.symm (ninS n2_10.symm (ninS n3_10.symm (ninS n4_10.symm (ninS n5_10.symm (ninS n6_10.symm (ninS n7_10.symm (ninS n8_10.symm nin0)))))))))
    have x2687 := (x2655.keep kq2677 nin0).keep K2683 (ninS n0_11.symm (ninS n1_11.symm (ninS n2_11.symm (ninS n3_11.symm (ninS n4_11.symm (ninS n5_11.symm (ninS n6_11.symm (ninS n7_11.symm (ninS n8_11.symm nin0)))))))))
    have x2688 := x2678.keep K2683
    have x2689 := x2679.keep K2683 (ninS (own_nb hch lt_b2663 0 rfl).symm (ninS (own_nb hch lt_b2663 1 rfl).symm (ninS (own_nb hch lt_b2663 2 rfl).symm (ninS (own_nb hch lt_b2663 3 rfl).symm (ninS (own_nb hch lt_b2663 4 rfl).symm (ninS (own_nb hch lt_b2663 5 rfl).symm (ninS (own_nb hch lt_b2663 6 rfl).symm (ninS (own_nb hch lt_b2663 7 rfl).symm (ninS (own_nb hch lt_b2663 8 rfl).symm nin0)))))))))
    have x2690 := x2680.keep K2683
    have x2691 := V2676.keep K2683 (ninS (own_nb hch lt_b2670 0 rfl).symm (ninS (own_nb hch lt_b2670 1 rfl).symm (ninS (own_nb hch lt_b2670 2 rfl).symm (ninS (own_nb hch lt_b2670 3 rfl).symm (ninS (own_nb hch lt_b2670 4 rfl).symm (ninS (own_nb hch lt_b2670 5 rfl).symm (ninS (own_nb hch lt_b2670 6 rfl).symm (ninS (own_nb hch lt_b2670 7 rfl).symm (ninS (own_nb hch lt_b2670 8 rfl).symm nin0)))))))))
    have sz2692 : n0 ≤ T2683.heap.size := Nat.le_trans sz2681 K2683.1
    obtain ⟨T2693, h2693, k2693, X2693, e2693, E2693, A2693, EA2693, st2693⟩ := newPE X2683 hx hZ (own_wk hw 12 rfl) rfl (g := (mkF m 156 (own_loc120 p0 p1 p2 p3 p4 b2580) [.int 0, (.double (0 : UInt64)), (.ref b2580)])) rfl (D at_156) rfl (by decide) (cap := 0) (by decide) (by decide) (by decide) (by decide) (ad := "[I") (by decide)
    obtain ⟨b2693, g2693⟩ : ∃ z, z = T2683.heap.size := ⟨_, rfl⟩
    have gq_b2693 : T2683.heap.size ≤ b2693 := Nat.le_trans (Keep.refl T2683.heap []).1 (Nat.le_of_eq g2693.symm)
    have lt_b2693 : u10 < b2693 := Nat.lt_of_lt_of_le x2687.lt (Nat.le_of_eq g2693.symm)
    have ge_b2693 : n0 ≤ b2693 := Nat.le_trans sz2692 (Nat.le_of_eq g2693.symm)
    rw [← g2693] at A2693 st2693 EA2693
    have kq2694 := (Keep.refl T2683.heap []).ext E2693
    have sz2695 : n0 ≤ h2693.size := Nat.le_trans sz2692 E2693.1
    have V2693 : Arv Z h2693 b2693 k2693 .int (0 : Int32) [] (.int (0 : Int32)) := Arv.new A2693 (by decide)
    obtain ⟨T2696, h2696, k2696, X2696, e2696, E2696, A2696, EA2696, st2696⟩ := newPE X2693 hx hZ (own_wk hw 9 rfl) e2693 (g := (mkF m 159 (own_loc120 p0 p1 p2 p3 p4 b2580) [.int 0, (.ref b2693), (.double (0 : UInt64)), (.ref b2580)])) rfl (D at_159) rfl (by decide) (cap := 0) (by decide) (by decide) (by decide) (by decide) (ad := "[D") (by decide)
    obtain ⟨b2696, g2696⟩ : ∃ z, z = h2693.size := ⟨_, rfl⟩
    have gq_b2696 : T2683.heap.size ≤ b2696 := Nat.le_trans kq2694.1 (Nat.le_of_eq g2696.symm)
    have lt_b2696 : u10 < b2696 := Nat.lt_of_lt_of_le (x2687.keep kq2694 nin0).lt (Nat.le_of_eq g2696.symm)
    have ne2697 : b2693 ≠ b2696 := Nat.ne_of_lt (Nat.lt_of_lt_of_le EA2693.lt (Nat.le_of_eq g2696.symm))
    have ge_b2696 : n0 ≤ b2696 := Nat.le_trans sz2695 (Nat.le_of_eq g2696.symm)
    rw [← g2696] at A2696 st2696 EA2696
    have kq2698 := kq2694.ext E2696
    have x2699 := EA2693.ext E2696
    have x2700 := V2693.ext E2696
    have sz2701 : n0 ≤ h2696.size := Nat.le_trans sz2695 E2696.1
    have V2696 : Arv Z h2696 b2696 k2696 .double (0 : Int32) [] (.double (0 : UInt64)) := Arv.new A2696 (by decide)
    obtain ⟨cq2702, kq2702, q2702a, q2702b, q2702c⟩ := isOf hZ e2696 (x2684.keep kq2698)
    obtain ⟨_, _, ⟨T2702, L2702, k2702, n2702⟩, -, X2702, ⟨Lc2702, hQ2702, l2702, y2702, z2702⟩, st2702⟩ := X2696.virtualBack hx (y := (⟨own_K, "addRow", "(D[I[D)I"⟩ : MethodName)) (z := (⟨own_K, "addRow", "(D[I[D)I"⟩ : MethodName)) hown (mvT hZ (own_wk hw 76 rfl)) (mvT hZ (own_wk hw 77 rfl)) (notFace_of_selects (args := #[]) (mvT hZ (own_wk hw 79 rfl))) (mvT hZ (own_wk hw 79 rfl)) (mvT hZ (own_wk hw 78 rfl)) (by decide) (backOf (W := 0) (rm6 l Z ag hw [] b2580 (0 : UInt64) b2693 b2696 _ _ _ _ _ _ _ _ _ _ _ _ _ _ _ _ _ _ _ _ _ _ _ _ _ _ _ _ _ _ _ _ _ _ _ _ _ _ _ _ _ _ _ _ _ _ _ _ _ _ h2696 n0 sz2701 (x2684.keep kq2698) (o2683_0.keep kq2698 nin0) (o2683_1.keep kq2698 nin0) (o2683_2.keep kq2698 nin0) (o2683_3.keep kq2698 nin0) (o2683_4.keep kq2698 nin0) (o2683_5.keep kq2698 nin0) (o2683_6.keep kq2698 nin0) (o2683_7.keep kq2698 nin0) (o2683_8.keep kq2698 nin0) (x2685.keep kq2698 nin0) (x2686.keep kq2698 nin0) x2700 V2696 ge_b2580 ge_u0 ge_u1 ge_u2 ge_u3 ge_u4 ge_u5 ge_u6 ge_u7 ge_u8 ge_u9 n0_1 n0_2 n0_3 n0_4 n0_5 n0_6 n0_7 n0_8 n0_9 n0_10 (own_nb hch lt_b2693 0 rfl) (own_nb hch lt_b2696 0 rfl) n1_2 n1_3 n1_4 n1_5 n1_6 n1_7 n1_8 n1_9 n1_10 (own_nb hch lt_b2693 1 rfl) (own_nb hch lt_b2696 1 rfl) n2_3 n2_4 n2_5 n2_6 n2_7 n2_8 n2_9 n2_10 (own_nb hch lt_b2693 2 rfl) (own_nb hch lt_b2696 2 rfl) n3_4 n3_5 n3_6 n3_7 n3_8 n3_9 n3_10 (own_nb hch lt_b2693 3 rfl) (own_nb hch lt_b2696 3 rfl) n4_5 n4_6 n4_7 n4_8 n4_9 n4_10 (own_nb hch lt_b2693 4 rfl) (own_nb hch lt_b2696 4 rfl) n5_6 n5_7 n5_8 n5_9 n5_10 (own_nb hch lt_b2693 5 rfl) (own_nb hch lt_b2696 5 rfl) n6_7 n6_8 n6_9 n6_10 (own_nb hch lt_b2693 6 rfl) (own_nb hch lt_b2696 6 rfl) n7_8 n7_9 n7_10 (own_nb hch lt_b2693 7 rfl) (own_nb hch lt_b2696 7 rfl) n8_9 n8_10 (own_nb hch lt_b2693 8 rfl) (own_nb hch lt_b2696 8 rfl) n9_10 (own_nb hch lt_b2693 9 rfl) (own_nb hch lt_b2696 9 rfl) (own_nb hch lt_b2693 10 rfl) (own_nb hch lt_b2696 10 rfl) (by decide) rfl (by simp <;> decide) (by simp <;> decide) (by simp <;> decide) (by simp <;> decide) (by simp <;> decide) (by simp <;> decide) (by decide) (by simp <;> decide) (by simp <;> decide) (by decide) (by simp <;> decide) (by simp <;> decide)) hZ (own_wk hw 80 rfl) (own_wk hw 2 rfl) (by decide) (by decide)) q2702a q2702c (g := (mkF m 161 (own_loc120 p0 p1 p2 p3 p4 b2580) [(.ref b2696), (.ref b2693), (.double (0 : UInt64)), (.ref b2580)])) rfl (by rw [hml]; rfl) (Steps.refl _) (argsL := [(.double (0 : UInt64)), (.ref b2693), (.ref b2696)]) (rest := []) (lenOf pd_6 rfl) rfl (by show 2 * 0 + _ ≤ _; exact Nat.le_of_eq rfl) (D at_161) (fun _ _ => ⟨rfl, e2696, (by decide : 29 + 2 ≤ _), (by decide : 292 + 2 ≤ _)⟩)
    dsimp only [Pt.U, Pt.locs, Pt.cells, Pt.slots] at X2702 l2702 y2702 z2702 st2702 hQ2702
    subst l2702 y2702 z2702
    obtain ⟨rfl, N2702q, K2702, o2702_0, o2702_1, o2702_2, o2702_3, o2702_4, o2702_5, o2702_6, o2702_7, o2702_8, o2702_9, o2702_10⟩ := hQ2702
    have N2702 := Fr.app N2683 N2702q
    have x2703 := (x2684.keep kq2698).keep K2702
    have x2704 := (x2687.keep kq2698 nin0).keep K2702 (ninS n0_11.symm (ninS n1_11.symm (ninS n2_11.symm (ninS n3_11.symm (ninS n4_11.symm (ninS n5_11.symm (ninS n6_11.symm (ninS n7_11.symm (ninS n8_11.symm (ninS n9_11.symm (ninS n10_11.symm nin0)))))))))))
    have x2705 := x2699.keep K2702
    have x2706 := x2700.keep K2702 (ninS (own_nb hch lt_b2693 0 rfl).symm (ninS (own_nb hch lt_b2693 1 rfl).symm (ninS (own_nb hch lt_b2693 2 rfl).symm (ninS (own_nb hch lt_b2693 3 rfl).symm (ninS (own_nb hch lt_b2693 4 rfl).symm (ninS (own_nb hch lt_b2693 5 rfl).symm (ninS (own_nb hch lt_b2693 6 rfl).symm (ninS (own_nb hch lt_b2693 7 rfl).symm (ninS (own_nb hch lt_b2693 8 rfl).symm (ninS (own_nb hch lt_b2693 9 rfl).symm (ninS (own_nb hch lt_b2693 10 rfl).symm nin0)))))))))))
    have x2707 := EA2696.keep K2702
    have x2708 := V2696.keep K2702 (ninS (own_nb hch lt_b2696 0 rfl).symm (ninS (own_nb hch lt_b2696 1 rfl).symm (ninS (own_nb hch lt_b2696 2 rfl).symm (ninS (own_nb hch lt_b2696 3 rfl).symm (ninS (own_nb hch lt_b2696 4 rfl).symm (ninS (own_nb hch lt_b2696 5 rfl).symm (ninS (own_nb hch lt_b2696 6 rfl).symm (ninS (own_nb hch lt_b2696 7 rfl).symm (ninS (own_nb hch lt_b2696 8 rfl).symm (ninS (own_nb hch lt_b2696 9 rfl).symm (ninS (own_nb hch lt_b2696 10 rfl).symm nin0)))))))))))
    have sz2709 : n0 ≤ T2702.heap.size := Nat.le_trans sz2701 K2702.1
    obtain ⟨T2710, h2710, k2710, X2710, e2710, E2710, A2710, EA2710, st2710⟩ := newPE X2702 hx hZ (own_wk hw 12 rfl) rfl (g := (mkF m 169 (own_loc120 p0 p1 p2 p3 p4 b2580) [.int 0, (.double (0 : UInt64)), (.ref b2580)])) rfl (D at_169) rfl (by decide) (cap := 0) (by decide) (by decide) (by decide) (by decide) (ad := "[I") (by decide)
    obtain ⟨b2710, g2710⟩ : ∃ z, z = T2702.heap.size := ⟨_, rfl⟩
    have gq_b2710 : T2702.heap.size ≤ b2710 := Nat.le_trans (Keep.refl T2702.heap []).1 (Nat.le_of_eq g2710.symm)
    have lt_b2710 : u10 < b2710 := Nat.lt_of_lt_of_le x2704.lt (Nat.le_of_eq g2710.symm)
    have ge_b2710 : n0 ≤ b2710 := Nat.le_trans sz2709 (Nat.le_of_eq g2710.symm)
    rw [← g2710] at A2710 st2710 EA2710
    have kq2711 := (Keep.refl T2702.heap []).ext E2710
    have sz2712 : n0 ≤ h2710.size := Nat.le_trans sz2709 E2710.1
    have V2710 : Arv Z h2710 b2710 k2710 .int (0 : Int32) [] (.int (0 : Int32)) := Arv.new A2710 (by decide)
    obtain ⟨T2713, h2713, k2713, X2713, e2713, E2713, A2713, EA2713, st2713⟩ := newPE X2710 hx hZ (own_wk hw 9 rfl) e2710 (g := (mkF m 172 (own_loc120 p0 p1 p2 p3 p4 b2580) [.int 0, (.ref b2710), (.double (0 : UInt64)), (.ref b2580)])) rfl (D at_172) rfl (by decide) (cap := 0) (by decide) (by decide) (by decide) (by decide) (ad := "[D") (by decide)
    obtain ⟨b2713, g2713⟩ : ∃ z, z = h2710.size := ⟨_, rfl⟩
    have gq_b2713 : T2702.heap.size ≤ b2713 := Nat.le_trans kq2711.1 (Nat.le_of_eq g2713.symm)
    have lt_b2713 : u10 < b2713 := Nat.lt_of_lt_of_le (x2704.keep kq2711 nin0).lt (Nat.le_of_eq g2713.symm)
    have ne2714 : b2710 ≠ b2713 := Nat.ne_of_lt (Nat.lt_of_lt_of_le EA2710.lt (Nat.le_of_eq g2713.symm))
    have ge_b2713 : n0 ≤ b2713 := Nat.le_trans sz2712 (Nat.le_of_eq g2713.symm)
    rw [← g2713] at A2713 st2713 EA2713
    have kq2715 := kq2711.ext E2713
    have x2716 := EA2710.ext E2713
    have x2717 := V2710.ext E2713
    have sz2718 : n0 ≤ h2713.size := Nat.le_trans sz2712 E2713.1
    have V2713 : Arv Z h2713 b2713 k2713 .double (0 : Int32) [] (.double (0 : UInt64)) := Arv.new A2713 (by decide)
    have cp2719 : ∀ target, own_S p e below T2713 (mkF m 174 (own_loc120 p0 p1 p2 p3 p4 b2580) [(.ref b2713), (.ref b2710), (.double (0 : UInt64)), (.ref b2580)]) target → own_S p e below s₁ (mkF m 0 (own_loc112 p0 p1 p2 p3 p4) []) target := by
      intro target kt
      show own_S p e below s₁ (mkF m 0 (own_loc112 p0 p1 p2 p3 p4) []) _
      refine cp2682 _ (st2683.trans (XS.istore X2683.here hx rfl (D at_150) rfl (l' := (own_loc120 p0 p1 p2 p3 p4 b2580)) rfl (XS.aload X2683.here hx rfl (D at_152) rfl rfl (XS.dconst0 X2683.here hx rfl (D at_154) rfl (XS.iconst X2683.here hx rfl (D at_155) (st2693 _ (XS.iconst X2693.here hx rfl (D at_158) (st2696 _ (st2702.trans ?_)))))))))
      refine XS.pop X2702.here hx rfl (D at_164) rfl rfl (XS.aload X2702.here hx rfl (D at_165) rfl rfl (XS.dconst0 X2702.here hx rfl (D at_167) rfl (XS.iconst X2702.here hx rfl (D at_168) ?_)))
      show own_S p e below T2702 (mkF m 169 (own_loc120 p0 p1 p2 p3 p4 b2580) [.int 0, (.double (0 : UInt64)), (.ref b2580)]) _
      refine st2710 _ (XS.iconst X2710.here hx rfl (D at_171) (st2713 _ ?_))
      exact kt
    obtain ⟨cq2720, kq2720, q2720a, q2720b, q2720c⟩ := isOf hZ e2713 (x2703.keep kq2715)
    obtain ⟨_, _, ⟨T2720, L2720, k2720, n2720⟩, -, X2720, ⟨Lc2720, hQ2720, l2720, y2720, z2720⟩, st2720⟩ := X2713.virtualBack hx (y := (⟨own_K, "addRow", "(D[I[D)I"⟩ : MethodName)) (z := (⟨own_K, "addRow", "(D[I[D)I"⟩ : MethodName)) hown (mvT hZ (own_wk hw 76 rfl)) (mvT hZ (own_wk hw 77 rfl)) (notFace_of_selects (args := #[]) (mvT hZ (own_wk hw 79 rfl))) (mvT hZ (own_wk hw 79 rfl)) (mvT hZ (own_wk hw 78 rfl)) (by decide) (backOf (W := 0) (rm6 l Z ag hw [] b2580 (0 : UInt64) b2710 b2713 _ _ _ _ _ _ _ _ _ _ _ _ _ _ _ _ _ _ _ _ _ _ _ _ _ _ _ _ _ _ _ _ _ _ _ _ _ _ _ _ _ _ _ _ _ _ _ _ _ _ h2713 n0 sz2718 (x2703.keep kq2715) (o2702_0.keep kq2715 nin0) (o2702_1.keep kq2715 nin0) (o2702_2.keep kq2715 nin0) (o2702_3.keep kq2715 nin0) (o2702_4.keep kq2715 nin0) (o2702_5.keep kq2715 nin0) (o2702_6.keep kq2715 nin0) (o2702_7.keep kq2715 nin0) (o2702_8.keep kq2715 nin0) (o2702_9.keep kq2715 nin0) (o2702_10.keep kq2715 nin0) x2717 V2713 ge_b2580 ge_u0 ge_u1 ge_u2 ge_u3 ge_u4 ge_u5 ge_u6 ge_u7 ge_u8 ge_u9 n0_1 n0_2 n0_3 n0_4 n0_5 n0_6 n0_7 n0_8 n0_9 n0_10 (own_nb hch lt_b2710 0 rfl) (own_nb hch lt_b2713 0 rfl) n1_2 n1_3 n1_4 n1_5 n1_6 n1_7 n1_8 n1_9 n1_10 (own_nb hch lt_b2710 1 rfl) (own_nb hch lt_b2713 1 rfl) n2_3 n2_4 n2_5 n2_6 n2_7 n2_8 n2_9 n2_10 (own_nb hch lt_b2710 2 rfl) (own_nb hch lt_b2713 2 rfl) n3_4 n3_5 n3_6 n3_7 n3_8 n3_9 n3_10 (own_nb hch lt_b2710 3 rfl) (own_nb hch lt_b2713 3 rfl) n4_5 n4_6 n4_7 n4_8 n4_9 n4_10 (own_nb hch lt_b2710 4 rfl) (own_nb hch lt_b2713 4 rfl) n5_6 n5_7 n5_8 n5_9 n5_10 (own_nb hch lt_b2710 5 rfl) (own_nb hch lt_b2713 5 rfl) n6_7 n6_8 n6_9 n6_10 (own_nb hch lt_b2710 6 rfl) (own_nb hch lt_b2713 6 rfl) n7_8 n7_9 n7_10 (own_nb hch lt_b2710 7 rfl) (own_nb hch lt_b2713 7 rfl) n8_9 n8_10 (own_nb hch lt_b2710 8 rfl) (own_nb hch lt_b2713 8 rfl) n9_10 (own_nb hch lt_b2710 9 rfl) (own_nb hch lt_b2713 9 rfl) (own_nb hch lt_b2710 10 rfl) (own_nb hch lt_b2713 10 rfl) (by decide) rfl (by simp <;> decide) (by simp <;> decide) (by simp <;> decide) (by simp <;> decide) (by simp <;> decide) (by simp <;> decide) (by decide) (by simp <;> decide) (by simp <;> decide) (by decide) (by simp <;> decide) (by simp <;> decide)) hZ (own_wk hw 80 rfl) (own_wk hw 2 rfl) (by decide) (by decide)) q2720a q2720c (g := (mkF m 174 (own_loc120 p0 p1 p2 p3 p4 b2580) [(.ref b2713), (.ref b2710), (.double (0 : UInt64)), (.ref b2580)])) rfl (by rw [hml]; rfl) (Steps.refl _) (argsL := [(.double (0 : UInt64)), (.ref b2710), (.ref b2713)]) (rest := []) (lenOf pd_6 rfl) rfl (by show 2 * 0 + _ ≤ _; exact Nat.le_of_eq rfl) (D at_174) (fun _ _ => ⟨rfl, e2713, (by decide : 33 + 2 ≤ _), (by decide : 294 + 2 ≤ _)⟩)
    dsimp only [Pt.U, Pt.locs, Pt.cells, Pt.slots] at X2720 l2720 y2720 z2720 st2720 hQ2720
    subst l2720 y2720 z2720
    obtain ⟨rfl, N2720q, K2720, o2720_0, o2720_1, o2720_2, o2720_3, o2720_4, o2720_5, o2720_6, o2720_7, o2720_8, o2720_9, o2720_10⟩ := hQ2720
    have N2720 := Fr.app N2702 N2720q
    have x2721 := (x2703.keep kq2715).keep K2720
    have x2722 := (x2704.keep kq2715 nin0).keep K2720 (ninS n0_11.symm (ninS n1_11.symm (ninS n2_11.symm (ninS n3_11.symm (ninS n4_11.symm (ninS n5_11.symm (ninS n6_11.symm (ninS n7_11.symm (ninS n8_11.symm (ninS n9_11.symm (ninS n10_11.symm nin0)))))))))))
    have x2723 := x2716.keep K2720
    have x2724 := x2717.keep K2720 (ninS (own_nb hch lt_b2710 0 rfl).symm (ninS (own_nb hch lt_b2710 1 rfl).symm (ninS (own_nb hch lt_b2710 2 rfl).symm (ninS (own_nb hch lt_b2710 3 rfl).symm (ninS (own_nb hch lt_b2710 4 rfl).symm (ninS (own_nb hch lt_b2710 5 rfl).symm (ninS (own_nb hch lt_b2710 6 rfl).symm (ninS (own_nb hch lt_b2710 7 rfl).symm (ninS (own_nb hch lt_b2710 8 rfl).symm (ninS (own_nb hch lt_b2710 9 rfl).symm (ninS (own_nb hch lt_b2710 10 rfl).symm nin0)))))))))))
    have x2725 := EA2713.keep K2720
    have x2726 := V2713.keep K2720 (ninS (own_nb hch lt_b2713 0 rfl).symm (ninS (own_nb hch lt_b2713 1 rfl).symm (ninS (own_nb hch lt_b2713 2 rfl).symm (ninS (own_nb hch lt_b2713 3 rfl).symm (ninS (own_nb hch lt_b2713 4 rfl).symm (ninS (own_nb hch lt_b2713 5 rfl).symm (ninS (own_nb hch lt_b2713 6 rfl).symm (ninS (own_nb hch lt_b2713 7 rfl).symm (ninS (own_nb hch lt_b2713 8 rfl).symm (ninS (own_nb hch lt_b2713 9 rfl).symm (ninS (own_nb hch lt_b2713 10 rfl).symm nin0)))))))))))
    have sz2727 : n0 ≤ T2720.heap.size := Nat.le_trans sz2718 K2720.1
    have cp2729 : ∀ target, own_S p e below T2720 (mkF m 180 (own_loc120 p0 p1 p2 p3 p4 b2580) [(.int (own_b4 p4))]) target → own_S p e below s₁ (mkF m 0 (own_loc112 p0 p1 p2 p3 p4) []) target := by
      intro target kt
      show own_S p e below s₁ (mkF m 0 (own_loc112 p0 p1 p2 p3 p4) []) _
      refine cp2719 _ (st2720.trans (XS.pop X2720.here hx rfl (D at_177) rfl rfl (XS.iload X2720.here hx rfl (D at_178) rfl ?_)))
      exact kt
    by_cases hc2728 : (own_b4 p4) = (0 : Int32)
    · obtain ⟨T2730, h2730, k2730, X2730, e2730, E2730, A2730, EA2730, st2730⟩ := newPE X2720 hx hZ (own_wk hw 12 rfl) rfl (g := (mkF m 200 (own_loc120 p0 p1 p2 p3 p4 b2580) [.int 2])) rfl (D at_200) rfl (by decide) (cap := 2) (by decide) (by decide) (by decide) (by decide) (ad := "[I") (by decide)
      obtain ⟨b2730, g2730⟩ : ∃ z, z = T2720.heap.size := ⟨_, rfl⟩
      have gq_b2730 : T2720.heap.size ≤ b2730 := Nat.le_trans (Keep.refl T2720.heap []).1 (Nat.le_of_eq g2730.symm)
      have lt_b2730 : u10 < b2730 := Nat.lt_of_lt_of_le x2722.lt (Nat.le_of_eq g2730.symm)
      have ge_b2730 : n0 ≤ b2730 := Nat.le_trans sz2727 (Nat.le_of_eq g2730.symm)
      rw [← g2730] at A2730 st2730 EA2730
      have kq2731 := (Keep.refl T2720.heap []).ext E2730
      have sz2732 : n0 ≤ h2730.size := Nat.le_trans sz2727 E2730.1
      have V2730 : Arv Z h2730 b2730 k2730 .int (2 : Int32) [(.int (0 : Int32)), (.int (0 : Int32))] (.int (0 : Int32)) := (Arv.new A2730 (by decide)).pad (pad_rep [] (.int (0 : Int32)) 2)
      obtain ⟨T2733, h2733, X2733, e2733, W2733, V2733, st2733⟩ := own_stI X2730 hx hZ e2730 V2730 (j := (0 : Int32)) ⟨(by decide), (by decide)⟩ 0 rfl (Nat.le_of_ble_eq_true rfl) (vs' := [(.int (1 : Int32)), (.int (0 : Int32))]) rfl (g := (mkF m 206 (own_loc120 p0 p1 p2 p3 p4 b2580) [.int 1, .int 0, (.ref b2730), (.ref b2730)])) rfl rfl (D at_206)
      have kq2734 := kq2731.wr W2733 (Or.inr gq_b2730)
      have x2735 := EA2730.wr W2733
      have sz2736 : n0 ≤ h2733.size := Nat.le_trans sz2732 (Keep.of_wr W2733).1
      have N2733 := Fr.snoc X2733 N2720 ge_b2730
      obtain ⟨T2737, h2737, X2737, e2737, W2737, V2737, st2737⟩ := own_stI X2733 hx hZ e2733 V2733 (j := (1 : Int32)) ⟨(by decide), (by decide)⟩ 1 rfl (Nat.le_of_ble_eq_true rfl) (vs' := [(.int (1 : Int32)), (.int (2 : Int32))]) rfl (g := (mkF m 211 (own_loc120 p0 p1 p2 p3 p4 b2580) [.int 2, .int 1, (.ref b2730), (.ref b2730)])) rfl rfl (D at_211)
      have kq2738 := kq2734.wr W2737 (Or.inr gq_b2730)
      have x2739 := x2735.wr W2737
      have sz2740 : n0 ≤ h2737.size := Nat.le_trans sz2736 (Keep.of_wr W2737).1
      have N2737 := Fr.snoc X2737 N2733 ge_b2730
      obtain ⟨T2741, h2741, k2741, X2741, e2741, E2741, A2741, EA2741, st2741⟩ := newPE X2737 hx hZ (own_wk hw 12 rfl) e2737 (g := (mkF m 217 (own_loc121 p0 p1 p2 p3 p4 b2580 b2730) [.int 1, (.ref b2580)])) rfl (D at_217) rfl (by decide) (cap := 1) (by decide) (by decide) (by decide) (by decide) (ad := "[I") (by decide)
      obtain ⟨b2741, g2741⟩ : ∃ z, z = h2737.size := ⟨_, rfl⟩
      have gq_b2741 : T2720.heap.size ≤ b2741 := Nat.le_trans kq2738.1 (Nat.le_of_eq g2741.symm)
      have lt_b2741 : u10 < b2741 := Nat.lt_of_lt_of_le (x2722.keep kq2738 nin0).lt (Nat.le_of_eq g2741.symm)
      have ne2742 : b2730 ≠ b2741 := Nat.ne_of_lt (Nat.lt_of_lt_of_le x2739.lt (Nat.le_of_eq g2741.symm))
      have ge_b2741 : n0 ≤ b2741 := Nat.le_trans sz2740 (Nat.le_of_eq g2741.symm)
      rw [← g2741] at A2741 st2741 EA2741
      have kq2743 := kq2738.ext E2741
      have x2744 := x2739.ext E2741
      have x2745 := V2737.ext E2741
      have sz2746 : n0 ≤ h2741.size := Nat.le_trans sz2740 E2741.1
      have V2741 : Arv Z h2741 b2741 k2741 .int (1 : Int32) [(.int (0 : Int32))] (.int (0 : Int32)) := (Arv.new A2741 (by decide)).pad (pad_rep [] (.int (0 : Int32)) 1)
      obtain ⟨T2747, h2747, X2747, e2747, W2747, V2747, st2747⟩ := own_stI X2741 hx hZ e2741 V2741 (j := (0 : Int32)) ⟨(by decide), (by decide)⟩ 0 rfl (Nat.le_of_ble_eq_true rfl) (vs' := [(.int (0 : Int32))]) rfl (g := (mkF m 223 (own_loc121 p0 p1 p2 p3 p4 b2580 b2730) [.int 0, .int 0, (.ref b2741), (.ref b2741), (.ref b2580)])) rfl rfl (D at_223)
      have kq2748 := kq2743.wr W2747 (Or.inr gq_b2741)
      have x2749 := x2744.wr W2747
      have x2750 := x2745.other W2747 ne2742
      have x2751 := EA2741.wr W2747
      have sz2752 : n0 ≤ h2747.size := Nat.le_trans sz2746 (Keep.of_wr W2747).1
      have N2747 := Fr.snoc X2747 N2737 ge_b2741
      have cp2753 : ∀ target, own_S p e below T2747 (mkF m 226 (own_loc121 p0 p1 p2 p3 p4 b2580 b2730) [(.ref b2730), (.ref b2741), (.ref b2580)]) target → own_S p e below s₁ (mkF m 0 (own_loc112 p0 p1 p2 p3 p4) []) target := by
        intro target kt
        show own_S p e below s₁ (mkF m 0 (own_loc112 p0 p1 p2 p3 p4) []) _
        refine cp2729 _ (XS.ifYes X2720.here hx rfl (pc0 := 180) (pc' := 199) rfl (D at_180) rfl ((if0 _ _).trans (teq hc2728).1) (by decide) (by decide) (XS.iconst X2720.here hx rfl (D at_199) (st2730 _ (XS.dup X2730.here hx rfl (D at_202) rfl rfl (XS.iconst X2730.here hx rfl (D at_203) (XS.iload X2730.here hx rfl (D at_204) rfl (st2733 _ (XS.dup X2733.here hx rfl (D at_207) rfl rfl (XS.iconst X2733.here hx rfl (D at_208) ?_)))))))))
        refine XS.iload X2733.here hx rfl (D at_209) rfl (st2737 _ (XS.astore X2737.here hx rfl (D at_212) rfl rfl (l' := (own_loc121 p0 p1 p2 p3 p4 b2580 b2730)) rfl (XS.aload X2737.here hx rfl (D at_214) rfl rfl (XS.iconst X2737.here hx rfl (D at_216) ?_))))
        show own_S p e below T2737 (mkF m 217 (own_loc121 p0 p1 p2 p3 p4 b2580 b2730) [.int 1, (.ref b2580)]) _
        refine st2741 _ (XS.dup X2741.here hx rfl (D at_219) rfl rfl (XS.iconst X2741.here hx rfl (D at_220) (XS.iload X2741.here hx rfl (D at_221) rfl (st2747 _ (XS.aload X2747.here hx rfl (D at_224) rfl rfl ?_)))))
        exact kt
      obtain ⟨cq2754, kq2754, q2754a, q2754b, q2754c⟩ := isOf hZ e2747 (x2721.keep kq2748)
      obtain ⟨_, _, ⟨T2754, L2754, k2754, n2754⟩, -, X2754, ⟨Lc2754, hQ2754, l2754, y2754, z2754⟩, st2754⟩ := X2747.virtualBack hx (y := (⟨own_K, "start", "([I[I)V"⟩ : MethodName)) (z := (⟨own_K, "start", "([I[I)V"⟩ : MethodName)) hown (mvT hZ (own_wk hw 84 rfl)) (mvT hZ (own_wk hw 85 rfl)) (notFace_of_selects (args := #[]) (mvT hZ (own_wk hw 87 rfl))) (mvT hZ (own_wk hw 87 rfl)) (mvT hZ (own_wk hw 86 rfl)) (by decide) (backOf (W := 0) (rm7 l Z ag hw [] b2580 b2741 b2730 _ _ _ _ _ _ _ _ _ _ _ _ _ _ _ _ _ _ _ _ _ _ _ _ _ _ _ _ _ _ _ _ _ _ _ _ _ _ _ _ _ _ _ _ _ _ (FP.i2d p2) (4607182418800017408 : UInt64) (0 : UInt64) (own_W p3) (4607182418800017408 : UInt64) h2747 n0 sz2752 (x2721.keep kq2748) (o2720_0.keep kq2748 nin0) (o2720_2.keep kq2748 nin0) (o2720_4.keep kq2748 nin0) (o2720_5.keep kq2748 nin0) (o2720_7.keep kq2748 nin0) (o2720_8.keep kq2748 nin0) (o2720_9.keep kq2748 nin0) (o2720_1.keep kq2748 nin0) (o2720_3.keep kq2748 nin0) (x2722.keep kq2748 nin0) x2751 V2747 x2749 x2750 ge_b2580 ge_u2 n0_2 n0_4 n0_5 n0_7 n0_8 n0_9 n0_1 n0_3 n0_11 (own_nb hch lt_b2741 0 rfl) (own_nb hch lt_b2730 0 rfl) n2_3.symm n3_4 n3_5 n3_7 n3_8 n3_9 n1_3.symm n3_11 (own_nb hch lt_b2741 3 rfl) (own_nb hch lt_b2730 3 rfl) ⟨(4607182418800017408 : UInt64), (FP.i2d p3), (0 : UInt64), (4607182418800017408 : UInt64), (FP.i2d p3), (4607182418800017408 : UInt64), (0 : UInt64), (0 : Int32), ⟨⟨by decide, by decide⟩, ⟨(own_gp p4), rfl, (own_gpz p4)⟩, own_w1, (own_wi p3), (0 : Int32), rfl, Or.inl ⟨rfl, ⟨by decide, by decide⟩, by decide, rfl, rfl, by decide, by rw [hu]; decide +kernel⟩⟩, ⟨⟨by decide, by decide⟩, ⟨(own_gq p4), rfl, (own_gqz p4)⟩, own_w0, own_w1, (1 : Int32), rfl, Or.inr (Or.inl ⟨rfl, ⟨by decide, by decide⟩, by decide, rfl, rfl, by decide, rfl⟩)⟩, ⟨(0 : Int32), rfl, rfl, by decide⟩, ⟨_, rfl, own_wi _⟩, ⟨_, rfl, own_wi _⟩, ⟨rfl, own_wi p2⟩, ⟨rfl, rfl⟩, by decide +kernel, Or.inl ⟨rfl, rfl, rfl, rfl, rfl, rfl, rfl, rfl, rfl⟩, own_wi p3, own_el1 p3, own_elW p3⟩ rfl (by simp only [List.length_set, List.length_replicate])) hZ (own_wk hw 88 rfl) (own_wk hw 2 rfl) (by decide) (by decide)) q2754a q2754c (g := (mkF m 226 (own_loc121 p0 p1 p2 p3 p4 b2580 b2730) [(.ref b2730), (.ref b2741), (.ref b2580)])) rfl (by rw [hml]; rfl) (Steps.refl _) (argsL := [(.ref b2741), (.ref b2730)]) (rest := []) (lenOf pd_14 rfl) rfl (by show 2 * 0 + _ ≤ _; exact Nat.le_of_eq rfl) (D at_226) (fun _ _ => ⟨rfl, e2747, (by decide : 37 + 19 ≤ _), (by decide : 299 + 31 ≤ _)⟩)
      dsimp only [Pt.U, Pt.locs, Pt.cells, Pt.slots] at X2754 l2754 y2754 z2754 st2754 hQ2754
      subst l2754 y2754 z2754
      obtain ⟨ky2754, hh2754, iv2754, i02754, i12754, va2754, kv2754, xa2754, xb2754, xc2754, xd2754, xe2754, kz1_2754, kz2_2754, kz3_2754, kz4_2754, kz5_2754, rfl, N2754q, K2754, Ob2754, Vky2754, Vhh2754, Viv2754, Vi02754, Vi12754⟩ := hQ2754
      have N2754 := Fr.app N2747 N2754q
      have x2755 := (x2721.keep kq2748).keep K2754
      have x2756 := (x2722.keep kq2748 nin0).keep K2754 (ninS n0_11.symm (ninS n3_11.symm nin0))
      have x2757 := (o2720_1.keep kq2748 nin0).keep K2754 (ninS n0_1.symm (ninS n1_3 nin0))
      have x2758 := (o2720_2.keep kq2748 nin0).keep K2754 (ninS n0_2.symm (ninS n2_3 nin0))
      have x2759 := (o2720_4.keep kq2748 nin0).keep K2754 (ninS n0_4.symm (ninS n3_4.symm nin0))
      have x2760 := (o2720_5.keep kq2748 nin0).keep K2754 (ninS n0_5.symm (ninS n3_5.symm nin0))
      have x2761 := (o2720_6.keep kq2748 nin0).keep K2754 (ninS n0_6.symm (ninS n3_6.symm nin0))
      have x2762 := (o2720_7.keep kq2748 nin0).keep K2754 (ninS n0_7.symm (ninS n3_7.symm nin0))
      have x2763 := (o2720_8.keep kq2748 nin0).keep K2754 (ninS n0_8.symm (ninS n3_8.symm nin0))
      have x2764 := (o2720_9.keep kq2748 nin0).keep K2754 (ninS n0_9.symm (ninS n3_9.symm nin0))
      have x2765 := (o2720_10.keep kq2748 nin0).keep K2754 (ninS n0_10.symm (ninS n3_10.symm nin0))
      have x2766 := x2749.keep K2754
      have x2767 := x2750.keep K2754 (ninS (own_nb hch lt_b2730 0 rfl).symm (ninS (own_nb hch lt_b2730 3 rfl).symm nin0))
      have x2768 := x2751.keep K2754
      have x2769 := V2747.keep K2754 (ninS (own_nb hch lt_b2741 0 rfl).symm (ninS (own_nb hch lt_b2741 3 rfl).symm nin0))
      have sz2770 : n0 ≤ T2754.heap.size := Nat.le_trans sz2752 K2754.1
      obtain ⟨cq2771, kq2771, q2771a, q2771b, q2771c⟩ := isOf hZ rfl x2755
      obtain ⟨_, _, ⟨T2771, L2771, k2771, n2771⟩, -, X2771, ⟨Lc2771, hQ2771, l2771, y2771, z2771⟩, st2771⟩ := X2754.virtualBack hx (y := (⟨own_K, "duals", "()[D"⟩ : MethodName)) (z := (⟨own_K, "duals", "()[D"⟩ : MethodName)) hown (mvT hZ (own_wk hw 143 rfl)) (mvT hZ (own_wk hw 144 rfl)) (notFace_of_selects (args := #[]) (mvT hZ (own_wk hw 146 rfl))) (mvT hZ (own_wk hw 146 rfl)) (mvT hZ (own_wk hw 145 rfl)) (by decide) (backOf (W := 0) (rm17 l Z ag hw [] b2580 _ _ _ _ _ _ _ _ _ _ _ _ _ _ _ _ _ _ _ _ _ _ _ _ _ _ _ _ _ _ _ _ _ _ _ _ _ _ _ _ _ _ _ (FP.i2d p2) (own_gp p4) (own_gq p4) (FP.i2d p0) (own_dp p0 p2 p4) (FP.i2d p1) (own_dq p1 p2 p4) T2754.heap n0 sz2770 x2755 Ob2754 Vhh2754 x2757 x2758 Vky2754 Viv2754 Vi02754 Vi12754 rfl ⟨by decide, by decide⟩ rfl rfl (own_gpx p0 p2 p4) (own_gpy p0 p2 p4) (own_wdp p0 p2 p4) ⟨by decide, by decide⟩ rfl rfl (own_gqx p1 p2 p4) (own_gqy p1 p2 p4) (own_wdq p1 p2 p4) own_w1 own_w0 (own_wW p3) own_w1) hZ (own_wk hw 147 rfl) (own_wk hw 2 rfl) (by decide) (by decide)) q2771a q2771c (g := (mkF m 231 (own_loc121 p0 p1 p2 p3 p4 b2580 b2730) [(.ref b2580)])) rfl (by rw [hml]; rfl) (Steps.refl _) (argsL := []) (rest := []) (lenOf pd_3 rfl) rfl (by show 2 * 0 + _ ≤ _; exact Nat.le_of_eq rfl) (D at_231) (fun _ _ => ⟨rfl, rfl, (by decide : 56 + 1 ≤ _), (by decide : 330 + 2 ≤ _)⟩)
      dsimp only [Pt.U, Pt.locs, Pt.cells, Pt.slots] at X2771 l2771 y2771 z2771 st2771 hQ2771
      subst l2771 y2771 z2771
      obtain ⟨r2771, kr2771, rfl, N2771q, K2771, ge_r2771, gq_r2771, EA2771, V2771⟩ := hQ2771
      have N2771 := Fr.app N2754 N2771q
      have kq2772 := (Keep.refl T2754.heap []).trans K2771 all0
      have sz2773 : n0 ≤ T2771.heap.size := Nat.le_trans sz2770 K2771.1
      obtain ⟨cl2774, Ar2774, -, S2774, M2774, -, -⟩ := id V2771
      have ld2774 := X2771.arraylength hx Ar2774.1 (State.isArrayOf_alike hZ.alike Ar2774.2.1) (g := (mkF m 238 (own_loc122 p0 p1 p2 p3 p4 b2580 b2730 r2771) [(.ref r2771)])) rfl rfl (D at_238)
      have sg2776 : ∀ target, Steps p.tables e below (T2771.setTop (mkF m 260 (own_loc122 p0 p1 p2 p3 p4 b2580 b2730 r2771) [(.double (own_dp p0 p2 p4))])) target → Steps p.tables e below (T2771.setTop (mkF m 245 (own_loc122 p0 p1 p2 p3 p4 b2580 b2730 r2771) [])) target := by
        intro target kt
        show own_S p e below T2771 (mkF m 245 (own_loc122 p0 p1 p2 p3 p4 b2580 b2730 r2771) []) _
        refine XS.iload X2771.here hx rfl (D at_245) rfl ?_
        by_cases hc2775 : (own_b1 p4) = (0 : Int32)
        · show own_S p e below T2771 (mkF m 247 (own_loc122 p0 p1 p2 p3 p4 b2580 b2730 r2771) [(.int (own_b1 p4))]) _
          refine XS.ifYes X2771.here hx rfl (pc0 := 247) (pc' := 258) rfl (D at_247) rfl ((if0 _ _).trans (teq hc2775).1) (by decide) (by decide) (XS.iloadN X2771.here hx rfl (D at_258) rfl (XS.i2dS X2771.here hx rfl (D at_259) rfl rfl ?_))
          show own_S p e below T2771 (mkF m 260 (own_loc122 p0 p1 p2 p3 p4 b2580 b2730 r2771) [(.double (FP.i2d p0))]) _
          have kt := own_cast (P := fun z => Steps p.tables e below (T2771.setTop (mkF m 260 (own_loc122 p0 p1 p2 p3 p4 b2580 b2730 r2771) [(.double z)])) target) (show (own_dp p0 p2 p4) = (FP.i2d p0) from (by unfold own_dp; rw [if_pos hc2775])) kt
          exact kt
        · show own_S p e below T2771 (mkF m 247 (own_loc122 p0 p1 p2 p3 p4 b2580 b2730 r2771) [(.int (own_b1 p4))]) _
          refine XS.ifNo X2771.here hx rfl (D at_247) rfl ((if0 _ _).trans (feq hc2775).1) (XS.iloadN X2771.here hx rfl (D at_250) rfl (XS.i2dS X2771.here hx rfl (D at_251) rfl rfl (XS.iloadN X2771.here hx rfl (D at_252) rfl (XS.i2dS X2771.here hx rfl (D at_253) rfl rfl (XS.dsubS X2771.here hx rfl (D at_254) rfl (own_wsub _ _).nn rfl (XS.goto X2771.here hx rfl (pc0 := 255) (pc' := 260) rfl (D at_255) (by decide) (by decide) ?_))))))
          show own_S p e below T2771 (mkF m 260 (own_loc122 p0 p1 p2 p3 p4 b2580 b2730 r2771) [(.double (FP.dsub (FP.i2d p0) (FP.i2d p2)))]) _
          have kt := own_cast (P := fun z => Steps p.tables e below (T2771.setTop (mkF m 260 (own_loc122 p0 p1 p2 p3 p4 b2580 b2730 r2771) [(.double z)])) target) (show (own_dp p0 p2 p4) = (FP.dsub (FP.i2d p0) (FP.i2d p2)) from (by unfold own_dp; rw [if_neg hc2775])) kt
          exact kt
      have sg2778 : ∀ target, Steps p.tables e below (T2771.setTop (mkF m 277 (own_loc123 p0 p1 p2 p3 p4 b2580 b2730 r2771) [(.double (own_dq p1 p2 p4))])) target → Steps p.tables e below (T2771.setTop (mkF m 262 (own_loc123 p0 p1 p2 p3 p4 b2580 b2730 r2771) [])) target := by
        intro target kt
        show own_S p e below T2771 (mkF m 262 (own_loc123 p0 p1 p2 p3 p4 b2580 b2730 r2771) []) _
        refine XS.iload X2771.here hx rfl (D at_262) rfl ?_
        by_cases hc2777 : (own_b2 p4) = (0 : Int32)
        · show own_S p e below T2771 (mkF m 264 (own_loc123 p0 p1 p2 p3 p4 b2580 b2730 r2771) [(.int (own_b2 p4))]) _
          refine XS.ifYes X2771.here hx rfl (pc0 := 264) (pc' := 275) rfl (D at_264) rfl ((if0 _ _).trans (teq hc2777).1) (by decide) (by decide) (XS.iloadN X2771.here hx rfl (D at_275) rfl (XS.i2dS X2771.here hx rfl (D at_276) rfl rfl ?_))
          show own_S p e below T2771 (mkF m 277 (own_loc123 p0 p1 p2 p3 p4 b2580 b2730 r2771) [(.double (FP.i2d p1))]) _
          have kt := own_cast (P := fun z => Steps p.tables e below (T2771.setTop (mkF m 277 (own_loc123 p0 p1 p2 p3 p4 b2580 b2730 r2771) [(.double z)])) target) (show (own_dq p1 p2 p4) = (FP.i2d p1) from (by unfold own_dq; rw [if_pos hc2777])) kt
          exact kt
        · show own_S p e below T2771 (mkF m 264 (own_loc123 p0 p1 p2 p3 p4 b2580 b2730 r2771) [(.int (own_b2 p4))]) _
          refine XS.ifNo X2771.here hx rfl (D at_264) rfl ((if0 _ _).trans (feq hc2777).1) (XS.iloadN X2771.here hx rfl (D at_267) rfl (XS.i2dS X2771.here hx rfl (D at_268) rfl rfl (XS.iloadN X2771.here hx rfl (D at_269) rfl (XS.i2dS X2771.here hx rfl (D at_270) rfl rfl (XS.dsubS X2771.here hx rfl (D at_271) rfl (own_wsub _ _).nn rfl (XS.goto X2771.here hx rfl (pc0 := 272) (pc' := 277) rfl (D at_272) (by decide) (by decide) ?_))))))
          show own_S p e below T2771 (mkF m 277 (own_loc123 p0 p1 p2 p3 p4 b2580 b2730 r2771) [(.double (FP.dsub (FP.i2d p1) (FP.i2d p2)))]) _
          have kt := own_cast (P := fun z => Steps p.tables e below (T2771.setTop (mkF m 277 (own_loc123 p0 p1 p2 p3 p4 b2580 b2730 r2771) [(.double z)])) target) (show (own_dq p1 p2 p4) = (FP.dsub (FP.i2d p1) (FP.i2d p2)) from (by unfold own_dq; rw [if_neg hc2777])) kt
          exact kt
      obtain ⟨fs, hr, hrun, hended, hW, hsame⟩ := X2771.leave (v := some (.int (1 : Int32))) (fun h => by rw [Bd.returns] at h; cases h)
      refine ⟨_, _, pre0 _ ?_, hrun, hended, _, _, rfl, ?_, ⟨_, rfl⟩, hW, hsame.mono (by decide) (by decide)⟩
      · show own_S p e below s₁ (mkF m 0 (own_loc112 p0 p1 p2 p3 p4) []) _
        refine cp2753 _ (st2754.trans (XS.aload X2754.here hx rfl (D at_229) rfl rfl (st2771.trans (XS.astore X2771.here hx rfl (D at_234) rfl rfl (l' := (own_loc122 p0 p1 p2 p3 p4 b2580 b2730 r2771)) rfl (XS.aload X2771.here hx rfl (D at_236) rfl rfl (ld2774 _ ?_))))))
        rw [len_of S2774 M2774]
        show own_S p e below T2771 (mkF m 239 (own_loc122 p0 p1 p2 p3 p4 b2580 b2730 r2771) [.int 2]) _
        refine XS.iconst X2771.here hx rfl (D at_239) (XS.icmpYes X2771.here hx rfl (pc0 := 240) (pc' := 245) rfl (D at_240) rfl (teq (by decide : (2 : Int32) = (2 : Int32))).1 (by decide) (by decide) (sg2776 _ (XS.dstore X2771.here hx rfl (D at_260) rfl (l' := (own_loc123 p0 p1 p2 p3 p4 b2580 b2730 r2771)) rfl (sg2778 _ (XS.dstore X2771.here hx rfl (D at_277) rfl (l' := (own_loc124 p0 p1 p2 p3 p4 b2580 b2730 r2771)) rfl (XS.dload X2771.here hx rfl (D at_279) rfl (XS.dload X2771.here hx rfl (D at_281) rfl (XS.iloadN X2771.here hx rfl (D at_283) rfl (XS.i2dS X2771.here hx rfl (D at_284) rfl rfl ?_)))))))))
        refine XS.dnegS X2771.here hx rfl (D at_285) rfl rfl (XS.dmulS X2771.here hx rfl (D at_286) rfl (own_nno (FP.Core.dmul_out (own_wdq p1 p2 p4).fin (own_nf (own_wi p3)))) rfl (XS.daddS X2771.here hx rfl (D at_287) rfl (own_nadd (own_wdp p0 p2 p4) (own_nno (FP.Core.dmul_out (own_wdq p1 p2 p4).fin (own_nf (own_wi p3))))) rfl (XS.dstore X2771.here hx rfl (D at_288) rfl (l' := (own_loc125 p0 p1 p2 p3 p4 b2580 b2730 r2771)) rfl ?_)))
        show own_S p e below T2771 (mkF m 290 (own_loc125 p0 p1 p2 p3 p4 b2580 b2730 r2771) []) _
        refine XS.dload X2771.here hx rfl (D at_290) rfl (XS.dstore X2771.here hx rfl (D at_292) rfl (l' := (own_loc126 p0 p1 p2 p3 p4 b2580 b2730 r2771)) rfl (XS.aload X2771.here hx rfl (D at_294) rfl rfl (XS.iconst X2771.here hx rfl (D at_296) (own_ldD X2771 hx hZ rfl V2771 (j := (0 : Int32)) ⟨(by decide), (by decide)⟩ (v := (.double (own_st (own_st (0 : UInt64) (own_dp p0 p2 p4) (4607182418800017408 : UInt64)) (own_dq p1 p2 p4) (own_W p3)))) rfl rfl rfl (D at_297) (XS.dload X2771.here hx rfl (D at_298) rfl (XS.dcmpS X2771.here hx rfl (D at_300) rfl rfl (XS.ifNo X2771.here hx rfl (D at_301) rfl ((if0 _ _).trans (teq (show (cmpValue (FP.dcmp (own_st (own_st (0 : UInt64) (own_dp p0 p2 p4) (4607182418800017408 : UInt64)) (own_dq p1 p2 p4) (own_W p3)) (FP.dadd (own_dp p0 p2 p4) (FP.dmul (own_dq p1 p2 p4) (FP.dneg (FP.i2d p3))))) .l) = (0 : Int32) from Jvm.RoadKit.dcmpV_eq (own_yA (own_wdp p0 p2 p4) (own_wdq p1 p2 p4) p3) (own_nst (own_nst own_w0.nn (own_wdp p0 p2 p4) own_w1) (own_wdq p1 p2 p4) (own_wW p3)) _)).2) (XS.aload X2771.here hx rfl (D at_304) rfl rfl (XS.iconst X2771.here hx rfl (D at_306) ?_)))))))))
        refine own_ldD X2771 hx hZ rfl V2771 (j := (1 : Int32)) ⟨(by decide), (by decide)⟩ (v := (.double (own_st (own_st (0 : UInt64) (own_dp p0 p2 p4) (0 : UInt64)) (own_dq p1 p2 p4) (4607182418800017408 : UInt64)))) rfl rfl rfl (D at_307) (XS.dload X2771.here hx rfl (D at_308) rfl (XS.dcmpS X2771.here hx rfl (D at_310) rfl rfl (XS.ifNo X2771.here hx rfl (D at_311) rfl ((if0 _ _).trans (teq (show (cmpValue (FP.dcmp (own_st (own_st (0 : UInt64) (own_dp p0 p2 p4) (0 : UInt64)) (own_dq p1 p2 p4) (4607182418800017408 : UInt64)) (own_dq p1 p2 p4)) .l) = (0 : Int32) from Jvm.RoadKit.dcmpV_eq (own_yC (own_wdp p0 p2 p4) (own_wdq p1 p2 p4)) (own_nst (own_nst own_w0.nn (own_wdp p0 p2 p4) own_w0) (own_wdq p1 p2 p4) own_w1) _)).2) ?_)))
        show own_S p e below T2771 (mkF m 314 (own_loc126 p0 p1 p2 p3 p4 b2580 b2730 r2771) []) _
        refine XS.iconst X2771.here hx rfl (D at_314) (XS.goto X2771.here hx rfl (pc0 := 315) (pc' := 319) rfl (D at_315) (by decide) (by decide) ?_)
        show own_S p e below T2771 (mkF m 319 (own_loc126 p0 p1 p2 p3 p4 b2580 b2730 r2771) [.int 1]) _
        exact retN X2771 hx (t := .boolean) Bd.returns (by simp) (D at_319) hr
      · exact ⟨rfl, N2771⟩
    · obtain ⟨T2781, h2781, k2781, X2781, e2781, E2781, A2781, EA2781, st2781⟩ := newPE X2720 hx hZ (own_wk hw 12 rfl) rfl (g := (mkF m 184 (own_loc120 p0 p1 p2 p3 p4 b2580) [.int 2])) rfl (D at_184) rfl (by decide) (cap := 2) (by decide) (by decide) (by decide) (by decide) (ad := "[I") (by decide)
      obtain ⟨b2781, g2781⟩ : ∃ z, z = T2720.heap.size := ⟨_, rfl⟩
      have gq_b2781 : T2720.heap.size ≤ b2781 := Nat.le_trans (Keep.refl T2720.heap []).1 (Nat.le_of_eq g2781.symm)
      have lt_b2781 : u10 < b2781 := Nat.lt_of_lt_of_le x2722.lt (Nat.le_of_eq g2781.symm)
      have ge_b2781 : n0 ≤ b2781 := Nat.le_trans sz2727 (Nat.le_of_eq g2781.symm)
      rw [← g2781] at A2781 st2781 EA2781
      have kq2782 := (Keep.refl T2720.heap []).ext E2781
      have sz2783 : n0 ≤ h2781.size := Nat.le_trans sz2727 E2781.1
      have V2781 : Arv Z h2781 b2781 k2781 .int (2 : Int32) [(.int (0 : Int32)), (.int (0 : Int32))] (.int (0 : Int32)) := (Arv.new A2781 (by decide)).pad (pad_rep [] (.int (0 : Int32)) 2)
      obtain ⟨T2784, h2784, X2784, e2784, W2784, V2784, st2784⟩ := own_stI X2781 hx hZ e2781 V2781 (j := (0 : Int32)) ⟨(by decide), (by decide)⟩ 0 rfl (Nat.le_of_ble_eq_true rfl) (vs' := [(.int (2 : Int32)), (.int (0 : Int32))]) rfl (g := (mkF m 190 (own_loc120 p0 p1 p2 p3 p4 b2580) [.int 2, .int 0, (.ref b2781), (.ref b2781)])) rfl rfl (D at_190)
      have kq2785 := kq2782.wr W2784 (Or.inr gq_b2781)
      have x2786 := EA2781.wr W2784
      have sz2787 : n0 ≤ h2784.size := Nat.le_trans sz2783 (Keep.of_wr W2784).1
      have N2784 := Fr.snoc X2784 N2720 ge_b2781
      obtain ⟨T2788, h2788, X2788, e2788, W2788, V2788, st2788⟩ := own_stI X2784 hx hZ e2784 V2784 (j := (1 : Int32)) ⟨(by decide), (by decide)⟩ 1 rfl (Nat.le_of_ble_eq_true rfl) (vs' := [(.int (2 : Int32)), (.int (1 : Int32))]) rfl (g := (mkF m 195 (own_loc120 p0 p1 p2 p3 p4 b2580) [.int 1, .int 1, (.ref b2781), (.ref b2781)])) rfl rfl (D at_195)
      have kq2789 := kq2785.wr W2788 (Or.inr gq_b2781)
      have x2790 := x2786.wr W2788
      have sz2791 : n0 ≤ h2788.size := Nat.le_trans sz2787 (Keep.of_wr W2788).1
      have N2788 := Fr.snoc X2788 N2784 ge_b2781
      obtain ⟨T2792, h2792, k2792, X2792, e2792, E2792, A2792, EA2792, st2792⟩ := newPE X2788 hx hZ (own_wk hw 12 rfl) e2788 (g := (mkF m 217 (own_loc127 p0 p1 p2 p3 p4 b2580 b2781) [.int 1, (.ref b2580)])) rfl (D at_217) rfl (by decide) (cap := 1) (by decide) (by decide) (by decide) (by decide) (ad := "[I") (by decide)
      obtain ⟨b2792, g2792⟩ : ∃ z, z = h2788.size := ⟨_, rfl⟩
      have gq_b2792 : T2720.heap.size ≤ b2792 := Nat.le_trans kq2789.1 (Nat.le_of_eq g2792.symm)
      have lt_b2792 : u10 < b2792 := Nat.lt_of_lt_of_le (x2722.keep kq2789 nin0).lt (Nat.le_of_eq g2792.symm)
      have ne2793 : b2781 ≠ b2792 := Nat.ne_of_lt (Nat.lt_of_lt_of_le x2790.lt (Nat.le_of_eq g2792.symm))
      have ge_b2792 : n0 ≤ b2792 := Nat.le_trans sz2791 (Nat.le_of_eq g2792.symm)
      rw [← g2792] at A2792 st2792 EA2792
      have kq2794 := kq2789.ext E2792
      have x2795 := x2790.ext E2792
      have x2796 := V2788.ext E2792
      have sz2797 : n0 ≤ h2792.size := Nat.le_trans sz2791 E2792.1
      have V2792 : Arv Z h2792 b2792 k2792 .int (1 : Int32) [(.int (0 : Int32))] (.int (0 : Int32)) := (Arv.new A2792 (by decide)).pad (pad_rep [] (.int (0 : Int32)) 1)
      obtain ⟨T2798, h2798, X2798, e2798, W2798, V2798, st2798⟩ := own_stI X2792 hx hZ e2792 V2792 (j := (0 : Int32)) ⟨(by decide), (by decide)⟩ 0 rfl (Nat.le_of_ble_eq_true rfl) (vs' := [(.int (0 : Int32))]) rfl (g := (mkF m 223 (own_loc127 p0 p1 p2 p3 p4 b2580 b2781) [.int 0, .int 0, (.ref b2792), (.ref b2792), (.ref b2580)])) rfl rfl (D at_223)
      have kq2799 := kq2794.wr W2798 (Or.inr gq_b2792)
      have x2800 := x2795.wr W2798
      have x2801 := x2796.other W2798 ne2793
      have x2802 := EA2792.wr W2798
      have sz2803 : n0 ≤ h2798.size := Nat.le_trans sz2797 (Keep.of_wr W2798).1
      have N2798 := Fr.snoc X2798 N2788 ge_b2792
      have cp2804 : ∀ target, own_S p e below T2798 (mkF m 226 (own_loc127 p0 p1 p2 p3 p4 b2580 b2781) [(.ref b2781), (.ref b2792), (.ref b2580)]) target → own_S p e below s₁ (mkF m 0 (own_loc112 p0 p1 p2 p3 p4) []) target := by
        intro target kt
        show own_S p e below s₁ (mkF m 0 (own_loc112 p0 p1 p2 p3 p4) []) _
        refine cp2729 _ (XS.ifNo X2720.here hx rfl (D at_180) rfl ((if0 _ _).trans (feq hc2728).1) (XS.iconst X2720.here hx rfl (D at_183) (st2781 _ (XS.dup X2781.here hx rfl (D at_186) rfl rfl (XS.iconst X2781.here hx rfl (D at_187) (XS.iload X2781.here hx rfl (D at_188) rfl (st2784 _ (XS.dup X2784.here hx rfl (D at_191) rfl rfl (XS.iconst X2784.here hx rfl (D at_192) ?_)))))))))
        refine XS.iload X2784.here hx rfl (D at_193) rfl (st2788 _ (XS.goto X2788.here hx rfl (pc0 := 196) (pc' := 212) rfl (D at_196) (by decide) (by decide) (XS.astore X2788.here hx rfl (D at_212) rfl rfl (l' := (own_loc127 p0 p1 p2 p3 p4 b2580 b2781)) rfl ?_)))
        show own_S p e below T2788 (mkF m 214 (own_loc127 p0 p1 p2 p3 p4 b2580 b2781) []) _
        refine XS.aload X2788.here hx rfl (D at_214) rfl rfl (XS.iconst X2788.here hx rfl (D at_216) (st2792 _ (XS.dup X2792.here hx rfl (D at_219) rfl rfl (XS.iconst X2792.here hx rfl (D at_220) (XS.iload X2792.here hx rfl (D at_221) rfl (st2798 _ (XS.aload X2798.here hx rfl (D at_224) rfl rfl ?_)))))))
        exact kt
      obtain ⟨cq2805, kq2805, q2805a, q2805b, q2805c⟩ := isOf hZ e2798 (x2721.keep kq2799)
      obtain ⟨_, _, ⟨T2805, L2805, k2805, n2805⟩, -, X2805, ⟨Lc2805, hQ2805, l2805, y2805, z2805⟩, st2805⟩ := X2798.virtualBack hx (y := (⟨own_K, "start", "([I[I)V"⟩ : MethodName)) (z := (⟨own_K, "start", "([I[I)V"⟩ : MethodName)) hown (mvT hZ (own_wk hw 84 rfl)) (mvT hZ (own_wk hw 85 rfl)) (notFace_of_selects (args := #[]) (mvT hZ (own_wk hw 87 rfl))) (mvT hZ (own_wk hw 87 rfl)) (mvT hZ (own_wk hw 86 rfl)) (by decide) (backOf (W := 0) (rm7 l Z ag hw [] b2580 b2792 b2781 _ _ _ _ _ _ _ _ _ _ _ _ _ _ _ _ _ _ _ _ _ _ _ _ _ _ _ _ _ _ _ _ _ _ _ _ _ _ _ _ _ _ _ _ _ _ (FP.i2d p2) (own_W p3) (4607182418800017408 : UInt64) (4607182418800017408 : UInt64) (0 : UInt64) h2798 n0 sz2803 (x2721.keep kq2799) (o2720_0.keep kq2799 nin0) (o2720_2.keep kq2799 nin0) (o2720_4.keep kq2799 nin0) (o2720_5.keep kq2799 nin0) (o2720_7.keep kq2799 nin0) (o2720_8.keep kq2799 nin0) (o2720_9.keep kq2799 nin0) (o2720_1.keep kq2799 nin0) (o2720_3.keep kq2799 nin0) (x2722.keep kq2799 nin0) x2802 V2798 x2800 x2801 ge_b2580 ge_u2 n0_2 n0_4 n0_5 n0_7 n0_8 n0_9 n0_1 n0_3 n0_11 (own_nb hch lt_b2792 0 rfl) (own_nb hch lt_b2781 0 rfl) n2_3.symm n3_4 n3_5 n3_7 n3_8 n3_9 n1_3.symm n3_11 (own_nb hch lt_b2792 3 rfl) (own_nb hch lt_b2781 3 rfl) ⟨(0 : UInt64), (4607182418800017408 : UInt64), (4607182418800017408 : UInt64), (FP.i2d p3), (FP.i2d p3), (0 : UInt64), (4607182418800017408 : UInt64), (1 : Int32), ⟨⟨by decide, by decide⟩, ⟨(own_gq p4), rfl, (own_gqz p4)⟩, own_w0, own_w1, (1 : Int32), rfl, Or.inr (Or.inl ⟨rfl, ⟨by decide, by decide⟩, by decide, rfl, rfl, by decide, rfl⟩)⟩, ⟨⟨by decide, by decide⟩, ⟨(own_gp p4), rfl, (own_gpz p4)⟩, own_w1, (own_wi p3), (0 : Int32), rfl, Or.inl ⟨rfl, ⟨by decide, by decide⟩, by decide, rfl, rfl, by decide, by rw [hu]; decide +kernel⟩⟩, ⟨(0 : Int32), rfl, rfl, by decide⟩, ⟨_, rfl, own_wi _⟩, ⟨_, rfl, own_wi _⟩, ⟨rfl, own_wi p2⟩, ⟨rfl, rfl⟩, by decide +kernel, Or.inr ⟨rfl, rfl, rfl, rfl, rfl, rfl, rfl, rfl, rfl⟩, own_wi p3, own_elW p3, own_el1 p3⟩ rfl (by simp only [List.length_set, List.length_replicate])) hZ (own_wk hw 88 rfl) (own_wk hw 2 rfl) (by decide) (by decide)) q2805a q2805c (g := (mkF m 226 (own_loc127 p0 p1 p2 p3 p4 b2580 b2781) [(.ref b2781), (.ref b2792), (.ref b2580)])) rfl (by rw [hml]; rfl) (Steps.refl _) (argsL := [(.ref b2792), (.ref b2781)]) (rest := []) (lenOf pd_14 rfl) rfl (by show 2 * 0 + _ ≤ _; exact Nat.le_of_eq rfl) (D at_226) (fun _ _ => ⟨rfl, e2798, (by decide : 37 + 19 ≤ _), (by decide : 299 + 31 ≤ _)⟩)
      dsimp only [Pt.U, Pt.locs, Pt.cells, Pt.slots] at X2805 l2805 y2805 z2805 st2805 hQ2805
      subst l2805 y2805 z2805
      obtain ⟨ky2805, hh2805, iv2805, i02805, i12805, va2805, kv2805, xa2805, xb2805, xc2805, xd2805, xe2805, kz1_2805, kz2_2805, kz3_2805, kz4_2805, kz5_2805, rfl, N2805q, K2805, Ob2805, Vky2805, Vhh2805, Viv2805, Vi02805, Vi12805⟩ := hQ2805
      have N2805 := Fr.app N2798 N2805q
      have x2806 := (x2721.keep kq2799).keep K2805
      have x2807 := (x2722.keep kq2799 nin0).keep K2805 (ninS n0_11.symm (ninS n3_11.symm nin0))
      have x2808 := (o2720_1.keep kq2799 nin0).keep K2805 (ninS n0_1.symm (ninS n1_3 nin0))
      have x2809 := (o2720_2.keep kq2799 nin0).keep K2805 (ninS n0_2.symm (ninS n2_3 nin0))
      have x2810 := (o2720_4.keep kq2799 nin0).keep K2805 (ninS n0_4.symm (ninS n3_4.symm nin0))
      have x2811 := (o2720_5.keep kq2799 nin0).keep K2805 (ninS n0_5.symm (ninS n3_5.symm nin0))
      have x2812 := (o2720_6.keep kq2799 nin0).keep K2805 (ninS n0_6.symm (ninS n3_6.symm nin0))
      have x2813 := (o2720_7.keep kq2799 nin0).keep K2805 (ninS n0_7.symm (ninS n3_7.symm nin0))
      have x2814 := (o2720_8.keep kq2799 nin0).keep K2805 (ninS n0_8.symm (ninS n3_8.symm nin0))
      have x2815 := (o2720_9.keep kq2799 nin0).keep K2805 (ninS n0_9.symm (ninS n3_9.symm nin0))
      have x2816 := (o2720_10.keep kq2799 nin0).keep K2805 (ninS n0_10.symm (ninS n3_10.symm nin0))
      have x2817 := x2800.keep K2805
      have x2818 := x2801.keep K2805 (ninS (own_nb hch lt_b2781 0 rfl).symm (ninS (own_nb hch lt_b2781 3 rfl).symm nin0))
      have x2819 := x2802.keep K2805
      have x2820 := V2798.keep K2805 (ninS (own_nb hch lt_b2792 0 rfl).symm (ninS (own_nb hch lt_b2792 3 rfl).symm nin0))
      have sz2821 : n0 ≤ T2805.heap.size := Nat.le_trans sz2803 K2805.1
      obtain ⟨cq2822, kq2822, q2822a, q2822b, q2822c⟩ := isOf hZ rfl x2806
      obtain ⟨_, _, ⟨T2822, L2822, k2822, n2822⟩, -, X2822, ⟨Lc2822, hQ2822, l2822, y2822, z2822⟩, st2822⟩ := X2805.virtualBack hx (y := (⟨own_K, "duals", "()[D"⟩ : MethodName)) (z := (⟨own_K, "duals", "()[D"⟩ : MethodName)) hown (mvT hZ (own_wk hw 143 rfl)) (mvT hZ (own_wk hw 144 rfl)) (notFace_of_selects (args := #[]) (mvT hZ (own_wk hw 146 rfl))) (mvT hZ (own_wk hw 146 rfl)) (mvT hZ (own_wk hw 145 rfl)) (by decide) (backOf (W := 0) (rm17 l Z ag hw [] b2580 _ _ _ _ _ _ _ _ _ _ _ _ _ _ _ _ _ _ _ _ _ _ _ _ _ _ _ _ _ _ _ _ _ _ _ _ _ _ _ _ _ _ _ (FP.i2d p2) (own_gq p4) (own_gp p4) (FP.i2d p1) (own_dq p1 p2 p4) (FP.i2d p0) (own_dp p0 p2 p4) T2805.heap n0 sz2821 x2806 Ob2805 Vhh2805 x2808 x2809 Vky2805 Viv2805 Vi02805 Vi12805 rfl ⟨by decide, by decide⟩ rfl rfl (own_gqx p1 p2 p4) (own_gqy p1 p2 p4) (own_wdq p1 p2 p4) ⟨by decide, by decide⟩ rfl rfl (own_gpx p0 p2 p4) (own_gpy p0 p2 p4) (own_wdp p0 p2 p4) (own_wW p3) own_w1 own_w1 own_w0) hZ (own_wk hw 147 rfl) (own_wk hw 2 rfl) (by decide) (by decide)) q2822a q2822c (g := (mkF m 231 (own_loc127 p0 p1 p2 p3 p4 b2580 b2781) [(.ref b2580)])) rfl (by rw [hml]; rfl) (Steps.refl _) (argsL := []) (rest := []) (lenOf pd_3 rfl) rfl (by show 2 * 0 + _ ≤ _; exact Nat.le_of_eq rfl) (D at_231) (fun _ _ => ⟨rfl, rfl, (by decide : 56 + 1 ≤ _), (by decide : 330 + 2 ≤ _)⟩)
      dsimp only [Pt.U, Pt.locs, Pt.cells, Pt.slots] at X2822 l2822 y2822 z2822 st2822 hQ2822
      subst l2822 y2822 z2822
      obtain ⟨r2822, kr2822, rfl, N2822q, K2822, ge_r2822, gq_r2822, EA2822, V2822⟩ := hQ2822
      have N2822 := Fr.app N2805 N2822q
      have kq2823 := (Keep.refl T2805.heap []).trans K2822 all0
      have sz2824 : n0 ≤ T2822.heap.size := Nat.le_trans sz2821 K2822.1
      obtain ⟨cl2825, Ar2825, -, S2825, M2825, -, -⟩ := id V2822
      have ld2825 := X2822.arraylength hx Ar2825.1 (State.isArrayOf_alike hZ.alike Ar2825.2.1) (g := (mkF m 238 (own_loc128 p0 p1 p2 p3 p4 b2580 b2781 r2822) [(.ref r2822)])) rfl rfl (D at_238)
      have sg2827 : ∀ target, Steps p.tables e below (T2822.setTop (mkF m 260 (own_loc128 p0 p1 p2 p3 p4 b2580 b2781 r2822) [(.double (own_dp p0 p2 p4))])) target → Steps p.tables e below (T2822.setTop (mkF m 245 (own_loc128 p0 p1 p2 p3 p4 b2580 b2781 r2822) [])) target := by
        intro target kt
        show own_S p e below T2822 (mkF m 245 (own_loc128 p0 p1 p2 p3 p4 b2580 b2781 r2822) []) _
        refine XS.iload X2822.here hx rfl (D at_245) rfl ?_
        by_cases hc2826 : (own_b1 p4) = (0 : Int32)
        · show own_S p e below T2822 (mkF m 247 (own_loc128 p0 p1 p2 p3 p4 b2580 b2781 r2822) [(.int (own_b1 p4))]) _
          refine XS.ifYes X2822.here hx rfl (pc0 := 247) (pc' := 258) rfl (D at_247) rfl ((if0 _ _).trans (teq hc2826).1) (by decide) (by decide) (XS.iloadN X2822.here hx rfl (D at_258) rfl (XS.i2dS X2822.here hx rfl (D at_259) rfl rfl ?_))
          show own_S p e below T2822 (mkF m 260 (own_loc128 p0 p1 p2 p3 p4 b2580 b2781 r2822) [(.double (FP.i2d p0))]) _
          have kt := own_cast (P := fun z => Steps p.tables e below (T2822.setTop (mkF m 260 (own_loc128 p0 p1 p2 p3 p4 b2580 b2781 r2822) [(.double z)])) target) (show (own_dp p0 p2 p4) = (FP.i2d p0) from (by unfold own_dp; rw [if_pos hc2826])) kt
          exact kt
        · show own_S p e below T2822 (mkF m 247 (own_loc128 p0 p1 p2 p3 p4 b2580 b2781 r2822) [(.int (own_b1 p4))]) _
          refine XS.ifNo X2822.here hx rfl (D at_247) rfl ((if0 _ _).trans (feq hc2826).1) (XS.iloadN X2822.here hx rfl (D at_250) rfl (XS.i2dS X2822.here hx rfl (D at_251) rfl rfl (XS.iloadN X2822.here hx rfl (D at_252) rfl (XS.i2dS X2822.here hx rfl (D at_253) rfl rfl (XS.dsubS X2822.here hx rfl (D at_254) rfl (own_wsub _ _).nn rfl (XS.goto X2822.here hx rfl (pc0 := 255) (pc' := 260) rfl (D at_255) (by decide) (by decide) ?_))))))
          show own_S p e below T2822 (mkF m 260 (own_loc128 p0 p1 p2 p3 p4 b2580 b2781 r2822) [(.double (FP.dsub (FP.i2d p0) (FP.i2d p2)))]) _
          have kt := own_cast (P := fun z => Steps p.tables e below (T2822.setTop (mkF m 260 (own_loc128 p0 p1 p2 p3 p4 b2580 b2781 r2822) [(.double z)])) target) (show (own_dp p0 p2 p4) = (FP.dsub (FP.i2d p0) (FP.i2d p2)) from (by unfold own_dp; rw [if_neg hc2826])) kt
          exact kt
      have sg2829 : ∀ target, Steps p.tables e below (T2822.setTop (mkF m 277 (own_loc129 p0 p1 p2 p3 p4 b2580 b2781 r2822) [(.double (own_dq p1 p2 p4))])) target → Steps p.tables e below (T2822.setTop (mkF m 262 (own_loc129 p0 p1 p2 p3 p4 b2580 b2781 r2822) [])) target := by
        intro target kt
        show own_S p e below T2822 (mkF m 262 (own_loc129 p0 p1 p2 p3 p4 b2580 b2781 r2822) []) _
        refine XS.iload X2822.here hx rfl (D at_262) rfl ?_
        by_cases hc2828 : (own_b2 p4) = (0 : Int32)
        · show own_S p e below T2822 (mkF m 264 (own_loc129 p0 p1 p2 p3 p4 b2580 b2781 r2822) [(.int (own_b2 p4))]) _
          refine XS.ifYes X2822.here hx rfl (pc0 := 264) (pc' := 275) rfl (D at_264) rfl ((if0 _ _).trans (teq hc2828).1) (by decide) (by decide) (XS.iloadN X2822.here hx rfl (D at_275) rfl (XS.i2dS X2822.here hx rfl (D at_276) rfl rfl ?_))
          show own_S p e below T2822 (mkF m 277 (own_loc129 p0 p1 p2 p3 p4 b2580 b2781 r2822) [(.double (FP.i2d p1))]) _
          have kt := own_cast (P := fun z => Steps p.tables e below (T2822.setTop (mkF m 277 (own_loc129 p0 p1 p2 p3 p4 b2580 b2781 r2822) [(.double z)])) target) (show (own_dq p1 p2 p4) = (FP.i2d p1) from (by unfold own_dq; rw [if_pos hc2828])) kt
          exact kt
        · show own_S p e below T2822 (mkF m 264 (own_loc129 p0 p1 p2 p3 p4 b2580 b2781 r2822) [(.int (own_b2 p4))]) _
          refine XS.ifNo X2822.here hx rfl (D at_264) rfl ((if0 _ _).trans (feq hc2828).1) (XS.iloadN X2822.here hx rfl (D at_267) rfl (XS.i2dS X2822.here hx rfl (D at_268) rfl rfl (XS.iloadN X2822.here hx rfl (D at_269) rfl (XS.i2dS X2822.here hx rfl (D at_270) rfl rfl (XS.dsubS X2822.here hx rfl (D at_271) rfl (own_wsub _ _).nn rfl (XS.goto X2822.here hx rfl (pc0 := 272) (pc' := 277) rfl (D at_272) (by decide) (by decide) ?_))))))
          show own_S p e below T2822 (mkF m 277 (own_loc129 p0 p1 p2 p3 p4 b2580 b2781 r2822) [(.double (FP.dsub (FP.i2d p1) (FP.i2d p2)))]) _
          have kt := own_cast (P := fun z => Steps p.tables e below (T2822.setTop (mkF m 277 (own_loc129 p0 p1 p2 p3 p4 b2580 b2781 r2822) [(.double z)])) target) (show (own_dq p1 p2 p4) = (FP.dsub (FP.i2d p1) (FP.i2d p2)) from (by unfold own_dq; rw [if_neg hc2828])) kt
          exact kt
      obtain ⟨fs, hr, hrun, hended, hW, hsame⟩ := X2822.leave (v := some (.int (1 : Int32))) (fun h => by rw [Bd.returns] at h; cases h)
      refine ⟨_, _, pre0 _ ?_, hrun, hended, _, _, rfl, ?_, ⟨_, rfl⟩, hW, hsame.mono (by decide) (by decide)⟩
      · show own_S p e below s₁ (mkF m 0 (own_loc112 p0 p1 p2 p3 p4) []) _
        refine cp2804 _ (st2805.trans (XS.aload X2805.here hx rfl (D at_229) rfl rfl (st2822.trans (XS.astore X2822.here hx rfl (D at_234) rfl rfl (l' := (own_loc128 p0 p1 p2 p3 p4 b2580 b2781 r2822)) rfl (XS.aload X2822.here hx rfl (D at_236) rfl rfl (ld2825 _ ?_))))))
        rw [len_of S2825 M2825]
        show own_S p e below T2822 (mkF m 239 (own_loc128 p0 p1 p2 p3 p4 b2580 b2781 r2822) [.int 2]) _
        refine XS.iconst X2822.here hx rfl (D at_239) (XS.icmpYes X2822.here hx rfl (pc0 := 240) (pc' := 245) rfl (D at_240) rfl (teq (by decide : (2 : Int32) = (2 : Int32))).1 (by decide) (by decide) (sg2827 _ (XS.dstore X2822.here hx rfl (D at_260) rfl (l' := (own_loc129 p0 p1 p2 p3 p4 b2580 b2781 r2822)) rfl (sg2829 _ (XS.dstore X2822.here hx rfl (D at_277) rfl (l' := (own_loc130 p0 p1 p2 p3 p4 b2580 b2781 r2822)) rfl (XS.dload X2822.here hx rfl (D at_279) rfl (XS.dload X2822.here hx rfl (D at_281) rfl (XS.iloadN X2822.here hx rfl (D at_283) rfl (XS.i2dS X2822.here hx rfl (D at_284) rfl rfl ?_)))))))))
        refine XS.dnegS X2822.here hx rfl (D at_285) rfl rfl (XS.dmulS X2822.here hx rfl (D at_286) rfl (own_nno (FP.Core.dmul_out (own_wdq p1 p2 p4).fin (own_nf (own_wi p3)))) rfl (XS.daddS X2822.here hx rfl (D at_287) rfl (own_nadd (own_wdp p0 p2 p4) (own_nno (FP.Core.dmul_out (own_wdq p1 p2 p4).fin (own_nf (own_wi p3))))) rfl (XS.dstore X2822.here hx rfl (D at_288) rfl (l' := (own_loc131 p0 p1 p2 p3 p4 b2580 b2781 r2822)) rfl ?_)))
        show own_S p e below T2822 (mkF m 290 (own_loc131 p0 p1 p2 p3 p4 b2580 b2781 r2822) []) _
        refine XS.dload X2822.here hx rfl (D at_290) rfl (XS.dstore X2822.here hx rfl (D at_292) rfl (l' := (own_loc132 p0 p1 p2 p3 p4 b2580 b2781 r2822)) rfl (XS.aload X2822.here hx rfl (D at_294) rfl rfl (XS.iconst X2822.here hx rfl (D at_296) (own_ldD X2822 hx hZ rfl V2822 (j := (0 : Int32)) ⟨(by decide), (by decide)⟩ (v := (.double (own_st (own_st (0 : UInt64) (own_dq p1 p2 p4) (own_W p3)) (own_dp p0 p2 p4) (4607182418800017408 : UInt64)))) rfl rfl rfl (D at_297) (XS.dload X2822.here hx rfl (D at_298) rfl (XS.dcmpS X2822.here hx rfl (D at_300) rfl rfl (XS.ifNo X2822.here hx rfl (D at_301) rfl ((if0 _ _).trans (teq (show (cmpValue (FP.dcmp (own_st (own_st (0 : UInt64) (own_dq p1 p2 p4) (own_W p3)) (own_dp p0 p2 p4) (4607182418800017408 : UInt64)) (FP.dadd (own_dp p0 p2 p4) (FP.dmul (own_dq p1 p2 p4) (FP.dneg (FP.i2d p3))))) .l) = (0 : Int32) from Jvm.RoadKit.dcmpV_eq (own_yB (own_wdp p0 p2 p4) (own_wdq p1 p2 p4) p3) (own_nst (own_nst own_w0.nn (own_wdq p1 p2 p4) (own_wW p3)) (own_wdp p0 p2 p4) own_w1) _)).2) (XS.aload X2822.here hx rfl (D at_304) rfl rfl (XS.iconst X2822.here hx rfl (D at_306) ?_)))))))))
        refine own_ldD X2822 hx hZ rfl V2822 (j := (1 : Int32)) ⟨(by decide), (by decide)⟩ (v := (.double (own_st (own_st (0 : UInt64) (own_dq p1 p2 p4) (4607182418800017408 : UInt64)) (own_dp p0 p2 p4) (0 : UInt64)))) rfl rfl rfl (D at_307) (XS.dload X2822.here hx rfl (D at_308) rfl (XS.dcmpS X2822.here hx rfl (D at_310) rfl rfl (XS.ifNo X2822.here hx rfl (D at_311) rfl ((if0 _ _).trans (teq (show (cmpValue (FP.dcmp (own_st (own_st (0 : UInt64) (own_dq p1 p2 p4) (4607182418800017408 : UInt64)) (own_dp p0 p2 p4) (0 : UInt64)) (own_dq p1 p2 p4)) .l) = (0 : Int32) from Jvm.RoadKit.dcmpV_eq (own_yD (own_wdp p0 p2 p4) (own_wdq p1 p2 p4)) (own_nst (own_nst own_w0.nn (own_wdq p1 p2 p4) own_w1) (own_wdp p0 p2 p4) own_w0) _)).2) ?_)))
        show own_S p e below T2822 (mkF m 314 (own_loc132 p0 p1 p2 p3 p4 b2580 b2781 r2822) []) _
        refine XS.iconst X2822.here hx rfl (D at_314) (XS.goto X2822.here hx rfl (pc0 := 315) (pc' := 319) rfl (D at_315) (by decide) (by decide) ?_)
        show own_S p e below T2822 (mkF m 319 (own_loc132 p0 p1 p2 p3 p4 b2580 b2781 r2822) [.int 1]) _
        exact retN X2822 hx (t := .boolean) Bd.returns (by simp) (D at_319) hr
      · exact ⟨rfl, N2822⟩
  · obtain ⟨cq2832, kq2832, q2832a, q2832b, q2832c⟩ := isOf hZ e2644 (x2610.keep kq2645)
    obtain ⟨_, _, ⟨T2832, L2832, k2832, n2832⟩, -, X2832, ⟨Lc2832, hQ2832, l2832, y2832, z2832⟩, st2832⟩ := X2644.virtualBack hx (y := (⟨own_K, "addVariable", "(DI[I[D)I"⟩ : MethodName)) (z := (⟨own_K, "addVariable", "(DI[I[D)I"⟩ : MethodName)) hown (mvT hZ (own_wk hw 63 rfl)) (mvT hZ (own_wk hw 64 rfl)) (notFace_of_selects (args := #[]) (mvT hZ (own_wk hw 66 rfl))) (mvT hZ (own_wk hw 66 rfl)) (mvT hZ (own_wk hw 65 rfl)) (by decide) (backOf (W := 0) (rm4_2 l Z ag hw [] b2580 (FP.i2d p0) (own_gp p4) b2621 b2632 _ _ _ _ _ _ _ _ _ _ _ _ _ _ _ _ _ _ _ _ _ _ _ _ _ _ _ _ _ _ _ _ _ _ _ _ _ _ _ _ _ _ _ _ _ _ _ _ _ h2644 n0 sz2649 (x2610.keep kq2645) (o2609_0.keep kq2645 nin0) (o2609_1.keep kq2645 nin0) (o2609_2.keep kq2645 nin0) (o2609_3.keep kq2645 nin0) (o2609_4.keep kq2645 nin0) (o2609_5.keep kq2645 nin0) (o2609_6.keep kq2645 nin0) (o2609_7.keep kq2645 nin0) (o2609_8.keep kq2645 nin0) x2647 V2644 ge_b2580 ge_u0 ge_u1 ge_u2 ge_u3 ge_u4 ge_u5 ge_u6 ge_u7 n0_1 n0_2 n0_3 n0_4 n0_5 n0_6 n0_7 n0_8 (own_nb hch lt_b2621 0 rfl) (own_nb hch lt_b2632 0 rfl) n1_2 n1_3 n1_4 n1_5 n1_6 n1_7 n1_8 (own_nb hch lt_b2621 1 rfl) (own_nb hch lt_b2632 1 rfl) n2_3 n2_4 n2_5 n2_6 n2_7 n2_8 (own_nb hch lt_b2621 2 rfl) (own_nb hch lt_b2632 2 rfl) n3_4 n3_5 n3_6 n3_7 n3_8 (own_nb hch lt_b2621 3 rfl) (own_nb hch lt_b2632 3 rfl) n4_5 n4_6 n4_7 n4_8 (own_nb hch lt_b2621 4 rfl) (own_nb hch lt_b2632 4 rfl) n5_6 n5_7 n5_8 (own_nb hch lt_b2621 5 rfl) (own_nb hch lt_b2632 5 rfl) n6_7 n6_8 (own_nb hch lt_b2621 6 rfl) (own_nb hch lt_b2632 6 rfl) n7_8 (own_nb hch lt_b2621 7 rfl) (own_nb hch lt_b2632 7 rfl) (own_nb hch lt_b2621 8 rfl) (own_nb hch lt_b2632 8 rfl) (by decide) rfl (by simp <;> decide) (by simp <;> decide) (by simp <;> decide) (by simp <;> decide) (by simp <;> decide) (by simp <;> decide) (by decide) (by decide) (by simp <;> decide) (by simp <;> decide) (by simp <;> decide) (by simp <;> decide) own_one_nz (own_cu hu)) hZ (own_wk hw 67 rfl) (own_wk hw 2 rfl) (by decide) (by decide)) q2832a q2832c (g := (mkF m 113 (own_loc118 p0 p1 p2 p3 p4 b2580) [(.ref b2632), (.ref b2621), (.int (own_gp p4)), (.double (FP.i2d p0)), (.ref b2580)])) rfl (by rw [hml]; rfl) (Steps.refl _) (argsL := [(.double (FP.i2d p0)), (.int (own_gp p4)), (.ref b2621), (.ref b2632)]) (rest := []) (lenOf pd_5 rfl) rfl (by show 2 * 0 + _ ≤ _; exact Nat.le_of_eq rfl) (D at_113) (fun _ _ => ⟨rfl, e2644, (by decide : 25 + 0 ≤ _), (by decide : 290 + 0 ≤ _)⟩)
    dsimp only [Pt.U, Pt.locs, Pt.cells, Pt.slots] at X2832 l2832 y2832 z2832 st2832 hQ2832
    subst l2832 y2832 z2832
    obtain ⟨rfl, N2832q, K2832, o2832_0, o2832_1, o2832_2, o2832_3, o2832_4, o2832_5, o2832_6, o2832_7, o2832_8⟩ := hQ2832
    have N2832 := Fr.app N2644 N2832q
    have x2833 := (x2610.keep kq2645).keep K2832
    have x2834 := (x2611.keep kq2645 nin0).keep K2832 (ninS n0_9.symm (ninS n1_9.symm (ninS n2_9.symm (ninS n3_9.symm (ninS n4_9.symm (ninS n5_9.symm (ninS n6_9.symm (ninS n7_9.symm (ninS n8_9.symm nin0)))))))))
    have x2835 := (x2612.keep kq2645 nin0).keep K2832 (ninS n0_10.symm (ninS n1_10.symm (ninS n2_10.symm (ninS n3_10.symm (ninS n4_10.symm (ninS n5_10.symm (ninS n6_10.symm (ninS n7_10.symm (ninS n8_10.symm nin0)))))))))
    have x2836 := (x2613.keep kq2645 nin0).keep K2832 (ninS n0_11.symm (ninS n1_11.symm (ninS n2_11.symm (ninS n3_11.symm (ninS n4_11.symm (ninS n5_11.symm (ninS n6_11.symm (ninS n7_11.symm (ninS n8_11.symm nin0)))))))))
    have x2837 := x2646.keep K2832
    have x2838 := x2647.keep K2832 (ninS (own_nb hch lt_b2621 0 rfl).symm (ninS (own_nb hch lt_b2621 1 rfl).symm (ninS (own_nb hch lt_b2621 2 rfl).symm (ninS (own_nb hch lt_b2621 3 rfl).symm (ninS (own_nb hch lt_b2621 4 rfl).symm (ninS (own_nb hch lt_b2621 5 rfl).symm (ninS (own_nb hch lt_b2621 6 rfl).symm (ninS (own_nb hch lt_b2621 7 rfl).symm (ninS (own_nb hch lt_b2621 8 rfl).symm nin0)))))))))
    have x2839 := x2648.keep K2832
    have x2840 := V2644.keep K2832 (ninS (own_nb hch lt_b2632 0 rfl).symm (ninS (own_nb hch lt_b2632 1 rfl).symm (ninS (own_nb hch lt_b2632 2 rfl).symm (ninS (own_nb hch lt_b2632 3 rfl).symm (ninS (own_nb hch lt_b2632 4 rfl).symm (ninS (own_nb hch lt_b2632 5 rfl).symm (ninS (own_nb hch lt_b2632 6 rfl).symm (ninS (own_nb hch lt_b2632 7 rfl).symm (ninS (own_nb hch lt_b2632 8 rfl).symm nin0)))))))))
    have sz2841 : n0 ≤ T2832.heap.size := Nat.le_trans sz2649 K2832.1
    have sg2843 : ∀ target, Steps p.tables e below (T2832.setTop (mkF m 133 (own_loc119 p0 p1 p2 p3 p4 b2580) [(.int (own_gq p4)), (.double (FP.i2d p1)), (.ref b2580)])) target → Steps p.tables e below (T2832.setTop (mkF m 122 (own_loc119 p0 p1 p2 p3 p4 b2580) [(.double (FP.i2d p1)), (.ref b2580)])) target := by
      intro target kt
      show own_S p e below T2832 (mkF m 122 (own_loc119 p0 p1 p2 p3 p4 b2580) [(.double (FP.i2d p1)), (.ref b2580)]) _
      refine XS.iload X2832.here hx rfl (D at_122) rfl ?_
      by_cases hc2842 : (own_b2 p4) = (0 : Int32)
      · show own_S p e below T2832 (mkF m 124 (own_loc119 p0 p1 p2 p3 p4 b2580) [(.int (own_b2 p4)), (.double (FP.i2d p1)), (.ref b2580)]) _
        refine XS.ifYes X2832.here hx rfl (pc0 := 124) (pc' := 132) rfl (D at_124) rfl ((if0 _ _).trans (teq hc2842).1) (by decide) (by decide) (XS.iconst X2832.here hx rfl (D at_132) ?_)
        show own_S p e below T2832 (mkF m 133 (own_loc119 p0 p1 p2 p3 p4 b2580) [.int (-1), (.double (FP.i2d p1)), (.ref b2580)]) _
        have kt := own_cast (P := fun z => Steps p.tables e below (T2832.setTop (mkF m 133 (own_loc119 p0 p1 p2 p3 p4 b2580) [(.int z), (.double (FP.i2d p1)), (.ref b2580)])) target) (show (own_gq p4) = (-1 : Int32) from (by unfold own_gq; rw [if_pos hc2842])) kt
        exact kt
      · show own_S p e below T2832 (mkF m 124 (own_loc119 p0 p1 p2 p3 p4 b2580) [(.int (own_b2 p4)), (.double (FP.i2d p1)), (.ref b2580)]) _
        refine XS.ifNo X2832.here hx rfl (D at_124) rfl ((if0 _ _).trans (feq hc2842).1) (XS.iload X2832.here hx rfl (D at_127) rfl (XS.goto X2832.here hx rfl (pc0 := 129) (pc' := 133) rfl (D at_129) (by decide) (by decide) ?_))
        show own_S p e below T2832 (mkF m 133 (own_loc119 p0 p1 p2 p3 p4 b2580) [.int 0, (.double (FP.i2d p1)), (.ref b2580)]) _
        have kt := own_cast (P := fun z => Steps p.tables e below (T2832.setTop (mkF m 133 (own_loc119 p0 p1 p2 p3 p4 b2580) [(.int z), (.double (FP.i2d p1)), (.ref b2580)])) target) (show (own_gq p4) = (0 : Int32) from (by unfold own_gq; rw [if_neg hc2842])) kt
        exact kt
    obtain ⟨T2844, h2844, k2844, X2844, e2844, E2844, A2844, EA2844, st2844⟩ := newPE X2832 hx hZ (own_wk hw 12 rfl) rfl (g := (mkF m 134 (own_loc119 p0 p1 p2 p3 p4 b2580) [.int 1, (.int (own_gq p4)), (.double (FP.i2d p1)), (.ref b2580)])) rfl (D at_134) rfl (by decide) (cap := 1) (by decide) (by decide) (by decide) (by decide) (ad := "[I") (by decide)
    obtain ⟨b2844, g2844⟩ : ∃ z, z = T2832.heap.size := ⟨_, rfl⟩
    have gq_b2844 : T2832.heap.size ≤ b2844 := Nat.le_trans (Keep.refl T2832.heap []).1 (Nat.le_of_eq g2844.symm)
    have lt_b2844 : u10 < b2844 := Nat.lt_of_lt_of_le x2836.lt (Nat.le_of_eq g2844.symm)
    have ge_b2844 : n0 ≤ b2844 := Nat.le_trans sz2841 (Nat.le_of_eq g2844.symm)
    rw [← g2844] at A2844 st2844 EA2844
    have kq2845 := (Keep.refl T2832.heap []).ext E2844
    have sz2846 : n0 ≤ h2844.size := Nat.le_trans sz2841 E2844.1
    have V2844 : Arv Z h2844 b2844 k2844 .int (1 : Int32) [(.int (0 : Int32))] (.int (0 : Int32)) := (Arv.new A2844 (by decide)).pad (pad_rep [] (.int (0 : Int32)) 1)
    obtain ⟨T2847, h2847, X2847, e2847, W2847, V2847, st2847⟩ := own_stI X2844 hx hZ e2844 V2844 (j := (0 : Int32)) ⟨(by decide), (by decide)⟩ 0 rfl (Nat.le_of_ble_eq_true rfl) (vs' := [(.int (1 : Int32))]) rfl (g := (mkF m 139 (own_loc119 p0 p1 p2 p3 p4 b2580) [.int 1, .int 0, (.ref b2844), (.ref b2844), (.int (own_gq p4)), (.double (FP.i2d p1)), (.ref b2580)])) rfl rfl (D at_139)
    have kq2848 := kq2845.wr W2847 (Or.inr gq_b2844)
    have x2849 := EA2844.wr W2847
    have sz2850 : n0 ≤ h2847.size := Nat.le_trans sz2846 (Keep.of_wr W2847).1
    have N2847 := Fr.snoc X2847 N2832 ge_b2844
    obtain ⟨T2851, h2851, k2851, X2851, e2851, E2851, A2851, EA2851, st2851⟩ := newPE X2847 hx hZ (own_wk hw 9 rfl) e2847 (g := (mkF m 141 (own_loc119 p0 p1 p2 p3 p4 b2580) [.int 1, (.ref b2844), (.int (own_gq p4)), (.double (FP.i2d p1)), (.ref b2580)])) rfl (D at_141) rfl (by decide) (cap := 1) (by decide) (by decide) (by decide) (by decide) (ad := "[D") (by decide)
    obtain ⟨b2851, g2851⟩ : ∃ z, z = h2847.size := ⟨_, rfl⟩
    have gq_b2851 : T2832.heap.size ≤ b2851 := Nat.le_trans kq2848.1 (Nat.le_of_eq g2851.symm)
    have lt_b2851 : u10 < b2851 := Nat.lt_of_lt_of_le (x2836.keep kq2848 nin0).lt (Nat.le_of_eq g2851.symm)
    have ne2852 : b2844 ≠ b2851 := Nat.ne_of_lt (Nat.lt_of_lt_of_le x2849.lt (Nat.le_of_eq g2851.symm))
    have ge_b2851 : n0 ≤ b2851 := Nat.le_trans sz2850 (Nat.le_of_eq g2851.symm)
    rw [← g2851] at A2851 st2851 EA2851
    have kq2853 := kq2848.ext E2851
    have x2854 := x2849.ext E2851
    have x2855 := V2847.ext E2851
    have sz2856 : n0 ≤ h2851.size := Nat.le_trans sz2850 E2851.1
    have V2851 : Arv Z h2851 b2851 k2851 .double (1 : Int32) [(.double (0 : UInt64))] (.double (0 : UInt64)) := (Arv.new A2851 (by decide)).pad (pad_rep [] (.double (0 : UInt64)) 1)
    obtain ⟨T2857, h2857, X2857, e2857, W2857, V2857, st2857⟩ := own_stD X2851 hx hZ e2851 V2851 (j := (0 : Int32)) ⟨(by decide), (by decide)⟩ 0 rfl (Nat.le_of_ble_eq_true rfl) (vs' := [(.double (4607182418800017408 : UInt64))]) rfl (g := (mkF m 146 (own_loc119 p0 p1 p2 p3 p4 b2580) [(.double (4607182418800017408 : UInt64)), .int 0, (.ref b2851), (.ref b2851), (.ref b2844), (.int (own_gq p4)), (.double (FP.i2d p1)), (.ref b2580)])) rfl rfl (D at_146)
    have kq2858 := kq2853.wr W2857 (Or.inr gq_b2851)
    have x2859 := x2854.wr W2857
    have x2860 := x2855.other W2857 ne2852
    have x2861 := EA2851.wr W2857
    have sz2862 : n0 ≤ h2857.size := Nat.le_trans sz2856 (Keep.of_wr W2857).1
    have N2857 := Fr.snoc X2857 N2847 ge_b2851
    have cp2863 : ∀ target, own_S p e below T2857 (mkF m 147 (own_loc119 p0 p1 p2 p3 p4 b2580) [(.ref b2851), (.ref b2844), (.int (own_gq p4)), (.double (FP.i2d p1)), (.ref b2580)]) target → own_S p e below s₁ (mkF m 0 (own_loc112 p0 p1 p2 p3 p4) []) target := by
      intro target kt
      show own_S p e below s₁ (mkF m 0 (own_loc112 p0 p1 p2 p3 p4) []) _
      refine cp2650 _ (st2832.trans (XS.istore X2832.here hx rfl (D at_116) rfl (l' := (own_loc119 p0 p1 p2 p3 p4 b2580)) rfl (XS.aload X2832.here hx rfl (D at_118) rfl rfl (XS.iloadN X2832.here hx rfl (D at_120) rfl (XS.i2dS X2832.here hx rfl (D at_121) rfl rfl (sg2843 _ (XS.iconst X2832.here hx rfl (D at_133) (st2844 _ (XS.dup X2844.here hx rfl (D at_136) rfl rfl ?_)))))))))
      refine XS.iconst X2844.here hx rfl (D at_137) (XS.iconst X2844.here hx rfl (D at_138) (st2847 _ (XS.iconst X2847.here hx rfl (D at_140) ?_)))
      show own_S p e below T2847 (mkF m 141 (own_loc119 p0 p1 p2 p3 p4 b2580) [.int 1, (.ref b2844), (.int (own_gq p4)), (.double (FP.i2d p1)), (.ref b2580)]) _
      refine st2851 _ (XS.dup X2851.here hx rfl (D at_143) rfl rfl (XS.iconst X2851.here hx rfl (D at_144) (XS.dconst1 X2851.here hx rfl (D at_145) rfl (st2857 _ ?_))))
      exact kt
    obtain ⟨cq2864, kq2864, q2864a, q2864b, q2864c⟩ := isOf hZ e2857 (x2833.keep kq2858)
    obtain ⟨_, _, ⟨T2864, L2864, k2864, n2864⟩, -, X2864, ⟨Lc2864, hQ2864, l2864, y2864, z2864⟩, st2864⟩ := X2857.virtualBack hx (y := (⟨own_K, "addVariable", "(DI[I[D)I"⟩ : MethodName)) (z := (⟨own_K, "addVariable", "(DI[I[D)I"⟩ : MethodName)) hown (mvT hZ (own_wk hw 63 rfl)) (mvT hZ (own_wk hw 64 rfl)) (notFace_of_selects (args := #[]) (mvT hZ (own_wk hw 66 rfl))) (mvT hZ (own_wk hw 66 rfl)) (mvT hZ (own_wk hw 65 rfl)) (by decide) (backOf (W := 0) (rm4_1 l Z ag hw [] b2580 (FP.i2d p1) (own_gq p4) b2844 b2851 _ _ _ _ _ _ _ _ _ _ _ _ _ _ _ _ _ _ _ _ _ _ _ _ _ _ _ _ _ _ _ _ _ _ _ _ _ _ _ _ _ _ _ _ _ _ _ h2857 n0 sz2862 (x2833.keep kq2858) (o2832_0.keep kq2858 nin0) (o2832_1.keep kq2858 nin0) (o2832_2.keep kq2858 nin0) (o2832_3.keep kq2858 nin0) (o2832_4.keep kq2858 nin0) (o2832_5.keep kq2858 nin0) (o2832_6.keep kq2858 nin0) (o2832_7.keep kq2858 nin0) (o2832_8.keep kq2858 nin0) x2860 V2857 ge_b2580 ge_u0 ge_u1 ge_u2 ge_u3 ge_u4 ge_u5 ge_u6 ge_u7 n0_1 n0_2 n0_3 n0_4 n0_5 n0_6 n0_7 n0_8 (own_nb hch lt_b2844 0 rfl) (own_nb hch lt_b2851 0 rfl) n1_2 n1_3 n1_4 n1_5 n1_6 n1_7 n1_8 (own_nb hch lt_b2844 1 rfl) (own_nb hch lt_b2851 1 rfl) n2_3 n2_4 n2_5 n2_6 n2_7 n2_8 (own_nb hch lt_b2844 2 rfl) (own_nb hch lt_b2851 2 rfl) n3_4 n3_5 n3_6 n3_7 n3_8 (own_nb hch lt_b2844 3 rfl) (own_nb hch lt_b2851 3 rfl) n4_5 n4_6 n4_7 n4_8 (own_nb hch lt_b2844 4 rfl) (own_nb hch lt_b2851 4 rfl) n5_6 n5_7 n5_8 (own_nb hch lt_b2844 5 rfl) (own_nb hch lt_b2851 5 rfl) n6_7 n6_8 (own_nb hch lt_b2844 6 rfl) (own_nb hch lt_b2851 6 rfl) n7_8 (own_nb hch lt_b2844 7 rfl) (own_nb hch lt_b2851 7 rfl) (own_nb hch lt_b2844 8 rfl) (own_nb hch lt_b2851 8 rfl) (by decide) rfl (by simp <;> decide) (by simp <;> decide) (by simp <;> decide) (by simp <;> decide) (by simp <;> decide) (by simp <;> decide) (by decide) (by simp <;> decide) (by simp <;> decide) own_one_nz) hZ (own_wk hw 67 rfl) (own_wk hw 2 rfl) (by decide) (by decide)) q2864a q2864c (g := (mkF m 147 (own_loc119 p0 p1 p2 p3 p4 b2580) [(.ref b2851), (.ref b2844), (.int (own_gq p4)), (.double (FP.i2d p1)), (.ref b2580)])) rfl (by rw [hml]; rfl) (Steps.refl _) (argsL := [(.double (FP.i2d p1)), (.int (own_gq p4)), (.ref b2844), (.ref b2851)]) (rest := []) (lenOf pd_5 rfl) rfl (by show 2 * 0 + _ ≤ _; exact Nat.le_of_eq rfl) (D at_147) (fun _ _ => ⟨rfl, e2857, (by decide : 27 + 0 ≤ _), (by decide : 292 + 0 ≤ _)⟩)
    dsimp only [Pt.U, Pt.locs, Pt.cells, Pt.slots] at X2864 l2864 y2864 z2864 st2864 hQ2864
    subst l2864 y2864 z2864
    obtain ⟨rfl, N2864q, K2864, o2864_0, o2864_1, o2864_2, o2864_3, o2864_4, o2864_5, o2864_6, o2864_7, o2864_8⟩ := hQ2864
    have N2864 := Fr.app N2857 N2864q
    have x2865 := (x2833.keep kq2858).keep K2864
    have x2866 := (x2834.keep kq2858 nin0).keep K2864 (ninS n0_9.symm (ninS n1_9.symm (ninS n2_9.symm (ninS n3_9.symm (ninS n4_9.symm (ninS n5_9.symm (ninS n6_9.symm (ninS n7_9.symm (ninS n8_9.symm nin0)))))))))
    have x2867 := (x2835.keep kq2858 nin0).keep K2864 (ninS n0_10.symm (ninS n1_10.symm (ninS n2_10.symm (ninS n3_10.symm (ninS n4_10.symm (ninS n5_10.symm (ninS n6_10.symm (ninS n7_10.symm (ninS n8_10.symm nin0)))))))))
    have x2868 := (x2836.keep kq2858 nin0).keep K2864 (ninS n0_11.symm (ninS n1_11.symm (ninS n2_11.symm (ninS n3_11.symm (ninS n4_11.symm (ninS n5_11.symm (ninS n6_11.symm (ninS n7_11.symm (ninS n8_11.symm nin0)))))))))
    have x2869 := x2859.keep K2864
    have x2870 := x2860.keep K2864 (ninS (own_nb hch lt_b2844 0 rfl).symm (ninS (own_nb hch lt_b2844 1 rfl).symm (ninS (own_nb hch lt_b2844 2 rfl).symm (ninS (own_nb hch lt_b2844 3 rfl).symm (ninS (own_nb hch lt_b2844 4 rfl).symm (ninS (own_nb hch lt_b2844 5 rfl).symm (ninS (own_nb hch lt_b2844 6 rfl).symm (ninS (own_nb hch lt_b2844 7 rfl).symm (ninS (own_nb hch lt_b2844 8 rfl).symm nin0)))))))))
    have x2871 := x2861.keep K2864
    have x2872 := V2857.keep K2864 (ninS (own_nb hch lt_b2851 0 rfl).symm (ninS (own_nb hch lt_b2851 1 rfl).symm (ninS (own_nb hch lt_b2851 2 rfl).symm (ninS (own_nb hch lt_b2851 3 rfl).symm (ninS (own_nb hch lt_b2851 4 rfl).symm (ninS (own_nb hch lt_b2851 5 rfl).symm (ninS (own_nb hch lt_b2851 6 rfl).symm (ninS (own_nb hch lt_b2851 7 rfl).symm (ninS (own_nb hch lt_b2851 8 rfl).symm nin0)))))))))
    have sz2873 : n0 ≤ T2864.heap.size := Nat.le_trans sz2862 K2864.1
    obtain ⟨T2874, h2874, k2874, X2874, e2874, E2874, A2874, EA2874, st2874⟩ := newPE X2864 hx hZ (own_wk hw 12 rfl) rfl (g := (mkF m 156 (own_loc120 p0 p1 p2 p3 p4 b2580) [.int 0, (.double (0 : UInt64)), (.ref b2580)])) rfl (D at_156) rfl (by decide) (cap := 0) (by decide) (by decide) (by decide) (by decide) (ad := "[I") (by decide)
    obtain ⟨b2874, g2874⟩ : ∃ z, z = T2864.heap.size := ⟨_, rfl⟩
    have gq_b2874 : T2864.heap.size ≤ b2874 := Nat.le_trans (Keep.refl T2864.heap []).1 (Nat.le_of_eq g2874.symm)
    have lt_b2874 : u10 < b2874 := Nat.lt_of_lt_of_le x2868.lt (Nat.le_of_eq g2874.symm)
    have ge_b2874 : n0 ≤ b2874 := Nat.le_trans sz2873 (Nat.le_of_eq g2874.symm)
    rw [← g2874] at A2874 st2874 EA2874
    have kq2875 := (Keep.refl T2864.heap []).ext E2874
    have sz2876 : n0 ≤ h2874.size := Nat.le_trans sz2873 E2874.1
    have V2874 : Arv Z h2874 b2874 k2874 .int (0 : Int32) [] (.int (0 : Int32)) := Arv.new A2874 (by decide)
    obtain ⟨T2877, h2877, k2877, X2877, e2877, E2877, A2877, EA2877, st2877⟩ := newPE X2874 hx hZ (own_wk hw 9 rfl) e2874 (g := (mkF m 159 (own_loc120 p0 p1 p2 p3 p4 b2580) [.int 0, (.ref b2874), (.double (0 : UInt64)), (.ref b2580)])) rfl (D at_159) rfl (by decide) (cap := 0) (by decide) (by decide) (by decide) (by decide) (ad := "[D") (by decide)
    obtain ⟨b2877, g2877⟩ : ∃ z, z = h2874.size := ⟨_, rfl⟩
    have gq_b2877 : T2864.heap.size ≤ b2877 := Nat.le_trans kq2875.1 (Nat.le_of_eq g2877.symm)
    have lt_b2877 : u10 < b2877 := Nat.lt_of_lt_of_le (x2868.keep kq2875 nin0).lt (Nat.le_of_eq g2877.symm)
    have ne2878 : b2874 ≠ b2877 := Nat.ne_of_lt (Nat.lt_of_lt_of_le EA2874.lt (Nat.le_of_eq g2877.symm))
    have ge_b2877 : n0 ≤ b2877 := Nat.le_trans sz2876 (Nat.le_of_eq g2877.symm)
    rw [← g2877] at A2877 st2877 EA2877
    have kq2879 := kq2875.ext E2877
    have x2880 := EA2874.ext E2877
    have x2881 := V2874.ext E2877
    have sz2882 : n0 ≤ h2877.size := Nat.le_trans sz2876 E2877.1
    have V2877 : Arv Z h2877 b2877 k2877 .double (0 : Int32) [] (.double (0 : UInt64)) := Arv.new A2877 (by decide)
    obtain ⟨cq2883, kq2883, q2883a, q2883b, q2883c⟩ := isOf hZ e2877 (x2865.keep kq2879)
    obtain ⟨_, _, ⟨T2883, L2883, k2883, n2883⟩, -, X2883, ⟨Lc2883, hQ2883, l2883, y2883, z2883⟩, st2883⟩ := X2877.virtualBack hx (y := (⟨own_K, "addRow", "(D[I[D)I"⟩ : MethodName)) (z := (⟨own_K, "addRow", "(D[I[D)I"⟩ : MethodName)) hown (mvT hZ (own_wk hw 76 rfl)) (mvT hZ (own_wk hw 77 rfl)) (notFace_of_selects (args := #[]) (mvT hZ (own_wk hw 79 rfl))) (mvT hZ (own_wk hw 79 rfl)) (mvT hZ (own_wk hw 78 rfl)) (by decide) (backOf (W := 0) (rm6 l Z ag hw [] b2580 (0 : UInt64) b2874 b2877 _ _ _ _ _ _ _ _ _ _ _ _ _ _ _ _ _ _ _ _ _ _ _ _ _ _ _ _ _ _ _ _ _ _ _ _ _ _ _ _ _ _ _ _ _ _ _ _ _ _ h2877 n0 sz2882 (x2865.keep kq2879) (o2864_0.keep kq2879 nin0) (o2864_1.keep kq2879 nin0) (o2864_2.keep kq2879 nin0) (o2864_3.keep kq2879 nin0) (o2864_4.keep kq2879 nin0) (o2864_5.keep kq2879 nin0) (o2864_6.keep kq2879 nin0) (o2864_7.keep kq2879 nin0) (o2864_8.keep kq2879 nin0) (x2866.keep kq2879 nin0) (x2867.keep kq2879 nin0) x2881 V2877 ge_b2580 ge_u0 ge_u1 ge_u2 ge_u3 ge_u4 ge_u5 ge_u6 ge_u7 ge_u8 ge_u9 n0_1 n0_2 n0_3 n0_4 n0_5 n0_6 n0_7 n0_8 n0_9 n0_10 (own_nb hch lt_b2874 0 rfl) (own_nb hch lt_b2877 0 rfl) n1_2 n1_3 n1_4 n1_5 n1_6 n1_7 n1_8 n1_9 n1_10 (own_nb hch lt_b2874 1 rfl) (own_nb hch lt_b2877 1 rfl) n2_3 n2_4 n2_5 n2_6 n2_7 n2_8 n2_9 n2_10 (own_nb hch lt_b2874 2 rfl) (own_nb hch lt_b2877 2 rfl) n3_4 n3_5 n3_6 n3_7 n3_8 n3_9 n3_10 (own_nb hch lt_b2874 3 rfl) (own_nb hch lt_b2877 3 rfl) n4_5 n4_6 n4_7 n4_8 n4_9 n4_10 (own_nb hch lt_b2874 4 rfl) (own_nb hch lt_b2877 4 rfl) n5_6 n5_7 n5_8 n5_9 n5_10 (own_nb hch lt_b2874 5 rfl) (own_nb hch lt_b2877 5 rfl) n6_7 n6_8 n6_9 n6_10 (own_nb hch lt_b2874 6 rfl) (own_nb hch lt_b2877 6 rfl) n7_8 n7_9 n7_10 (own_nb hch lt_b2874 7 rfl) (own_nb hch lt_b2877 7 rfl) n8_9 n8_10 (own_nb hch lt_b2874 8 rfl) (own_nb hch lt_b2877 8 rfl) n9_10 (own_nb hch lt_b2874 9 rfl) (own_nb hch lt_b2877 9 rfl) (own_nb hch lt_b2874 10 rfl) (own_nb hch lt_b2877 10 rfl) (by decide) rfl (by simp <;> decide) (by simp <;> decide) (by simp <;> decide) (by simp <;> decide) (by simp <;> decide) (by simp <;> decide) (by decide) (by simp <;> decide) (by simp <;> decide) (by decide) (by simp <;> decide) (by simp <;> decide)) hZ (own_wk hw 80 rfl) (own_wk hw 2 rfl) (by decide) (by decide)) q2883a q2883c (g := (mkF m 161 (own_loc120 p0 p1 p2 p3 p4 b2580) [(.ref b2877), (.ref b2874), (.double (0 : UInt64)), (.ref b2580)])) rfl (by rw [hml]; rfl) (Steps.refl _) (argsL := [(.double (0 : UInt64)), (.ref b2874), (.ref b2877)]) (rest := []) (lenOf pd_6 rfl) rfl (by show 2 * 0 + _ ≤ _; exact Nat.le_of_eq rfl) (D at_161) (fun _ _ => ⟨rfl, e2877, (by decide : 29 + 2 ≤ _), (by decide : 292 + 2 ≤ _)⟩)
    dsimp only [Pt.U, Pt.locs, Pt.cells, Pt.slots] at X2883 l2883 y2883 z2883 st2883 hQ2883
    subst l2883 y2883 z2883
    obtain ⟨rfl, N2883q, K2883, o2883_0, o2883_1, o2883_2, o2883_3, o2883_4, o2883_5, o2883_6, o2883_7, o2883_8, o2883_9, o2883_10⟩ := hQ2883
    have N2883 := Fr.app N2864 N2883q
    have x2884 := (x2865.keep kq2879).keep K2883
    have x2885 := (x2868.keep kq2879 nin0).keep K2883 (ninS n0_11.symm (ninS n1_11.symm (ninS n2_11.symm (ninS n3_11.symm (ninS n4_11.symm (ninS n5_11.symm (ninS n6_11.symm (ninS n7_11.symm (ninS n8_11.symm (ninS n9_11.symm (ninS n10_11.symm nin0)))))))))))
    have x2886 := x2880.keep K2883
    have x2887 := x2881.keep K2883 (ninS (own_nb hch lt_b2874 0 rfl).symm (ninS (own_nb hch lt_b2874 1 rfl).symm (ninS (own_nb hch lt_b2874 2 rfl).symm (ninS (own_nb hch lt_b2874 3 rfl).symm (ninS (own_nb hch lt_b2874 4 rfl).symm (ninS (own_nb hch lt_b2874 5 rfl).symm (ninS (own_nb hch lt_b2874 6 rfl).symm (ninS (own_nb hch lt_b2874 7 rfl).symm (ninS (own_nb hch lt_b2874 8 rfl).symm (ninS (own_nb hch lt_b2874 9 rfl).symm (ninS (own_nb hch lt_b2874 10 rfl).symm nin0)))))))))))
    have x2888 := EA2877.keep K2883
    have x2889 := V2877.keep K2883 (ninS (own_nb hch lt_b2877 0 rfl).symm (ninS (own_nb hch lt_b2877 1 rfl).symm (ninS (own_nb hch lt_b2877 2 rfl).symm (ninS (own_nb hch lt_b2877 3 rfl).symm (ninS (own_nb hch lt_b2877 4 rfl).symm (ninS (own_nb hch lt_b2877 5 rfl).symm (ninS (own_nb hch lt_b2877 6 rfl).symm (ninS (own_nb hch lt_b2877 7 rfl).symm (ninS (own_nb hch lt_b2877 8 rfl).symm (ninS (own_nb hch lt_b2877 9 rfl).symm (ninS (own_nb hch lt_b2877 10 rfl).symm nin0)))))))))))
    have sz2890 : n0 ≤ T2883.heap.size := Nat.le_trans sz2882 K2883.1
    obtain ⟨T2891, h2891, k2891, X2891, e2891, E2891, A2891, EA2891, st2891⟩ := newPE X2883 hx hZ (own_wk hw 12 rfl) rfl (g := (mkF m 169 (own_loc120 p0 p1 p2 p3 p4 b2580) [.int 0, (.double (0 : UInt64)), (.ref b2580)])) rfl (D at_169) rfl (by decide) (cap := 0) (by decide) (by decide) (by decide) (by decide) (ad := "[I") (by decide)
    obtain ⟨b2891, g2891⟩ : ∃ z, z = T2883.heap.size := ⟨_, rfl⟩
    have gq_b2891 : T2883.heap.size ≤ b2891 := Nat.le_trans (Keep.refl T2883.heap []).1 (Nat.le_of_eq g2891.symm)
    have lt_b2891 : u10 < b2891 := Nat.lt_of_lt_of_le x2885.lt (Nat.le_of_eq g2891.symm)
    have ge_b2891 : n0 ≤ b2891 := Nat.le_trans sz2890 (Nat.le_of_eq g2891.symm)
    rw [← g2891] at A2891 st2891 EA2891
    have kq2892 := (Keep.refl T2883.heap []).ext E2891
    have sz2893 : n0 ≤ h2891.size := Nat.le_trans sz2890 E2891.1
    have V2891 : Arv Z h2891 b2891 k2891 .int (0 : Int32) [] (.int (0 : Int32)) := Arv.new A2891 (by decide)
    obtain ⟨T2894, h2894, k2894, X2894, e2894, E2894, A2894, EA2894, st2894⟩ := newPE X2891 hx hZ (own_wk hw 9 rfl) e2891 (g := (mkF m 172 (own_loc120 p0 p1 p2 p3 p4 b2580) [.int 0, (.ref b2891), (.double (0 : UInt64)), (.ref b2580)])) rfl (D at_172) rfl (by decide) (cap := 0) (by decide) (by decide) (by decide) (by decide) (ad := "[D") (by decide)
    obtain ⟨b2894, g2894⟩ : ∃ z, z = h2891.size := ⟨_, rfl⟩
    have gq_b2894 : T2883.heap.size ≤ b2894 := Nat.le_trans kq2892.1 (Nat.le_of_eq g2894.symm)
    have lt_b2894 : u10 < b2894 := Nat.lt_of_lt_of_le (x2885.keep kq2892 nin0).lt (Nat.le_of_eq g2894.symm)
    have ne2895 : b2891 ≠ b2894 := Nat.ne_of_lt (Nat.lt_of_lt_of_le EA2891.lt (Nat.le_of_eq g2894.symm))
    have ge_b2894 : n0 ≤ b2894 := Nat.le_trans sz2893 (Nat.le_of_eq g2894.symm)
    rw [← g2894] at A2894 st2894 EA2894
    have kq2896 := kq2892.ext E2894
    have x2897 := EA2891.ext E2894
    have x2898 := V2891.ext E2894
    have sz2899 : n0 ≤ h2894.size := Nat.le_trans sz2893 E2894.1
    have V2894 : Arv Z h2894 b2894 k2894 .double (0 : Int32) [] (.double (0 : UInt64)) := Arv.new A2894 (by decide)
    have cp2900 : ∀ target, own_S p e below T2894 (mkF m 174 (own_loc120 p0 p1 p2 p3 p4 b2580) [(.ref b2894), (.ref b2891), (.double (0 : UInt64)), (.ref b2580)]) target → own_S p e below s₁ (mkF m 0 (own_loc112 p0 p1 p2 p3 p4) []) target := by
      intro target kt
      show own_S p e below s₁ (mkF m 0 (own_loc112 p0 p1 p2 p3 p4) []) _
      refine cp2863 _ (st2864.trans (XS.istore X2864.here hx rfl (D at_150) rfl (l' := (own_loc120 p0 p1 p2 p3 p4 b2580)) rfl (XS.aload X2864.here hx rfl (D at_152) rfl rfl (XS.dconst0 X2864.here hx rfl (D at_154) rfl (XS.iconst X2864.here hx rfl (D at_155) (st2874 _ (XS.iconst X2874.here hx rfl (D at_158) (st2877 _ (st2883.trans ?_)))))))))
      refine XS.pop X2883.here hx rfl (D at_164) rfl rfl (XS.aload X2883.here hx rfl (D at_165) rfl rfl (XS.dconst0 X2883.here hx rfl (D at_167) rfl (XS.iconst X2883.here hx rfl (D at_168) ?_)))
      show own_S p e below T2883 (mkF m 169 (own_loc120 p0 p1 p2 p3 p4 b2580) [.int 0, (.double (0 : UInt64)), (.ref b2580)]) _
      refine st2891 _ (XS.iconst X2891.here hx rfl (D at_171) (st2894 _ ?_))
      exact kt
    obtain ⟨cq2901, kq2901, q2901a, q2901b, q2901c⟩ := isOf hZ e2894 (x2884.keep kq2896)
    obtain ⟨_, _, ⟨T2901, L2901, k2901, n2901⟩, -, X2901, ⟨Lc2901, hQ2901, l2901, y2901, z2901⟩, st2901⟩ := X2894.virtualBack hx (y := (⟨own_K, "addRow", "(D[I[D)I"⟩ : MethodName)) (z := (⟨own_K, "addRow", "(D[I[D)I"⟩ : MethodName)) hown (mvT hZ (own_wk hw 76 rfl)) (mvT hZ (own_wk hw 77 rfl)) (notFace_of_selects (args := #[]) (mvT hZ (own_wk hw 79 rfl))) (mvT hZ (own_wk hw 79 rfl)) (mvT hZ (own_wk hw 78 rfl)) (by decide) (backOf (W := 0) (rm6 l Z ag hw [] b2580 (0 : UInt64) b2891 b2894 _ _ _ _ _ _ _ _ _ _ _ _ _ _ _ _ _ _ _ _ _ _ _ _ _ _ _ _ _ _ _ _ _ _ _ _ _ _ _ _ _ _ _ _ _ _ _ _ _ _ h2894 n0 sz2899 (x2884.keep kq2896) (o2883_0.keep kq2896 nin0) (o2883_1.keep kq2896 nin0) (o2883_2.keep kq2896 nin0) (o2883_3.keep kq2896 nin0) (o2883_4.keep kq2896 nin0) (o2883_5.keep kq2896 nin0) (o2883_6.keep kq2896 nin0) (o2883_7.keep kq2896 nin0) (o2883_8.keep kq2896 nin0) (o2883_9.keep kq2896 nin0) (o2883_10.keep kq2896 nin0) x2898 V2894 ge_b2580 ge_u0 ge_u1 ge_u2 ge_u3 ge_u4 ge_u5 ge_u6 ge_u7 ge_u8 ge_u9 n0_1 n0_2 n0_3 n0_4 n0_5 n0_6 n0_7 n0_8 n0_9 n0_10 (own_nb hch lt_b2891 0 rfl) (own_nb hch lt_b2894 0 rfl) n1_2 n1_3 n1_4 n1_5 n1_6 n1_7 n1_8 n1_9 n1_10 (own_nb hch lt_b2891 1 rfl) (own_nb hch lt_b2894 1 rfl) n2_3 n2_4 n2_5 n2_6 n2_7 n2_8 n2_9 n2_10 (own_nb hch lt_b2891 2 rfl) (own_nb hch lt_b2894 2 rfl) n3_4 n3_5 n3_6 n3_7 n3_8 n3_9 n3_10 (own_nb hch lt_b2891 3 rfl) (own_nb hch lt_b2894 3 rfl) n4_5 n4_6 n4_7 n4_8 n4_9 n4_10 (own_nb hch lt_b2891 4 rfl) (own_nb hch lt_b2894 4 rfl) n5_6 n5_7 n5_8 n5_9 n5_10 (own_nb hch lt_b2891 5 rfl) (own_nb hch lt_b2894 5 rfl) n6_7 n6_8 n6_9 n6_10 (own_nb hch lt_b2891 6 rfl) (own_nb hch lt_b2894 6 rfl) n7_8 n7_9 n7_10 (own_nb hch lt_b2891 7 rfl) (own_nb hch lt_b2894 7 rfl) n8_9 n8_10 (own_nb hch lt_b2891 8 rfl) (own_nb hch lt_b2894 8 rfl) n9_10 (own_nb hch lt_b2891 9 rfl) (own_nb hch lt_b2894 9 rfl) (own_nb hch lt_b2891 10 rfl) (own_nb hch lt_b2894 10 rfl) (by decide) rfl (by simp <;> decide) (by simp <;> decide) (by simp <;> decide) (by simp <;> decide) (by simp <;> decide) (by simp <;> decide) (by decide) (by simp <;> decide) (by simp <;> decide) (by decide) (by simp <;> decide) (by simp <;> decide)) hZ (own_wk hw 80 rfl) (own_wk hw 2 rfl) (by decide) (by decide)) q2901a q2901c (g := (mkF m 174 (own_loc120 p0 p1 p2 p3 p4 b2580) [(.ref b2894), (.ref b2891), (.double (0 : UInt64)), (.ref b2580)])) rfl (by rw [hml]; rfl) (Steps.refl _) (argsL := [(.double (0 : UInt64)), (.ref b2891), (.ref b2894)]) (rest := []) (lenOf pd_6 rfl) rfl (by show 2 * 0 + _ ≤ _; exact Nat.le_of_eq rfl) (D at_174) (fun _ _ => ⟨rfl, e2894, (by decide : 33 + 2 ≤ _), (by decide : 294 + 2 ≤ _)⟩)
    dsimp only [Pt.U, Pt.locs, Pt.cells, Pt.slots] at X2901 l2901 y2901 z2901 st2901 hQ2901
    subst l2901 y2901 z2901
    obtain ⟨rfl, N2901q, K2901, o2901_0, o2901_1, o2901_2, o2901_3, o2901_4, o2901_5, o2901_6, o2901_7, o2901_8, o2901_9, o2901_10⟩ := hQ2901
    have N2901 := Fr.app N2883 N2901q
    have x2902 := (x2884.keep kq2896).keep K2901
    have x2903 := (x2885.keep kq2896 nin0).keep K2901 (ninS n0_11.symm (ninS n1_11.symm (ninS n2_11.symm (ninS n3_11.symm (ninS n4_11.symm (ninS n5_11.symm (ninS n6_11.symm (ninS n7_11.symm (ninS n8_11.symm (ninS n9_11.symm (ninS n10_11.symm nin0)))))))))))
    have x2904 := x2897.keep K2901
    have x2905 := x2898.keep K2901 (ninS (own_nb hch lt_b2891 0 rfl).symm (ninS (own_nb hch lt_b2891 1 rfl).symm (ninS (own_nb hch lt_b2891 2 rfl).symm (ninS (own_nb hch lt_b2891 3 rfl).symm (ninS (own_nb hch lt_b2891 4 rfl).symm (ninS (own_nb hch lt_b2891 5 rfl).symm (ninS (own_nb hch lt_b2891 6 rfl).symm (ninS (own_nb hch lt_b2891 7 rfl).symm (ninS (own_nb hch lt_b2891 8 rfl).symm (ninS (own_nb hch lt_b2891 9 rfl).symm (ninS (own_nb hch lt_b2891 10 rfl).symm nin0)))))))))))
    have x2906 := EA2894.keep K2901
    have x2907 := V2894.keep K2901 (ninS (own_nb hch lt_b2894 0 rfl).symm (ninS (own_nb hch lt_b2894 1 rfl).symm (ninS (own_nb hch lt_b2894 2 rfl).symm (ninS (own_nb hch lt_b2894 3 rfl).symm (ninS (own_nb hch lt_b2894 4 rfl).symm (ninS (own_nb hch lt_b2894 5 rfl).symm (ninS (own_nb hch lt_b2894 6 rfl).symm (ninS (own_nb hch lt_b2894 7 rfl).symm (ninS (own_nb hch lt_b2894 8 rfl).symm (ninS (own_nb hch lt_b2894 9 rfl).symm (ninS (own_nb hch lt_b2894 10 rfl).symm nin0)))))))))))
    have sz2908 : n0 ≤ T2901.heap.size := Nat.le_trans sz2899 K2901.1
    have cp2910 : ∀ target, own_S p e below T2901 (mkF m 180 (own_loc120 p0 p1 p2 p3 p4 b2580) [(.int (own_b4 p4))]) target → own_S p e below s₁ (mkF m 0 (own_loc112 p0 p1 p2 p3 p4) []) target := by
      intro target kt
      show own_S p e below s₁ (mkF m 0 (own_loc112 p0 p1 p2 p3 p4) []) _
      refine cp2900 _ (st2901.trans (XS.pop X2901.here hx rfl (D at_177) rfl rfl (XS.iload X2901.here hx rfl (D at_178) rfl ?_)))
      exact kt
    by_cases hc2909 : (own_b4 p4) = (0 : Int32)
    · obtain ⟨T2911, h2911, k2911, X2911, e2911, E2911, A2911, EA2911, st2911⟩ := newPE X2901 hx hZ (own_wk hw 12 rfl) rfl (g := (mkF m 200 (own_loc120 p0 p1 p2 p3 p4 b2580) [.int 2])) rfl (D at_200) rfl (by decide) (cap := 2) (by decide) (by decide) (by decide) (by decide) (ad := "[I") (by decide)
      obtain ⟨b2911, g2911⟩ : ∃ z, z = T2901.heap.size := ⟨_, rfl⟩
      have gq_b2911 : T2901.heap.size ≤ b2911 := Nat.le_trans (Keep.refl T2901.heap []).1 (Nat.le_of_eq g2911.symm)
      have lt_b2911 : u10 < b2911 := Nat.lt_of_lt_of_le x2903.lt (Nat.le_of_eq g2911.symm)
      have ge_b2911 : n0 ≤ b2911 := Nat.le_trans sz2908 (Nat.le_of_eq g2911.symm)
      rw [← g2911] at A2911 st2911 EA2911
      have kq2912 := (Keep.refl T2901.heap []).ext E2911
      have sz2913 : n0 ≤ h2911.size := Nat.le_trans sz2908 E2911.1
      have V2911 : Arv Z h2911 b2911 k2911 .int (2 : Int32) [(.int (0 : Int32)), (.int (0 : Int32))] (.int (0 : Int32)) := (Arv.new A2911 (by decide)).pad (pad_rep [] (.int (0 : Int32)) 2)
      obtain ⟨T2914, h2914, X2914, e2914, W2914, V2914, st2914⟩ := own_stI X2911 hx hZ e2911 V2911 (j := (0 : Int32)) ⟨(by decide), (by decide)⟩ 0 rfl (Nat.le_of_ble_eq_true rfl) (vs' := [(.int (1 : Int32)), (.int (0 : Int32))]) rfl (g := (mkF m 206 (own_loc120 p0 p1 p2 p3 p4 b2580) [.int 1, .int 0, (.ref b2911), (.ref b2911)])) rfl rfl (D at_206)
      have kq2915 := kq2912.wr W2914 (Or.inr gq_b2911)
      have x2916 := EA2911.wr W2914
      have sz2917 : n0 ≤ h2914.size := Nat.le_trans sz2913 (Keep.of_wr W2914).1
      have N2914 := Fr.snoc X2914 N2901 ge_b2911
      obtain ⟨T2918, h2918, X2918, e2918, W2918, V2918, st2918⟩ := own_stI X2914 hx hZ e2914 V2914 (j := (1 : Int32)) ⟨(by decide), (by decide)⟩ 1 rfl (Nat.le_of_ble_eq_true rfl) (vs' := [(.int (1 : Int32)), (.int (2 : Int32))]) rfl (g := (mkF m 211 (own_loc120 p0 p1 p2 p3 p4 b2580) [.int 2, .int 1, (.ref b2911), (.ref b2911)])) rfl rfl (D at_211)
      have kq2919 := kq2915.wr W2918 (Or.inr gq_b2911)
      have x2920 := x2916.wr W2918
      have sz2921 : n0 ≤ h2918.size := Nat.le_trans sz2917 (Keep.of_wr W2918).1
      have N2918 := Fr.snoc X2918 N2914 ge_b2911
      obtain ⟨T2922, h2922, k2922, X2922, e2922, E2922, A2922, EA2922, st2922⟩ := newPE X2918 hx hZ (own_wk hw 12 rfl) e2918 (g := (mkF m 217 (own_loc133 p0 p1 p2 p3 p4 b2580 b2911) [.int 1, (.ref b2580)])) rfl (D at_217) rfl (by decide) (cap := 1) (by decide) (by decide) (by decide) (by decide) (ad := "[I") (by decide)
      obtain ⟨b2922, g2922⟩ : ∃ z, z = h2918.size := ⟨_, rfl⟩
      have gq_b2922 : T2901.heap.size ≤ b2922 := Nat.le_trans kq2919.1 (Nat.le_of_eq g2922.symm)
      have lt_b2922 : u10 < b2922 := Nat.lt_of_lt_of_le (x2903.keep kq2919 nin0).lt (Nat.le_of_eq g2922.symm)
      have ne2923 : b2911 ≠ b2922 := Nat.ne_of_lt (Nat.lt_of_lt_of_le x2920.lt (Nat.le_of_eq g2922.symm))
      have ge_b2922 : n0 ≤ b2922 := Nat.le_trans sz2921 (Nat.le_of_eq g2922.symm)
      rw [← g2922] at A2922 st2922 EA2922
      have kq2924 := kq2919.ext E2922
      have x2925 := x2920.ext E2922
      have x2926 := V2918.ext E2922
      have sz2927 : n0 ≤ h2922.size := Nat.le_trans sz2921 E2922.1
      have V2922 : Arv Z h2922 b2922 k2922 .int (1 : Int32) [(.int (0 : Int32))] (.int (0 : Int32)) := (Arv.new A2922 (by decide)).pad (pad_rep [] (.int (0 : Int32)) 1)
      obtain ⟨T2928, h2928, X2928, e2928, W2928, V2928, st2928⟩ := own_stI X2922 hx hZ e2922 V2922 (j := (0 : Int32)) ⟨(by decide), (by decide)⟩ 0 rfl (Nat.le_of_ble_eq_true rfl) (vs' := [(.int (0 : Int32))]) rfl (g := (mkF m 223 (own_loc133 p0 p1 p2 p3 p4 b2580 b2911) [.int 0, .int 0, (.ref b2922), (.ref b2922), (.ref b2580)])) rfl rfl (D at_223)
      have kq2929 := kq2924.wr W2928 (Or.inr gq_b2922)
      have x2930 := x2925.wr W2928
      have x2931 := x2926.other W2928 ne2923
      have x2932 := EA2922.wr W2928
      have sz2933 : n0 ≤ h2928.size := Nat.le_trans sz2927 (Keep.of_wr W2928).1
      have N2928 := Fr.snoc X2928 N2918 ge_b2922
      have cp2934 : ∀ target, own_S p e below T2928 (mkF m 226 (own_loc133 p0 p1 p2 p3 p4 b2580 b2911) [(.ref b2911), (.ref b2922), (.ref b2580)]) target → own_S p e below s₁ (mkF m 0 (own_loc112 p0 p1 p2 p3 p4) []) target := by
        intro target kt
        show own_S p e below s₁ (mkF m 0 (own_loc112 p0 p1 p2 p3 p4) []) _
        refine cp2910 _ (XS.ifYes X2901.here hx rfl (pc0 := 180) (pc' := 199) rfl (D at_180) rfl ((if0 _ _).trans (teq hc2909).1) (by decide) (by decide) (XS.iconst X2901.here hx rfl (D at_199) (st2911 _ (XS.dup X2911.here hx rfl (D at_202) rfl rfl (XS.iconst X2911.here hx rfl (D at_203) (XS.iload X2911.here hx rfl (D at_204) rfl (st2914 _ (XS.dup X2914.here hx rfl (D at_207) rfl rfl (XS.iconst X2914.here hx rfl (D at_208) ?_)))))))))
        refine XS.iload X2914.here hx rfl (D at_209) rfl (st2918 _ (XS.astore X2918.here hx rfl (D at_212) rfl rfl (l' := (own_loc133 p0 p1 p2 p3 p4 b2580 b2911)) rfl (XS.aload X2918.here hx rfl (D at_214) rfl rfl (XS.iconst X2918.here hx rfl (D at_216) ?_))))
        show own_S p e below T2918 (mkF m 217 (own_loc133 p0 p1 p2 p3 p4 b2580 b2911) [.int 1, (.ref b2580)]) _
        refine st2922 _ (XS.dup X2922.here hx rfl (D at_219) rfl rfl (XS.iconst X2922.here hx rfl (D at_220) (XS.iload X2922.here hx rfl (D at_221) rfl (st2928 _ (XS.aload X2928.here hx rfl (D at_224) rfl rfl ?_)))))
        exact kt
      obtain ⟨cq2935, kq2935, q2935a, q2935b, q2935c⟩ := isOf hZ e2928 (x2902.keep kq2929)
      obtain ⟨_, _, ⟨T2935, L2935, k2935, n2935⟩, -, X2935, ⟨Lc2935, hQ2935, l2935, y2935, z2935⟩, st2935⟩ := X2928.virtualBack hx (y := (⟨own_K, "start", "([I[I)V"⟩ : MethodName)) (z := (⟨own_K, "start", "([I[I)V"⟩ : MethodName)) hown (mvT hZ (own_wk hw 84 rfl)) (mvT hZ (own_wk hw 85 rfl)) (notFace_of_selects (args := #[]) (mvT hZ (own_wk hw 87 rfl))) (mvT hZ (own_wk hw 87 rfl)) (mvT hZ (own_wk hw 86 rfl)) (by decide) (backOf (W := 0) (rm7 l Z ag hw [] b2580 b2922 b2911 _ _ _ _ _ _ _ _ _ _ _ _ _ _ _ _ _ _ _ _ _ _ _ _ _ _ _ _ _ _ _ _ _ _ _ _ _ _ _ _ _ _ _ _ _ _ (FP.i2d p2) (4607182418800017408 : UInt64) (0 : UInt64) (own_W p3) (4607182418800017408 : UInt64) h2928 n0 sz2933 (x2902.keep kq2929) (o2901_0.keep kq2929 nin0) (o2901_2.keep kq2929 nin0) (o2901_4.keep kq2929 nin0) (o2901_5.keep kq2929 nin0) (o2901_7.keep kq2929 nin0) (o2901_8.keep kq2929 nin0) (o2901_9.keep kq2929 nin0) (o2901_1.keep kq2929 nin0) (o2901_3.keep kq2929 nin0) (x2903.keep kq2929 nin0) x2932 V2928 x2930 x2931 ge_b2580 ge_u2 n0_2 n0_4 n0_5 n0_7 n0_8 n0_9 n0_1 n0_3 n0_11 (own_nb hch lt_b2922 0 rfl) (own_nb hch lt_b2911 0 rfl) n2_3.symm n3_4 n3_5 n3_7 n3_8 n3_9 n1_3.symm n3_11 (own_nb hch lt_b2922 3 rfl) (own_nb hch lt_b2911 3 rfl) ⟨(4607182418800017408 : UInt64), (FP.i2d p3), (0 : UInt64), (4607182418800017408 : UInt64), (FP.i2d p3), (4607182418800017408 : UInt64), (0 : UInt64), (0 : Int32), ⟨⟨by decide, by decide⟩, ⟨(own_gp p4), rfl, (own_gpz p4)⟩, own_w1, (own_wi p3), (0 : Int32), rfl, Or.inr (Or.inr ⟨rfl, ⟨by decide, by decide⟩, by decide, rfl, rfl, ⟨by decide, by decide⟩, by decide, rfl, rfl, by decide⟩)⟩, ⟨⟨by decide, by decide⟩, ⟨(own_gq p4), rfl, (own_gqz p4)⟩, own_w0, own_w1, (2 : Int32), rfl, Or.inr (Or.inl ⟨rfl, ⟨by decide, by decide⟩, by decide, rfl, rfl, by decide, rfl⟩)⟩, ⟨(0 : Int32), rfl, rfl, by decide⟩, ⟨_, rfl, own_wi _⟩, ⟨_, rfl, own_wi _⟩, ⟨rfl, own_wi p2⟩, ⟨rfl, rfl⟩, by decide +kernel, Or.inl ⟨rfl, rfl, rfl, rfl, rfl, rfl, rfl, rfl, rfl⟩, own_wi p3, own_el1 p3, own_elW p3⟩ rfl (by simp only [List.length_set, List.length_replicate])) hZ (own_wk hw 88 rfl) (own_wk hw 2 rfl) (by decide) (by decide)) q2935a q2935c (g := (mkF m 226 (own_loc133 p0 p1 p2 p3 p4 b2580 b2911) [(.ref b2911), (.ref b2922), (.ref b2580)])) rfl (by rw [hml]; rfl) (Steps.refl _) (argsL := [(.ref b2922), (.ref b2911)]) (rest := []) (lenOf pd_14 rfl) rfl (by show 2 * 0 + _ ≤ _; exact Nat.le_of_eq rfl) (D at_226) (fun _ _ => ⟨rfl, e2928, (by decide : 37 + 19 ≤ _), (by decide : 299 + 31 ≤ _)⟩)
      dsimp only [Pt.U, Pt.locs, Pt.cells, Pt.slots] at X2935 l2935 y2935 z2935 st2935 hQ2935
      subst l2935 y2935 z2935
      obtain ⟨ky2935, hh2935, iv2935, i02935, i12935, va2935, kv2935, xa2935, xb2935, xc2935, xd2935, xe2935, kz1_2935, kz2_2935, kz3_2935, kz4_2935, kz5_2935, rfl, N2935q, K2935, Ob2935, Vky2935, Vhh2935, Viv2935, Vi02935, Vi12935⟩ := hQ2935
      have N2935 := Fr.app N2928 N2935q
      have x2936 := (x2902.keep kq2929).keep K2935
      have x2937 := (x2903.keep kq2929 nin0).keep K2935 (ninS n0_11.symm (ninS n3_11.symm nin0))
      have x2938 := (o2901_1.keep kq2929 nin0).keep K2935 (ninS n0_1.symm (ninS n1_3 nin0))
      have x2939 := (o2901_2.keep kq2929 nin0).keep K2935 (ninS n0_2.symm (ninS n2_3 nin0))
      have x2940 := (o2901_4.keep kq2929 nin0).keep K2935 (ninS n0_4.symm (ninS n3_4.symm nin0))
      have x2941 := (o2901_5.keep kq2929 nin0).keep K2935 (ninS n0_5.symm (ninS n3_5.symm nin0))
      have x2942 := (o2901_6.keep kq2929 nin0).keep K2935 (ninS n0_6.symm (ninS n3_6.symm nin0))
      have x2943 := (o2901_7.keep kq2929 nin0).keep K2935 (ninS n0_7.symm (ninS n3_7.symm nin0))
      have x2944 := (o2901_8.keep kq2929 nin0).keep K2935 (ninS n0_8.symm (ninS n3_8.symm nin0))
      have x2945 := (o2901_9.keep kq2929 nin0).keep K2935 (ninS n0_9.symm (ninS n3_9.symm nin0))
      have x2946 := (o2901_10.keep kq2929 nin0).keep K2935 (ninS n0_10.symm (ninS n3_10.symm nin0))
      have x2947 := x2930.keep K2935
      have x2948 := x2931.keep K2935 (ninS (own_nb hch lt_b2911 0 rfl).symm (ninS (own_nb hch lt_b2911 3 rfl).symm nin0))
      have x2949 := x2932.keep K2935
      have x2950 := V2928.keep K2935 (ninS (own_nb hch lt_b2922 0 rfl).symm (ninS (own_nb hch lt_b2922 3 rfl).symm nin0))
      have sz2951 : n0 ≤ T2935.heap.size := Nat.le_trans sz2933 K2935.1
      obtain ⟨cq2952, kq2952, q2952a, q2952b, q2952c⟩ := isOf hZ rfl x2936
      obtain ⟨_, _, ⟨T2952, L2952, k2952, n2952⟩, -, X2952, ⟨Lc2952, hQ2952, l2952, y2952, z2952⟩, st2952⟩ := X2935.virtualBack hx (y := (⟨own_K, "duals", "()[D"⟩ : MethodName)) (z := (⟨own_K, "duals", "()[D"⟩ : MethodName)) hown (mvT hZ (own_wk hw 143 rfl)) (mvT hZ (own_wk hw 144 rfl)) (notFace_of_selects (args := #[]) (mvT hZ (own_wk hw 146 rfl))) (mvT hZ (own_wk hw 146 rfl)) (mvT hZ (own_wk hw 145 rfl)) (by decide) (backOf (W := 0) (rm17 l Z ag hw [] b2580 _ _ _ _ _ _ _ _ _ _ _ _ _ _ _ _ _ _ _ _ _ _ _ _ _ _ _ _ _ _ _ _ _ _ _ _ _ _ _ _ _ _ _ (FP.i2d p2) (own_gp p4) (own_gq p4) (FP.i2d p0) (own_dp p0 p2 p4) (FP.i2d p1) (own_dq p1 p2 p4) T2935.heap n0 sz2951 x2936 Ob2935 Vhh2935 x2938 x2939 Vky2935 Viv2935 Vi02935 Vi12935 rfl ⟨by decide, by decide⟩ rfl rfl (own_gpx p0 p2 p4) (own_gpy p0 p2 p4) (own_wdp p0 p2 p4) ⟨by decide, by decide⟩ rfl rfl (own_gqx p1 p2 p4) (own_gqy p1 p2 p4) (own_wdq p1 p2 p4) own_w1 own_w0 (own_wW p3) own_w1) hZ (own_wk hw 147 rfl) (own_wk hw 2 rfl) (by decide) (by decide)) q2952a q2952c (g := (mkF m 231 (own_loc133 p0 p1 p2 p3 p4 b2580 b2911) [(.ref b2580)])) rfl (by rw [hml]; rfl) (Steps.refl _) (argsL := []) (rest := []) (lenOf pd_3 rfl) rfl (by show 2 * 0 + _ ≤ _; exact Nat.le_of_eq rfl) (D at_231) (fun _ _ => ⟨rfl, rfl, (by decide : 56 + 1 ≤ _), (by decide : 330 + 2 ≤ _)⟩)
      dsimp only [Pt.U, Pt.locs, Pt.cells, Pt.slots] at X2952 l2952 y2952 z2952 st2952 hQ2952
      subst l2952 y2952 z2952
      obtain ⟨r2952, kr2952, rfl, N2952q, K2952, ge_r2952, gq_r2952, EA2952, V2952⟩ := hQ2952
      have N2952 := Fr.app N2935 N2952q
      have kq2953 := (Keep.refl T2935.heap []).trans K2952 all0
      have sz2954 : n0 ≤ T2952.heap.size := Nat.le_trans sz2951 K2952.1
      obtain ⟨cl2955, Ar2955, -, S2955, M2955, -, -⟩ := id V2952
      have ld2955 := X2952.arraylength hx Ar2955.1 (State.isArrayOf_alike hZ.alike Ar2955.2.1) (g := (mkF m 238 (own_loc134 p0 p1 p2 p3 p4 b2580 b2911 r2952) [(.ref r2952)])) rfl rfl (D at_238)
      have sg2957 : ∀ target, Steps p.tables e below (T2952.setTop (mkF m 260 (own_loc134 p0 p1 p2 p3 p4 b2580 b2911 r2952) [(.double (own_dp p0 p2 p4))])) target → Steps p.tables e below (T2952.setTop (mkF m 245 (own_loc134 p0 p1 p2 p3 p4 b2580 b2911 r2952) [])) target := by
        intro target kt
        show own_S p e below T2952 (mkF m 245 (own_loc134 p0 p1 p2 p3 p4 b2580 b2911 r2952) []) _
        refine XS.iload X2952.here hx rfl (D at_245) rfl ?_
        by_cases hc2956 : (own_b1 p4) = (0 : Int32)
        · show own_S p e below T2952 (mkF m 247 (own_loc134 p0 p1 p2 p3 p4 b2580 b2911 r2952) [(.int (own_b1 p4))]) _
          refine XS.ifYes X2952.here hx rfl (pc0 := 247) (pc' := 258) rfl (D at_247) rfl ((if0 _ _).trans (teq hc2956).1) (by decide) (by decide) (XS.iloadN X2952.here hx rfl (D at_258) rfl (XS.i2dS X2952.here hx rfl (D at_259) rfl rfl ?_))
          show own_S p e below T2952 (mkF m 260 (own_loc134 p0 p1 p2 p3 p4 b2580 b2911 r2952) [(.double (FP.i2d p0))]) _
          have kt := own_cast (P := fun z => Steps p.tables e below (T2952.setTop (mkF m 260 (own_loc134 p0 p1 p2 p3 p4 b2580 b2911 r2952) [(.double z)])) target) (show (own_dp p0 p2 p4) = (FP.i2d p0) from (by unfold own_dp; rw [if_pos hc2956])) kt
          exact kt
        · show own_S p e below T2952 (mkF m 247 (own_loc134 p0 p1 p2 p3 p4 b2580 b2911 r2952) [(.int (own_b1 p4))]) _
          refine XS.ifNo X2952.here hx rfl (D at_247) rfl ((if0 _ _).trans (feq hc2956).1) (XS.iloadN X2952.here hx rfl (D at_250) rfl (XS.i2dS X2952.here hx rfl (D at_251) rfl rfl (XS.iloadN X2952.here hx rfl (D at_252) rfl (XS.i2dS X2952.here hx rfl (D at_253) rfl rfl (XS.dsubS X2952.here hx rfl (D at_254) rfl (own_wsub _ _).nn rfl (XS.goto X2952.here hx rfl (pc0 := 255) (pc' := 260) rfl (D at_255) (by decide) (by decide) ?_))))))
          show own_S p e below T2952 (mkF m 260 (own_loc134 p0 p1 p2 p3 p4 b2580 b2911 r2952) [(.double (FP.dsub (FP.i2d p0) (FP.i2d p2)))]) _
          have kt := own_cast (P := fun z => Steps p.tables e below (T2952.setTop (mkF m 260 (own_loc134 p0 p1 p2 p3 p4 b2580 b2911 r2952) [(.double z)])) target) (show (own_dp p0 p2 p4) = (FP.dsub (FP.i2d p0) (FP.i2d p2)) from (by unfold own_dp; rw [if_neg hc2956])) kt
          exact kt
      have sg2959 : ∀ target, Steps p.tables e below (T2952.setTop (mkF m 277 (own_loc135 p0 p1 p2 p3 p4 b2580 b2911 r2952) [(.double (own_dq p1 p2 p4))])) target → Steps p.tables e below (T2952.setTop (mkF m 262 (own_loc135 p0 p1 p2 p3 p4 b2580 b2911 r2952) [])) target := by
        intro target kt
        show own_S p e below T2952 (mkF m 262 (own_loc135 p0 p1 p2 p3 p4 b2580 b2911 r2952) []) _
        refine XS.iload X2952.here hx rfl (D at_262) rfl ?_
        by_cases hc2958 : (own_b2 p4) = (0 : Int32)
        · show own_S p e below T2952 (mkF m 264 (own_loc135 p0 p1 p2 p3 p4 b2580 b2911 r2952) [(.int (own_b2 p4))]) _
          refine XS.ifYes X2952.here hx rfl (pc0 := 264) (pc' := 275) rfl (D at_264) rfl ((if0 _ _).trans (teq hc2958).1) (by decide) (by decide) (XS.iloadN X2952.here hx rfl (D at_275) rfl (XS.i2dS X2952.here hx rfl (D at_276) rfl rfl ?_))
          show own_S p e below T2952 (mkF m 277 (own_loc135 p0 p1 p2 p3 p4 b2580 b2911 r2952) [(.double (FP.i2d p1))]) _
          have kt := own_cast (P := fun z => Steps p.tables e below (T2952.setTop (mkF m 277 (own_loc135 p0 p1 p2 p3 p4 b2580 b2911 r2952) [(.double z)])) target) (show (own_dq p1 p2 p4) = (FP.i2d p1) from (by unfold own_dq; rw [if_pos hc2958])) kt
          exact kt
        · show own_S p e below T2952 (mkF m 264 (own_loc135 p0 p1 p2 p3 p4 b2580 b2911 r2952) [(.int (own_b2 p4))]) _
          refine XS.ifNo X2952.here hx rfl (D at_264) rfl ((if0 _ _).trans (feq hc2958).1) (XS.iloadN X2952.here hx rfl (D at_267) rfl (XS.i2dS X2952.here hx rfl (D at_268) rfl rfl (XS.iloadN X2952.here hx rfl (D at_269) rfl (XS.i2dS X2952.here hx rfl (D at_270) rfl rfl (XS.dsubS X2952.here hx rfl (D at_271) rfl (own_wsub _ _).nn rfl (XS.goto X2952.here hx rfl (pc0 := 272) (pc' := 277) rfl (D at_272) (by decide) (by decide) ?_))))))
          show own_S p e below T2952 (mkF m 277 (own_loc135 p0 p1 p2 p3 p4 b2580 b2911 r2952) [(.double (FP.dsub (FP.i2d p1) (FP.i2d p2)))]) _
          have kt := own_cast (P := fun z => Steps p.tables e below (T2952.setTop (mkF m 277 (own_loc135 p0 p1 p2 p3 p4 b2580 b2911 r2952) [(.double z)])) target) (show (own_dq p1 p2 p4) = (FP.dsub (FP.i2d p1) (FP.i2d p2)) from (by unfold own_dq; rw [if_neg hc2958])) kt
          exact kt
      obtain ⟨fs, hr, hrun, hended, hW, hsame⟩ := X2952.leave (v := some (.int (1 : Int32))) (fun h => by rw [Bd.returns] at h; cases h)
      refine ⟨_, _, pre0 _ ?_, hrun, hended, _, _, rfl, ?_, ⟨_, rfl⟩, hW, hsame.mono (by decide) (by decide)⟩
      · show own_S p e below s₁ (mkF m 0 (own_loc112 p0 p1 p2 p3 p4) []) _
        refine cp2934 _ (st2935.trans (XS.aload X2935.here hx rfl (D at_229) rfl rfl (st2952.trans (XS.astore X2952.here hx rfl (D at_234) rfl rfl (l' := (own_loc134 p0 p1 p2 p3 p4 b2580 b2911 r2952)) rfl (XS.aload X2952.here hx rfl (D at_236) rfl rfl (ld2955 _ ?_))))))
        rw [len_of S2955 M2955]
        show own_S p e below T2952 (mkF m 239 (own_loc134 p0 p1 p2 p3 p4 b2580 b2911 r2952) [.int 2]) _
        refine XS.iconst X2952.here hx rfl (D at_239) (XS.icmpYes X2952.here hx rfl (pc0 := 240) (pc' := 245) rfl (D at_240) rfl (teq (by decide : (2 : Int32) = (2 : Int32))).1 (by decide) (by decide) (sg2957 _ (XS.dstore X2952.here hx rfl (D at_260) rfl (l' := (own_loc135 p0 p1 p2 p3 p4 b2580 b2911 r2952)) rfl (sg2959 _ (XS.dstore X2952.here hx rfl (D at_277) rfl (l' := (own_loc136 p0 p1 p2 p3 p4 b2580 b2911 r2952)) rfl (XS.dload X2952.here hx rfl (D at_279) rfl (XS.dload X2952.here hx rfl (D at_281) rfl (XS.iloadN X2952.here hx rfl (D at_283) rfl (XS.i2dS X2952.here hx rfl (D at_284) rfl rfl ?_)))))))))
        refine XS.dnegS X2952.here hx rfl (D at_285) rfl rfl (XS.dmulS X2952.here hx rfl (D at_286) rfl (own_nno (FP.Core.dmul_out (own_wdq p1 p2 p4).fin (own_nf (own_wi p3)))) rfl (XS.daddS X2952.here hx rfl (D at_287) rfl (own_nadd (own_wdp p0 p2 p4) (own_nno (FP.Core.dmul_out (own_wdq p1 p2 p4).fin (own_nf (own_wi p3))))) rfl (XS.dstore X2952.here hx rfl (D at_288) rfl (l' := (own_loc137 p0 p1 p2 p3 p4 b2580 b2911 r2952)) rfl ?_)))
        show own_S p e below T2952 (mkF m 290 (own_loc137 p0 p1 p2 p3 p4 b2580 b2911 r2952) []) _
        refine XS.dload X2952.here hx rfl (D at_290) rfl (XS.dstore X2952.here hx rfl (D at_292) rfl (l' := (own_loc138 p0 p1 p2 p3 p4 b2580 b2911 r2952)) rfl (XS.aload X2952.here hx rfl (D at_294) rfl rfl (XS.iconst X2952.here hx rfl (D at_296) (own_ldD X2952 hx hZ rfl V2952 (j := (0 : Int32)) ⟨(by decide), (by decide)⟩ (v := (.double (own_st (own_st (0 : UInt64) (own_dp p0 p2 p4) (4607182418800017408 : UInt64)) (own_dq p1 p2 p4) (own_W p3)))) rfl rfl rfl (D at_297) (XS.dload X2952.here hx rfl (D at_298) rfl (XS.dcmpS X2952.here hx rfl (D at_300) rfl rfl (XS.ifNo X2952.here hx rfl (D at_301) rfl ((if0 _ _).trans (teq (show (cmpValue (FP.dcmp (own_st (own_st (0 : UInt64) (own_dp p0 p2 p4) (4607182418800017408 : UInt64)) (own_dq p1 p2 p4) (own_W p3)) (FP.dadd (own_dp p0 p2 p4) (FP.dmul (own_dq p1 p2 p4) (FP.dneg (FP.i2d p3))))) .l) = (0 : Int32) from Jvm.RoadKit.dcmpV_eq (own_yA (own_wdp p0 p2 p4) (own_wdq p1 p2 p4) p3) (own_nst (own_nst own_w0.nn (own_wdp p0 p2 p4) own_w1) (own_wdq p1 p2 p4) (own_wW p3)) _)).2) (XS.aload X2952.here hx rfl (D at_304) rfl rfl (XS.iconst X2952.here hx rfl (D at_306) ?_)))))))))
        refine own_ldD X2952 hx hZ rfl V2952 (j := (1 : Int32)) ⟨(by decide), (by decide)⟩ (v := (.double (own_st (own_st (0 : UInt64) (own_dp p0 p2 p4) (0 : UInt64)) (own_dq p1 p2 p4) (4607182418800017408 : UInt64)))) rfl rfl rfl (D at_307) (XS.dload X2952.here hx rfl (D at_308) rfl (XS.dcmpS X2952.here hx rfl (D at_310) rfl rfl (XS.ifNo X2952.here hx rfl (D at_311) rfl ((if0 _ _).trans (teq (show (cmpValue (FP.dcmp (own_st (own_st (0 : UInt64) (own_dp p0 p2 p4) (0 : UInt64)) (own_dq p1 p2 p4) (4607182418800017408 : UInt64)) (own_dq p1 p2 p4)) .l) = (0 : Int32) from Jvm.RoadKit.dcmpV_eq (own_yC (own_wdp p0 p2 p4) (own_wdq p1 p2 p4)) (own_nst (own_nst own_w0.nn (own_wdp p0 p2 p4) own_w0) (own_wdq p1 p2 p4) own_w1) _)).2) ?_)))
        show own_S p e below T2952 (mkF m 314 (own_loc138 p0 p1 p2 p3 p4 b2580 b2911 r2952) []) _
        refine XS.iconst X2952.here hx rfl (D at_314) (XS.goto X2952.here hx rfl (pc0 := 315) (pc' := 319) rfl (D at_315) (by decide) (by decide) ?_)
        show own_S p e below T2952 (mkF m 319 (own_loc138 p0 p1 p2 p3 p4 b2580 b2911 r2952) [.int 1]) _
        exact retN X2952 hx (t := .boolean) Bd.returns (by simp) (D at_319) hr
      · exact ⟨rfl, N2952⟩
    · obtain ⟨T2962, h2962, k2962, X2962, e2962, E2962, A2962, EA2962, st2962⟩ := newPE X2901 hx hZ (own_wk hw 12 rfl) rfl (g := (mkF m 184 (own_loc120 p0 p1 p2 p3 p4 b2580) [.int 2])) rfl (D at_184) rfl (by decide) (cap := 2) (by decide) (by decide) (by decide) (by decide) (ad := "[I") (by decide)
      obtain ⟨b2962, g2962⟩ : ∃ z, z = T2901.heap.size := ⟨_, rfl⟩
      have gq_b2962 : T2901.heap.size ≤ b2962 := Nat.le_trans (Keep.refl T2901.heap []).1 (Nat.le_of_eq g2962.symm)
      have lt_b2962 : u10 < b2962 := Nat.lt_of_lt_of_le x2903.lt (Nat.le_of_eq g2962.symm)
      have ge_b2962 : n0 ≤ b2962 := Nat.le_trans sz2908 (Nat.le_of_eq g2962.symm)
      rw [← g2962] at A2962 st2962 EA2962
      have kq2963 := (Keep.refl T2901.heap []).ext E2962
      have sz2964 : n0 ≤ h2962.size := Nat.le_trans sz2908 E2962.1
      have V2962 : Arv Z h2962 b2962 k2962 .int (2 : Int32) [(.int (0 : Int32)), (.int (0 : Int32))] (.int (0 : Int32)) := (Arv.new A2962 (by decide)).pad (pad_rep [] (.int (0 : Int32)) 2)
      obtain ⟨T2965, h2965, X2965, e2965, W2965, V2965, st2965⟩ := own_stI X2962 hx hZ e2962 V2962 (j := (0 : Int32)) ⟨(by decide), (by decide)⟩ 0 rfl (Nat.le_of_ble_eq_true rfl) (vs' := [(.int (2 : Int32)), (.int (0 : Int32))]) rfl (g := (mkF m 190 (own_loc120 p0 p1 p2 p3 p4 b2580) [.int 2, .int 0, (.ref b2962), (.ref b2962)])) rfl rfl (D at_190)
      have kq2966 := kq2963.wr W2965 (Or.inr gq_b2962)
      have x2967 := EA2962.wr W2965
      have sz2968 : n0 ≤ h2965.size := Nat.le_trans sz2964 (Keep.of_wr W2965).1
      have N2965 := Fr.snoc X2965 N2901 ge_b2962
      obtain ⟨T2969, h2969, X2969, e2969, W2969, V2969, st2969⟩ := own_stI X2965 hx hZ e2965 V2965 (j := (1 : Int32)) ⟨(by decide), (by decide)⟩ 1 rfl (Nat.le_of_ble_eq_true rfl) (vs' := [(.int (2 : Int32)), (.int (1 : Int32))]) rfl (g := (mkF m 195 (own_loc120 p0 p1 p2 p3 p4 b2580) [.int 1, .int 1, (.ref b2962), (.ref b2962)])) rfl rfl (D at_195)
      have kq2970 := kq2966.wr W2969 (Or.inr gq_b2962)
      have x2971 := x2967.wr W2969
      have sz2972 : n0 ≤ h2969.size := Nat.le_trans sz2968 (Keep.of_wr W2969).1
      have N2969 := Fr.snoc X2969 N2965 ge_b2962
      obtain ⟨T2973, h2973, k2973, X2973, e2973, E2973, A2973, EA2973, st2973⟩ := newPE X2969 hx hZ (own_wk hw 12 rfl) e2969 (g := (mkF m 217 (own_loc139 p0 p1 p2 p3 p4 b2580 b2962) [.int 1, (.ref b2580)])) rfl (D at_217) rfl (by decide) (cap := 1) (by decide) (by decide) (by decide) (by decide) (ad := "[I") (by decide)
      obtain ⟨b2973, g2973⟩ : ∃ z, z = h2969.size := ⟨_, rfl⟩
      have gq_b2973 : T2901.heap.size ≤ b2973 := Nat.le_trans kq2970.1 (Nat.le_of_eq g2973.symm)
      have lt_b2973 : u10 < b2973 := Nat.lt_of_lt_of_le (x2903.keep kq2970 nin0).lt (Nat.le_of_eq g2973.symm)
      have ne2974 : b2962 ≠ b2973 := Nat.ne_of_lt (Nat.lt_of_lt_of_le x2971.lt (Nat.le_of_eq g2973.symm))
      have ge_b2973 : n0 ≤ b2973 := Nat.le_trans sz2972 (Nat.le_of_eq g2973.symm)
      rw [← g2973] at A2973 st2973 EA2973
      have kq2975 := kq2970.ext E2973
      have x2976 := x2971.ext E2973
      have x2977 := V2969.ext E2973
      have sz2978 : n0 ≤ h2973.size := Nat.le_trans sz2972 E2973.1
      have V2973 : Arv Z h2973 b2973 k2973 .int (1 : Int32) [(.int (0 : Int32))] (.int (0 : Int32)) := (Arv.new A2973 (by decide)).pad (pad_rep [] (.int (0 : Int32)) 1)
      obtain ⟨T2979, h2979, X2979, e2979, W2979, V2979, st2979⟩ := own_stI X2973 hx hZ e2973 V2973 (j := (0 : Int32)) ⟨(by decide), (by decide)⟩ 0 rfl (Nat.le_of_ble_eq_true rfl) (vs' := [(.int (0 : Int32))]) rfl (g := (mkF m 223 (own_loc139 p0 p1 p2 p3 p4 b2580 b2962) [.int 0, .int 0, (.ref b2973), (.ref b2973), (.ref b2580)])) rfl rfl (D at_223)
      have kq2980 := kq2975.wr W2979 (Or.inr gq_b2973)
      have x2981 := x2976.wr W2979
      have x2982 := x2977.other W2979 ne2974
      have x2983 := EA2973.wr W2979
      have sz2984 : n0 ≤ h2979.size := Nat.le_trans sz2978 (Keep.of_wr W2979).1
      have N2979 := Fr.snoc X2979 N2969 ge_b2973
      have cp2985 : ∀ target, own_S p e below T2979 (mkF m 226 (own_loc139 p0 p1 p2 p3 p4 b2580 b2962) [(.ref b2962), (.ref b2973), (.ref b2580)]) target → own_S p e below s₁ (mkF m 0 (own_loc112 p0 p1 p2 p3 p4) []) target := by
        intro target kt
        show own_S p e below s₁ (mkF m 0 (own_loc112 p0 p1 p2 p3 p4) []) _
        refine cp2910 _ (XS.ifNo X2901.here hx rfl (D at_180) rfl ((if0 _ _).trans (feq hc2909).1) (XS.iconst X2901.here hx rfl (D at_183) (st2962 _ (XS.dup X2962.here hx rfl (D at_186) rfl rfl (XS.iconst X2962.here hx rfl (D at_187) (XS.iload X2962.here hx rfl (D at_188) rfl (st2965 _ (XS.dup X2965.here hx rfl (D at_191) rfl rfl (XS.iconst X2965.here hx rfl (D at_192) ?_)))))))))
        refine XS.iload X2965.here hx rfl (D at_193) rfl (st2969 _ (XS.goto X2969.here hx rfl (pc0 := 196) (pc' := 212) rfl (D at_196) (by decide) (by decide) (XS.astore X2969.here hx rfl (D at_212) rfl rfl (l' := (own_loc139 p0 p1 p2 p3 p4 b2580 b2962)) rfl ?_)))
        show own_S p e below T2969 (mkF m 214 (own_loc139 p0 p1 p2 p3 p4 b2580 b2962) []) _
        refine XS.aload X2969.here hx rfl (D at_214) rfl rfl (XS.iconst X2969.here hx rfl (D at_216) (st2973 _ (XS.dup X2973.here hx rfl (D at_219) rfl rfl (XS.iconst X2973.here hx rfl (D at_220) (XS.iload X2973.here hx rfl (D at_221) rfl (st2979 _ (XS.aload X2979.here hx rfl (D at_224) rfl rfl ?_)))))))
        exact kt
      obtain ⟨cq2986, kq2986, q2986a, q2986b, q2986c⟩ := isOf hZ e2979 (x2902.keep kq2980)
      obtain ⟨_, _, ⟨T2986, L2986, k2986, n2986⟩, -, X2986, ⟨Lc2986, hQ2986, l2986, y2986, z2986⟩, st2986⟩ := X2979.virtualBack hx (y := (⟨own_K, "start", "([I[I)V"⟩ : MethodName)) (z := (⟨own_K, "start", "([I[I)V"⟩ : MethodName)) hown (mvT hZ (own_wk hw 84 rfl)) (mvT hZ (own_wk hw 85 rfl)) (notFace_of_selects (args := #[]) (mvT hZ (own_wk hw 87 rfl))) (mvT hZ (own_wk hw 87 rfl)) (mvT hZ (own_wk hw 86 rfl)) (by decide) (backOf (W := 0) (rm7 l Z ag hw [] b2580 b2973 b2962 _ _ _ _ _ _ _ _ _ _ _ _ _ _ _ _ _ _ _ _ _ _ _ _ _ _ _ _ _ _ _ _ _ _ _ _ _ _ _ _ _ _ _ _ _ _ (FP.i2d p2) (own_W p3) (4607182418800017408 : UInt64) (4607182418800017408 : UInt64) (0 : UInt64) h2979 n0 sz2984 (x2902.keep kq2980) (o2901_0.keep kq2980 nin0) (o2901_2.keep kq2980 nin0) (o2901_4.keep kq2980 nin0) (o2901_5.keep kq2980 nin0) (o2901_7.keep kq2980 nin0) (o2901_8.keep kq2980 nin0) (o2901_9.keep kq2980 nin0) (o2901_1.keep kq2980 nin0) (o2901_3.keep kq2980 nin0) (x2903.keep kq2980 nin0) x2983 V2979 x2981 x2982 ge_b2580 ge_u2 n0_2 n0_4 n0_5 n0_7 n0_8 n0_9 n0_1 n0_3 n0_11 (own_nb hch lt_b2973 0 rfl) (own_nb hch lt_b2962 0 rfl) n2_3.symm n3_4 n3_5 n3_7 n3_8 n3_9 n1_3.symm n3_11 (own_nb hch lt_b2973 3 rfl) (own_nb hch lt_b2962 3 rfl) ⟨(0 : UInt64), (4607182418800017408 : UInt64), (4607182418800017408 : UInt64), (FP.i2d p3), (FP.i2d p3), (0 : UInt64), (4607182418800017408 : UInt64), (1 : Int32), ⟨⟨by decide, by decide⟩, ⟨(own_gq p4), rfl, (own_gqz p4)⟩, own_w0, own_w1, (2 : Int32), rfl, Or.inr (Or.inl ⟨rfl, ⟨by decide, by decide⟩, by decide, rfl, rfl, by decide, rfl⟩)⟩, ⟨⟨by decide, by decide⟩, ⟨(own_gp p4), rfl, (own_gpz p4)⟩, own_w1, (own_wi p3), (0 : Int32), rfl, Or.inr (Or.inr ⟨rfl, ⟨by decide, by decide⟩, by decide, rfl, rfl, ⟨by decide, by decide⟩, by decide, rfl, rfl, by decide⟩)⟩, ⟨(0 : Int32), rfl, rfl, by decide⟩, ⟨_, rfl, own_wi _⟩, ⟨_, rfl, own_wi _⟩, ⟨rfl, own_wi p2⟩, ⟨rfl, rfl⟩, by decide +kernel, Or.inr ⟨rfl, rfl, rfl, rfl, rfl, rfl, rfl, rfl, rfl⟩, own_wi p3, own_elW p3, own_el1 p3⟩ rfl (by simp only [List.length_set, List.length_replicate])) hZ (own_wk hw 88 rfl) (own_wk hw 2 rfl) (by decide) (by decide)) q2986a q2986c (g := (mkF m 226 (own_loc139 p0 p1 p2 p3 p4 b2580 b2962) [(.ref b2962), (.ref b2973), (.ref b2580)])) rfl (by rw [hml]; rfl) (Steps.refl _) (argsL := [(.ref b2973), (.ref b2962)]) (rest := []) (lenOf pd_14 rfl) rfl (by show 2 * 0 + _ ≤ _; exact Nat.le_of_eq rfl) (D at_226) (fun _ _ => ⟨rfl, e2979, (by decide : 37 + 19 ≤ _), (by decide : 299 + 31 ≤ _)⟩)
      dsimp only [Pt.U, Pt.locs, Pt.cells, Pt.slots] at X2986 l2986 y2986 z2986 st2986 hQ2986
      subst l2986 y2986 z2986
      obtain ⟨ky2986, hh2986, iv2986, i02986, i12986, va2986, kv2986, xa2986, xb2986, xc2986, xd2986, xe2986, kz1_2986, kz2_2986, kz3_2986, kz4_2986, kz5_2986, rfl, N2986q, K2986, Ob2986, Vky2986, Vhh2986, Viv2986, Vi02986, Vi12986⟩ := hQ2986
      have N2986 := Fr.app N2979 N2986q
      have x2987 := (x2902.keep kq2980).keep K2986
      have x2988 := (x2903.keep kq2980 nin0).keep K2986 (ninS n0_11.symm (ninS n3_11.symm nin0))
      have x2989 := (o2901_1.keep kq2980 nin0).keep K2986 (ninS n0_1.symm (ninS n1_3 nin0))
      have x2990 := (o2901_2.keep kq2980 nin0).keep K2986 (ninS n0_2.symm (ninS n2_3 nin0))
      have x2991 := (o2901_4.keep kq2980 nin0).keep K2986 (ninS n0_4.symm (ninS n3_4.symm nin0))
      have x2992 := (o2901_5.keep kq2980 nin0).keep K2986 (ninS n0_5.symm (ninS n3_5.symm nin0))
      have x2993 := (o2901_6.keep kq2980 nin0).keep K2986 (ninS n0_6.symm (ninS n3_6.symm nin0))
      have x2994 := (o2901_7.keep kq2980 nin0).keep K2986 (ninS n0_7.symm (ninS n3_7.symm nin0))
      have x2995 := (o2901_8.keep kq2980 nin0).keep K2986 (ninS n0_8.symm (ninS n3_8.symm nin0))
      have x2996 := (o2901_9.keep kq2980 nin0).keep K2986 (ninS n0_9.symm (ninS n3_9.symm nin0))
      have x2997 := (o2901_10.keep kq2980 nin0).keep K2986 (ninS n0_10.symm (ninS n3_10.symm nin0))
      have x2998 := x2981.keep K2986
      have x2999 := x2982.keep K2986 (ninS (own_nb hch lt_b2962 0 rfl).symm (ninS (own_nb hch lt_b2962 3 rfl).symm nin0))
      have x3000 := x2983.keep K2986
      have x3001 := V2979.keep K2986 (ninS (own_nb hch lt_b2973 0 rfl).symm (ninS (own_nb hch lt_b2973 3 rfl).symm nin0))
      have sz3002 : n0 ≤ T2986.heap.size := Nat.le_trans sz2984 K2986.1
      obtain ⟨cq3003, kq3003, q3003a, q3003b, q3003c⟩ := isOf hZ rfl x2987
      obtain ⟨_, _, ⟨T3003, L3003, k3003, n3003⟩, -, X3003, ⟨Lc3003, hQ3003, l3003, y3003, z3003⟩, st3003⟩ := X2986.virtualBack hx (y := (⟨own_K, "duals", "()[D"⟩ : MethodName)) (z := (⟨own_K, "duals", "()[D"⟩ : MethodName)) hown (mvT hZ (own_wk hw 143 rfl)) (mvT hZ (own_wk hw 144 rfl)) (notFace_of_selects (args := #[]) (mvT hZ (own_wk hw 146 rfl))) (mvT hZ (own_wk hw 146 rfl)) (mvT hZ (own_wk hw 145 rfl)) (by decide) (backOf (W := 0) (rm17 l Z ag hw [] b2580 _ _ _ _ _ _ _ _ _ _ _ _ _ _ _ _ _ _ _ _ _ _ _ _ _ _ _ _ _ _ _ _ _ _ _ _ _ _ _ _ _ _ _ (FP.i2d p2) (own_gq p4) (own_gp p4) (FP.i2d p1) (own_dq p1 p2 p4) (FP.i2d p0) (own_dp p0 p2 p4) T2986.heap n0 sz3002 x2987 Ob2986 Vhh2986 x2989 x2990 Vky2986 Viv2986 Vi02986 Vi12986 rfl ⟨by decide, by decide⟩ rfl rfl (own_gqx p1 p2 p4) (own_gqy p1 p2 p4) (own_wdq p1 p2 p4) ⟨by decide, by decide⟩ rfl rfl (own_gpx p0 p2 p4) (own_gpy p0 p2 p4) (own_wdp p0 p2 p4) (own_wW p3) own_w1 own_w1 own_w0) hZ (own_wk hw 147 rfl) (own_wk hw 2 rfl) (by decide) (by decide)) q3003a q3003c (g := (mkF m 231 (own_loc139 p0 p1 p2 p3 p4 b2580 b2962) [(.ref b2580)])) rfl (by rw [hml]; rfl) (Steps.refl _) (argsL := []) (rest := []) (lenOf pd_3 rfl) rfl (by show 2 * 0 + _ ≤ _; exact Nat.le_of_eq rfl) (D at_231) (fun _ _ => ⟨rfl, rfl, (by decide : 56 + 1 ≤ _), (by decide : 330 + 2 ≤ _)⟩)
      dsimp only [Pt.U, Pt.locs, Pt.cells, Pt.slots] at X3003 l3003 y3003 z3003 st3003 hQ3003
      subst l3003 y3003 z3003
      obtain ⟨r3003, kr3003, rfl, N3003q, K3003, ge_r3003, gq_r3003, EA3003, V3003⟩ := hQ3003
      have N3003 := Fr.app N2986 N3003q
      have kq3004 := (Keep.refl T2986.heap []).trans K3003 all0
      have sz3005 : n0 ≤ T3003.heap.size := Nat.le_trans sz3002 K3003.1
      obtain ⟨cl3006, Ar3006, -, S3006, M3006, -, -⟩ := id V3003
      have ld3006 := X3003.arraylength hx Ar3006.1 (State.isArrayOf_alike hZ.alike Ar3006.2.1) (g := (mkF m 238 (own_loc140 p0 p1 p2 p3 p4 b2580 b2962 r3003) [(.ref r3003)])) rfl rfl (D at_238)
      have sg3008 : ∀ target, Steps p.tables e below (T3003.setTop (mkF m 260 (own_loc140 p0 p1 p2 p3 p4 b2580 b2962 r3003) [(.double (own_dp p0 p2 p4))])) target → Steps p.tables e below (T3003.setTop (mkF m 245 (own_loc140 p0 p1 p2 p3 p4 b2580 b2962 r3003) [])) target := by
        intro target kt
        show own_S p e below T3003 (mkF m 245 (own_loc140 p0 p1 p2 p3 p4 b2580 b2962 r3003) []) _
        refine XS.iload X3003.here hx rfl (D at_245) rfl ?_
        by_cases hc3007 : (own_b1 p4) = (0 : Int32)
        · show own_S p e below T3003 (mkF m 247 (own_loc140 p0 p1 p2 p3 p4 b2580 b2962 r3003) [(.int (own_b1 p4))]) _
          refine XS.ifYes X3003.here hx rfl (pc0 := 247) (pc' := 258) rfl (D at_247) rfl ((if0 _ _).trans (teq hc3007).1) (by decide) (by decide) (XS.iloadN X3003.here hx rfl (D at_258) rfl (XS.i2dS X3003.here hx rfl (D at_259) rfl rfl ?_))
          show own_S p e below T3003 (mkF m 260 (own_loc140 p0 p1 p2 p3 p4 b2580 b2962 r3003) [(.double (FP.i2d p0))]) _
          have kt := own_cast (P := fun z => Steps p.tables e below (T3003.setTop (mkF m 260 (own_loc140 p0 p1 p2 p3 p4 b2580 b2962 r3003) [(.double z)])) target) (show (own_dp p0 p2 p4) = (FP.i2d p0) from (by unfold own_dp; rw [if_pos hc3007])) kt
          exact kt
        · show own_S p e below T3003 (mkF m 247 (own_loc140 p0 p1 p2 p3 p4 b2580 b2962 r3003) [(.int (own_b1 p4))]) _
          refine XS.ifNo X3003.here hx rfl (D at_247) rfl ((if0 _ _).trans (feq hc3007).1) (XS.iloadN X3003.here hx rfl (D at_250) rfl (XS.i2dS X3003.here hx rfl (D at_251) rfl rfl (XS.iloadN X3003.here hx rfl (D at_252) rfl (XS.i2dS X3003.here hx rfl (D at_253) rfl rfl (XS.dsubS X3003.here hx rfl (D at_254) rfl (own_wsub _ _).nn rfl (XS.goto X3003.here hx rfl (pc0 := 255) (pc' := 260) rfl (D at_255) (by decide) (by decide) ?_))))))
          show own_S p e below T3003 (mkF m 260 (own_loc140 p0 p1 p2 p3 p4 b2580 b2962 r3003) [(.double (FP.dsub (FP.i2d p0) (FP.i2d p2)))]) _
          have kt := own_cast (P := fun z => Steps p.tables e below (T3003.setTop (mkF m 260 (own_loc140 p0 p1 p2 p3 p4 b2580 b2962 r3003) [(.double z)])) target) (show (own_dp p0 p2 p4) = (FP.dsub (FP.i2d p0) (FP.i2d p2)) from (by unfold own_dp; rw [if_neg hc3007])) kt
          exact kt
      have sg3010 : ∀ target, Steps p.tables e below (T3003.setTop (mkF m 277 (own_loc141 p0 p1 p2 p3 p4 b2580 b2962 r3003) [(.double (own_dq p1 p2 p4))])) target → Steps p.tables e below (T3003.setTop (mkF m 262 (own_loc141 p0 p1 p2 p3 p4 b2580 b2962 r3003) [])) target := by
        intro target kt
        show own_S p e below T3003 (mkF m 262 (own_loc141 p0 p1 p2 p3 p4 b2580 b2962 r3003) []) _
        refine XS.iload X3003.here hx rfl (D at_262) rfl ?_
        by_cases hc3009 : (own_b2 p4) = (0 : Int32)
        · show own_S p e below T3003 (mkF m 264 (own_loc141 p0 p1 p2 p3 p4 b2580 b2962 r3003) [(.int (own_b2 p4))]) _
          refine XS.ifYes X3003.here hx rfl (pc0 := 264) (pc' := 275) rfl (D at_264) rfl ((if0 _ _).trans (teq hc3009).1) (by decide) (by decide) (XS.iloadN X3003.here hx rfl (D at_275) rfl (XS.i2dS X3003.here hx rfl (D at_276) rfl rfl ?_))
          show own_S p e below T3003 (mkF m 277 (own_loc141 p0 p1 p2 p3 p4 b2580 b2962 r3003) [(.double (FP.i2d p1))]) _
          have kt := own_cast (P := fun z => Steps p.tables e below (T3003.setTop (mkF m 277 (own_loc141 p0 p1 p2 p3 p4 b2580 b2962 r3003) [(.double z)])) target) (show (own_dq p1 p2 p4) = (FP.i2d p1) from (by unfold own_dq; rw [if_pos hc3009])) kt
          exact kt
        · show own_S p e below T3003 (mkF m 264 (own_loc141 p0 p1 p2 p3 p4 b2580 b2962 r3003) [(.int (own_b2 p4))]) _
          refine XS.ifNo X3003.here hx rfl (D at_264) rfl ((if0 _ _).trans (feq hc3009).1) (XS.iloadN X3003.here hx rfl (D at_267) rfl (XS.i2dS X3003.here hx rfl (D at_268) rfl rfl (XS.iloadN X3003.here hx rfl (D at_269) rfl (XS.i2dS X3003.here hx rfl (D at_270) rfl rfl (XS.dsubS X3003.here hx rfl (D at_271) rfl (own_wsub _ _).nn rfl (XS.goto X3003.here hx rfl (pc0 := 272) (pc' := 277) rfl (D at_272) (by decide) (by decide) ?_))))))
          show own_S p e below T3003 (mkF m 277 (own_loc141 p0 p1 p2 p3 p4 b2580 b2962 r3003) [(.double (FP.dsub (FP.i2d p1) (FP.i2d p2)))]) _
          have kt := own_cast (P := fun z => Steps p.tables e below (T3003.setTop (mkF m 277 (own_loc141 p0 p1 p2 p3 p4 b2580 b2962 r3003) [(.double z)])) target) (show (own_dq p1 p2 p4) = (FP.dsub (FP.i2d p1) (FP.i2d p2)) from (by unfold own_dq; rw [if_neg hc3009])) kt
          exact kt
      obtain ⟨fs, hr, hrun, hended, hW, hsame⟩ := X3003.leave (v := some (.int (1 : Int32))) (fun h => by rw [Bd.returns] at h; cases h)
      refine ⟨_, _, pre0 _ ?_, hrun, hended, _, _, rfl, ?_, ⟨_, rfl⟩, hW, hsame.mono (by decide) (by decide)⟩
      · show own_S p e below s₁ (mkF m 0 (own_loc112 p0 p1 p2 p3 p4) []) _
        refine cp2985 _ (st2986.trans (XS.aload X2986.here hx rfl (D at_229) rfl rfl (st3003.trans (XS.astore X3003.here hx rfl (D at_234) rfl rfl (l' := (own_loc140 p0 p1 p2 p3 p4 b2580 b2962 r3003)) rfl (XS.aload X3003.here hx rfl (D at_236) rfl rfl (ld3006 _ ?_))))))
        rw [len_of S3006 M3006]
        show own_S p e below T3003 (mkF m 239 (own_loc140 p0 p1 p2 p3 p4 b2580 b2962 r3003) [.int 2]) _
        refine XS.iconst X3003.here hx rfl (D at_239) (XS.icmpYes X3003.here hx rfl (pc0 := 240) (pc' := 245) rfl (D at_240) rfl (teq (by decide : (2 : Int32) = (2 : Int32))).1 (by decide) (by decide) (sg3008 _ (XS.dstore X3003.here hx rfl (D at_260) rfl (l' := (own_loc141 p0 p1 p2 p3 p4 b2580 b2962 r3003)) rfl (sg3010 _ (XS.dstore X3003.here hx rfl (D at_277) rfl (l' := (own_loc142 p0 p1 p2 p3 p4 b2580 b2962 r3003)) rfl (XS.dload X3003.here hx rfl (D at_279) rfl (XS.dload X3003.here hx rfl (D at_281) rfl (XS.iloadN X3003.here hx rfl (D at_283) rfl (XS.i2dS X3003.here hx rfl (D at_284) rfl rfl ?_)))))))))
        refine XS.dnegS X3003.here hx rfl (D at_285) rfl rfl (XS.dmulS X3003.here hx rfl (D at_286) rfl (own_nno (FP.Core.dmul_out (own_wdq p1 p2 p4).fin (own_nf (own_wi p3)))) rfl (XS.daddS X3003.here hx rfl (D at_287) rfl (own_nadd (own_wdp p0 p2 p4) (own_nno (FP.Core.dmul_out (own_wdq p1 p2 p4).fin (own_nf (own_wi p3))))) rfl (XS.dstore X3003.here hx rfl (D at_288) rfl (l' := (own_loc143 p0 p1 p2 p3 p4 b2580 b2962 r3003)) rfl ?_)))
        show own_S p e below T3003 (mkF m 290 (own_loc143 p0 p1 p2 p3 p4 b2580 b2962 r3003) []) _
        refine XS.dload X3003.here hx rfl (D at_290) rfl (XS.dstore X3003.here hx rfl (D at_292) rfl (l' := (own_loc144 p0 p1 p2 p3 p4 b2580 b2962 r3003)) rfl (XS.aload X3003.here hx rfl (D at_294) rfl rfl (XS.iconst X3003.here hx rfl (D at_296) (own_ldD X3003 hx hZ rfl V3003 (j := (0 : Int32)) ⟨(by decide), (by decide)⟩ (v := (.double (own_st (own_st (0 : UInt64) (own_dq p1 p2 p4) (own_W p3)) (own_dp p0 p2 p4) (4607182418800017408 : UInt64)))) rfl rfl rfl (D at_297) (XS.dload X3003.here hx rfl (D at_298) rfl (XS.dcmpS X3003.here hx rfl (D at_300) rfl rfl (XS.ifNo X3003.here hx rfl (D at_301) rfl ((if0 _ _).trans (teq (show (cmpValue (FP.dcmp (own_st (own_st (0 : UInt64) (own_dq p1 p2 p4) (own_W p3)) (own_dp p0 p2 p4) (4607182418800017408 : UInt64)) (FP.dadd (own_dp p0 p2 p4) (FP.dmul (own_dq p1 p2 p4) (FP.dneg (FP.i2d p3))))) .l) = (0 : Int32) from Jvm.RoadKit.dcmpV_eq (own_yB (own_wdp p0 p2 p4) (own_wdq p1 p2 p4) p3) (own_nst (own_nst own_w0.nn (own_wdq p1 p2 p4) (own_wW p3)) (own_wdp p0 p2 p4) own_w1) _)).2) (XS.aload X3003.here hx rfl (D at_304) rfl rfl (XS.iconst X3003.here hx rfl (D at_306) ?_)))))))))
        refine own_ldD X3003 hx hZ rfl V3003 (j := (1 : Int32)) ⟨(by decide), (by decide)⟩ (v := (.double (own_st (own_st (0 : UInt64) (own_dq p1 p2 p4) (4607182418800017408 : UInt64)) (own_dp p0 p2 p4) (0 : UInt64)))) rfl rfl rfl (D at_307) (XS.dload X3003.here hx rfl (D at_308) rfl (XS.dcmpS X3003.here hx rfl (D at_310) rfl rfl (XS.ifNo X3003.here hx rfl (D at_311) rfl ((if0 _ _).trans (teq (show (cmpValue (FP.dcmp (own_st (own_st (0 : UInt64) (own_dq p1 p2 p4) (4607182418800017408 : UInt64)) (own_dp p0 p2 p4) (0 : UInt64)) (own_dq p1 p2 p4)) .l) = (0 : Int32) from Jvm.RoadKit.dcmpV_eq (own_yD (own_wdp p0 p2 p4) (own_wdq p1 p2 p4)) (own_nst (own_nst own_w0.nn (own_wdq p1 p2 p4) own_w1) (own_wdp p0 p2 p4) own_w0) _)).2) ?_)))
        show own_S p e below T3003 (mkF m 314 (own_loc144 p0 p1 p2 p3 p4 b2580 b2962 r3003) []) _
        refine XS.iconst X3003.here hx rfl (D at_314) (XS.goto X3003.here hx rfl (pc0 := 315) (pc' := 319) rfl (D at_315) (by decide) (by decide) ?_)
        show own_S p e below T3003 (mkF m 319 (own_loc144 p0 p1 p2 p3 p4 b2580 b2962 r3003) [.int 1]) _
        exact retN X3003 hx (t := .boolean) Bd.returns (by simp) (D at_319) hr
      · exact ⟨rfl, N3003⟩
set_option maxRecDepth 65536 in
set_option maxHeartbeats 40000000 in
theorem comes_1 {Post : Tables → Env → Array Value → State → Outcome → State → Prop} (hpost : ∀ tb e args s v u, (limb_1_1.after args s (.returned v) u = true ∧ limb_1_2.after args s (.returned v) u = true ∧ True) → FrameEnd s (.returned v) u (Jvm.fieldLocs frame_1_writes args s ++ Jvm.arrayLocs frame_1_arrays args s ++ Jvm.staticLocs frame_1_statics s) 128 768 → Post tb e args s (.returned v) u) :
    ArmFor flags0 classFile x code maxLocals ret World_1 tables_1 room_1 Calls_1 rest_1 Pre_1 Post := by
  intro l hfl _ _ p e ha hc hk s m args below hf hA hF happ hP
  obtain ⟨hcalls, hrest, hpre⟩ := hP
  obtain ⟨-, -, -, hnamed, -, -, -, hat⟩ := (Spec.applies_iff hf).mp happ
  obtain ⟨hg, hn⟩ := and_e (Cond.before_iff.mp (show (Jvm.Cond.and given_1 narrow_1).before args s = true from hpre))
  obtain ⟨g3013, g3014⟩ := and_e hg
  obtain ⟨g3015, g3016⟩ := and_e g3014
  obtain ⟨g3017, g3018⟩ := and_e g3016
  obtain ⟨g3019, g3020⟩ := and_e g3018
  obtain ⟨g3021, g3022⟩ := and_e g3020
  obtain ⟨w0, w1, w2, w3, w4, rfl⟩ : ∃ w0 w1 w2 w3 w4 : Value, args = #[w0, w1, w2, w3, w4] := by
    have hs : args.size = 5 := by simpa [Cond.value, given_1] using g3013
    obtain ⟨L⟩ := args
    match L, hs with
    | [w0, w1, w2, w3, w4], _ => exact ⟨w0, w1, w2, w3, w4, rfl⟩
  have hw := fun d (hd : d ∈ tables_1) => atoms_spec (ws := Jvm.Cond.code x code maxLocals ret :: tables_1) hat d (List.mem_cons_of_mem _ hd)
  have hfit : Fit s := fun {y c} hc i hi => by
    obtain ⟨ha, rfl⟩ := Array.getElem?_eq_some_iff.mp hc
    have q := List.all_eq_true.mp ((Array.all_eq_true_iff_forall_mem.mp hF) _ (Array.getElem_mem ha)) i (List.mem_range.mpr hi)
    simpa [Array.getElem?_eq_getElem hi] using q
  obtain ⟨i0, ei0⟩ := is_v g3015
  obtain rfl : w0 = (.int i0) := Option.some.inj ei0
  obtain ⟨i1, ei1⟩ := is_v g3017
  obtain rfl : w1 = (.int i1) := Option.some.inj ei1
  obtain ⟨i2, ei2⟩ := is_v g3019
  obtain rfl : w2 = (.int i2) := Option.some.inj ei2
  obtain ⟨i3, ei3⟩ := is_v g3021
  obtain rfl : w3 = (.int i3) := Option.some.inj ei3
  obtain ⟨i4, ei4⟩ := is_v g3022
  obtain rfl : w4 = (.int i4) := Option.some.inj ei4
  obtain ⟨n, o, h1, h2, h3, _, L, rfl, ⟨rfl, N⟩, hq⟩ := rm0 l s _ hw tables_1 i0 i1 i2 i3 i4 s.heap s.heap.size (Nat.le_refl _)  p e ha hc hk s m _ below hf ((Spec.applies_iff_loose hf).mp happ).1 ⟨rfl, State.Warmed39.refl s, rfl⟩ trivial
  refine ⟨n, _, h1, h2, h3, hpost _ _ _ _ _ _ ⟨Cond.after_iff.mpr rfl, Cond.after_iff.mpr (eq_i res_at (Term.int_eval (1)) rfl), trivial⟩ ⟨hq.1, hq.2.1, (hq.2.2.sift fun y hy => Or.inr (N y hy)).mono (by decide) (by decide)⟩⟩
theorem main_1_1 : Claimed_1_1 := comes_1 fun _ _ _ _ _ _ h hF => ⟨h.1, hF⟩
theorem main_1_2 : Claimed_1_2 := comes_1 fun _ _ _ _ _ _ h hF => ⟨h.2.1, hF⟩
end Jvm.Pilot.@@N@@
namespace Jvm.Pilot.@@N@@
open Jvm Jvm.ClassFile Sem Op Lib Jvm.Free Jvm.Stand Jvm.Pilot.@@N@@.Jvm.D
/-! MADE BY PROGRAM (witnessworld.py) out of the Statement's table words and the real class files: 16 classes; the members and pool entries that the words name. The judged class is class 1, her method 1. -/
namespace start1
open Jvm.ClassFile
def u (s : String) : CpInfo := .utf8 (stringToUtf16 s)
/-- a pool by its gaps: so many unusable entries, then the entry; so many at the end -/
def gap : Nat → List CpInfo → List CpInfo
  | 0, r => r
  | n + 1, r => .unusable :: gap n r
def poolList (es : List (Nat × CpInfo)) (last : Nat) : List CpInfo := es.foldr (fun e r => gap e.1 (e.2 :: r)) (gap last [])
def pool (es : List (Nat × CpInfo)) (last : Nat) : Array CpInfo := ⟨poolList es last⟩
def fileOf (pool : Array CpInfo) (this : Nat) (attrs : Array Attribute := #[]) (ms : Array MethodInfo := #[]) (fl : Nat := 33) (sup : Nat := 0) (ifs : Array Nat := #[]) (fds : Array FieldInfo := #[]) : ClassFile where
  minorVersion := 0
  majorVersion := 65
  constantPool := pool
  accessFlags := fl
  thisClass := this
  superClass := sup
  interfaces := ifs
  fields := fds
  methods := ms
  attributes := attrs
def plain (name : String) (sup : Option ClassId) : Class where
  name := name
  kind := .ordinary
  loader := none
  accessFlags := 33
  super := sup
  interfaces := #[]
  cf := none
  fields := #[]
  methods := #[]
  instanceTypes := #[]
  staticTypes := #[]
  resolved := #[]
  callSites := []
  init := .initialized
  statics := none
  mirror := none

def pool0 : Array CpInfo := pool [(5, u "<init>"), (0, u "()V"), (1, .class_ 10), (1, u "java/lang/Object"), (85, u "clone"), (0, u "()Ljava/lang/Object;")] 26

def k0c0 : Code := { maxStack := 0, maxLocals := 1, code := object_method_1_code, exceptionTable := #[], attributes := #[] }
def k0m0 : Method := { name := "<init>", desc := "()V", sig := { parameters := [], returnType := none }, accessFlags := 1, code := some k0c0 }
def k0m1 : Method := { name := "clone", desc := "()Ljava/lang/Object;", sig := { parameters := [], returnType := some (.object "java/lang/Object") }, accessFlags := 260, code := none }
/-- java/lang/Object -/
def k0 : Class := { plain "java/lang/Object" none with
  accessFlags := 33
  interfaces := #[]
  cf := some (fileOf pool0 8 #[] #[{ accessFlags := 1, nameIndex := 5, descriptorIndex := 6, attributes := #[] }, { accessFlags := 260, nameIndex := 96, descriptorIndex := 97, attributes := #[] }] 33 0 #[] #[])
  fields := #[]
  methods := #[k0m0, k0m1]
  instanceTypes := #[]
  staticTypes := #[]
  resolved := Array.replicate 124 none
  statics := none }

def pool1 : Array CpInfo := pool [(2, .class_ 4), (0, .nameAndType 5 6), (0, u "java/lang/Object"), (0, u "<init>"), (0, u "()V"), (0, .class_ 8), (0, u "com/example/waveloom/waveloom/plan/Simplex"), (0, .methodref 7 3), (0, .methodref 7 11), (0, .nameAndType 12 13), (0, u "addGroup"), (0, u "()I"), (0, .methodref 7 15), (0, .nameAndType 16 17), (0, u "addVariable"), (0, u "(DI[I[D)I"), (0, .methodref 7 19), (0, .nameAndType 20 21), (0, u "addRow"), (0, u "(D[I[D)I"), (0, .methodref 7 23), (0, .nameAndType 24 25), (0, u "start"), (0, u "([I[I)V"), (0, .methodref 7 27), (0, .nameAndType 28 29), (0, u "duals"), (0, u "()[D"), (0, .class_ 31), (0, u "com/example/waveloom/waveloom/plan/SimplexDualsPinLaw"), (2, u "law"), (0, u "(IIIII)Z")] 7

def k1m0 : Method := { name := "<init>", desc := "()V", sig := { parameters := [], returnType := none }, accessFlags := 1, code := none }
def k1c1 : Code := { maxStack := 10, maxLocals := 23, code := code, exceptionTable := #[], attributes := #[] }
def k1m1 : Method := { name := "law", desc := "(IIIII)Z", sig := { parameters := [.int, .int, .int, .int, .int], returnType := some .boolean }, accessFlags := 9, code := some k1c1 }
/-- com/example/waveloom/waveloom/plan/SimplexDualsPinLaw -/
def k1 : Class := { plain "com/example/waveloom/waveloom/plan/SimplexDualsPinLaw" (some 0) with
  accessFlags := 49
  interfaces := #[]
  cf := some (fileOf pool1 30 #[] #[{ accessFlags := 1, nameIndex := 5, descriptorIndex := 6, attributes := #[] }, { accessFlags := 9, nameIndex := 34, descriptorIndex := 35, attributes := #[] }] 49 2 #[] #[])
  fields := #[]
  methods := #[k1m0, k1m1]
  instanceTypes := #[]
  staticTypes := #[]
  resolved := Array.replicate 43 none
  statics := none }

def pool2 : Array CpInfo := pool [(1, .methodref 2 3), (0, .class_ 4), (0, .nameAndType 5 6), (0, u "java/lang/Object"), (0, u "<init>"), (0, u "()V"), (0, .fieldref 8 9), (0, .class_ 10), (0, .nameAndType 11 12), (0, u "com/example/waveloom/waveloom/plan/Simplex"), (0, u "costs"), (0, u "[D"), (0, .fieldref 8 14), (0, .nameAndType 15 16), (0, u "groupOf"), (0, u "[I"), (0, .fieldref 8 18), (0, .nameAndType 19 16), (0, u "positionOf"), (0, .fieldref 8 21), (0, .nameAndType 22 16), (0, u "firstEntry"), (0, .fieldref 8 24), (0, .nameAndType 25 16), (0, u "entryCounts"), (0, .fieldref 8 27), (0, .nameAndType 28 16), (0, u "entryRooms"), (0, .fieldref 8 30), (0, .nameAndType 31 16), (0, u "entryRows"), (0, .fieldref 8 33), (0, .nameAndType 34 12), (0, u "entryValues"), (0, .fieldref 8 36), (0, .nameAndType 37 12), (0, u "bounds"), (0, .fieldref 8 39), (0, .nameAndType 40 16), (0, u "slacks"), (0, .fieldref 8 42), (0, .nameAndType 43 16), (0, u "keys"), (0, .fieldref 8 45), (0, .nameAndType 46 12), (0, u "keyValues"), (0, .fieldref 8 48), (0, .nameAndType 49 16), (0, u "head"), (0, .class_ 51), (0, u "[[D"), (0, .fieldref 8 53), (0, .nameAndType 54 51), (0, u "inverse"), (0, .fieldref 8 56), (0, .nameAndType 57 12), (0, u "values"), (0, .fieldref 8 59), (0, .nameAndType 60 16), (0, u "groupDualPass"), (0, .fieldref 8 62), (0, .nameAndType 63 12), (0, u "groupDualValues"), (0, .fieldref 8 65), (0, .nameAndType 66 12), (0, u "rates"), (0, .fieldref 8 68), (0, .nameAndType 69 70), (0, u "rated"), (0, u "[Z"), (0, .fieldref 8 72), (0, .nameAndType 73 16), (0, u "ratedGroups"), (0, .fieldref 8 75), (0, .nameAndType 76 77), (0, u "started"), (0, u "Z"), (7, .fieldref 8 86), (0, .nameAndType 87 88), (0, u "groupCount"), (0, u "I"), (0, .fieldref 8 90), (0, .nameAndType 91 88), (0, u "variableCount"), (0, .methodref 93 94), (0, .class_ 95), (0, .nameAndType 96 97), (0, u "java/util/Arrays"), (0, u "copyOf"), (0, u "([DI)[D"), (3, .fieldref 8 102), (0, .nameAndType 103 88), (0, u "entriesUsed"), (0, .methodref 8 105), (0, .nameAndType 106 107), (0, u "appendEntry"), (0, u "(ID)V"), (0, .methodref 109 110), (0, .class_ 111), (0, .nameAndType 112 113), (0, u "java/lang/Math"), (0, u "max"), (0, u "(II)I"), (7, .fieldref 8 122), (0, .nameAndType 123 88), (0, u "rowCount"), (4, .methodref 8 129), (0, .nameAndType 130 131), (0, u "addVariable"), (0, u "(DI[I[D)I"), (10, .methodref 143 144), (0, .class_ 16), (0, .nameAndType 145 146), (0, u "clone"), (0, u "()Ljava/lang/Object;"), (0, .methodref 8 148), (0, .nameAndType 149 6), (0, u "invert"), (0, .double 13695778570484766357), (5, .fieldref 8 157), (0, .nameAndType 158 159), (0, u "objective"), (0, u "D"), (2, u "duals"), (0, u "()[D"), (7, u "(I)[D"), (26, .double 4472406533629990549), (7, u "pricing"), (2, u "cursor"), (8, .methodref 8 219), (0, .nameAndType 220 221), (0, u "addColumn"), (0, u "([DID)V"), (0, .double 13830554455654793216), (1, .methodref 8 225), (0, .nameAndType 226 171), (0, u "workingColumn"), (5, u "ratedCount"), (24, .fieldref 8 258), (0, .nameAndType 259 88), (0, u "pivotsSinceInversion"), (0, .class_ 12), (0, .methodref 93 262), (0, .nameAndType 263 264), (0, u "fill"), (0, u "([DD)V"), (5, .methodref 109 271), (0, .nameAndType 272 273), (0, u "abs"), (0, u "(D)D"), (2, .methodref 8 277), (0, .nameAndType 278 279), (0, u "swap"), (0, u "([[DII)V"), (0, u "TOLERANCE"), (1, u "FEASIBILITY"), (0, u "WINDOW"), (1, u "REFACTOR"), (1, u "DEGENERATE_STREAK"), (3, u "addGroup"), (0, u "()I"), (1, u "addRow"), (0, u "(D[I[D)I"), (2, u "start"), (0, u "([I[I)V")] 30

def k2c0 : Code := { maxStack := 3, maxLocals := 1, code := prog_56_method_1_code, exceptionTable := #[], attributes := #[] }
def k2m0 : Method := { name := "<init>", desc := "()V", sig := { parameters := [], returnType := none }, accessFlags := 0, code := some k2c0 }
def k2c1 : Code := { maxStack := 3, maxLocals := 1, code := prog_56_method_2_code, exceptionTable := #[], attributes := #[] }
def k2m1 : Method := { name := "addGroup", desc := "()I", sig := { parameters := [], returnType := some .int }, accessFlags := 0, code := some k2c1 }
def k2c2 : Code := { maxStack := 4, maxLocals := 8, code := prog_56_method_3_code, exceptionTable := #[], attributes := #[] }
def k2m2 : Method := { name := "addVariable", desc := "(DI[I[D)I", sig := { parameters := [.double, .int, (.array .int), (.array .double)], returnType := some .int }, accessFlags := 0, code := some k2c2 }
def k2c3 : Code := { maxStack := 4, maxLocals := 4, code := prog_56_method_4_code, exceptionTable := #[], attributes := #[] }
def k2m3 : Method := { name := "appendEntry", desc := "(ID)V", sig := { parameters := [.int, .double], returnType := none }, accessFlags := 2, code := some k2c3 }
def k2c4 : Code := { maxStack := 10, maxLocals := 7, code := prog_56_method_6_code, exceptionTable := #[], attributes := #[] }
def k2m4 : Method := { name := "addRow", desc := "(D[I[D)I", sig := { parameters := [.double, (.array .int), (.array .double)], returnType := some .int }, accessFlags := 0, code := some k2c4 }
def k2c5 : Code := { maxStack := 6, maxLocals := 8, code := prog_56_method_9_code, exceptionTable := #[], attributes := #[] }
def k2m5 : Method := { name := "start", desc := "([I[I)V", sig := { parameters := [(.array .int), (.array .int)], returnType := none }, accessFlags := 0, code := some k2c5 }
def k2c6 : Code := { maxStack := 8, maxLocals := 9, code := prog_56_method_13_code, exceptionTable := #[], attributes := #[] }
def k2m6 : Method := { name := "duals", desc := "()[D", sig := { parameters := [], returnType := some (.array .double) }, accessFlags := 0, code := some k2c6 }
def k2c7 : Code := { maxStack := 5, maxLocals := 4, code := prog_56_method_19_code, exceptionTable := #[], attributes := #[] }
def k2m7 : Method := { name := "workingColumn", desc := "(I)[D", sig := { parameters := [.int], returnType := some (.array .double) }, accessFlags := 2, code := some k2c7 }
def k2c8 : Code := { maxStack := 8, maxLocals := 7, code := prog_56_method_20_code, exceptionTable := #[], attributes := #[] }
def k2m8 : Method := { name := "addColumn", desc := "([DID)V", sig := { parameters := [(.array .double), .int, .double], returnType := none }, accessFlags := 2, code := some k2c8 }
def k2c9 : Code := { maxStack := 8, maxLocals := 11, code := prog_56_method_33_code, exceptionTable := #[], attributes := #[] }
def k2m9 : Method := { name := "invert", desc := "()V", sig := { parameters := [], returnType := none }, accessFlags := 2, code := some k2c9 }
def k2c10 : Code := { maxStack := 4, maxLocals := 4, code := prog_56_method_34_code, exceptionTable := #[], attributes := #[] }
def k2m10 : Method := { name := "swap", desc := "([[DII)V", sig := { parameters := [(.array (.array .double)), .int, .int], returnType := none }, accessFlags := 10, code := some k2c10 }
/-- com/example/waveloom/waveloom/plan/Simplex -/
def k2 : Class := { plain "com/example/waveloom/waveloom/plan/Simplex" (some 0) with
  accessFlags := 48
  interfaces := #[]
  cf := some (fileOf pool2 8 #[] #[{ accessFlags := 0, nameIndex := 5, descriptorIndex := 6, attributes := #[] }, { accessFlags := 0, nameIndex := 291, descriptorIndex := 292, attributes := #[] }, { accessFlags := 0, nameIndex := 130, descriptorIndex := 131, attributes := #[] }, { accessFlags := 2, nameIndex := 106, descriptorIndex := 107, attributes := #[] }, { accessFlags := 0, nameIndex := 294, descriptorIndex := 295, attributes := #[] }, { accessFlags := 0, nameIndex := 298, descriptorIndex := 299, attributes := #[] }, { accessFlags := 0, nameIndex := 162, descriptorIndex := 163, attributes := #[] }, { accessFlags := 2, nameIndex := 226, descriptorIndex := 171, attributes := #[] }, { accessFlags := 2, nameIndex := 220, descriptorIndex := 221, attributes := #[] }, { accessFlags := 2, nameIndex := 149, descriptorIndex := 6, attributes := #[] }, { accessFlags := 10, nameIndex := 278, descriptorIndex := 279, attributes := #[] }] 48 2 #[] #[{ accessFlags := 26, nameIndex := 280, descriptorIndex := 159, attributes := #[] }, { accessFlags := 26, nameIndex := 282, descriptorIndex := 159, attributes := #[] }, { accessFlags := 26, nameIndex := 283, descriptorIndex := 88, attributes := #[] }, { accessFlags := 26, nameIndex := 285, descriptorIndex := 88, attributes := #[] }, { accessFlags := 26, nameIndex := 287, descriptorIndex := 88, attributes := #[] }, { accessFlags := 2, nameIndex := 91, descriptorIndex := 88, attributes := #[] }, { accessFlags := 2, nameIndex := 11, descriptorIndex := 12, attributes := #[] }, { accessFlags := 2, nameIndex := 15, descriptorIndex := 16, attributes := #[] }, { accessFlags := 2, nameIndex := 19, descriptorIndex := 16, attributes := #[] }, { accessFlags := 2, nameIndex := 22, descriptorIndex := 16, attributes := #[] }, { accessFlags := 2, nameIndex := 25, descriptorIndex := 16, attributes := #[] }, { accessFlags := 2, nameIndex := 28, descriptorIndex := 16, attributes := #[] }, { accessFlags := 2, nameIndex := 31, descriptorIndex := 16, attributes := #[] }, { accessFlags := 2, nameIndex := 34, descriptorIndex := 12, attributes := #[] }, { accessFlags := 2, nameIndex := 103, descriptorIndex := 88, attributes := #[] }, { accessFlags := 2, nameIndex := 123, descriptorIndex := 88, attributes := #[] }, { accessFlags := 2, nameIndex := 37, descriptorIndex := 12, attributes := #[] }, { accessFlags := 2, nameIndex := 40, descriptorIndex := 16, attributes := #[] }, { accessFlags := 2, nameIndex := 87, descriptorIndex := 88, attributes := #[] }, { accessFlags := 2, nameIndex := 43, descriptorIndex := 16, attributes := #[] }, { accessFlags := 2, nameIndex := 46, descriptorIndex := 12, attributes := #[] }, { accessFlags := 2, nameIndex := 76, descriptorIndex := 77, attributes := #[] }, { accessFlags := 2, nameIndex := 49, descriptorIndex := 16, attributes := #[] }, { accessFlags := 2, nameIndex := 54, descriptorIndex := 51, attributes := #[] }, { accessFlags := 2, nameIndex := 57, descriptorIndex := 12, attributes := #[] }, { accessFlags := 2, nameIndex := 158, descriptorIndex := 159, attributes := #[] }, { accessFlags := 2, nameIndex := 259, descriptorIndex := 88, attributes := #[] }, { accessFlags := 2, nameIndex := 209, descriptorIndex := 88, attributes := #[] }, { accessFlags := 2, nameIndex := 206, descriptorIndex := 88, attributes := #[] }, { accessFlags := 2, nameIndex := 60, descriptorIndex := 16, attributes := #[] }, { accessFlags := 2, nameIndex := 63, descriptorIndex := 12, attributes := #[] }, { accessFlags := 2, nameIndex := 66, descriptorIndex := 12, attributes := #[] }, { accessFlags := 2, nameIndex := 69, descriptorIndex := 70, attributes := #[] }, { accessFlags := 2, nameIndex := 73, descriptorIndex := 16, attributes := #[] }, { accessFlags := 2, nameIndex := 232, descriptorIndex := 88, attributes := #[] }])
  fields := #[{ name := "TOLERANCE", type := .double, accessFlags := 26, slot := 0, constantValue := 0 }, { name := "FEASIBILITY", type := .double, accessFlags := 26, slot := 1, constantValue := 0 }, { name := "WINDOW", type := .int, accessFlags := 26, slot := 2, constantValue := 0 }, { name := "REFACTOR", type := .int, accessFlags := 26, slot := 3, constantValue := 0 }, { name := "DEGENERATE_STREAK", type := .int, accessFlags := 26, slot := 4, constantValue := 0 }, { name := "variableCount", type := .int, accessFlags := 2, slot := 0, constantValue := 0 }, { name := "costs", type := (.array .double), accessFlags := 2, slot := 1, constantValue := 0 }, { name := "groupOf", type := (.array .int), accessFlags := 2, slot := 2, constantValue := 0 }, { name := "positionOf", type := (.array .int), accessFlags := 2, slot := 3, constantValue := 0 }, { name := "firstEntry", type := (.array .int), accessFlags := 2, slot := 4, constantValue := 0 }, { name := "entryCounts", type := (.array .int), accessFlags := 2, slot := 5, constantValue := 0 }, { name := "entryRooms", type := (.array .int), accessFlags := 2, slot := 6, constantValue := 0 }, { name := "entryRows", type := (.array .int), accessFlags := 2, slot := 7, constantValue := 0 }, { name := "entryValues", type := (.array .double), accessFlags := 2, slot := 8, constantValue := 0 }, { name := "entriesUsed", type := .int, accessFlags := 2, slot := 9, constantValue := 0 }, { name := "rowCount", type := .int, accessFlags := 2, slot := 10, constantValue := 0 }, { name := "bounds", type := (.array .double), accessFlags := 2, slot := 11, constantValue := 0 }, { name := "slacks", type := (.array .int), accessFlags := 2, slot := 12, constantValue := 0 }, { name := "groupCount", type := .int, accessFlags := 2, slot := 13, constantValue := 0 }, { name := "keys", type := (.array .int), accessFlags := 2, slot := 14, constantValue := 0 }, { name := "keyValues", type := (.array .double), accessFlags := 2, slot := 15, constantValue := 0 }, { name := "started", type := .boolean, accessFlags := 2, slot := 16, constantValue := 0 }, { name := "head", type := (.array .int), accessFlags := 2, slot := 17, constantValue := 0 }, { name := "inverse", type := (.array (.array .double)), accessFlags := 2, slot := 18, constantValue := 0 }, { name := "values", type := (.array .double), accessFlags := 2, slot := 19, constantValue := 0 }, { name := "objective", type := .double, accessFlags := 2, slot := 20, constantValue := 0 }, { name := "pivotsSinceInversion", type := .int, accessFlags := 2, slot := 21, constantValue := 0 }, { name := "cursor", type := .int, accessFlags := 2, slot := 22, constantValue := 0 }, { name := "pricing", type := .int, accessFlags := 2, slot := 23, constantValue := 0 }, { name := "groupDualPass", type := (.array .int), accessFlags := 2, slot := 24, constantValue := 0 }, { name := "groupDualValues", type := (.array .double), accessFlags := 2, slot := 25, constantValue := 0 }, { name := "rates", type := (.array .double), accessFlags := 2, slot := 26, constantValue := 0 }, { name := "rated", type := (.array .boolean), accessFlags := 2, slot := 27, constantValue := 0 }, { name := "ratedGroups", type := (.array .int), accessFlags := 2, slot := 28, constantValue := 0 }, { name := "ratedCount", type := .int, accessFlags := 2, slot := 29, constantValue := 0 }]
  methods := #[k2m0, k2m1, k2m2, k2m3, k2m4, k2m5, k2m6, k2m7, k2m8, k2m9, k2m10]
  instanceTypes := #[.int, (.array .double), (.array .int), (.array .int), (.array .int), (.array .int), (.array .int), (.array .int), (.array .double), .int, .int, (.array .double), (.array .int), .int, (.array .int), (.array .double), .boolean, (.array .int), (.array (.array .double)), (.array .double), .double, .int, .int, .int, (.array .int), (.array .double), (.array .double), (.array .boolean), (.array .int), .int]
  staticTypes := #[.double, .double, .int, .int, .int]
  resolved := Array.replicate 330 none
  statics := none }

def pool3 : Array CpInfo := pool [(1, .class_ 2), (0, u "java/lang/Cloneable"), (0, .class_ 4), (0, u "java/lang/Object")] 2

/-- java/lang/Cloneable -/
def k3 : Class := { plain "java/lang/Cloneable" (some 0) with
  accessFlags := 1537
  interfaces := #[]
  cf := some (fileOf pool3 1 #[] #[] 1537 3 #[] #[])
  fields := #[]
  methods := #[]
  instanceTypes := #[]
  staticTypes := #[]
  resolved := Array.replicate 7 none
  statics := none }

def pool4 : Array CpInfo := pool [(1, .class_ 2), (0, u "java/lang/Math"), (1, .class_ 6), (1, u "java/lang/Object"), (0, u "<init>"), (0, u "()V"), (5, u "(D)D"), (83, .class_ 100), (1, u "java/lang/Math$RandomNumberGeneratorHolder"), (23, u "abs"), (47, u "negativeZeroFloatBits"), (0, u "J"), (2, u "negativeZeroDoubleBits"), (21, u "max"), (2, u "min"), (43, u "$assertionsDisabled"), (0, u "Z"), (88, u "(II)I"), (2, u "twoToTheDoubleScaleDown"), (0, u "D"), (4, u "twoToTheDoubleScaleUp"), (9, u "E"), (3, u "PI"), (2, u "TAU"), (2, u "DEGREES_TO_RADIANS"), (0, u "RADIANS_TO_DEGREES")] 94

def k4m0 : Method := { name := "<init>", desc := "()V", sig := { parameters := [], returnType := none }, accessFlags := 2, code := none }
def k4c1 : Code := { maxStack := 4, maxLocals := 2, code := jdk_29_method_64_code, exceptionTable := #[], attributes := #[] }
def k4m1 : Method := { name := "abs", desc := "(D)D", sig := { parameters := [.double], returnType := some .double }, accessFlags := 9, code := some k4c1 }
def k4c2 : Code := { maxStack := 2, maxLocals := 2, code := jdk_29_method_65_code, exceptionTable := #[], attributes := #[] }
def k4m2 : Method := { name := "max", desc := "(II)I", sig := { parameters := [.int, .int], returnType := some .int }, accessFlags := 9, code := some k4c2 }
def k4c3 : Code := { maxStack := 2, maxLocals := 2, code := jdk_29_method_69_code, exceptionTable := #[], attributes := #[] }
def k4m3 : Method := { name := "min", desc := "(II)I", sig := { parameters := [.int, .int], returnType := some .int }, accessFlags := 9, code := some k4c3 }
/-- java/lang/Math -/
def k4 : Class := { plain "java/lang/Math" (some 0) with
  accessFlags := 49
  interfaces := #[]
  cf := some (fileOf pool4 1 #[.nestMembers #[98]] #[{ accessFlags := 2, nameIndex := 7, descriptorIndex := 8, attributes := #[] }, { accessFlags := 9, nameIndex := 124, descriptorIndex := 14, attributes := #[] }, { accessFlags := 9, nameIndex := 198, descriptorIndex := 335, attributes := #[] }, { accessFlags := 9, nameIndex := 201, descriptorIndex := 335, attributes := #[] }] 49 4 #[] #[{ accessFlags := 25, nameIndex := 354, descriptorIndex := 339, attributes := #[] }, { accessFlags := 25, nameIndex := 358, descriptorIndex := 339, attributes := #[] }, { accessFlags := 25, nameIndex := 361, descriptorIndex := 339, attributes := #[] }, { accessFlags := 26, nameIndex := 364, descriptorIndex := 339, attributes := #[] }, { accessFlags := 26, nameIndex := 365, descriptorIndex := 339, attributes := #[] }, { accessFlags := 26, nameIndex := 172, descriptorIndex := 173, attributes := #[] }, { accessFlags := 26, nameIndex := 176, descriptorIndex := 173, attributes := #[] }, { accessFlags := 8, nameIndex := 344, descriptorIndex := 339, attributes := #[] }, { accessFlags := 8, nameIndex := 338, descriptorIndex := 339, attributes := #[] }, { accessFlags := 4120, nameIndex := 245, descriptorIndex := 246, attributes := #[] }])
  fields := #[{ name := "E", type := .double, accessFlags := 25, slot := 0, constantValue := 0 }, { name := "PI", type := .double, accessFlags := 25, slot := 1, constantValue := 0 }, { name := "TAU", type := .double, accessFlags := 25, slot := 2, constantValue := 0 }, { name := "DEGREES_TO_RADIANS", type := .double, accessFlags := 26, slot := 3, constantValue := 0 }, { name := "RADIANS_TO_DEGREES", type := .double, accessFlags := 26, slot := 4, constantValue := 0 }, { name := "negativeZeroFloatBits", type := .long, accessFlags := 26, slot := 5, constantValue := 0 }, { name := "negativeZeroDoubleBits", type := .long, accessFlags := 26, slot := 6, constantValue := 0 }, { name := "twoToTheDoubleScaleUp", type := .double, accessFlags := 8, slot := 7, constantValue := 0 }, { name := "twoToTheDoubleScaleDown", type := .double, accessFlags := 8, slot := 8, constantValue := 0 }, { name := "$assertionsDisabled", type := .boolean, accessFlags := 4120, slot := 9, constantValue := 0 }]
  methods := #[k4m0, k4m1, k4m2, k4m3]
  instanceTypes := #[]
  staticTypes := #[.double, .double, .double, .double, .double, .long, .long, .double, .double, .boolean]
  resolved := Array.replicate 460 none
  statics := none }

def pool5 : Array CpInfo := pool [(2, .class_ 4), (1, u "java/lang/Object"), (0, u "<init>"), (0, u "()V"), (7, .class_ 16), (1, u "java/util/Arrays"), (57, .class_ 76), (1, u "java/util/Arrays$NaturalOrder"), (36, .class_ 115), (1, u "java/util/Arrays$LegacyMergeSort"), (1, u "Z"), (32, .methodref 151 152), (0, .class_ 153), (0, .nameAndType 154 155), (0, u "java/lang/System"), (0, u "arraycopy"), (0, u "(Ljava/lang/Object;ILjava/lang/Object;II)V"), (146, u "copyOf"), (1, .methodref 305 306), (0, .class_ 307), (0, .nameAndType 308 309), (0, u "java/lang/Math"), (0, u "min"), (0, u "(II)I"), (65, .class_ 376), (0, u "java/util/Arrays$ArrayList"), (68, u "$assertionsDisabled"), (269, u "MIN_ARRAY_SORT_GRAN"), (0, u "I"), (2, u "INSERTIONSORT_THRESHOLD"), (120, u "fill"), (13, u "([DD)V"), (20, u "([DI)[D"), (99, .class_ 976), (0, u "java/util/Arrays$ArrayItr")] 52

def k5m0 : Method := { name := "<init>", desc := "()V", sig := { parameters := [], returnType := none }, accessFlags := 2, code := none }
def k5c1 : Code := { maxStack := 4, maxLocals := 5, code := jdk_65_method_113_code, exceptionTable := #[], attributes := #[] }
def k5m1 : Method := { name := "fill", desc := "([DD)V", sig := { parameters := [(.array .double), .double], returnType := none }, accessFlags := 9, code := some k5c1 }
def k5c2 : Code := { maxStack := 6, maxLocals := 3, code := jdk_65_method_127_code, exceptionTable := #[], attributes := #[] }
def k5m2 : Method := { name := "copyOf", desc := "([DI)[D", sig := { parameters := [(.array .double), .int], returnType := some (.array .double) }, accessFlags := 9, code := some k5c2 }
/-- java/util/Arrays -/
def k5 : Class := { plain "java/util/Arrays" (some 0) with
  accessFlags := 49
  interfaces := #[]
  cf := some (fileOf pool5 14 #[.nestMembers #[975, 375, 113, 74]] #[{ accessFlags := 2, nameIndex := 5, descriptorIndex := 6, attributes := #[] }, { accessFlags := 9, nameIndex := 840, descriptorIndex := 854, attributes := #[] }, { accessFlags := 9, nameIndex := 302, descriptorIndex := 875, attributes := #[] }] 49 2 #[] #[{ accessFlags := 26, nameIndex := 715, descriptorIndex := 716, attributes := #[] }, { accessFlags := 26, nameIndex := 719, descriptorIndex := 716, attributes := #[] }, { accessFlags := 4120, nameIndex := 445, descriptorIndex := 117, attributes := #[] }])
  fields := #[{ name := "MIN_ARRAY_SORT_GRAN", type := .int, accessFlags := 26, slot := 0, constantValue := 0 }, { name := "INSERTIONSORT_THRESHOLD", type := .int, accessFlags := 26, slot := 1, constantValue := 0 }, { name := "$assertionsDisabled", type := .boolean, accessFlags := 4120, slot := 2, constantValue := 0 }]
  methods := #[k5m0, k5m1, k5m2]
  instanceTypes := #[]
  staticTypes := #[.int, .int, .boolean]
  resolved := Array.replicate 1029 none
  statics := none }

def pool6 : Array CpInfo := pool [(2, .class_ 4), (1, u "java/lang/Object"), (0, u "<init>"), (0, u "()V"), (1, .class_ 10), (1, u "java/lang/System"), (0, u "allowSecurityManager"), (0, u "I"), (16, u "cons"), (0, u "Ljava/io/Console;"), (77, .class_ 110), (1, u "java/lang/System$CallersHolder"), (43, u "initialErrStream"), (0, u "Ljava/io/PrintStream;"), (19, u "security"), (0, u "Ljava/lang/SecurityManager;"), (31, .class_ 209), (0, u "java/lang/System$1"), (7, u "props"), (0, u "Ljava/util/Properties;"), (2, u "lineSeparator"), (0, u "Ljava/lang/String;"), (96, .class_ 321), (1, u "java/lang/System$LoggerFinder"), (5, .class_ 328), (0, u "java/lang/System$Logger"), (67, u "err"), (2, u "out"), (91, u "notSupportedJnuEncoding"), (15, u "in"), (17, u "initialIn"), (0, u "Ljava/io/InputStream;"), (35, u "bootLayer"), (0, u "Ljava/lang/ModuleLayer;"), (99, .class_ 664), (0, u "java/lang/System$2"), (9, u "NEVER"), (2, u "MAYBE"), (49, u "arraycopy"), (0, u "(Ljava/lang/Object;ILjava/lang/Object;II)V"), (72, .class_ 802), (0, u "java/lang/System$Logger$Level")] 31

def k6m0 : Method := { name := "<init>", desc := "()V", sig := { parameters := [], returnType := none }, accessFlags := 2, code := none }
def k6m1 : Method := { name := "arraycopy", desc := "(Ljava/lang/Object;ILjava/lang/Object;II)V", sig := { parameters := [(.object "java/lang/Object"), .int, (.object "java/lang/Object"), .int, .int], returnType := none }, accessFlags := 265, code := none }
/-- java/lang/System -/
def k6 : Class := { plain "java/lang/System" (some 0) with
  accessFlags := 49
  interfaces := #[]
  cf := some (fileOf pool6 8 #[.nestMembers #[319, 327, 801, 108, 663, 208]] #[{ accessFlags := 2, nameIndex := 5, descriptorIndex := 6, attributes := #[] }, { accessFlags := 265, nameIndex := 727, descriptorIndex := 728, attributes := #[] }] 49 2 #[] #[{ accessFlags := 25, nameIndex := 507, descriptorIndex := 526, attributes := #[] }, { accessFlags := 25, nameIndex := 399, descriptorIndex := 155, attributes := #[] }, { accessFlags := 25, nameIndex := 396, descriptorIndex := 155, attributes := #[] }, { accessFlags := 10, nameIndex := 525, descriptorIndex := 526, attributes := #[] }, { accessFlags := 26, nameIndex := 674, descriptorIndex := 12, attributes := #[] }, { accessFlags := 26, nameIndex := 677, descriptorIndex := 12, attributes := #[] }, { accessFlags := 10, nameIndex := 11, descriptorIndex := 12, attributes := #[] }, { accessFlags := 74, nameIndex := 175, descriptorIndex := 176, attributes := #[] }, { accessFlags := 10, nameIndex := 491, descriptorIndex := 222, attributes := #[] }, { accessFlags := 74, nameIndex := 29, descriptorIndex := 30, attributes := #[] }, { accessFlags := 74, nameIndex := 154, descriptorIndex := 155, attributes := #[] }, { accessFlags := 10, nameIndex := 217, descriptorIndex := 218, attributes := #[] }, { accessFlags := 10, nameIndex := 221, descriptorIndex := 222, attributes := #[] }, { accessFlags := 8, nameIndex := 562, descriptorIndex := 563, attributes := #[] }])
  fields := #[{ name := "in", type := (.object "java/io/InputStream"), accessFlags := 25, slot := 0, constantValue := 0 }, { name := "out", type := (.object "java/io/PrintStream"), accessFlags := 25, slot := 1, constantValue := 0 }, { name := "err", type := (.object "java/io/PrintStream"), accessFlags := 25, slot := 2, constantValue := 0 }, { name := "initialIn", type := (.object "java/io/InputStream"), accessFlags := 10, slot := 3, constantValue := 0 }, { name := "NEVER", type := .int, accessFlags := 26, slot := 4, constantValue := 0 }, { name := "MAYBE", type := .int, accessFlags := 26, slot := 5, constantValue := 0 }, { name := "allowSecurityManager", type := .int, accessFlags := 10, slot := 6, constantValue := 0 }, { name := "security", type := (.object "java/lang/SecurityManager"), accessFlags := 74, slot := 7, constantValue := 0 }, { name := "notSupportedJnuEncoding", type := (.object "java/lang/String"), accessFlags := 10, slot := 8, constantValue := 0 }, { name := "cons", type := (.object "java/io/Console"), accessFlags := 74, slot := 9, constantValue := 0 }, { name := "initialErrStream", type := (.object "java/io/PrintStream"), accessFlags := 74, slot := 10, constantValue := 0 }, { name := "props", type := (.object "java/util/Properties"), accessFlags := 10, slot := 11, constantValue := 0 }, { name := "lineSeparator", type := (.object "java/lang/String"), accessFlags := 10, slot := 12, constantValue := 0 }, { name := "bootLayer", type := (.object "java/lang/ModuleLayer"), accessFlags := 8, slot := 13, constantValue := 0 }]
  methods := #[k6m0, k6m1]
  instanceTypes := #[]
  staticTypes := #[(.object "java/io/InputStream"), (.object "java/io/PrintStream"), (.object "java/io/PrintStream"), (.object "java/io/InputStream"), .int, .int, .int, (.object "java/lang/SecurityManager"), (.object "java/lang/String"), (.object "java/io/Console"), (.object "java/io/PrintStream"), (.object "java/util/Properties"), (.object "java/lang/String"), (.object "java/lang/ModuleLayer")]
  resolved := Array.replicate 834 none
  statics := none }

def pool7 : Array CpInfo := pool [(1, u "java/io/Serializable"), (0, .class_ 1), (0, u "java/lang/Object"), (0, .class_ 3)] 3

/-- java/io/Serializable -/
def k7 : Class := { plain "java/io/Serializable" (some 0) with
  accessFlags := 1537
  interfaces := #[]
  cf := some (fileOf pool7 2 #[] #[] 1537 4 #[] #[])
  fields := #[]
  methods := #[]
  instanceTypes := #[]
  staticTypes := #[]
  resolved := Array.replicate 8 none
  statics := none }

/-- the primitive boolean -/
def k8 : Class := { plain "boolean" none with kind := .primitive 'Z', accessFlags := 0x411 }
/-- [Z -/
def k9 : Class := { plain "[Z" (some 0) with kind := .array 8 .boolean, interfaces := #[3, 7], accessFlags := 1041 }

/-- the primitive byte -/
def k10 : Class := { plain "byte" none with kind := .primitive 'B', accessFlags := 0x411 }
/-- [B -/
def k11 : Class := { plain "[B" (some 0) with kind := .array 10 .byte, interfaces := #[3, 7], accessFlags := 1041 }

/-- the primitive double -/
def k12 : Class := { plain "double" none with kind := .primitive 'D', accessFlags := 0x411 }
/-- [D -/
def k13 : Class := { plain "[D" (some 0) with kind := .array 12 .double, interfaces := #[3, 7], accessFlags := 1041 }

/-- the primitive int -/
def k14 : Class := { plain "int" none with kind := .primitive 'I', accessFlags := 0x411 }
/-- [I -/
def k15 : Class := { plain "[I" (some 0) with kind := .array 14 .int, interfaces := #[3, 7], accessFlags := 1041 }
/-- [[D -/
def k16 : Class := { plain "[[D" (some 0) with kind := .array 13 (.array .double), interfaces := #[3, 7], accessFlags := 1041 }

def heap : Heap := #[]
def classes : Array Class := #[k0, k1, k2, k3, k4, k5, k6, k7, k8, k9, k10, k11, k12, k13, k14, k15, k16]
def interned : List (Array UInt16 × Addr) := []
def slotsUsed : Nat := 0
def theMethod : MethodId := ⟨1, 1⟩
def args0 : Array Value := #[.int 1, .int 2, .int 3, .int 4, .int 5]
def aboutOver (below : List Frame) : State where
  vm := { classes := classes, interned := interned.toArray }
  heap := heap
  slotsUsed := slotsUsed
  threads := #[{ frames := .invoking theMethod args0 :: below }]
def below0 : List Frame := [.native { method := ⟨0, 0⟩, args := #[] }]
def about1 : State := aboutOver below0
def p0 : Program := .bare "" "" ""
def e0 : Env := launch0.env 0 0 0
theorem w_frames : about1.frames = Frame.invoking theMethod args0 :: below0 := rfl
set_option maxRecDepth 65536 in
theorem w_args : argsFit about1.vm theMethod args0 = true := by decide +kernel
set_option maxRecDepth 65536 in
theorem w_heap : heapFits about1 = true := by decide +kernel
set_option maxRecDepth 65536 in
theorem w_runnable : about1.curStatus? = some .runnable := by decide +kernel
set_option maxRecDepth 65536 in
theorem w_alone : about1.alone = true := by decide +kernel
set_option maxRecDepth 65536 in
theorem w_named : about1.methodNamed? x = some theMethod := by decide +kernel
set_option maxRecDepth 65536 in
theorem w_hears : about1.hears theMethod below0 = true := by decide +kernel
set_option maxRecDepth 65536 in
theorem w_ripe : about1.ripe theMethod args0 below0 = true := by decide +kernel
theorem w_running : about1.status = .running := rfl
set_option maxRecDepth 65536 in
theorem w_room : about1.hasRoom e0.platform room_1 = true :=
  launch0.hasRoom_least _ room_1 (by decide +kernel) (by decide +kernel) (by decide +kernel) (by decide +kernel) (by decide +kernel) (by decide +kernel)
theorem allAtoms_all (ts : List Jvm.Cond) (a : Array Jvm.Value) (st : Jvm.State) : (allAtoms ts).before a st = ts.all (fun c => c.before a st) := by
  induction ts with
  | nil => rfl
  | cons c t ih =>
    show (Jvm.Cond.and c (allAtoms t)).before a st = _
    rw [Jvm.Cond.before_and, ih, List.all_cons]
def words1 : List Jvm.Cond := Jvm.Cond.code x code maxLocals ret :: tables_1
/-- a 'code' word, met by the world's own term for the bytes: nothing is compared byte by byte -/
theorem code_word {y : MethodName} {bytes : ByteArray} {mx : Nat} {rt : Option FieldType} {a : Array Value} {s : State} {m : MethodId} {meth : Method} {c : Code} (h1 : s.methodNamed? y = some m) (h2 : s.vm.method? m = some meth) (h3 : meth.code = some c) (h4 : c.code = bytes)
    (h5 : (c.maxLocals == mx && c.exceptionTable.isEmpty && decide (c.maxStack ≤ mostOperands) && decide (meth.sig.returnType = rt) && !meth.locks && decide (parseMethodDescriptor y.desc = some meth.sig)) = true) : (Jvm.Cond.code y bytes mx rt).before a s = true := by
  simp only [Bool.and_eq_true, beq_iff_eq, Bool.not_eq_true', decide_eq_true_eq] at h5
  obtain ⟨⟨⟨⟨⟨g1, g2⟩, g3⟩, g4⟩, g5⟩, g6⟩ := h5
  simp [Cond.before, Cond.holds, Cond.value, h1, h2, h3, h4, g1, g2, g3, g4, g5, g6]
def isCode : Jvm.Cond → Bool
  | .code _ _ _ _ => true
  | _ => false
theorem all_split {L : List Jvm.Cond} {P : Jvm.Cond → Bool} (h1 : L.all (fun c => isCode c || P c) = true) (h2 : ∀ c ∈ L.filter isCode, P c = true) : L.all P = true := by
  refine List.all_eq_true.mpr fun c hc => ?_
  have h := List.all_eq_true.mp h1 c hc
  rcases Bool.eq_false_or_eq_true (isCode c) with hi | hi
  · exact h2 c (List.mem_filter.mpr ⟨hc, hi⟩)
  · simpa [hi] using h
set_option maxRecDepth 65536 in
theorem w_c0 : (Jvm.Cond.code x code maxLocals ret).before args0 about1 = true := code_word (m := ⟨1, 1⟩) (meth := k1m1) (c := k1c1) (by decide +kernel) rfl rfl rfl (by decide +kernel)
set_option maxRecDepth 65536 in
theorem w_c1 : (Jvm.Cond.code ({ cls := "com/example/waveloom/waveloom/plan/Simplex", name := "<init>", desc := "()V" } : Jvm.MethodName) prog_56_method_1_code (1 : Nat) (Option.none : Option Jvm.ClassFile.FieldType)).before args0 about1 = true := code_word (m := ⟨2, 0⟩) (meth := k2m0) (c := k2c0) (by decide +kernel) rfl rfl rfl (by decide +kernel)
set_option maxRecDepth 65536 in
theorem w_c2 : (Jvm.Cond.code ({ cls := "java/lang/Object", name := "<init>", desc := "()V" } : Jvm.MethodName) object_method_1_code (1 : Nat) (Option.none : Option Jvm.ClassFile.FieldType)).before args0 about1 = true := code_word (m := ⟨0, 0⟩) (meth := k0m0) (c := k0c0) (by decide +kernel) rfl rfl rfl (by decide +kernel)
set_option maxRecDepth 65536 in
theorem w_c3 : (Jvm.Cond.code ({ cls := "com/example/waveloom/waveloom/plan/Simplex", name := "addGroup", desc := "()I" } : Jvm.MethodName) prog_56_method_2_code (1 : Nat) (Option.some Jvm.ClassFile.FieldType.int)).before args0 about1 = true := code_word (m := ⟨2, 1⟩) (meth := k2m1) (c := k2c1) (by decide +kernel) rfl rfl rfl (by decide +kernel)
set_option maxRecDepth 65536 in
theorem w_c4 : (Jvm.Cond.code ({ cls := "com/example/waveloom/waveloom/plan/Simplex", name := "addVariable", desc := "(DI[I[D)I" } : Jvm.MethodName) prog_56_method_3_code (8 : Nat) (Option.some Jvm.ClassFile.FieldType.int)).before args0 about1 = true := code_word (m := ⟨2, 2⟩) (meth := k2m2) (c := k2c2) (by decide +kernel) rfl rfl rfl (by decide +kernel)
set_option maxRecDepth 65536 in
theorem w_c5 : (Jvm.Cond.code ({ cls := "com/example/waveloom/waveloom/plan/Simplex", name := "appendEntry", desc := "(ID)V" } : Jvm.MethodName) prog_56_method_4_code (4 : Nat) (Option.none : Option Jvm.ClassFile.FieldType)).before args0 about1 = true := code_word (m := ⟨2, 3⟩) (meth := k2m3) (c := k2c3) (by decide +kernel) rfl rfl rfl (by decide +kernel)
set_option maxRecDepth 65536 in
theorem w_c6 : (Jvm.Cond.code ({ cls := "com/example/waveloom/waveloom/plan/Simplex", name := "addRow", desc := "(D[I[D)I" } : Jvm.MethodName) prog_56_method_6_code (7 : Nat) (Option.some Jvm.ClassFile.FieldType.int)).before args0 about1 = true := code_word (m := ⟨2, 4⟩) (meth := k2m4) (c := k2c4) (by decide +kernel) rfl rfl rfl (by decide +kernel)
set_option maxRecDepth 65536 in
theorem w_c7 : (Jvm.Cond.code ({ cls := "com/example/waveloom/waveloom/plan/Simplex", name := "start", desc := "([I[I)V" } : Jvm.MethodName) prog_56_method_9_code (8 : Nat) (Option.none : Option Jvm.ClassFile.FieldType)).before args0 about1 = true := code_word (m := ⟨2, 5⟩) (meth := k2m5) (c := k2c5) (by decide +kernel) rfl rfl rfl (by decide +kernel)
set_option maxRecDepth 65536 in
theorem w_c8 : (Jvm.Cond.code ({ cls := "com/example/waveloom/waveloom/plan/Simplex", name := "invert", desc := "()V" } : Jvm.MethodName) prog_56_method_33_code (11 : Nat) (Option.none : Option Jvm.ClassFile.FieldType)).before args0 about1 = true := code_word (m := ⟨2, 9⟩) (meth := k2m9) (c := k2c9) (by decide +kernel) rfl rfl rfl (by decide +kernel)
set_option maxRecDepth 65536 in
theorem w_c9 : (Jvm.Cond.code ({ cls := "com/example/waveloom/waveloom/plan/Simplex", name := "workingColumn", desc := "(I)[D" } : Jvm.MethodName) prog_56_method_19_code (4 : Nat) (Option.some (Jvm.ClassFile.FieldType.array Jvm.ClassFile.FieldType.double))).before args0 about1 = true := code_word (m := ⟨2, 7⟩) (meth := k2m7) (c := k2c7) (by decide +kernel) rfl rfl rfl (by decide +kernel)
set_option maxRecDepth 65536 in
theorem w_c10 : (Jvm.Cond.code ({ cls := "com/example/waveloom/waveloom/plan/Simplex", name := "addColumn", desc := "([DID)V" } : Jvm.MethodName) prog_56_method_20_code (7 : Nat) (Option.none : Option Jvm.ClassFile.FieldType)).before args0 about1 = true := code_word (m := ⟨2, 8⟩) (meth := k2m8) (c := k2c8) (by decide +kernel) rfl rfl rfl (by decide +kernel)
set_option maxRecDepth 65536 in
theorem w_c11 : (Jvm.Cond.code ({ cls := "java/lang/Math", name := "abs", desc := "(D)D" } : Jvm.MethodName) jdk_29_method_64_code (2 : Nat) (Option.some Jvm.ClassFile.FieldType.double)).before args0 about1 = true := code_word (m := ⟨4, 1⟩) (meth := k4m1) (c := k4c1) (by decide +kernel) rfl rfl rfl (by decide +kernel)
set_option maxRecDepth 65536 in
theorem w_c12 : (Jvm.Cond.code ({ cls := "com/example/waveloom/waveloom/plan/Simplex", name := "swap", desc := "([[DII)V" } : Jvm.MethodName) prog_56_method_34_code (4 : Nat) (Option.none : Option Jvm.ClassFile.FieldType)).before args0 about1 = true := code_word (m := ⟨2, 10⟩) (meth := k2m10) (c := k2c10) (by decide +kernel) rfl rfl rfl (by decide +kernel)
set_option maxRecDepth 65536 in
theorem w_c13 : (Jvm.Cond.code ({ cls := "java/lang/Math", name := "max", desc := "(II)I" } : Jvm.MethodName) jdk_29_method_65_code (2 : Nat) (Option.some Jvm.ClassFile.FieldType.int)).before args0 about1 = true := code_word (m := ⟨4, 2⟩) (meth := k4m2) (c := k4c2) (by decide +kernel) rfl rfl rfl (by decide +kernel)
set_option maxRecDepth 65536 in
theorem w_c14 : (Jvm.Cond.code ({ cls := "java/util/Arrays", name := "copyOf", desc := "([DI)[D" } : Jvm.MethodName) jdk_65_method_127_code (3 : Nat) (Option.some (Jvm.ClassFile.FieldType.array Jvm.ClassFile.FieldType.double))).before args0 about1 = true := code_word (m := ⟨5, 2⟩) (meth := k5m2) (c := k5c2) (by decide +kernel) rfl rfl rfl (by decide +kernel)
set_option maxRecDepth 65536 in
theorem w_c15 : (Jvm.Cond.code ({ cls := "java/lang/Math", name := "min", desc := "(II)I" } : Jvm.MethodName) jdk_29_method_69_code (2 : Nat) (Option.some Jvm.ClassFile.FieldType.int)).before args0 about1 = true := code_word (m := ⟨4, 3⟩) (meth := k4m3) (c := k4c3) (by decide +kernel) rfl rfl rfl (by decide +kernel)
set_option maxRecDepth 65536 in
theorem w_c16 : (Jvm.Cond.code ({ cls := "java/util/Arrays", name := "fill", desc := "([DD)V" } : Jvm.MethodName) jdk_65_method_113_code (5 : Nat) (Option.none : Option Jvm.ClassFile.FieldType)).before args0 about1 = true := code_word (m := ⟨5, 1⟩) (meth := k5m1) (c := k5c1) (by decide +kernel) rfl rfl rfl (by decide +kernel)
set_option maxRecDepth 65536 in
theorem w_c17 : (Jvm.Cond.code ({ cls := "com/example/waveloom/waveloom/plan/Simplex", name := "duals", desc := "()[D" } : Jvm.MethodName) prog_56_method_13_code (9 : Nat) (Option.some (Jvm.ClassFile.FieldType.array Jvm.ClassFile.FieldType.double))).before args0 about1 = true := code_word (m := ⟨2, 6⟩) (meth := k2m6) (c := k2c6) (by decide +kernel) rfl rfl rfl (by decide +kernel)
def codes1 : List Jvm.Cond := [Jvm.Cond.code x code maxLocals ret, Jvm.Cond.code ({ cls := "com/example/waveloom/waveloom/plan/Simplex", name := "<init>", desc := "()V" } : Jvm.MethodName) prog_56_method_1_code (1 : Nat) (Option.none : Option Jvm.ClassFile.FieldType), Jvm.Cond.code ({ cls := "java/lang/Object", name := "<init>", desc := "()V" } : Jvm.MethodName) object_method_1_code (1 : Nat) (Option.none : Option Jvm.ClassFile.FieldType), Jvm.Cond.code ({ cls := "com/example/waveloom/waveloom/plan/Simplex", name := "addGroup", desc := "()I" } : Jvm.MethodName) prog_56_method_2_code (1 : Nat) (Option.some Jvm.ClassFile.FieldType.int), Jvm.Cond.code ({ cls := "com/example/waveloom/waveloom/plan/Simplex", name := "addVariable", desc := "(DI[I[D)I" } : Jvm.MethodName) prog_56_method_3_code (8 : Nat) (Option.some Jvm.ClassFile.FieldType.int), Jvm.Cond.code ({ cls := "com/example/waveloom/waveloom/plan/Simplex", name := "appendEntry", desc := "(ID)V" } : Jvm.MethodName) prog_56_method_4_code (4 : Nat) (Option.none : Option Jvm.ClassFile.FieldType), Jvm.Cond.code ({ cls := "com/example/waveloom/waveloom/plan/Simplex", name := "addRow", desc := "(D[I[D)I" } : Jvm.MethodName) prog_56_method_6_code (7 : Nat) (Option.some Jvm.ClassFile.FieldType.int), Jvm.Cond.code ({ cls := "com/example/waveloom/waveloom/plan/Simplex", name := "start", desc := "([I[I)V" } : Jvm.MethodName) prog_56_method_9_code (8 : Nat) (Option.none : Option Jvm.ClassFile.FieldType), Jvm.Cond.code ({ cls := "com/example/waveloom/waveloom/plan/Simplex", name := "invert", desc := "()V" } : Jvm.MethodName) prog_56_method_33_code (11 : Nat) (Option.none : Option Jvm.ClassFile.FieldType), Jvm.Cond.code ({ cls := "com/example/waveloom/waveloom/plan/Simplex", name := "workingColumn", desc := "(I)[D" } : Jvm.MethodName) prog_56_method_19_code (4 : Nat) (Option.some (Jvm.ClassFile.FieldType.array Jvm.ClassFile.FieldType.double)), Jvm.Cond.code ({ cls := "com/example/waveloom/waveloom/plan/Simplex", name := "addColumn", desc := "([DID)V" } : Jvm.MethodName) prog_56_method_20_code (7 : Nat) (Option.none : Option Jvm.ClassFile.FieldType), Jvm.Cond.code ({ cls := "java/lang/Math", name := "abs", desc := "(D)D" } : Jvm.MethodName) jdk_29_method_64_code (2 : Nat) (Option.some Jvm.ClassFile.FieldType.double), Jvm.Cond.code ({ cls := "com/example/waveloom/waveloom/plan/Simplex", name := "swap", desc := "([[DII)V" } : Jvm.MethodName) prog_56_method_34_code (4 : Nat) (Option.none : Option Jvm.ClassFile.FieldType), Jvm.Cond.code ({ cls := "java/lang/Math", name := "max", desc := "(II)I" } : Jvm.MethodName) jdk_29_method_65_code (2 : Nat) (Option.some Jvm.ClassFile.FieldType.int), Jvm.Cond.code ({ cls := "java/util/Arrays", name := "copyOf", desc := "([DI)[D" } : Jvm.MethodName) jdk_65_method_127_code (3 : Nat) (Option.some (Jvm.ClassFile.FieldType.array Jvm.ClassFile.FieldType.double)), Jvm.Cond.code ({ cls := "java/lang/Math", name := "min", desc := "(II)I" } : Jvm.MethodName) jdk_29_method_69_code (2 : Nat) (Option.some Jvm.ClassFile.FieldType.int), Jvm.Cond.code ({ cls := "java/util/Arrays", name := "fill", desc := "([DD)V" } : Jvm.MethodName) jdk_65_method_113_code (5 : Nat) (Option.none : Option Jvm.ClassFile.FieldType), Jvm.Cond.code ({ cls := "com/example/waveloom/waveloom/plan/Simplex", name := "duals", desc := "()[D" } : Jvm.MethodName) prog_56_method_13_code (9 : Nat) (Option.some (Jvm.ClassFile.FieldType.array Jvm.ClassFile.FieldType.double))]
set_option maxRecDepth 65536 in
theorem codes_eq : words1.filter isCode = codes1 := rfl
theorem w_codes : ∀ c ∈ words1.filter isCode, c.before args0 about1 = true := by
  rw [codes_eq]
  intro c hc
  simp only [codes1, List.mem_cons, List.not_mem_nil, or_false] at hc
  rcases hc with rfl | rfl | rfl | rfl | rfl | rfl | rfl | rfl | rfl | rfl | rfl | rfl | rfl | rfl | rfl | rfl | rfl | rfl
  · exact w_c0
  · exact w_c1
  · exact w_c2
  · exact w_c3
  · exact w_c4
  · exact w_c5
  · exact w_c6
  · exact w_c7
  · exact w_c8
  · exact w_c9
  · exact w_c10
  · exact w_c11
  · exact w_c12
  · exact w_c13
  · exact w_c14
  · exact w_c15
  · exact w_c16
  · exact w_c17
set_option maxRecDepth 65536 in
theorem w_t1 : (words1.take 24).all (fun c => isCode c || c.before args0 about1) = true := by decide +kernel
set_option maxRecDepth 65536 in
theorem w_t2 : ((words1.drop 24).take 24).all (fun c => isCode c || c.before args0 about1) = true := by decide +kernel
set_option maxRecDepth 65536 in
theorem w_t3 : (((words1.drop 24).drop 24).take 24).all (fun c => isCode c || c.before args0 about1) = true := by decide +kernel
set_option maxRecDepth 65536 in
theorem w_t4 : ((((words1.drop 24).drop 24).drop 24).take 24).all (fun c => isCode c || c.before args0 about1) = true := by decide +kernel
set_option maxRecDepth 65536 in
theorem w_t5 : (((((words1.drop 24).drop 24).drop 24).drop 24).take 24).all (fun c => isCode c || c.before args0 about1) = true := by decide +kernel
set_option maxRecDepth 65536 in
theorem w_t6 : ((((((words1.drop 24).drop 24).drop 24).drop 24).drop 24).take 24).all (fun c => isCode c || c.before args0 about1) = true := by decide +kernel
set_option maxRecDepth 65536 in
theorem w_t7 : ((((((words1.drop 24).drop 24).drop 24).drop 24).drop 24).drop 24).all (fun c => isCode c || c.before args0 about1) = true := by decide +kernel
theorem w_tables : (allAtoms (Jvm.Cond.code x code maxLocals ret :: tables_1)).before args0 about1 = true := by
  rw [allAtoms_all]
  show words1.all (fun c => c.before args0 about1) = true
  refine all_split ?_ w_codes
  rw [← List.take_append_drop 24 words1, List.all_append, w_t1, ← List.take_append_drop 24 (words1.drop 24), List.all_append, w_t2, ← List.take_append_drop 24 ((words1.drop 24).drop 24), List.all_append, w_t3, ← List.take_append_drop 24 (((words1.drop 24).drop 24).drop 24), List.all_append, w_t4, ← List.take_append_drop 24 ((((words1.drop 24).drop 24).drop 24).drop 24), List.all_append, w_t5, ← List.take_append_drop 24 (((((words1.drop 24).drop 24).drop 24).drop 24).drop 24), List.all_append, w_t6, w_t7]
  rfl
set_option maxRecDepth 65536 in
theorem w_case : (Jvm.Cond.and given_1 narrow_1).before args0 about1 = true := by decide +kernel
theorem w_applies : (headSpec (Jvm.Cond.code x code maxLocals ret :: tables_1) room_1).applies x e0.platform about1 = true :=
  (Spec.applies_iff w_frames).mpr ⟨w_running, w_runnable, w_alone, w_named, w_hears, w_ripe, w_room, w_tables⟩
theorem atStart : AtStart classFile x code maxLocals ret World_1 tables_1 room_1 Calls_1 rest_1 Pre_1 launch0 p0 e0 about1 theMethod args0 below0 :=
  ⟨lists_1, trivial, launch0.admits_env _ _ _, launch0.least_env, fairChoices_fair.cas, fairChoices_fair.clock, w_frames, w_args, w_heap, w_applies, trivial, trivial, w_case⟩
end start1
theorem witness_1 : WitnessClaimed_1 := ⟨start1.p0, start1.e0, start1.about1, start1.theMethod, start1.args0, start1.below0, start1.atStart⟩
end Jvm.Pilot.@@N@@
